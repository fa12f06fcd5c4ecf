import JvmDerived
import JvmDerived.Pilot.@@N@@Statement
import JvmDerived.Pilot.@@N@@Code
set_option linter.unusedVariables false
set_option linter.unusedSimpArgs false
namespace Jvm.RoadKit
open Sem ClassFile Op Lib Jvm.Stand Jvm.Free Jvm.LawKit
section New
variable {p : Program} {l : Launch} {e : Env} {R : Room} {s : State} {m : MethodId} {args : Array Value} {below : List Frame} {meth : Method} {c : Code} {T : State} {locs : List Loc} {cells slots : Nat}
theorem retI (X : Stand p l e R s m args below meth c T locs cells slots) (hx : p.tables.exec = Jvm.exec) {pc : Nat} {Ls : Array Slot} {z : Int32} {rest : List Value} (hret : meth.sig.returnType = some .int) (hd : decode c.code pc = .ok (.ireturn, 1)) {fs : List Frame}
    (hl : ∀ (f : JFrame) (acts : List Action), f.method = m → f.locked = none → f.entered = [] → (doReturn e (T.setTop f) acts (some (.int z))).1 = T.setFrames fs) : Steps p.tables e below (T.setTop (mkF m pc Ls (.int z :: rest))) (T.setFrames fs) := by
  have hm' : T.vm.method? m = some meth := X.method'
  have hn : narrow .int (.int z) = .int z := rfl
  show Steps p.tables e below (T.setTop { method := m, pc := pc, locals := Ls, stack := _ :: rest, locked := none }) _
  jvm_step X.here [X.here.top, hx, hd, hm', hret, hn]
  first | (intro acts; rw [hl _ acts rfl rfl rfl]) | rw [hl _ _ rfl rfl rfl]
  exact Steps.refl _
end New
end Jvm.RoadKit
/- laws to paste: Road.lenW, Road.codOf, lo8_mask, pair_says, Road.wide_hi, narrow_ch (cut by pick.py; bodies as the Statement names them) -/
namespace Jvm.Pilot.@@N@@
namespace StrChars
open Jvm Sem ClassFile Op Lib Jvm.Stand Jvm.Free.XT Jvm.Free.ALB Jvm.Free.JM Jvm.Free
open Jvm.Lib.Cold (StaticIs)
/-- a char array whose places are chars -/
def Ch (a : Addr) (A : Cell) (U : State) : Prop := Arr .char a A U ∧ Typed .char A
theorem Ch.mv {a : Addr} {A : Cell} {U U' : State} (h : Ch a A U) (hal : U.vm.Alike U'.vm) (hh : U'.heap = U.heap) : Ch a A U' := ⟨h.1.mv hal hh, h.2⟩
theorem Ch.keep {a : Addr} {A : Cell} {U U' : State} (h : Ch a A U) (hal : U.vm.Alike U'.vm) (hk : U'.heap[a]? = some A) : Ch a A U' := ⟨h.1.keep hal hk, h.2⟩
/-- what place i of a char[]'s cell holds -/
def cv (A : Cell) (i : Nat) : Int32 := match A.slots[i]? with | some (.int x) => x | _ => 0
theorem Ch.get {a : Addr} {A : Cell} {U : State} (h : Ch a A U) {i : Nat} (hi : i < A.slots.size) : A.slots[i]? = some (.int (cv A i)) := by
  have e := Array.getElem?_eq_getElem hi
  have f := h.2 i _ e
  unfold cv; rw [e]
  generalize A.slots[i] = v at f
  cases v <;> simp [fits] at f ⊢
/-- the byte that i2b leaves of a char -/
def lo8 (x : Int32) : Int32 := x.toInt8.toInt32
theorem fits_lo8 (y : Int32) : fits .byte (.int (lo8 y)) = true := by
  have h1 := y.toInt8.le_toInt
  have h2 := y.toInt8.toInt_lt
  simp only [lo8, fits, Bool.and_eq_true, decide_eq_true_eq, Int32.le_iff_toInt_le, Int8.toInt_toInt32, show (-128 : Int32).toInt = -128 from by decide, show (127 : Int32).toInt = 127 from by decide]
  omega
/-- A' is A but that each place j of lo .. hi - 1 holds f j -/
def Laid (A A' : Cell) (lo hi : Nat) (f : Nat → Value) : Prop := A'.cls = A.cls ∧ A'.vm = A.vm ∧ A'.slots.size = A.slots.size ∧ ∀ i, A'.slots[i]? = if lo ≤ i ∧ i < hi then some (f i) else A.slots[i]?
theorem Laid.zero (A : Cell) (lo : Nat) (f : Nat → Value) : Laid A A lo (lo + 0) f := ⟨rfl, rfl, rfl, fun i => by rw [if_neg (by omega)]⟩
theorem Laid.step {A Ak : Cell} {lo k : Nat} {f : Nat → Value} {v : Value} (h : Laid A Ak lo k f) (hlo : lo ≤ k) (hk : k < Ak.slots.size) (hv : v = f k) : Laid A (Ak.setSlot k v) lo (k + 1) f := by
  refine ⟨h.1, h.2.1, by simpa [Cell.setSlot] using h.2.2.1, fun i => ?_⟩
  by_cases e : k = i
  · subst e; rw [Cell.slots_setSlot_self v hk, if_pos (by omega), hv]
  · rw [Cell.slots_setSlot_ne v e, h.2.2.2 i]
    by_cases q : lo ≤ i ∧ i < k
    · rw [if_pos q, if_pos (by omega)]
    · rw [if_neg q, if_neg (by omega)]
def U16 : String := "java/lang/StringUTF16"
namespace Cmp5
def yN : MethodName := ⟨"java/lang/StringUTF16", "compress", "([CI[BII)I"⟩
abbrev yB : ByteArray := jdk_52_method_21_code
theorem d0 : decode yB 0 = .ok (.iconst 0, 1) := by decide +kernel
theorem d1 : decode yB 1 = .ok (.istore 5, 2) := by decide +kernel
theorem d3 : decode yB 3 = .ok (.iload 5, 2) := by decide +kernel
theorem d5 : decode yB 5 = .ok (.iload 4, 2) := by decide +kernel
theorem d7 : decode yB 7 = .ok (.if_icmp (.ge) 37, 3) := by decide +kernel
theorem d10 : decode yB 10 = .ok (.aload_n 0, 1) := by decide +kernel
theorem d11 : decode yB 11 = .ok (.iload_n 1, 1) := by decide +kernel
theorem d12 : decode yB 12 = .ok (.caload, 1) := by decide +kernel
theorem d13 : decode yB 13 = .ok (.istore 6, 2) := by decide +kernel
theorem d15 : decode yB 15 = .ok (.iload 6, 2) := by decide +kernel
theorem d17 : decode yB 17 = .ok (.sipush 255, 3) := by decide +kernel
theorem d20 : decode yB 20 = .ok (.if_icmp (.le) 6, 3) := by decide +kernel
theorem d26 : decode yB 26 = .ok (.aload_n 2, 1) := by decide +kernel
theorem d27 : decode yB 27 = .ok (.iload_n 3, 1) := by decide +kernel
theorem d28 : decode yB 28 = .ok (.iload 6, 2) := by decide +kernel
theorem d30 : decode yB 30 = .ok (.i2b, 1) := by decide +kernel
theorem d31 : decode yB 31 = .ok (.bastore, 1) := by decide +kernel
theorem d32 : decode yB 32 = .ok (.iinc 1 1, 3) := by decide +kernel
theorem d35 : decode yB 35 = .ok (.iinc 3 1, 3) := by decide +kernel
theorem d38 : decode yB 38 = .ok (.iinc 5 1, 3) := by decide +kernel
theorem d41 : decode yB 41 = .ok (.goto (-38), 3) := by decide +kernel
theorem d44 : decode yB 44 = .ok (.iload 4, 2) := by decide +kernel
theorem d46 : decode yB 46 = .ok (.ireturn, 1) := by decide +kernel
def site : List Cond := []
def tab : Cond := tabOf yN yB 7 (some .int) site
def P (b : Addr) (A : Cell) (d : Addr) (B : Cell) (o q len : Nat) (args : Array Value) (s : State) : Prop := args = #[.ref b, .int (Int32.ofNat o), .ref d, .int (Int32.ofNat q), .int (Int32.ofNat len)] ∧ Ch b A s ∧ Arr .byte d B s ∧ b ≠ d ∧ o + len ≤ A.slots.size ∧ q + len ≤ B.slots.size ∧ ∀ i, i < len → ¬ 255 < cv A (o + i)
def E (b : Addr) (A : Cell) (d : Addr) (B : Cell) (o q len : Nat) (r : Option Value) (s u : State) : Prop := r = some (.int (Int32.ofNat len)) ∧ ∃ B', Put d B' s u ∧ Laid B B' q (q + len) (fun j => Value.int (lo8 (cv A (o + (j - q)))))
/-- no char of the range above 255: len; the places written hold each char's low byte -/
theorem law (l : Launch) (b : Addr) (A : Cell) (d : Addr) (B : Cell) (o q len : Nat) : Law l yN 5 5 0 0 yB 7 (some .int) site (P b A d B o q len) (E b A d B o q len) (copyLocs d q len) 0 0 := by
  refine Law.of_walk (plainFor_of_name (by decide +kernel)) (by decide +kernel) (by decide +kernel) (by decide) (fun _ _ h => by rw [h.1]; rfl) (fun _ U U' hal hh h => ⟨h.1, h.2.1.mv hal hh, h.2.2.1.mv hal hh, h.2.2.2⟩) (fun r U U' V V' h1 hal h2 h => ⟨h.1, h.2.elim fun B' q => ⟨B', q.1.mv h1 h2, q.2⟩⟩) ?_
  intro p e s m args below meth c s₁ X0 hexec hbytes hml hret hlk hnm hown hh0 W hP
  obtain ⟨rfl, hA, hB, hne, l1, l2, hp⟩ := hP
  have c1 : Steps p.tables e below (s₁.setTop (entryFrame m #[.ref b, .int (Int32.ofNat o), .ref d, .int (Int32.ofNat q), .int (Int32.ofNat len)] 7)) (s₁.setTop (mkF m 0 #[.val (.ref b), .val (.int (Int32.ofNat o)), .val (.ref d), .val (.int (Int32.ofNat q)), .val (.int (Int32.ofNat len)), .unset, .unset] [])) := entry rfl
  have hA0 := hA.1.mv X0.warmed.alike hh0
  have hB0 := hB.mv X0.warmed.alike hh0
  have a31 := hA.1.2.2.2
  have c2 : Steps p.tables e below (s₁.setTop (entryFrame m #[.ref b, .int (Int32.ofNat o), .ref d, .int (Int32.ofNat q), .int (Int32.ofNat len)] 7)) (s₁.setTop (mkF m 3 #[.val (.ref b), .val (.int (Int32.ofNat o)), .val (.ref d), .val (.int (Int32.ofNat q)), .val (.int (Int32.ofNat len)), .val (.int 0), .unset] [])) := c1.trans (by
    refine iconstV X0.here hexec rfl 0 (hb hbytes d0) (by decide) ?_
    refine XS.istore X0.here hexec rfl (hb hbytes d1) rfl rfl ?_
    exact Steps.refl _)
  have loop : ∀ (r i : Nat), i + r = len → ∀ (z : Slot), (z = .unset ∨ ∃ w, z = .val w ∧ w.category = 1) → ∀ (Tl : State) (Bk : Cell), Stand p l e { frames := 0, locals := 0, cells := 0, slots := 0 } s m #[.ref b, .int (Int32.ofNat o), .ref d, .int (Int32.ofNat q), .int (Int32.ofNat len)] below meth c Tl ([] ++ copyLocs d q i) 0 0 → Put d Bk s₁ Tl → Laid B Bk q (q + i) (fun j => Value.int (lo8 (cv A (o + (j - q))))) →
      Steps p.tables e below (s₁.setTop (entryFrame m #[.ref b, .int (Int32.ofNat o), .ref d, .int (Int32.ofNat q), .int (Int32.ofNat len)] 7)) (Tl.setTop (mkF m 3 #[.val (.ref b), .val (.int (Int32.ofNat (o + i))), .val (.ref d), .val (.int (Int32.ofNat (q + i))), .val (.int (Int32.ofNat len)), .val (.int (Int32.ofNat i)), z] [])) → ∃ (T' : State) (B' : Cell) (z' : Slot), Stand p l e { frames := 0, locals := 0, cells := 0, slots := 0 } s m #[.ref b, .int (Int32.ofNat o), .ref d, .int (Int32.ofNat q), .int (Int32.ofNat len)] below meth c T' ([] ++ copyLocs d q len) 0 0 ∧ Put d B' s₁ T' ∧ Laid B B' q (q + len) (fun j => Value.int (lo8 (cv A (o + (j - q))))) ∧
      Steps p.tables e below (s₁.setTop (entryFrame m #[.ref b, .int (Int32.ofNat o), .ref d, .int (Int32.ofNat q), .int (Int32.ofNat len)] 7)) (T'.setTop (mkF m 3 #[.val (.ref b), .val (.int (Int32.ofNat (o + len))), .val (.ref d), .val (.int (Int32.ofNat (q + len))), .val (.int (Int32.ofNat len)), .val (.int (Int32.ofNat len)), z'] [])) := by
    intro r
    induction r with
    | zero =>
      intro i hi z hz Tl Bk Xl pl fl cl
      have hil : i = len := by omega
      rw [hil] at Xl fl cl
      exact ⟨Tl, Bk, z, Xl, pl, fl, cl⟩
    | succ r ih =>
      intro i hi z hz Tl Bk Xl pl fl cl
      have all := X0.warmed.alike.symm.trans Xl.warmed.alike
      have hAl := hA0.keep all (pl.other hne hA0.1)
      have hBk := hB0.like all pl.1 fl.1 fl.2.1 fl.2.2.1
      have hlt : q + i < Bk.slots.size := by rw [fl.2.2.1]; omega
      have c3 : Steps p.tables e below (s₁.setTop (entryFrame m #[.ref b, .int (Int32.ofNat o), .ref d, .int (Int32.ofNat q), .int (Int32.ofNat len)] 7)) (Tl.setTop (mkF m 12 #[.val (.ref b), .val (.int (Int32.ofNat (o + i))), .val (.ref d), .val (.int (Int32.ofNat (q + i))), .val (.int (Int32.ofNat len)), .val (.int (Int32.ofNat i)), z] [.int (Int32.ofNat (o + i)), .ref b])) := cl.trans (by
        refine XS.iload Xl.here hexec rfl (hb hbytes d3) rfl ?_
        refine XS.iload Xl.here hexec rfl (hb hbytes d5) rfl ?_
        refine XS.icmpNo Xl.here hexec rfl (hb hbytes d7) rfl (ii_ge_f (lt32 (by omega) (by omega))) ?_
        refine XS.aloadN Xl.here hexec rfl (hb hbytes d10) rfl rfl ?_
        refine XS.iloadN Xl.here hexec rfl (hb hbytes d11) rfl ?_
        exact Steps.refl _)
      have c4 : Steps p.tables e below (s₁.setTop (entryFrame m #[.ref b, .int (Int32.ofNat o), .ref d, .int (Int32.ofNat q), .int (Int32.ofNat len)] 7)) (Tl.setTop (mkF m 13 #[.val (.ref b), .val (.int (Int32.ofNat (o + i))), .val (.ref d), .val (.int (Int32.ofNat (q + i))), .val (.int (Int32.ofNat len)), .val (.int (Int32.ofNat i)), z] [.int (cv A (o + i))])) := c3.trans (by
        refine Xl.aget hexec hAl rfl (hA.get (i := o + i) (by omega)) rfl rfl (hb hbytes d12) ?_
        exact Steps.refl _)
      have c5 : Steps p.tables e below (s₁.setTop (entryFrame m #[.ref b, .int (Int32.ofNat o), .ref d, .int (Int32.ofNat q), .int (Int32.ofNat len)] 7)) (Tl.setTop (mkF m 15 #[.val (.ref b), .val (.int (Int32.ofNat (o + i))), .val (.ref d), .val (.int (Int32.ofNat (q + i))), .val (.int (Int32.ofNat len)), .val (.int (Int32.ofNat i)), .val (.int (cv A (o + i)))] [])) := c4.trans (by
        refine XS.istoreS Xl.here hexec rfl (hb hbytes d13) rfl rfl hz ?_
        exact Steps.refl _)
      have c6 : Steps p.tables e below (s₁.setTop (entryFrame m #[.ref b, .int (Int32.ofNat o), .ref d, .int (Int32.ofNat q), .int (Int32.ofNat len)] 7)) (Tl.setTop (mkF m 31 #[.val (.ref b), .val (.int (Int32.ofNat (o + i))), .val (.ref d), .val (.int (Int32.ofNat (q + i))), .val (.int (Int32.ofNat len)), .val (.int (Int32.ofNat i)), .val (.int (cv A (o + i)))] [.int (lo8 (cv A (o + i))), .int (Int32.ofNat (q + i)), .ref d])) := c5.trans (by
        refine XS.iload Xl.here hexec rfl (hb hbytes d15) rfl ?_
        refine sipushV Xl.here hexec rfl 255 (hb hbytes d17) (by decide) ?_
        refine XS.icmpYes Xl.here hexec rfl (pc0 := 20) rfl (hb hbytes d20) rfl (ii_le_t (hp i (by omega))) (by decide) rfl ?_
        refine XS.aloadN Xl.here hexec rfl (hb hbytes d26) rfl rfl ?_
        refine XS.iloadN Xl.here hexec rfl (hb hbytes d27) rfl ?_
        refine XS.iload Xl.here hexec rfl (hb hbytes d28) rfl ?_
        refine i2b Xl.here hexec rfl (hb hbytes d30) rfl ?_
        exact Steps.refl _)
      obtain ⟨T7, X7, p7, st7⟩ := Xl.aput hexec hBk rfl hlt rfl (fits_lo8 (cv A (o + i))) (g := (mkF m 31 #[.val (.ref b), .val (.int (Int32.ofNat (o + i))), .val (.ref d), .val (.int (Int32.ofNat (q + i))), .val (.int (Int32.ofNat len)), .val (.int (Int32.ofNat i)), .val (.int (cv A (o + i)))] [.int (lo8 (cv A (o + i))), .int (Int32.ofNat (q + i)), .ref d])) rfl (rest := []) rfl (hb hbytes d31)
      have c8 : Steps p.tables e below (s₁.setTop (entryFrame m #[.ref b, .int (Int32.ofNat o), .ref d, .int (Int32.ofNat q), .int (Int32.ofNat len)] 7)) (T7.setTop (mkF m 32 #[.val (.ref b), .val (.int (Int32.ofNat (o + i))), .val (.ref d), .val (.int (Int32.ofNat (q + i))), .val (.int (Int32.ofNat len)), .val (.int (Int32.ofNat i)), .val (.int (cv A (o + i)))] [])) := c6.trans (st7 _ (Steps.refl _))
      have c9 : Steps p.tables e below (s₁.setTop (entryFrame m #[.ref b, .int (Int32.ofNat o), .ref d, .int (Int32.ofNat q), .int (Int32.ofNat len)] 7)) (T7.setTop (mkF m 3 #[.val (.ref b), .val (.int (Int32.ofNat (o + i) + 1)), .val (.ref d), .val (.int (Int32.ofNat (q + i) + 1)), .val (.int (Int32.ofNat len)), .val (.int (Int32.ofNat i + 1)), .val (.int (cv A (o + i)))] [])) := c8.trans (by
        refine iincV X7.here hexec rfl 1 (hb hbytes d32) (by decide) rfl rfl ?_
        refine iincV X7.here hexec rfl 1 (hb hbytes d35) (by decide) rfl rfl ?_
        refine iincV X7.here hexec rfl 1 (hb hbytes d38) (by decide) rfl rfl ?_
        refine XS.goto X7.here hexec rfl (pc0 := 41) rfl (hb hbytes d41) (by decide) rfl ?_
        exact Steps.refl _)
      have c10 : Steps p.tables e below (s₁.setTop (entryFrame m #[.ref b, .int (Int32.ofNat o), .ref d, .int (Int32.ofNat q), .int (Int32.ofNat len)] 7)) (T7.setTop (mkF m 3 #[.val (.ref b), .val (.int (Int32.ofNat (o + (i + 1)))), .val (.ref d), .val (.int (Int32.ofNat (q + (i + 1)))), .val (.int (Int32.ofNat len)), .val (.int (Int32.ofNat (i + 1))), .val (.int (cv A (o + i)))] [])) := by
        have := c9
        rw [succ32, succ32, succ32] at this
        exact this
      exact ih (i + 1) (by omega) _ (Or.inr ⟨_, rfl, rfl⟩) T7 _ (by rw [copyLocs_step, ← List.append_assoc]; exact X7) (pl.trans p7) (fl.step (by omega) hlt (by simp)) c10
  obtain ⟨T9, B9, z9, X9, p9, f9, g9⟩ := loop len 0 (by omega) .unset (Or.inl rfl) s₁ B (by simpa [copyLocs] using X0) ⟨hB0.1, fun _ _ => rfl, rfl⟩ (Laid.zero _ _ _) c2
  have c11 : Steps p.tables e below (s₁.setTop (entryFrame m #[.ref b, .int (Int32.ofNat o), .ref d, .int (Int32.ofNat q), .int (Int32.ofNat len)] 7)) (T9.setTop (mkF m 46 #[.val (.ref b), .val (.int (Int32.ofNat (o + len))), .val (.ref d), .val (.int (Int32.ofNat (q + len))), .val (.int (Int32.ofNat len)), .val (.int (Int32.ofNat len)), z9] [.int (Int32.ofNat len)])) := g9.trans (by
    refine XS.iload X9.here hexec rfl (hb hbytes d3) rfl ?_
    refine XS.iload X9.here hexec rfl (hb hbytes d5) rfl ?_
    refine XS.icmpYes X9.here hexec rfl (pc0 := 7) rfl (hb hbytes d7) rfl (ii_ge_t (nlt32 (by omega) (Nat.le_refl _))) (by decide) rfl ?_
    refine XS.iload X9.here hexec rfl (hb hbytes d44) rfl ?_
    exact Steps.refl _)
  exact ⟨T9, some (.int (Int32.ofNat len)), _, _, _, X9, by simp, rfl, rfl, (fun h => by cases h), ⟨rfl, B9, p9.from hh0, f9⟩, fun fs hl => c11.trans (X9.ireturnOut hexec hret rfl (Or.inl rfl) (hb hbytes d46) hl)⟩
end Cmp5
namespace Cmp3
def yN : MethodName := ⟨"java/lang/StringUTF16", "compress", "([CII)[B"⟩
abbrev yB : ByteArray := jdk_52_method_16_code
theorem d0 : decode yB 0 = .ok (.iload_n 2, 1) := by decide +kernel
theorem d1 : decode yB 1 = .ok (.newarray .byte, 2) := by decide +kernel
theorem d3 : decode yB 3 = .ok (.astore_n 3, 1) := by decide +kernel
theorem d4 : decode yB 4 = .ok (.aload_n 0, 1) := by decide +kernel
theorem d5 : decode yB 5 = .ok (.iload_n 1, 1) := by decide +kernel
theorem d6 : decode yB 6 = .ok (.aload_n 3, 1) := by decide +kernel
theorem d7 : decode yB 7 = .ok (.iconst 0, 1) := by decide +kernel
theorem d8 : decode yB 8 = .ok (.iload_n 2, 1) := by decide +kernel
theorem d9 : decode yB 9 = .ok (.invokestatic 115, 3) := by decide +kernel
theorem d12 : decode yB 12 = .ok (.istore 4, 2) := by decide +kernel
theorem d14 : decode yB 14 = .ok (.iload 4, 2) := by decide +kernel
theorem d16 : decode yB 16 = .ok (.iload_n 2, 1) := by decide +kernel
theorem d17 : decode yB 17 = .ok (.if_icmp (.eq) 40, 3) := by decide +kernel
theorem d57 : decode yB 57 = .ok (.aload_n 3, 1) := by decide +kernel
theorem d58 : decode yB 58 = .ok (.areturn, 1) := by decide +kernel
def site : List Cond := [.arrayClass .byte, Cmp5.tab] ++ staticW U16 115 Cmp5.yN
def tab : Cond := tabOf yN yB 6 (some (.array .byte)) site
def P (b : Addr) (A : Cell) (o len : Nat) (args : Array Value) (s : State) : Prop := args = #[.ref b, .int (Int32.ofNat o), .int (Int32.ofNat len)] ∧ Ch b A s ∧ o + len ≤ A.slots.size ∧ len ≤ 536870912 ∧ ∀ i, i < len → ¬ 255 < cv A (o + i)
def E (b : Addr) (A : Cell) (o len : Nat) (r : Option Value) (s u : State) : Prop := NewArr .byte "[B" len (fun j => .int (lo8 (cv A (o + j)))) r s u ∧ u.heap.size = s.heap.size + 1
/-- no char of the range above 255: a new byte[] of their low bytes -/
theorem law (l : Launch) (b : Addr) (A : Cell) (o len : Nat) : Law l yN 3 3 1 18 yB 6 (some (.array .byte)) site (P b A o len) (E b A o len) [] 1 len := by
  refine Law.of_walk (plainFor_of_name (by decide +kernel)) (by decide +kernel) (by decide +kernel) (by decide) (fun _ _ h => by rw [h.1]; rfl) (fun _ U U' hal hh h => ⟨h.1, h.2.1.mv hal hh, h.2.2⟩) (fun r U U' V V' h1 hal h2 h => ⟨NewArr.mv r U U' V V' h1 hal h2 h.1, by rw [h1, h2]; exact h.2⟩) ?_
  intro p e s m args below meth c s₁ X0 hexec hbytes hml hret hlk hnm hown hh0 W hP
  obtain ⟨rfl, hA, l1, l2, hp⟩ := hP
  have a31 := hA.1.2.2.2
  have c1 : Steps p.tables e below (s₁.setTop (entryFrame m #[.ref b, .int (Int32.ofNat o), .int (Int32.ofNat len)] 6)) (s₁.setTop (mkF m 0 #[.val (.ref b), .val (.int (Int32.ofNat o)), .val (.int (Int32.ofNat len)), .unset, .unset, .unset] [])) := entry rfl
  have c2 : Steps p.tables e below (s₁.setTop (entryFrame m #[.ref b, .int (Int32.ofNat o), .int (Int32.ofNat len)] 6)) (s₁.setTop (mkF m 1 #[.val (.ref b), .val (.int (Int32.ofNat o)), .val (.int (Int32.ofNat len)), .unset, .unset, .unset] [.int (Int32.ofNat len)])) := c1.trans (by
    refine XS.iloadN X0.here hexec rfl (hb hbytes d0) rfl ?_
    exact Steps.refl _)
  obtain ⟨T3, B3, X3, ba3, bs3, bv3, bh3, bf3, st3⟩ := X0.anew hexec (atype := .byte) (wk W (.arrayClass .byte)) rfl (by show len * 1 ≤ _; omega) (by omega) (g := (mkF m 1 #[.val (.ref b), .val (.int (Int32.ofNat o)), .val (.int (Int32.ofNat len)), .unset, .unset, .unset] [.int (Int32.ofNat len)])) rfl (hb hbytes d1) (rest := []) rfl (Nat.le_refl _) (by show 0 + len ≤ len; omega)
  rw [hh0] at ba3 st3
  have kp3 : XT.Kept s T3 := (XT.Kept.of_eq hh0).push bh3
  have hA3 := hA.keep X3.warmed.alike (kp3 _ _ hA.1.1)
  have hne : b ≠ s.heap.size := hA.1.ne
  have c4 : Steps p.tables e below (s₁.setTop (entryFrame m #[.ref b, .int (Int32.ofNat o), .int (Int32.ofNat len)] 6)) (T3.setTop (mkF m 3 #[.val (.ref b), .val (.int (Int32.ofNat o)), .val (.int (Int32.ofNat len)), .unset, .unset, .unset] [.ref s.heap.size])) := c2.trans (st3 _ (Steps.refl _))
  have c5 : Steps p.tables e below (s₁.setTop (entryFrame m #[.ref b, .int (Int32.ofNat o), .int (Int32.ofNat len)] 6)) (T3.setTop (mkF m 9 #[.val (.ref b), .val (.int (Int32.ofNat o)), .val (.int (Int32.ofNat len)), .val (.ref s.heap.size), .unset, .unset] [.int (Int32.ofNat len), .int 0, .ref s.heap.size, .int (Int32.ofNat o), .ref b])) := c4.trans (by
    refine XS.astoreN X3.here hexec rfl (hb hbytes d3) rfl rfl rfl ?_
    refine XS.aloadN X3.here hexec rfl (hb hbytes d4) rfl rfl ?_
    refine XS.iloadN X3.here hexec rfl (hb hbytes d5) rfl ?_
    refine XS.aloadN X3.here hexec rfl (hb hbytes d6) rfl rfl ?_
    refine iconstV X3.here hexec rfl 0 (hb hbytes d7) (by decide) ?_
    refine XS.iloadN X3.here hexec rfl (hb hbytes d8) rfl ?_
    exact Steps.refl _)
  obtain ⟨v6, T6, X6, E6, g6⟩ := X3.callS hexec (Cmp5.law l b A s.heap.size B3 o 0 len) hown (wks W (staticW U16 115 Cmp5.yN)) (wk W Cmp5.tab) (W := 0) (Nat.le_of_ble_eq_true rfl) (Nat.le_of_ble_eq_true rfl) (Nat.le_refl _) (by show 0 + len + 0 ≤ len; omega) (g := (mkF m 9 #[.val (.ref b), .val (.int (Int32.ofNat o)), .val (.int (Int32.ofNat len)), .val (.ref s.heap.size), .unset, .unset] [.int (Int32.ofNat len), .int (Int32.ofNat 0), .ref s.heap.size, .int (Int32.ofNat o), .ref b])) rfl (by rw [hml]; rfl) c5 (argsL := [.ref b, .int (Int32.ofNat o), .ref s.heap.size, .int (Int32.ofNat 0), .int (Int32.ofNat len)]) (rest := []) rfl rfl (by show 2 * 0 + 0 ≤ _; decide) (hb hbytes d9) (⟨rfl, hA3, ba3, hne, l1, by rw [bs3]; simp, hp⟩)
  obtain ⟨rfl, B6, p6, f6⟩ := E6
  have c7 : Steps p.tables e below (s₁.setTop (entryFrame m #[.ref b, .int (Int32.ofNat o), .int (Int32.ofNat len)] 6)) (T6.setTop (mkF m 12 #[.val (.ref b), .val (.int (Int32.ofNat o)), .val (.int (Int32.ofNat len)), .val (.ref s.heap.size), .unset, .unset] [.int (Int32.ofNat len)])) := g6
  have c8 : Steps p.tables e below (s₁.setTop (entryFrame m #[.ref b, .int (Int32.ofNat o), .int (Int32.ofNat len)] 6)) (T6.setTop (mkF m 58 #[.val (.ref b), .val (.int (Int32.ofNat o)), .val (.int (Int32.ofNat len)), .val (.ref s.heap.size), .val (.int (Int32.ofNat len)), .unset] [.ref s.heap.size])) := c7.trans (by
    refine XS.istore X6.here hexec rfl (hb hbytes d12) rfl rfl ?_
    refine XS.iload X6.here hexec rfl (hb hbytes d14) rfl ?_
    refine XS.iloadN X6.here hexec rfl (hb hbytes d16) rfl ?_
    refine XS.icmpYes X6.here hexec rfl (pc0 := 17) rfl (hb hbytes d17) rfl (ii_eq_t rfl) (by decide) rfl ?_
    refine XS.aloadN X6.here hexec rfl (hb hbytes d57) rfl rfl ?_
    exact Steps.refl _)
  have X8 := X6.wide (L' := []) (cells' := 1) (slots' := len) (fun x hx hlt => by
    simp only [List.nil_append, copyLocs, List.mem_map, List.mem_range] at hx
    obtain ⟨i, -, rfl⟩ := hx
    exact absurd hlt (Nat.lt_irrefl _)) (Nat.le_refl _) (by omega)
  exact ⟨T6, some (.ref s.heap.size), _, _, _, X8, rfl, rfl, rfl, (fun h => by cases h), ⟨⟨rfl, B6, ba3.like (X3.warmed.alike.symm.trans X6.warmed.alike) p6.1 f6.1 f6.2.1 f6.2.2.1, f6.2.1.trans bv3, by rw [X6.warmed.alike.findClass, f6.1]; exact bf3, by rw [f6.2.2.1, bs3]; simp, fun j hj => by rw [f6.2.2.2 j, if_pos (by omega)]; rfl, kp3.put p6 (Nat.le_refl _)⟩, by rw [p6.2.2, bh3, hh0]; simp⟩, fun fs hl => c8.trans (X8.areturnOut hexec rfl hret rfl (hb hbytes d58) hl)⟩
end Cmp3
namespace CodL
def yN : MethodName := ⟨"java/lang/StringUTF16", "coderFromArrayLen", "([BI)B"⟩
abbrev yB : ByteArray := jdk_52_method_15_code
theorem d0 : decode yB 0 = .ok (.iload_n 1, 1) := by decide +kernel
theorem d1 : decode yB 1 = .ok (.aload_n 0, 1) := by decide +kernel
theorem d2 : decode yB 2 = .ok (.arraylength, 1) := by decide +kernel
theorem d3 : decode yB 3 = .ok (.isub, 1) := by decide +kernel
theorem d4 : decode yB 4 = .ok (.bipush 31, 2) := by decide +kernel
theorem d6 : decode yB 6 = .ok (.iushr, 1) := by decide +kernel
theorem d7 : decode yB 7 = .ok (.i2b, 1) := by decide +kernel
theorem d8 : decode yB 8 = .ok (.ireturn, 1) := by decide +kernel
def site : List Cond := []
def tab : Cond := tabOf yN yB 2 (some .byte) site
def P (d : Addr) (B : Cell) (args : Array Value) (s : State) : Prop := args = #[.ref d, .int (Int32.ofNat B.slots.size)] ∧ Arr .byte d B s
def E (r : Option Value) (s u : State) : Prop := XT.PureE (some (.int 0)) r s u
/-- an array as long as the number of chars: LATIN1 -/
theorem law (l : Launch) (d : Addr) (B : Cell) : Law l yN 2 2 0 0 yB 2 (some .byte) site (P d B) E [] 0 0 := by
  refine Law.of_walk (plainFor_of_name (by decide +kernel)) (by decide +kernel) (by decide +kernel) (by decide) (fun _ _ h => by rw [h.1]; rfl) (fun _ U U' hal hh h => ⟨h.1, h.2.mv hal hh⟩) (fun r U U' V V' h1 hal h2 h => XT.PureE.mv r U U' V V' h1 hal h2 h) ?_
  intro p e s m args below meth c s₁ X0 hexec hbytes hml hret hlk hnm hown hh0 W hP
  obtain ⟨rfl, hB⟩ := hP
  have hB0 := hB.mv X0.warmed.alike hh0
  have c1 : Steps p.tables e below (s₁.setTop (entryFrame m #[.ref d, .int (Int32.ofNat B.slots.size)] 2)) (s₁.setTop (mkF m 0 #[.val (.ref d), .val (.int (Int32.ofNat B.slots.size))] [])) := entry rfl
  have c2 : Steps p.tables e below (s₁.setTop (entryFrame m #[.ref d, .int (Int32.ofNat B.slots.size)] 2)) (s₁.setTop (mkF m 2 #[.val (.ref d), .val (.int (Int32.ofNat B.slots.size))] [.ref d, .int (Int32.ofNat B.slots.size)])) := c1.trans (by
    refine XS.iloadN X0.here hexec rfl (hb hbytes d0) rfl ?_
    refine XS.aloadN X0.here hexec rfl (hb hbytes d1) rfl rfl ?_
    exact Steps.refl _)
  have c3 : Steps p.tables e below (s₁.setTop (entryFrame m #[.ref d, .int (Int32.ofNat B.slots.size)] 2)) (s₁.setTop (mkF m 8 #[.val (.ref d), .val (.int (Int32.ofNat B.slots.size))] [.int (lo8 (ushr (Int32.ofNat B.slots.size - Int32.ofNat B.slots.size) 31))])) := c2.trans (by
    refine X0.alen hexec hB0 rfl rfl (hb hbytes d2) ?_
    refine XS.isub X0.here hexec rfl (hb hbytes d3) rfl ?_
    refine bipushV X0.here hexec rfl 31 (hb hbytes d4) (by decide) ?_
    refine iushr X0.here hexec rfl (hb hbytes d6) rfl ?_
    refine i2b X0.here hexec rfl (hb hbytes d7) rfl ?_
    exact Steps.refl _)
  have e0 : lo8 (ushr (Int32.ofNat B.slots.size - Int32.ofNat B.slots.size) 31) = 0 := by rw [Int32.sub_self]; decide
  rw [e0] at c3
  exact ⟨s₁, some (.int 0), _, _, _, X0, rfl, rfl, rfl, (fun h => by cases h), ⟨rfl, hh0⟩, fun fs hl => c3.trans (X0.ireturnOut hexec hret rfl (Or.inr (Or.inr (Or.inl rfl))) (hb hbytes d8) hl)⟩
end CodL
/-- the String at a is Latin-1 over a new byte[] (the heap's one new cell): the low bytes of the len chars of A from o on; every cell but a is kept -/
def Got (a : Addr) (D : Cell) (fV fC : Field) (A : Cell) (o len : Nat) (r : Option Value) (s u : State) : Prop := r = none ∧ ∃ D' V : Cell, Blank "java/lang/String" a D' u ∧ Same D D' [fV.slot, fC.slot] ∧ D'.slots[fV.slot]? = some (.ref s.heap.size) ∧ D'.slots[fC.slot]? = some (.int 0) ∧ Arr .byte s.heap.size V u ∧ V.vm = .none ∧ u.vm.findClass "[B" = some V.cls ∧ V.slots.size = len ∧ (∀ j, j < len → V.slots[j]? = some (.int (lo8 (cv A (o + j))))) ∧ (∀ (y : Addr) (c : Cell), y ≠ a → s.heap[y]? = some c → u.heap[y]? = some c) ∧ u.heap.size = s.heap.size + 1
theorem Got.mv {a : Addr} {D A : Cell} {fV fC : Field} {o len : Nat} : ∀ r (U U' V V' : State), U'.heap = U.heap → V.vm.Alike V'.vm → V'.heap = V.heap → Got a D fV fC A o len r U V → Got a D fV fC A o len r U' V' :=
  fun r U U' V V' h1 hal h2 ⟨e0, D', X, a1, a2, a3, a4, a5, a6, a7, a8, a9, a10, a11⟩ => ⟨e0, D', X, a1.mv hal h2, a2, by rw [h1]; exact a3, a4, by rw [h1]; exact a5.mv hal h2, a6, by rw [hal.findClass]; exact a7, a8, a9, by rw [h1, h2]; exact a10, by rw [h1, h2]; exact a11⟩
namespace New4
def yN : MethodName := ⟨"java/lang/String", "<init>", "([CIILjava/lang/Void;)V"⟩
abbrev yB : ByteArray := jdk_42_method_149_code
theorem d0 : decode yB 0 = .ok (.aload_n 0, 1) := by decide +kernel
theorem d1 : decode yB 1 = .ok (.invokespecial 1, 3) := by decide +kernel
theorem d4 : decode yB 4 = .ok (.iload_n 3, 1) := by decide +kernel
theorem d5 : decode yB 5 = .ok (.ifCond (.ne) 22, 3) := by decide +kernel
theorem d27 : decode yB 27 = .ok (.getstatic 38, 3) := by decide +kernel
theorem d30 : decode yB 30 = .ok (.ifCond (.eq) 28, 3) := by decide +kernel
theorem d33 : decode yB 33 = .ok (.aload_n 1, 1) := by decide +kernel
theorem d34 : decode yB 34 = .ok (.iload_n 2, 1) := by decide +kernel
theorem d35 : decode yB 35 = .ok (.iload_n 3, 1) := by decide +kernel
theorem d36 : decode yB 36 = .ok (.invokestatic 177, 3) := by decide +kernel
theorem d39 : decode yB 39 = .ok (.astore 5, 2) := by decide +kernel
theorem d41 : decode yB 41 = .ok (.aload_n 0, 1) := by decide +kernel
theorem d42 : decode yB 42 = .ok (.aload 5, 2) := by decide +kernel
theorem d44 : decode yB 44 = .ok (.iload_n 3, 1) := by decide +kernel
theorem d45 : decode yB 45 = .ok (.invokestatic 47, 3) := by decide +kernel
theorem d48 : decode yB 48 = .ok (.putfield 15, 3) := by decide +kernel
theorem d51 : decode yB 51 = .ok (.aload_n 0, 1) := by decide +kernel
theorem d52 : decode yB 52 = .ok (.aload 5, 2) := by decide +kernel
theorem d54 : decode yB 54 = .ok (.putfield 9, 3) := by decide +kernel
theorem d57 : decode yB 57 = .ok (.return_, 1) := by decide +kernel
def site : List Cond := [.fieldLink "java/lang/String" 38 "java/lang/String" "COMPACT_STRINGS" "Z", Cmp3.tab, CodL.tab, .laysFinal "java/lang/String" "java/lang/String" "value" "[B", .fieldLink "java/lang/String" 9 "java/lang/String" "value" "[B", .laysFinal "java/lang/String" "java/lang/String" "coder" "B", .fieldLink "java/lang/String" 15 "java/lang/String" "coder" "B"] ++ objW "java/lang/String" 1 ++ staticW "java/lang/String" 177 Cmp3.yN ++ staticW "java/lang/String" 47 CodL.yN
def tab : Cond := tabOf yN yB 6 none site
def P (a : Addr) (D : Cell) (fV fC : Field) (b : Addr) (A : Cell) (z : Int32) (o len : Nat) (args : Array Value) (s : State) : Prop := args = #[.ref a, .ref b, .int (Int32.ofNat o), .int (Int32.ofNat len), .null] ∧ Blank "java/lang/String" a D s ∧ Found "java/lang/String" "value" "[B" fV s ∧ Found "java/lang/String" "coder" "B" fC s ∧ Ch b A s ∧ StaticIs s "java/lang/String" "COMPACT_STRINGS" "Z" (.int z) ∧ ¬ z = 0 ∧ 0 < len ∧ o + len ≤ A.slots.size ∧ len ≤ 536870912 ∧ ∀ i, i < len → ¬ 255 < cv A (o + i)
def E (a : Addr) (D : Cell) (fV fC : Field) (A : Cell) (o len : Nat) (r : Option Value) (s u : State) : Prop := Got a D fV fC A o len r s u
/-- len > 0, no char of the range above 255: a Latin-1 String of their low bytes -/
theorem law (l : Launch) (a : Addr) (D : Cell) (fV fC : Field) (b : Addr) (A : Cell) (z : Int32) (o len : Nat) : Law l yN 5 4 2 35 yB 6 none site (P a D fV fC b A z o len) (E a D fV fC A o len) [⟨a, fC.slot⟩, ⟨a, fV.slot⟩] 1 len := by
  refine Law.of_walk (plainFor_of_name (by decide +kernel)) (by decide +kernel) (by decide +kernel) (by decide) (fun _ _ h => by rw [h.1]; rfl) (fun _ U U' hal hh h => ⟨h.1, h.2.1.mv hal hh, h.2.2.1.al hal, h.2.2.2.1.al hal, h.2.2.2.2.1.mv hal hh, h.2.2.2.2.2.1.there hal hh, h.2.2.2.2.2.2⟩) (fun r U U' V V' h1 hal h2 h => Got.mv r U U' V V' h1 hal h2 h) ?_
  intro p e s m args below meth c s₁ X0 hexec hbytes hml hret hlk hnm hown hh0 W hP
  obtain ⟨rfl, hB, f1, f2, hA, s1, hz, l0, l1, l2, hp⟩ := hP
  have a31 := hA.1.2.2.2
  have c1 : Steps p.tables e below (s₁.setTop (entryFrame m #[.ref a, .ref b, .int (Int32.ofNat o), .int (Int32.ofNat len), .null] 6)) (s₁.setTop (mkF m 0 #[.val (.ref a), .val (.ref b), .val (.int (Int32.ofNat o)), .val (.int (Int32.ofNat len)), .val .null, .unset] [])) := entry rfl
  have c2 : Steps p.tables e below (s₁.setTop (entryFrame m #[.ref a, .ref b, .int (Int32.ofNat o), .int (Int32.ofNat len), .null] 6)) (s₁.setTop (mkF m 1 #[.val (.ref a), .val (.ref b), .val (.int (Int32.ofNat o)), .val (.int (Int32.ofNat len)), .val .null, .unset] [.ref a])) := c1.trans (by
    refine XS.aloadN X0.here hexec rfl (hb hbytes d0) rfl rfl ?_
    exact Steps.refl _)
  obtain ⟨T3, X3, q3, st3⟩ := X0.oinit hexec hown (wks W (objW "java/lang/String" 1)) (g := (mkF m 1 #[.val (.ref a), .val (.ref b), .val (.int (Int32.ofNat o)), .val (.int (Int32.ofNat len)), .val .null, .unset] [.ref a])) rfl (by rw [hml]; rfl) (rest := []) rfl (hb hbytes d1) (W := 0) (by show 2 * 0 + 0 ≤ _; decide) (Nat.le_of_ble_eq_true rfl) (Nat.le_of_ble_eq_true rfl)
  have hh3 := q3.trans hh0
  have c4 : Steps p.tables e below (s₁.setTop (entryFrame m #[.ref a, .ref b, .int (Int32.ofNat o), .int (Int32.ofNat len), .null] 6)) (T3.setTop (mkF m 27 #[.val (.ref a), .val (.ref b), .val (.int (Int32.ofNat o)), .val (.int (Int32.ofNat len)), .val .null, .unset] [])) := (c2.trans (st3 _ (Steps.refl _))).trans (by
    refine XS.iloadN X3.here hexec rfl (hb hbytes d4) rfl ?_
    refine XS.ifYes X3.here hexec rfl (pc0 := 5) rfl (hb hbytes d5) rfl (i0_ne_t (nz32 (by omega) l0)) (by decide) rfl ?_
    exact Steps.refl _)
  obtain ⟨T5, X5, q5, st5⟩ := X3.sget hexec hown (wk W (.fieldLink "java/lang/String" 38 "java/lang/String" "COMPACT_STRINGS" "Z")) s1 (fun _ _ h => by rw [hh3]; exact h) (g := (mkF m 27 #[.val (.ref a), .val (.ref b), .val (.int (Int32.ofNat o)), .val (.int (Int32.ofNat len)), .val .null, .unset] [])) rfl (hb hbytes d27)
  have hh5 := q5.trans hh3
  have c6 : Steps p.tables e below (s₁.setTop (entryFrame m #[.ref a, .ref b, .int (Int32.ofNat o), .int (Int32.ofNat len), .null] 6)) (T5.setTop (mkF m 30 #[.val (.ref a), .val (.ref b), .val (.int (Int32.ofNat o)), .val (.int (Int32.ofNat len)), .val .null, .unset] [.int z])) := c4.trans (st5 _ (Steps.refl _))
  have c7 : Steps p.tables e below (s₁.setTop (entryFrame m #[.ref a, .ref b, .int (Int32.ofNat o), .int (Int32.ofNat len), .null] 6)) (T5.setTop (mkF m 36 #[.val (.ref a), .val (.ref b), .val (.int (Int32.ofNat o)), .val (.int (Int32.ofNat len)), .val .null, .unset] [.int (Int32.ofNat len), .int (Int32.ofNat o), .ref b])) := c6.trans (by
    refine XS.ifNo X5.here hexec rfl (hb hbytes d30) rfl (i0_eq_f hz) ?_
    refine XS.aloadN X5.here hexec rfl (hb hbytes d33) rfl rfl ?_
    refine XS.iloadN X5.here hexec rfl (hb hbytes d34) rfl ?_
    refine XS.iloadN X5.here hexec rfl (hb hbytes d35) rfl ?_
    exact Steps.refl _)
  obtain ⟨v8, T8, X8, E8, g8⟩ := X5.callS hexec (Cmp3.law l b A o len) hown (wks W (staticW "java/lang/String" 177 Cmp3.yN)) (wk W Cmp3.tab) (W := 0) (Nat.le_of_ble_eq_true rfl) (Nat.le_of_ble_eq_true rfl) (Nat.le_refl _) (by show 0 + len ≤ len; omega) (g := (mkF m 36 #[.val (.ref a), .val (.ref b), .val (.int (Int32.ofNat o)), .val (.int (Int32.ofNat len)), .val .null, .unset] [.int (Int32.ofNat len), .int (Int32.ofNat o), .ref b])) rfl (by rw [hml]; rfl) c7 (argsL := [.ref b, .int (Int32.ofNat o), .int (Int32.ofNat len)]) (rest := []) rfl rfl (by show 2 * 0 + 0 ≤ _; decide) (hb hbytes d36) (⟨rfl, hA.mv X5.warmed.alike hh5, l1, l2, hp⟩)
  obtain ⟨e8, z8⟩ := E8
  obtain ⟨rfl, N, n1, n2, n3, n4, n5, n6⟩ := NewArr.mv _ T5 s _ _ hh5.symm (Vm.Alike.refl _) rfl e8
  rw [hh5] at z8
  have hB1 := hB.keep X8.warmed.alike (n6 _ _ hB.1)
  have hne : s.heap.size ≠ a := (Nat.ne_of_lt (Array.getElem?_eq_some_iff.mp hB.1).1).symm
  have c9 : Steps p.tables e below (s₁.setTop (entryFrame m #[.ref a, .ref b, .int (Int32.ofNat o), .int (Int32.ofNat len), .null] 6)) (T8.setTop (mkF m 39 #[.val (.ref a), .val (.ref b), .val (.int (Int32.ofNat o)), .val (.int (Int32.ofNat len)), .val .null, .unset] [.ref s.heap.size])) := g8
  have c10 : Steps p.tables e below (s₁.setTop (entryFrame m #[.ref a, .ref b, .int (Int32.ofNat o), .int (Int32.ofNat len), .null] 6)) (T8.setTop (mkF m 45 #[.val (.ref a), .val (.ref b), .val (.int (Int32.ofNat o)), .val (.int (Int32.ofNat len)), .val .null, .val (.ref s.heap.size)] [.int (Int32.ofNat N.slots.size), .ref s.heap.size, .ref a])) := by
    have hc : Steps p.tables e below (s₁.setTop (entryFrame m #[.ref a, .ref b, .int (Int32.ofNat o), .int (Int32.ofNat len), .null] 6)) (T8.setTop (mkF m 45 #[.val (.ref a), .val (.ref b), .val (.int (Int32.ofNat o)), .val (.int (Int32.ofNat len)), .val .null, .val (.ref s.heap.size)] [.int (Int32.ofNat len), .ref s.heap.size, .ref a])) := c9.trans (by
      refine XS.astore X8.here hexec rfl (hb hbytes d39) rfl rfl rfl ?_
      refine XS.aloadN X8.here hexec rfl (hb hbytes d41) rfl rfl ?_
      refine XS.aload X8.here hexec rfl (hb hbytes d42) rfl rfl ?_
      refine XS.iloadN X8.here hexec rfl (hb hbytes d44) rfl ?_
      exact Steps.refl _)
    rw [n4]; exact hc
  obtain ⟨v11, T11, X11, E11, g11⟩ := X8.callS hexec (CodL.law l s.heap.size N) hown (wks W (staticW "java/lang/String" 47 CodL.yN)) (wk W CodL.tab) (W := 1) (Nat.le_of_ble_eq_true rfl) (Nat.le_of_ble_eq_true rfl) (Nat.le_refl _) (by show 0 + len + 0 ≤ len; omega) (g := (mkF m 45 #[.val (.ref a), .val (.ref b), .val (.int (Int32.ofNat o)), .val (.int (Int32.ofNat len)), .val .null, .val (.ref s.heap.size)] [.int (Int32.ofNat N.slots.size), .ref s.heap.size, .ref a])) rfl (by rw [hml]; rfl) c10 (argsL := [.ref s.heap.size, .int (Int32.ofNat N.slots.size)]) (rest := [.ref a]) rfl rfl (by show 2 * 0 + (1 + 0) ≤ _; decide) (hb hbytes d45) (⟨rfl, n1⟩)
  obtain ⟨rfl, q11⟩ := E11
  have hB11 := hB1.mv (X8.warmed.alike.symm.trans X11.warmed.alike) q11
  have c12 : Steps p.tables e below (s₁.setTop (entryFrame m #[.ref a, .ref b, .int (Int32.ofNat o), .int (Int32.ofNat len), .null] 6)) (T11.setTop (mkF m 48 #[.val (.ref a), .val (.ref b), .val (.int (Int32.ofNat o)), .val (.int (Int32.ofNat len)), .val .null, .val (.ref s.heap.size)] [.int 0, .ref a])) := g11
  obtain ⟨T13, X13, p13, bl13, sl13, st13⟩ := X11.finit hexec hown (wk W (.fieldLink "java/lang/String" 15 "java/lang/String" "coder" "B")) (Or.inr ⟨_, (wk W (.laysFinal "java/lang/String" "java/lang/String" "coder" "B"))⟩) (Or.inl ⟨rfl, hnm⟩) f2 (Or.inl rfl) hB11 (t := .byte) (by decide +kernel) rfl (g := (mkF m 48 #[.val (.ref a), .val (.ref b), .val (.int (Int32.ofNat o)), .val (.int (Int32.ofNat len)), .val .null, .val (.ref s.heap.size)] [.int 0, .ref a])) rfl (rest := []) rfl (hb hbytes d48)
  have c14 : Steps p.tables e below (s₁.setTop (entryFrame m #[.ref a, .ref b, .int (Int32.ofNat o), .int (Int32.ofNat len), .null] 6)) (T13.setTop (mkF m 54 #[.val (.ref a), .val (.ref b), .val (.int (Int32.ofNat o)), .val (.int (Int32.ofNat len)), .val .null, .val (.ref s.heap.size)] [.ref s.heap.size, .ref a])) := (c12.trans (st13 _ (Steps.refl _))).trans (by
    refine XS.aloadN X13.here hexec rfl (hb hbytes d51) rfl rfl ?_
    refine XS.aload X13.here hexec rfl (hb hbytes d52) rfl rfl ?_
    exact Steps.refl _)
  obtain ⟨T15, X15, p15, bl15, sl15, st15⟩ := X13.finit hexec hown (wk W (.fieldLink "java/lang/String" 9 "java/lang/String" "value" "[B")) (Or.inr ⟨_, (wk W (.laysFinal "java/lang/String" "java/lang/String" "value" "[B"))⟩) (Or.inl ⟨rfl, hnm⟩) f1 (Or.inl rfl) bl13 (t := (.array .byte)) (by decide +kernel) rfl (g := (mkF m 54 #[.val (.ref a), .val (.ref b), .val (.int (Int32.ofNat o)), .val (.int (Int32.ofNat len)), .val .null, .val (.ref s.heap.size)] [.ref s.heap.size, .ref a])) rfl (rest := []) rfl (hb hbytes d54)
  have c16 : Steps p.tables e below (s₁.setTop (entryFrame m #[.ref a, .ref b, .int (Int32.ofNat o), .int (Int32.ofNat len), .null] 6)) (T15.setTop (mkF m 57 #[.val (.ref a), .val (.ref b), .val (.int (Int32.ofNat o)), .val (.int (Int32.ofNat len)), .val .null, .val (.ref s.heap.size)] [])) := c14.trans (st15 _ (Steps.refl _))
  have ap := apart (Or.inr ⟨_, (wk W (.laysFinal "java/lang/String" "java/lang/String" "value" "[B"))⟩) (Or.inr ⟨_, (wk W (.laysFinal "java/lang/String" "java/lang/String" "coder" "B"))⟩) f1 f2 (t₁ := .array .byte) (t₂ := .byte) (by decide +kernel) (by decide +kernel) (by decide)
  have al := X8.warmed.alike.symm.trans X15.warmed.alike
  have n7 : T11.heap[s.heap.size]? = some N := by rw [q11]; exact n1.1
  exact ⟨T15, none, _, _, _, X15, by simp, rfl, by omega, (fun _ => rfl), ⟨rfl, _, N, bl15, ((Same.refl D _).set _ (by simp)).set _ (by simp), sl15, (Cell.slots_setSlot_ne _ ap).trans sl13, n1.keep al (p15.other hne (p13.other hne n7)), n2, by rw [al.findClass]; exact n3, n4, n5, fun y c h1 h2 => p15.other h1 (p13.other h1 (by rw [q11]; exact n6 y c h2)), by rw [p15.2.2, p13.2.2, q11]; exact z8⟩, fun fs hl => c16.trans (X15.returnOut hexec hret (hb hbytes d57) hl)⟩
end New4
namespace New1
def yN : MethodName := ⟨"java/lang/String", "<init>", "([C)V"⟩
abbrev yB : ByteArray := jdk_42_method_3_code
theorem d0 : decode yB 0 = .ok (.aload_n 0, 1) := by decide +kernel
theorem d1 : decode yB 1 = .ok (.aload_n 1, 1) := by decide +kernel
theorem d2 : decode yB 2 = .ok (.iconst 0, 1) := by decide +kernel
theorem d3 : decode yB 3 = .ok (.aload_n 1, 1) := by decide +kernel
theorem d4 : decode yB 4 = .ok (.arraylength, 1) := by decide +kernel
theorem d5 : decode yB 5 = .ok (.aconst_null, 1) := by decide +kernel
theorem d6 : decode yB 6 = .ok (.invokespecial 27, 3) := by decide +kernel
theorem d9 : decode yB 9 = .ok (.return_, 1) := by decide +kernel
def site : List Cond := [New4.tab] ++ initW "java/lang/String" 27 New4.yN
def tab : Cond := tabOf yN yB 2 none site
def P (a : Addr) (D : Cell) (fV fC : Field) (b : Addr) (A : Cell) (z : Int32) (args : Array Value) (s : State) : Prop := args = #[.ref a, .ref b] ∧ Blank "java/lang/String" a D s ∧ Found "java/lang/String" "value" "[B" fV s ∧ Found "java/lang/String" "coder" "B" fC s ∧ Ch b A s ∧ StaticIs s "java/lang/String" "COMPACT_STRINGS" "Z" (.int z) ∧ ¬ z = 0 ∧ 0 < A.slots.size ∧ A.slots.size ≤ 536870912 ∧ ∀ i, i < A.slots.size → ¬ 255 < cv A i
def E (a : Addr) (D : Cell) (fV fC : Field) (A : Cell) (r : Option Value) (s u : State) : Prop := Got a D fV fC A 0 A.slots.size r s u
/-- new String(chars), not empty, no char above 255: a Latin-1 String of their low bytes -/
theorem law (l : Launch) (a : Addr) (D : Cell) (fV fC : Field) (b : Addr) (A : Cell) (z : Int32) : Law l yN 2 1 3 52 yB 2 none site (P a D fV fC b A z) (E a D fV fC A) [⟨a, fC.slot⟩, ⟨a, fV.slot⟩] 1 A.slots.size := by
  refine Law.of_walk (plainFor_of_name (by decide +kernel)) (by decide +kernel) (by decide +kernel) (by decide) (fun _ _ h => by rw [h.1]; rfl) (fun _ U U' hal hh h => ⟨h.1, h.2.1.mv hal hh, h.2.2.1.al hal, h.2.2.2.1.al hal, h.2.2.2.2.1.mv hal hh, h.2.2.2.2.2.1.there hal hh, h.2.2.2.2.2.2⟩) (fun r U U' V V' h1 hal h2 h => Got.mv r U U' V V' h1 hal h2 h) ?_
  intro p e s m args below meth c s₁ X0 hexec hbytes hml hret hlk hnm hown hh0 W hP
  obtain ⟨rfl, hB, f1, f2, hA, s1, hz, l0, l2, hp⟩ := hP
  have c1 : Steps p.tables e below (s₁.setTop (entryFrame m #[.ref a, .ref b] 2)) (s₁.setTop (mkF m 0 #[.val (.ref a), .val (.ref b)] [])) := entry rfl
  have c2 : Steps p.tables e below (s₁.setTop (entryFrame m #[.ref a, .ref b] 2)) (s₁.setTop (mkF m 6 #[.val (.ref a), .val (.ref b)] [.null, .int (Int32.ofNat A.slots.size), .int 0, .ref b, .ref a])) := c1.trans (by
    refine XS.aloadN X0.here hexec rfl (hb hbytes d0) rfl rfl ?_
    refine XS.aloadN X0.here hexec rfl (hb hbytes d1) rfl rfl ?_
    refine iconstV X0.here hexec rfl 0 (hb hbytes d2) (by decide) ?_
    refine XS.aloadN X0.here hexec rfl (hb hbytes d3) rfl rfl ?_
    refine X0.alen hexec (hA.1.mv X0.warmed.alike hh0) rfl rfl (hb hbytes d4) ?_
    refine XS.aconstNull X0.here hexec rfl (hb hbytes d5) ?_
    exact Steps.refl _)
  obtain ⟨v3, T3, X3, E3, g3⟩ := X0.callN hexec (New4.law l a D fV fC b A z 0 A.slots.size) rfl hown (wks W (initW "java/lang/String" 27 New4.yN)) (W New4.tab (by simp only [site, List.mem_cons, List.mem_append, true_or, or_true])) (W := 0) (Nat.le_of_ble_eq_true rfl) (Nat.le_of_ble_eq_true rfl) (Nat.le_refl _) (by show 0 + A.slots.size ≤ A.slots.size; omega) (g := (mkF m 6 #[.val (.ref a), .val (.ref b)] [.null, .int (Int32.ofNat A.slots.size), .int (Int32.ofNat 0), .ref b, .ref a])) rfl (by rw [hml]; rfl) c2 (argsL := [.ref b, .int (Int32.ofNat 0), .int (Int32.ofNat A.slots.size), .null]) (rest := []) rfl rfl (by show 2 * 0 + 0 ≤ _; decide) (hb hbytes d6) (⟨rfl, hB.mv X0.warmed.alike hh0, f1.al X0.warmed.alike, f2.al X0.warmed.alike, hA.mv X0.warmed.alike hh0, s1.there X0.warmed.alike hh0, hz, l0, by omega, l2, fun i hi => by rw [Nat.zero_add]; exact hp i hi⟩)
  have e0 := Got.mv _ s₁ s _ _ hh0.symm (Vm.Alike.refl _) rfl E3
  obtain rfl := e0.1
  have c4 : Steps p.tables e below (s₁.setTop (entryFrame m #[.ref a, .ref b] 2)) (T3.setTop (mkF m 9 #[.val (.ref a), .val (.ref b)] [])) := g3
  exact ⟨T3, none, _, _, _, X3, by simp, rfl, by omega, (fun _ => rfl), e0, fun fs hl => c4.trans (X3.returnOut hexec hret (hb hbytes d9) hl)⟩
theorem pays {l : Launch} {R : Room} {p : Program} {e : Env} {below : List Frame} {s : State} {sargs : Array Value} {len W : Nat} (a : Addr) (D : Cell) (fV fC : Field) (b : Addr) (A : Cell) (z : Int32) (htab : tab.before sargs s = true) (hfr : 4 ≤ R.frames) (hlo : W + 65 ≤ R.locals) :
    Back l R p e below s sargs yN len W (fun A₁ a₁ => A₁.cells + 1 ≤ R.cells ∧ A₁.slots + A.slots.size ≤ R.slots ∧ P a D fV fC b A z a₁ A₁.U) (fun A₁ _ v₁ B₁ => E a D fV fC A v₁ A₁.U B₁.U ∧ B₁.locs = A₁.locs ++ [⟨a, fC.slot⟩, ⟨a, fV.slot⟩] ∧ B₁.cells = A₁.cells + 1 ∧ B₁.slots = A₁.slots + A.slots.size) :=
  (law l a D fV fC b A z).pays htab hfr (by omega)
end New1
/-- the byte, read back as charAt reads it, is the char -/
theorem lo8_mask {x : Int32} (h0 : ¬ x < 0) (h1 : ¬ 255 < x) : lo8 x &&& 255 = x := by
  have t : ∀ k : Fin 256, lo8 (Int32.ofNat k.val) &&& 255 = Int32.ofNat k.val := by decide +kernel
  rw [Int32.lt_iff_toInt_lt] at h0 h1
  have e0 : (0 : Int32).toInt = 0 := rfl
  have e1 : (255 : Int32).toInt = 255 := rfl
  obtain ⟨k, hk⟩ : ∃ k : Nat, x.toInt = k := ⟨x.toInt.toNat, by omega⟩
  have hx : x = Int32.ofNat k := Int32.toInt_inj.mp (by rw [hk, Int32.toInt_ofNat_small (by omega)])
  rw [hx]
  exact t ⟨k, by omega⟩
end StrChars
namespace StrChars.Road
open Jvm Sem ClassFile Op Lib Jvm.Stand Jvm.Free Jvm.Free.XT
open Jvm.Lib.Cold (StaticIs)
abbrev ST : String := "java/lang/String"
/-- every table word that New1's law asks, flat -/
abbrev words : List Jvm.Cond := [.code New1.yN New1.yB 2 none, .initialized ST, .methodLink ST 27 New4.yN, .instanceMethod New4.yN,
  .code New4.yN New4.yB 6 none, .fieldLink ST 38 ST "COMPACT_STRINGS" "Z", .laysFinal ST ST "value" "[B", .fieldLink ST 9 ST "value" "[B", .laysFinal ST ST "coder" "B", .fieldLink ST 15 ST "coder" "B",
  .methodLink ST 1 Lib.objectInit, .instanceMethod Lib.objectInit, .code Lib.objectInit ⟨#[0xb1]⟩ 1 none, .methodLink ST 177 Cmp3.yN, .static Cmp3.yN, .methodLink ST 47 CodL.yN, .static CodL.yN,
  .code Cmp3.yN Cmp3.yB 6 (some (.array .byte)), .initialized U16, .arrayClass .byte, .methodLink U16 115 Cmp5.yN, .static Cmp5.yN, .code Cmp5.yN Cmp5.yB 7 (some .int), .code CodL.yN CodL.yB 2 (some .byte)]
theorem tab_of {a : Array Value} {s : State} (h : ∀ w ∈ words, w.before a s = true) : New1.tab.before a s = true := by
  have h5 : Cmp5.tab.before a s = true := unparts (wk h (.code Cmp5.yN Cmp5.yB 7 (some .int))) (wks h (.initialized Cmp5.yN.cls :: Cmp5.site))
  have hc : CodL.tab.before a s = true := unparts (wk h (.code CodL.yN CodL.yB 2 (some .byte))) (wks h (.initialized CodL.yN.cls :: CodL.site))
  have q5 : ∀ w ∈ Cmp5.tab :: words, w.before a s = true := fun w hw => (List.mem_cons.mp hw).elim (fun e => e ▸ h5) (h w)
  have h3 : Cmp3.tab.before a s = true := unparts (wk q5 (.code Cmp3.yN Cmp3.yB 6 (some (.array .byte)))) (wks q5 (.initialized Cmp3.yN.cls :: Cmp3.site))
  have q3 : ∀ w ∈ Cmp3.tab :: CodL.tab :: words, w.before a s = true := fun w hw => (List.mem_cons.mp hw).elim (fun e => e ▸ h3) fun hw => (List.mem_cons.mp hw).elim (fun e => e ▸ hc) (h w)
  have h4 : New4.tab.before a s = true := unparts (wk q3 (.code New4.yN New4.yB 6 none)) (wks q3 (.initialized New4.yN.cls :: New4.site))
  have q4 : ∀ w ∈ New4.tab :: words, w.before a s = true := fun w hw => (List.mem_cons.mp hw).elim (fun e => e ▸ h4) (h w)
  exact unparts (wk q4 (.code New1.yN New1.yB 2 none)) (wks q4 (.initialized New1.yN.cls :: New1.site))
/-- the words ride from the start Z to the walk's own state -/
theorem moved {Z s : State} {a0 args : Array Value} (hZ : Z.Warmed39 s.vm) (hw : ∀ d ∈ words, d.before a0 Z = true) : ∀ d ∈ words, d.before args s = true := fun d hd => by
  have q := hw d hd
  have t : ∀ d ∈ words, d = .arrayClass .byte ∨ (d.onTables && d.keepsFace) = true := by decide +kernel
  rcases t d hd with rfl | t
  · exact RoadKit.mvA hZ q
  · exact RoadKit.mv hZ q t
/-- WHAT COMES BACK, over the tables of the start Z: h the heap at the call, h' behind it -/
def Q (Z : State) (x : Addr) (A : Cell) (h : Heap) (v : Option Value) (h' : Heap) (L : List Loc) : Prop := v = none ∧ (∀ y ∈ L, y.base = x) ∧ RoadKit.Keep h h' [x] ∧ h'.size = h.size + 1 ∧ RoadKit.Exa Z h' x ST ∧ RoadKit.Fld Z h' x ST "value" "[B" (.ref h.size) ∧ RoadKit.Fld Z h' x ST "coder" "B" (.int 0) ∧
  (∃ V : Cell, RoadKit.Arr Z h' h.size V .byte ∧ V.vm = .none ∧ Z.vm.findClass "[B" = some V.cls ∧ V.slots.size = A.slots.size ∧ ∀ j, j < A.slots.size → V.slots[j]? = some (.int (lo8 (cv A j)))) ∧
  ∀ (O n d : String) (w : Value), RoadKit.Fld Z h x O n d w → RoadKit.slotOf Z O n d ≠ RoadKit.slotOf Z ST "value" "[B" → RoadKit.slotOf Z O n d ≠ RoadKit.slotOf Z ST "coder" "B" → RoadKit.Fld Z h' x O n d w
/-- **new String(chars) AT A CALL, IN THE ROAD'S FORM**: for specialBack behind newO: x the fresh String, b the char[] with the cell A -/
theorem back {p : Program} {l : Launch} {e : Env} {R : Room} {s : State} {args : Array Value} {below : List Frame} {len W : Nat} {Z : State} {a0 : Array Value} {h : Heap} (hZ : Z.Warmed39 s.vm) (hw : ∀ d ∈ words, d.before a0 Z = true) {kI : Nat} (wi : (Jvm.Cond.instantiable ST kI).before a0 Z = true)
    {x b : Addr} {A : Cell} {z : Int32} {v0 c0 : Value} (E : RoadKit.Exa Z h x ST) (V : RoadKit.Fld Z h x ST "value" "[B" v0) (C : RoadKit.Fld Z h x ST "coder" "B" c0) (K : RoadKit.Arr Z h b A .char) (hty : Typed .char A) (S : RoadKit.Sta Z h ST "COMPACT_STRINGS" "Z" (.int z)) (hz : ¬ z = 0)
    (l0 : 0 < A.slots.size) (l2 : A.slots.size ≤ 536870912) (hp : ∀ i, i < A.slots.size → ¬ 255 < cv A i) (hfr : 4 ≤ R.frames) (hlo : W + 65 ≤ R.locals) :
    Back l R p e below s args New1.yN len W (fun P a => a = #[.ref x, .ref b] ∧ P.U.heap = h ∧ P.cells + 1 ≤ R.cells ∧ P.slots + A.slots.size ≤ R.slots)
      (fun P _ v B => ∃ L, Q Z x A h v B.U.heap L ∧ B.locs = P.locs ++ L ∧ B.cells = P.cells + 1 ∧ B.slots = P.slots + A.slots.size) := by
  intro m meth c P g ig mk a X hg hsize hdg hW hn hp'
  obtain ⟨rfl, rfl, r1, r2⟩ := hp'
  have al : Z.vm.Alike P.U.vm := hZ.alike.trans X.warmed.alike
  obtain ⟨D, cfV, kV, iV, fV, hD, gV, stV, knV, obV, asV, slV⟩ := id V
  obtain ⟨D', cfC, kC, iC, fC, hD', gC, stC, -, -, asC, slC⟩ := id C
  cases hD.symm.trans hD'
  obtain ⟨D2, kD, e1, e2, e3, e4, e5⟩ := id E
  cases hD.symm.trans e1
  obtain ⟨c2, k2, i1, i2, i3, -⟩ := Cond.instantiable_spec wi
  cases e2.symm.trans i1
  cases e3.symm.trans i2
  obtain ⟨kU, u1, u2⟩ := al.2.2 _ _ e3
  have hB : Blank ST x D P.U := ⟨hD, ⟨knV, fun q hq => by rw [hq] at obV; cases obV⟩, by rw [al.findClass]; exact e2, kU, u1, by rw [u2]; exact i3, by rw [u2]; exact e5 i3⟩
  have F1 : Found ST "value" "[B" fV P.U := ⟨SBG.found_only al ⟨cfV, kV, iV, gV⟩, stV⟩
  have F2 : Found ST "coder" "B" fC P.U := ⟨SBG.found_only al ⟨cfC, kC, iC, gC⟩, stC⟩
  have hA : Ch b A P.U := ⟨⟨K.1, State.isArrayOf_alike al K.2.1, K.2.2, by omega⟩, hty⟩
  have hS : StaticIs P.U ST "COMPACT_STRINGS" "Z" (.int z) := by
    obtain ⟨cfS, iS, kS, fS, st, cS, t1, t2, t3, t4, t5, t6, t7⟩ := S
    exact StaticIs.there (s := { Z with heap := P.U.heap }) ⟨cfS, iS, kS, fS, st, cS, t1, t2, t3, t4, t5, (fun q => by rw [q] at t6; cases t6), t7⟩ al rfl
  obtain ⟨v, B, X', ⟨⟨hv, E', V', q1, q2, q3, q4, q5, q6, q7, q8, q9, q10, q11⟩, hl, hc, hs⟩, st⟩ := New1.pays x D fV fC b A z (tab_of (moved hZ hw)) hfr hlo m meth c P g ig mk _ X hg hsize hdg hW hn ⟨r1, r2, rfl, hB, F1, F2, hA, hS, hz, l0, l2, hp⟩
  have al' : Z.vm.Alike B.U.vm := hZ.alike.trans X'.warmed.alike
  have hsz : E'.slots.size = D.slots.size := by
    obtain ⟨-, -, -, kB, w1, w2, w3⟩ := q1
    obtain ⟨kB', y1, y2⟩ := al'.2.2 _ _ e3
    rw [q2.2.1] at w1
    cases w1.symm.trans y1
    rw [w3, e5 i3, y2]
  refine ⟨v, B, X', ⟨_, ⟨hv, ?_, ⟨by omega, fun y cy hy hn' => q10 y cy (by simpa using hn') hy, fun y cy hy => ?_⟩, q11, ⟨E', _, q1.1, by rw [q2.2.1]; exact e2, by rw [q2.2.1]; exact e3, by rw [q2.1]; exact obV, fun _ => by rw [hsz]; exact e5 i3⟩,
    ⟨E', cfV, kV, iV, fV, q1.1, gV, stV, by rw [q2.1]; exact knV, by rw [q2.1]; exact obV, by rw [q2.2.1]; exact asV, q3⟩, ⟨E', cfC, kC, iC, fC, q1.1, gC, stC, by rw [q2.1]; exact knV, by rw [q2.1]; exact obV, by rw [q2.2.1]; exact asC, q4⟩,
    ⟨V', ⟨q5.1, State.isArrayOf_alike al'.symm q5.2.1, q5.2.2.1⟩, q6, by rw [← al'.findClass]; exact q7, q8, fun j hj => by have := q9 j hj; rwa [Nat.zero_add] at this⟩, fun O n d w F n1 n2 => ?_⟩, hl, hc, hs⟩, st⟩
  · intro y hy
    simp only [List.mem_cons, List.not_mem_nil, or_false] at hy
    rcases hy with rfl | rfl <;> rfl
  · by_cases q : y = x
    · subst q
      cases hD.symm.trans hy
      exact ⟨E', q1.1, q2.2.1, q2.1, hsz⟩
    · exact ⟨cy, q10 y cy q hy, rfl, rfl, rfl⟩
  · obtain ⟨D3, cf, k, i, f, g1, g2, g3, g4, g5, g6, g7⟩ := F
    cases hD.symm.trans g1
    simp only [RoadKit.slotOf, g2, gV, gC, Option.map_some, Option.getD_some] at n1 n2
    exact ⟨E', cf, k, i, f, q1.1, g2, g3, by rw [q2.1]; exact g4, by rw [q2.1]; exact g5, by rw [q2.2.1]; exact g6, by rw [q2.2.2 f.slot (by simp [n1, n2])]; exact g7⟩
end StrChars.Road
namespace StrChars.Road
open Jvm Sem ClassFile Op Lib Jvm.Stand Jvm.Free Jvm.Free.XT
/-- WHAT COMES BACK, the byte[] as a list of values -/
def QA (Z : State) (x : Addr) (zn : Int32) (cs : List Int32) (h : Heap) (v : Option Value) (h' : Heap) (L : List Loc) : Prop := v = none ∧ (∀ y ∈ L, y.base = x) ∧ RoadKit.Keep h h' [x] ∧ h'.size = h.size + 1 ∧ RoadKit.Exa Z h' x ST ∧ RoadKit.Fld Z h' x ST "value" "[B" (.ref h.size) ∧ RoadKit.Fld Z h' x ST "coder" "B" (.int 0) ∧
  (∃ kb, Z.vm.findClass "[B" = some kb ∧ RoadKit.Arv Z h' h.size kb .byte zn (cs.map fun c => .int (lo8 c)) (.int 0)) ∧
  ∀ (O n d : String) (w : Value), RoadKit.Fld Z h x O n d w → RoadKit.slotOf Z O n d ≠ RoadKit.slotOf Z ST "value" "[B" → RoadKit.slotOf Z O n d ≠ RoadKit.slotOf Z ST "coder" "B" → RoadKit.Fld Z h' x O n d w
/-- **new String(chars) AT A CALL, THE ARRAYS AS LISTS**: the char[] at b holds cs, not empty, no char above 255 -/
theorem backArv {p : Program} {l : Launch} {e : Env} {R : Room} {s : State} {args : Array Value} {below : List Frame} {len W : Nat} {Z : State} {a0 : Array Value} {h : Heap} (hZ : Z.Warmed39 s.vm) (hw : ∀ d ∈ words, d.before a0 Z = true) {kI : Nat} (wi : (Jvm.Cond.instantiable ST kI).before a0 Z = true)
    {x b : Addr} {k : ClassId} {zn z : Int32} {cs : List Int32} {dv v0 c0 : Value} (E : RoadKit.Exa Z h x ST) (V : RoadKit.Fld Z h x ST "value" "[B" v0) (C : RoadKit.Fld Z h x ST "coder" "B" c0) (K : RoadKit.Arv Z h b k .char zn (cs.map Value.int) dv) (S : RoadKit.Sta Z h ST "COMPACT_STRINGS" "Z" (.int z)) (hz : ¬ z = 0)
    (hlen : zn.toNatClampNeg = cs.length) (h0 : 0 < cs.length) (hbig : cs.length ≤ 536870912) (hall : ∀ c ∈ cs, ¬ 255 < c) (hfr : 4 ≤ R.frames) (hlo : W + 65 ≤ R.locals) :
    Back l R p e below s args New1.yN len W (fun P a => a = #[.ref x, .ref b] ∧ P.U.heap = h ∧ P.cells + 1 ≤ R.cells ∧ P.slots + cs.length ≤ R.slots)
      (fun P _ v B => ∃ L, QA Z x zn cs h v B.U.heap L ∧ B.locs = P.locs ++ L ∧ B.cells = P.cells + 1 ∧ B.slots = P.slots + cs.length) := by
  obtain ⟨A, K1, K2, K3, K4, K5, K6⟩ := K
  have e : A.slots.size = cs.length := K3.trans hlen
  have hat : ∀ (i : Nat) (hi : i < cs.length), A.slots[i]? = some (.int cs[i]) := fun i hi => by rw [K5 i (by omega)]; simp [List.getD_eq_getElem?_getD, hi]
  have hcv : ∀ (i : Nat) (hi : i < cs.length), cv A i = cs[i] := fun i hi => by unfold cv; rw [hat i hi]
  have hty : Typed .char A := fun i v hv => by
    have hi : i < A.slots.size := (Array.getElem?_eq_some_iff.mp hv).1
    have q := K5 i hi
    rw [hv] at q
    rw [Option.some.inj q]
    exact K6 i hi
  refine Back.mono (back hZ hw wi E V C K1 hty S hz (by omega) (by omega) (fun i hi => by rw [hcv i (by omega)]; exact hall _ (List.getElem_mem _)) hfr hlo) (fun P a hp => ⟨hp.1, hp.2.1, hp.2.2.1, by rw [e]; exact hp.2.2.2⟩) (fun P a v B hp hq => ?_)
  obtain ⟨L, ⟨q1, q2, q3, q4, q5, q6, q7, ⟨V', v1, v2, v3, v4, v5⟩, q9⟩, hl, hc, hs⟩ := hq
  refine ⟨L, ⟨q1, q2, q3, q4, q5, q6, q7, ⟨V'.cls, v3, V', v1, rfl, by rw [v4, e, hlen], K4, fun i hi => ?_, fun i hi => ?_⟩, q9⟩, hl, hc, by rw [hs, e]⟩
  · have hi' : i < cs.length := by omega
    rw [v5 i (by omega), hcv i hi']; simp [List.getD_eq_getElem?_getD, hi']
  · have hi' : i < cs.length := by omega
    simp only [List.getD_eq_getElem?_getD, List.getElem?_map, List.getElem?_eq_getElem hi', Option.map_some, Option.getD_some]
    exact fits_lo8 _
end StrChars.Road
namespace StrChars.Road
open Jvm Sem ClassFile Op Lib Jvm.Stand Jvm.Free Jvm.Free.XT
/-- WHAT COMES BACK, in the writer's own shape -/
def QV (Z : State) (x : Addr) (N : Int32) (bs : List Int32) (h : Heap) (n0 : Nat) (v : Option Value) (h' : Heap) (L : List Loc) : Prop := v = none ∧ RoadKit.Fr n0 L ∧ RoadKit.Keep h h' [x] ∧ RoadKit.Exa Z h' x ST ∧ RoadKit.Fld Z h' x ST "coder" "B" (.int 0) ∧
  ∃ (t : Addr) (kb : ClassId), n0 ≤ t ∧ h.size ≤ t ∧ ¬ t = x ∧ RoadKit.Fld Z h' x ST "value" "[B" (.ref t) ∧ RoadKit.Arv Z h' t kb .byte N (bs.map Value.int) (.int 0)
/-- **new String(chars) AT A CALL, FOR THE WRITER**: a char[] of n known ints, each 0 to 255 -/
theorem backV {p : Program} {l : Launch} {e : Env} {R : Room} {s : State} {args : Array Value} {below : List Frame} {len W : Nat} {Z : State} {a0 : Array Value} {h : Heap} (hZ : Z.Warmed39 s.vm) (hw : ∀ d ∈ words, d.before a0 Z = true) {kI : Nat} (wi : (Jvm.Cond.instantiable ST kI).before a0 Z = true)
    {x b : Addr} {kC : ClassId} {cs bs : List Int32} {d v0 c0 : Value} {z N : Int32} {n n0 : Nat} (hx0 : n0 ≤ x) (hh0 : n0 ≤ h.size) (E : RoadKit.Exa Z h x ST) (V : RoadKit.Fld Z h x ST "value" "[B" v0) (C : RoadKit.Fld Z h x ST "coder" "B" c0) (K : RoadKit.Arv Z h b kC .char N (cs.map Value.int) d) (S : RoadKit.Sta Z h ST "COMPACT_STRINGS" "Z" (.int z)) (hz : ¬ z = 0)
    (hn : cs.length = n) (hN : N = Int32.ofNat n) (l0 : 0 < n) (l2 : n ≤ 4000) (hp : ∀ c ∈ cs, ¬ c < 0 ∧ ¬ (255 : Int32) < c) (hb : bs = cs.map (fun c => c.toInt8.toInt32)) (hfr : 4 ≤ R.frames) (hlo : W + 65 ≤ R.locals) :
    Back l R p e below s args (⟨"java/lang/String", "<init>", "([C)V"⟩ : MethodName) len W (fun P a => a = #[.ref x, .ref b] ∧ P.U.heap = h ∧ P.cells + 1 ≤ R.cells ∧ P.slots + n ≤ R.slots)
      (fun P _ v B => ∃ L, QV Z x N bs h n0 v B.U.heap L ∧ B.locs = P.locs ++ L ∧ B.cells = P.cells + 1 ∧ B.slots = P.slots + n) := by
  subst hn hN hb
  refine Back.mono (backArv hZ hw wi E V C K S hz (n32 (by omega)) l0 (by omega) (fun c hc => (hp c hc).2) hfr hlo) (fun P a hp => hp) (fun P a v B hp hq => ?_)
  obtain ⟨L, ⟨q1, q2, q3, q4, q5, q6, q7, ⟨kb, v1, v2⟩, q9⟩, hl, hc, hs⟩ := hq
  exact ⟨L, ⟨q1, fun y hy => by rw [q2 y hy]; exact hx0, q3, q5, q7, h.size, kb, hh0, Nat.le_refl _, Nat.ne_of_gt E.lt, q6, by rw [List.map_map]; exact v2⟩, hl, hc, hs⟩
end StrChars.Road
namespace StrChars
open Jvm Sem ClassFile Op Lib Jvm.Stand Jvm.Free.XT Jvm.Free.ALB Jvm.Free.JM Jvm.Free
open Jvm.Lib.Cold (StaticIs)
def hi8 (x : Int32) : Int32 := lo8 (x >>> ((8 : Int32) &&& 31))
/-- what StringUTF16.getChar makes of two bytes -/
def pairCh (u v : Int32) : Int32 := (((u &&& 255) <<< ((0 : Int32) &&& 31)) ||| ((v &&& 255) <<< ((8 : Int32) &&& 31))).toUInt32.toUInt16.toUInt32.toInt32
theorem shr0 (c : Int32) : c >>> ((0 : Int32) &&& 31) = c := by
  have e : ((0 : Int32) &&& 31) = 0 := by decide
  rw [e]
  apply Int32.toBitVec_inj.mp
  rw [Int32.toBitVec_shiftRight]
  have e1 : ((0 : Int32).toBitVec.smod 32) = 0#32 := by decide
  rw [e1, BitVec.sshiftRight_eq']
  exact BitVec.sshiftRight_zero
theorem lo8_and (x : Int32) : (lo8 x &&& 255).toBitVec.toNat = x.toBitVec.toNat % 256 := by
  have h : (lo8 x).toBitVec = (x.toBitVec.signExtend 8).signExtend 32 := by rw [lo8, Int8.toBitVec_toInt32, Int32.toBitVec_toInt8]
  rw [Int32.toBitVec_and, BitVec.toNat_and, h]
  have e : ((x.toBitVec.signExtend 8).signExtend 32).toNat % 256 = x.toBitVec.toNat % 256 := by
    rw [BitVec.toNat_signExtend]
    have hlt := x.toBitVec.isLt
    simp only [BitVec.toNat_setWidth, BitVec.toNat_signExtend]
    split <;> split <;> omega
  rw [← e]
  exact Nat.and_two_pow_sub_one_eq_mod _ 8
theorem pair_says {c : Int32} (h0 : ¬ c < 0) (h1 : ¬ 65535 < c) : pairCh (lo8 c) (hi8 c) = c := by
  rw [Int32.lt_iff_toInt_lt] at h0 h1
  have e0 : (0 : Int32).toInt = 0 := rfl
  have e1 : (65535 : Int32).toInt = 65535 := rfl
  have hc : c.toInt = c.toBitVec.toNat := by
    have := c.toBitVec.isLt
    have e : c.toInt = c.toBitVec.toInt := rfl
    rw [e] at h0 h1
    rw [e]
    rw [BitVec.toInt_eq_toNat_cond] at h0 h1 ⊢
    split at h0 <;> split <;> omega
  have hn : c.toBitVec.toNat < 65536 := by omega
  have a1 := lo8_and c
  have a2 : (hi8 c &&& 255).toBitVec.toNat = c.toBitVec.toNat / 256 := by
    rw [hi8, lo8_and]
    have e : ((8 : Int32) &&& 31) = 8 := by decide
    rw [e, Int32.toBitVec_shiftRight]
    have e2 : ((8 : Int32).toBitVec.smod 32) = 8#32 := by decide
    rw [e2, BitVec.sshiftRight_eq', BitVec.toNat_sshiftRight_of_msb_false (by rw [BitVec.msb_eq_false_iff_two_mul_lt]; omega)]
    show c.toBitVec.toNat >>> 8 % 256 = _
    rw [Nat.shiftRight_eq_div_pow]
    omega
  unfold pairCh
  apply Int32.toBitVec_inj.mp
  apply BitVec.eq_of_toNat_eq
  have f0 : ((0 : Int32) &&& 31) = 0 := by decide
  have f8 : ((8 : Int32) &&& 31) = 8 := by decide
  rw [f0, f8]
  have g : (((lo8 c &&& 255) <<< (0 : Int32)) ||| ((hi8 c &&& 255) <<< (8 : Int32))).toBitVec.toNat = c.toBitVec.toNat := by
    rw [Int32.toBitVec_or, Int32.toBitVec_shiftLeft, Int32.toBitVec_shiftLeft]
    have s0 : ((0 : Int32).toBitVec.smod 32) = 0#32 := by decide
    have s8 : ((8 : Int32).toBitVec.smod 32) = 8#32 := by decide
    rw [s0, s8, BitVec.toNat_or]
    simp only [BitVec.shiftLeft_eq', BitVec.toNat_shiftLeft, a1, a2]
    show (c.toBitVec.toNat % 256) <<< 0 % 2 ^ 32 ||| (c.toBitVec.toNat / 256) <<< 8 % 2 ^ 32 = _
    rw [Nat.shiftLeft_zero, Nat.mod_eq_of_lt (show c.toBitVec.toNat % 256 < 2 ^ 32 by omega), Nat.mod_eq_of_lt (show (c.toBitVec.toNat / 256) <<< 8 < 2 ^ 32 by rw [Nat.shiftLeft_eq]; omega), Nat.or_comm, ← Nat.shiftLeft_add_eq_or_of_lt (by omega), Nat.shiftLeft_eq]
    omega
  show BitVec.toNat (((((lo8 c &&& 255) <<< (0 : Int32)) ||| ((hi8 c &&& 255) <<< (8 : Int32))).toBitVec.setWidth 16).setWidth 32) = _
  rw [BitVec.toNat_setWidth, BitVec.toNat_setWidth, g]
  omega
end StrChars
namespace StrChars
open Jvm Sem ClassFile Op Lib Jvm.Stand Jvm.Free.XT Jvm.Free.ALB Jvm.Free.JM Jvm.Free
open Jvm.Lib.Cold (StaticIs)
theorem shr1 {n : Nat} (h : 2 * n < 2 ^ 31) : Int32.ofNat (2 * n) >>> ((1 : Int32) &&& 31) = Int32.ofNat n := by
  have e : ((1 : Int32) &&& 31) = 1 := by decide
  rw [e]
  apply Int32.toBitVec_inj.mp
  rw [Int32.toBitVec_shiftRight]
  have e1 : ((1 : Int32).toBitVec.smod 32) = 1#32 := by decide
  have hm : (BitVec.ofNat 32 (2 * n)).toNat = 2 * n := by rw [BitVec.toNat_ofNat, Nat.mod_eq_of_lt (by omega)]
  rw [e1, BitVec.sshiftRight_eq']
  apply BitVec.eq_of_toNat_eq
  show ((BitVec.ofNat 32 (2 * n)).sshiftRight 1).toNat = (BitVec.ofNat 32 n).toNat
  rw [BitVec.toNat_sshiftRight_of_msb_false (by rw [BitVec.msb_eq_false_iff_two_mul_lt, hm]; omega), hm, BitVec.toNat_ofNat, Nat.shiftRight_eq_div_pow]
  omega
theorem narrow_ch {c : Int32} (h0 : ¬ c < 0) (h1 : ¬ 65535 < c) : narrow .char (.int c) = .int c := by
  have q : narrow .char (.int (pairCh (lo8 c) (hi8 c))) = .int (pairCh (lo8 c) (hi8 c)) := narrow_c _
  rwa [pair_says h0 h1] at q
/-- the array's cell V codes the n chars f 0 .. f (n - 1) by the coder cd, as the JDK does: coder 1 just where some char is above 255 -/
def Cod (cd : Int32) (n : Nat) (f : Nat → Int32) (V : Cell) : Prop := (cd = 0 ∧ V.slots.size = n ∧ ∀ j, j < n → V.slots[j]? = some (.int (lo8 (f j))) ∧ ¬ 255 < f j) ∨ (cd = 1 ∧ V.slots.size = 2 * n ∧ (∀ j, j < n → V.slots[2 * j]? = some (.int (lo8 (f j))) ∧ V.slots[2 * j + 1]? = some (.int (hi8 (f j)))) ∧ ∃ j, j < n ∧ 255 < f j)
theorem Cod.cd {cd : Int32} {n : Nat} {f : Nat → Int32} {V : Cell} (h : Cod cd n f V) : cd = 0 ∨ cd = 1 := h.imp (fun q => q.1) fun q => q.1
theorem Cod.len {cd : Int32} {n : Nat} {f : Nat → Int32} {V : Cell} (h : Cod cd n f V) (hs : V.slots.size < 2 ^ 31) : Int32.ofNat V.slots.size >>> (cd &&& 31) = Int32.ofNat n := by
  rcases h with ⟨rfl, h, -⟩ | ⟨rfl, h, -⟩
  · rw [shr0, h]
  · rw [h, shr1 (by omega)]
/-- **x is a String of the n chars f 0 .. f (n - 1)**, Latin-1 or UTF-16; its array at t has the cell V -/
def Txt (x t : Addr) (V : Cell) (cd : Int32) (n : Nat) (f : Nat → Int32) (U : State) : Prop := Exact "java/lang/String" x U ∧ Has x "java/lang/String" "value" "[B" (.ref t) U ∧ Has x "java/lang/String" "coder" "B" (.int cd) U ∧ XT.Arr .byte t V U ∧ Cod cd n f V ∧ ∀ j, j < n → ¬ f j < 0 ∧ ¬ 65535 < f j
theorem Txt.mv {x t : Addr} {V : Cell} {cd : Int32} {n : Nat} {f : Nat → Int32} {U U' : State} (h : Txt x t V cd n f U) (hal : U.vm.Alike U'.vm) (hh : U'.heap = U.heap) : Txt x t V cd n f U' := ⟨h.1.mv hal hh, h.2.1.mv hal hh, h.2.2.1.mv hal hh, h.2.2.2.1.mv hal hh, h.2.2.2.2⟩
namespace Cdr
def yN : MethodName := ⟨"java/lang/String", "coder", "()B"⟩
abbrev yB : ByteArray := jdk_42_method_152_code
theorem d0 : decode yB 0 = .ok (.getstatic 38, 3) := by decide +kernel
theorem d3 : decode yB 3 = .ok (.ifCond (.eq) 10, 3) := by decide +kernel
theorem d6 : decode yB 6 = .ok (.aload_n 0, 1) := by decide +kernel
theorem d7 : decode yB 7 = .ok (.getfield 15, 3) := by decide +kernel
theorem d10 : decode yB 10 = .ok (.goto 4, 3) := by decide +kernel
theorem d14 : decode yB 14 = .ok (.ireturn, 1) := by decide +kernel
def site : List Cond := [.fieldLink "java/lang/String" 38 "java/lang/String" "COMPACT_STRINGS" "Z", .fieldLink "java/lang/String" 15 "java/lang/String" "coder" "B"]
def tab : Cond := tabOf yN yB 1 (some .byte) site
def P (x : Addr) (cd z : Int32) (args : Array Value) (s : State) : Prop := args = #[.ref x] ∧ Has x "java/lang/String" "coder" "B" (.int cd) s ∧ (cd = 0 ∨ cd = 1) ∧ StaticIs s "java/lang/String" "COMPACT_STRINGS" "Z" (.int z) ∧ ¬ z = 0
def E (cd : Int32) (r : Option Value) (s u : State) : Prop := XT.PureE (some (.int cd)) r s u
theorem law (l : Launch) (x : Addr) (cd z : Int32) : Law l yN 1 0 0 0 yB 1 (some .byte) site (P x cd z) (E cd) [] 0 0 := by
  refine Law.of_walk (plainFor_of_name (by decide +kernel)) (by decide +kernel) (by decide +kernel) (by decide) (fun _ _ h => by rw [h.1]; rfl) (fun _ U U' hal hh h => ⟨h.1, h.2.1.mv hal hh, h.2.2.1, h.2.2.2.1.there hal hh, h.2.2.2.2⟩) (fun r U U' V V' h1 hal h2 h => XT.PureE.mv r U U' V V' h1 hal h2 h) ?_
  intro p e s m args below meth c s₁ X0 hexec hbytes hml hret hlk hnm hown hh0 W hP
  obtain ⟨rfl, hx, hc, s1, hz⟩ := hP
  have c1 : Steps p.tables e below (s₁.setTop (entryFrame m #[.ref x] 1)) (s₁.setTop (mkF m 0 #[.val (.ref x)] [])) := entry rfl
  obtain ⟨T2, X2, q2, st2⟩ := X0.sget hexec hown (wk W (.fieldLink "java/lang/String" 38 "java/lang/String" "COMPACT_STRINGS" "Z")) s1 (fun _ _ h => by rw [hh0]; exact h) (g := (mkF m 0 #[.val (.ref x)] [])) rfl (hb hbytes d0)
  have hh2 := q2.trans hh0
  have c3 : Steps p.tables e below (s₁.setTop (entryFrame m #[.ref x] 1)) (T2.setTop (mkF m 7 #[.val (.ref x)] [.ref x])) := (c1.trans (st2 _ (Steps.refl _))).trans (by
    refine XS.ifNo X2.here hexec rfl (hb hbytes d3) rfl (i0_eq_f hz) ?_
    refine XS.aloadN X2.here hexec rfl (hb hbytes d6) rfl rfl ?_
    exact Steps.refl _)
  obtain ⟨T4, X4, q4, st4⟩ := X2.hget hexec hown (wk W (.fieldLink "java/lang/String" 15 "java/lang/String" "coder" "B")) (hx.mv X2.warmed.alike hh2) (g := (mkF m 7 #[.val (.ref x)] [.ref x])) rfl (rest := []) rfl (hb hbytes d7)
  have c5 : Steps p.tables e below (s₁.setTop (entryFrame m #[.ref x] 1)) (T4.setTop (mkF m 14 #[.val (.ref x)] [.int cd])) := (c3.trans (st4 _ (Steps.refl _))).trans (by
    refine XS.goto X4.here hexec rfl (pc0 := 10) rfl (hb hbytes d10) (by decide) rfl ?_
    exact Steps.refl _)
  exact ⟨T4, some (.int cd), _, _, _, X4, rfl, rfl, rfl, (fun h => by cases h), ⟨rfl, q4.trans hh2⟩, fun fs hl => c5.trans (X4.ireturnOut hexec hret (by rcases hc with rfl | rfl <;> rfl) (Or.inr (Or.inr (Or.inl rfl))) (hb hbytes d14) hl)⟩
end Cdr
namespace Len
def yN : MethodName := ⟨"java/lang/String", "length", "()I"⟩
abbrev yB : ByteArray := jdk_42_method_54_code
theorem d0 : decode yB 0 = .ok (.aload_n 0, 1) := by decide +kernel
theorem d1 : decode yB 1 = .ok (.getfield 9, 3) := by decide +kernel
theorem d4 : decode yB 4 = .ok (.arraylength, 1) := by decide +kernel
theorem d5 : decode yB 5 = .ok (.aload_n 0, 1) := by decide +kernel
theorem d6 : decode yB 6 = .ok (.invokevirtual 335, 3) := by decide +kernel
theorem d9 : decode yB 9 = .ok (.ishr, 1) := by decide +kernel
theorem d10 : decode yB 10 = .ok (.ireturn, 1) := by decide +kernel
def site : List Cond := [.fieldLink "java/lang/String" 9 "java/lang/String" "value" "[B", Cdr.tab] ++ virtW "java/lang/String" 335 "java/lang/String" Cdr.yN Cdr.yN
def tab : Cond := tabOf yN yB 1 (some .int) site
def P (x t : Addr) (V : Cell) (cd : Int32) (n : Nat) (f : Nat → Int32) (z : Int32) (args : Array Value) (s : State) : Prop := args = #[.ref x] ∧ Txt x t V cd n f s ∧ StaticIs s "java/lang/String" "COMPACT_STRINGS" "Z" (.int z) ∧ ¬ z = 0
def E (n : Nat) (r : Option Value) (s u : State) : Prop := XT.PureE (some (.int (Int32.ofNat n))) r s u
/-- length() of a String of n chars, in either coding -/
theorem law (l : Launch) (x t : Addr) (V : Cell) (cd : Int32) (n : Nat) (f : Nat → Int32) (z : Int32) : Law l yN 1 0 1 13 yB 1 (some .int) site (P x t V cd n f z) (E n) [] 0 0 := by
  refine Law.of_walk (plainFor_of_name (by decide +kernel)) (by decide +kernel) (by decide +kernel) (by decide) (fun _ _ h => by rw [h.1]; rfl) (fun _ U U' hal hh h => ⟨h.1, h.2.1.mv hal hh, h.2.2.1.there hal hh, h.2.2.2⟩) (fun r U U' V V' h1 hal h2 h => XT.PureE.mv r U U' V V' h1 hal h2 h) ?_
  intro p e s m args below meth c s₁ X0 hexec hbytes hml hret hlk hnm hown hh0 W hP
  obtain ⟨rfl, hx, s1, hz⟩ := hP
  have v31 := hx.2.2.2.1.2.2.2
  have c1 : Steps p.tables e below (s₁.setTop (entryFrame m #[.ref x] 1)) (s₁.setTop (mkF m 1 #[.val (.ref x)] [.ref x])) := Steps.trans (entry rfl) (by
    show Steps p.tables e below (s₁.setTop (mkF m 0 #[.val (.ref x)] [])) _
    refine XS.aloadN X0.here hexec rfl (hb hbytes d0) rfl rfl ?_
    exact Steps.refl _)
  obtain ⟨T2, X2, q2, st2⟩ := X0.hget hexec hown (wk W (.fieldLink "java/lang/String" 9 "java/lang/String" "value" "[B")) (hx.mv X0.warmed.alike hh0).2.1 (g := (mkF m 1 #[.val (.ref x)] [.ref x])) rfl (rest := []) rfl (hb hbytes d1)
  have hh2 := q2.trans hh0
  have hx2 := hx.mv X2.warmed.alike hh2
  have c3 : Steps p.tables e below (s₁.setTop (entryFrame m #[.ref x] 1)) (T2.setTop (mkF m 6 #[.val (.ref x)] [.ref x, .int (Int32.ofNat V.slots.size)])) := (c1.trans (st2 _ (Steps.refl _))).trans (by
    refine X2.alen hexec hx2.2.2.2.1 rfl rfl (hb hbytes d4) ?_
    refine XS.aloadN X2.here hexec rfl (hb hbytes d5) rfl rfl ?_
    exact Steps.refl _)
  obtain ⟨v4, T4, X4, E4, g4⟩ := X2.callV hexec (Cdr.law l x cd z) hown (wks W (virtW "java/lang/String" 335 "java/lang/String" Cdr.yN Cdr.yN)) rfl (by decide) (wk W Cdr.tab) (W := 1) (Nat.le_of_ble_eq_true rfl) (Nat.le_of_ble_eq_true rfl) (Nat.le_refl _) (Nat.le_refl _) (hx2.1.fc X2.warmed.alike) hx2.1.is (g := (mkF m 6 #[.val (.ref x)] [.ref x, .int (Int32.ofNat V.slots.size)])) rfl (by rw [hml]; rfl) c3 (argsL := []) (rest := [.int (Int32.ofNat V.slots.size)]) rfl rfl (by show 2 * 0 + (1 + 0) ≤ _; decide) (hb hbytes d6) (⟨rfl, hx2.2.2.1, hx.2.2.2.2.1.cd, s1.there X2.warmed.alike hh2, hz⟩)
  obtain ⟨rfl, q4⟩ := E4
  have c5 : Steps p.tables e below (s₁.setTop (entryFrame m #[.ref x] 1)) (T4.setTop (mkF m 10 #[.val (.ref x)] [.int (Int32.ofNat V.slots.size >>> (cd &&& 31))])) := Steps.trans g4 (by
    refine ishr X4.here hexec rfl (hb hbytes d9) rfl ?_
    exact Steps.refl _)
  rw [hx.2.2.2.2.1.len v31] at c5
  exact ⟨T4, some (.int (Int32.ofNat n)), _, _, _, X4, rfl, rfl, rfl, (fun h => by cases h), ⟨rfl, q4.trans hh2⟩, fun fs hl => c5.trans (X4.ireturnOut hexec hret rfl (Or.inl rfl) (hb hbytes d10) hl)⟩
theorem pays {l : Launch} {R : Room} {p : Program} {e : Env} {below : List Frame} {s : State} {sargs : Array Value} {len W : Nat} (x t : Addr) (V : Cell) (cd : Int32) (n : Nat) (f : Nat → Int32) (z : Int32) (htab : tab.before sargs s = true) (hfr : 2 ≤ R.frames) (hlo : W + 25 ≤ R.locals) :
    Back l R p e below s sargs yN len W (fun A₁ a₁ => A₁.cells + 0 ≤ R.cells ∧ A₁.slots + 0 ≤ R.slots ∧ P x t V cd n f z a₁ A₁.U) (fun A₁ _ v₁ B₁ => E n v₁ A₁.U B₁.U ∧ B₁.locs = A₁.locs ++ [] ∧ B₁.cells = A₁.cells + 0 ∧ B₁.slots = A₁.slots + 0) :=
  (law l x t V cd n f z).pays htab hfr (by omega)
end Len
end StrChars
namespace StrChars.Road
open Jvm Sem ClassFile Op Lib Jvm.Stand Jvm.Free Jvm.Free.XT
open Jvm.Lib.Cold (StaticIs)
theorem consq {a : Array Value} {s : State} {c : Jvm.Cond} {L : List Jvm.Cond} (h0 : c.before a s = true) (h : ∀ w ∈ L, w.before a s = true) : ∀ w ∈ c :: L, w.before a s = true := fun w hw => (List.mem_cons.mp hw).elim (fun e => e ▸ h0) (h w)
/-- the words of String.length(), either coding -/
abbrev wordsLen : List Jvm.Cond := [.code Len.yN Len.yB 1 (some .int), .initialized ST, .fieldLink ST 9 ST "value" "[B", .fieldLink ST 38 ST "COMPACT_STRINGS" "Z", .fieldLink ST 15 ST "coder" "B", .code Cdr.yN Cdr.yB 1 (some .byte), .methodLink ST 335 Cdr.yN, .declares Cdr.yN, .selects ST Cdr.yN Cdr.yN, .instanceMethod Cdr.yN]
theorem tabLen_of {a : Array Value} {s : State} (h : ∀ w ∈ wordsLen, w.before a s = true) : Len.tab.before a s = true := by
  have hc : Cdr.tab.before a s = true := unparts (wk h (.code Cdr.yN Cdr.yB 1 (some .byte))) (wks h (.initialized Cdr.yN.cls :: Cdr.site))
  have q := consq hc h
  exact unparts (wk q (.code Len.yN Len.yB 1 (some .int))) (wks q (.initialized Len.yN.cls :: Len.site))
theorem movedLen {Z s : State} {a0 args : Array Value} (hZ : Z.Warmed39 s.vm) (hw : ∀ d ∈ wordsLen, d.before a0 Z = true) : ∀ d ∈ wordsLen, d.before args s = true := fun d hd => by
  have q := hw d hd
  have t : ∀ d ∈ wordsLen, d = .arrayClass .byte ∨ (d.onTables && d.keepsFace) = true := by decide +kernel
  rcases t d hd with rfl | t
  · exact RoadKit.mvA hZ q
  · exact RoadKit.mv hZ q t
/-- the bytes of the chars cs, low before high -/
def wideBytes : List Int32 → List Value
  | [] => []
  | c :: cs => .int (lo8 c) :: .int (hi8 c) :: wideBytes cs
theorem wide_lo (d : Value) : ∀ (cs : List Int32) (j : Nat), j < cs.length → (wideBytes cs).getD (2 * j) d = .int (lo8 (cs.getD j 0))
  | [], j, h => absurd h (Nat.not_lt_zero j)
  | c :: cs, 0, _ => rfl
  | c :: cs, j + 1, h => by
    have q := wide_lo d cs j (by simpa using h)
    rw [show 2 * (j + 1) = 2 * j + 1 + 1 from by omega]
    simpa [wideBytes] using q
theorem wide_hi (d : Value) : ∀ (cs : List Int32) (j : Nat), j < cs.length → (wideBytes cs).getD (2 * j + 1) d = .int (hi8 (cs.getD j 0))
  | [], j, h => absurd h (Nat.not_lt_zero j)
  | c :: cs, 0, _ => rfl
  | c :: cs, j + 1, h => by
    have q := wide_hi d cs j (by simpa using h)
    rw [show 2 * (j + 1) + 1 = 2 * j + 1 + 1 + 1 from by omega]
    simpa [wideBytes] using q
theorem low_at (d : Value) (cs : List Int32) (j : Nat) (h : j < cs.length) : (cs.map fun c => Value.int (lo8 c)).getD j d = .int (lo8 (cs.getD j 0)) := by
  simp [List.getD_eq_getElem?_getD, h]
/-- an array of N2 bytes vs codes the chars cs by the coder cd -/
def CodA (cs : List Int32) (cd N2 : Int32) (vs : List Value) : Prop := (cd = 0 ∧ N2 = Int32.ofNat cs.length ∧ vs = (cs.map fun c => Value.int (lo8 c)) ∧ ∀ c ∈ cs, ¬ 255 < c) ∨ (cd = 1 ∧ N2 = Int32.ofNat (2 * cs.length) ∧ vs = wideBytes cs ∧ ∃ c ∈ cs, 255 < c)
theorem CodA.cod {cs : List Int32} {cd N2 : Int32} {vs : List Value} {V : Cell} (h : CodA cs cd N2 vs) (hn : 2 * cs.length < 2 ^ 31) (hs : V.slots.size = N2.toNatClampNeg) (hv : RoadKit.Has V vs (.int 0)) : Cod cd cs.length (fun j => cs.getD j 0) V := by
  rcases h with ⟨rfl, rfl, rfl, h⟩ | ⟨rfl, rfl, rfl, c, hc, hw⟩
  · rw [n32 (by omega)] at hs
    exact Or.inl ⟨rfl, hs, fun j hj => ⟨by rw [hv j (by omega), low_at _ _ _ hj], by
      have e : cs.getD j 0 = cs[j] := by simp [List.getD_eq_getElem?_getD, hj]
      show ¬ 255 < cs.getD j 0
      rw [e]; exact h _ (List.getElem_mem _)⟩⟩
  · rw [n32 (by omega)] at hs
    obtain ⟨j, hj, rfl⟩ := List.getElem_of_mem hc
    exact Or.inr ⟨rfl, hs, fun j hj => ⟨by rw [hv _ (by omega), wide_lo _ _ _ hj], by rw [hv _ (by omega), wide_hi _ _ _ hj]⟩, j, hj, by
      have e : cs.getD j 0 = cs[j] := by simp [List.getD_eq_getElem?_getD, hj]
      show 255 < cs.getD j 0
      rw [e]; exact hw⟩
/-- an object of exactly java/lang/String, its two fields found: as the laws ask it -/
theorem strObj {Z U : State} {a0 : Array Value} {kI : Nat} (wi : (Jvm.Cond.instantiable ST kI).before a0 Z = true) (al : Z.vm.Alike U.vm) {x : Addr} {v0 c0 : Value} (E : RoadKit.Exa Z U.heap x ST) (V : RoadKit.Fld Z U.heap x ST "value" "[B" v0) (C : RoadKit.Fld Z U.heap x ST "coder" "B" c0) :
    ∃ (D : Cell) (fV fC : Field), Blank ST x D U ∧ Found ST "value" "[B" fV U ∧ Found ST "coder" "B" fC U ∧ D.slots[fV.slot]? = some v0 ∧ D.slots[fC.slot]? = some c0 ∧ RoadKit.slotOf Z ST "value" "[B" = fV.slot ∧ RoadKit.slotOf Z ST "coder" "B" = fC.slot := by
  obtain ⟨D, cfV, kV, iV, fV, hD, gV, stV, knV, obV, asV, slV⟩ := V
  obtain ⟨D', cfC, kC, iC, fC, hD', gC, stC, -, -, asC, slC⟩ := C
  cases hD.symm.trans hD'
  obtain ⟨D2, kD, e1, e2, e3, e4, e5⟩ := E
  cases hD.symm.trans e1
  obtain ⟨c2, k2, i1, i2, i3, -⟩ := Cond.instantiable_spec wi
  cases e2.symm.trans i1
  cases e3.symm.trans i2
  obtain ⟨kU, u1, u2⟩ := al.2.2 _ _ e3
  exact ⟨D, fV, fC, ⟨hD, ⟨knV, fun q hq => by rw [hq] at obV; cases obV⟩, by rw [al.findClass]; exact e2, kU, u1, by rw [u2]; exact i3, by rw [u2]; exact e5 i3⟩, ⟨SBG.found_only al ⟨cfV, kV, iV, gV⟩, stV⟩, ⟨SBG.found_only al ⟨cfC, kC, iC, gC⟩, stC⟩, slV, slC, by simp [RoadKit.slotOf, gV], by simp [RoadKit.slotOf, gC]⟩
theorem sta_is {Z U : State} (al : Z.vm.Alike U.vm) {C n d : String} {v : Value} (S : RoadKit.Sta Z U.heap C n d v) : StaticIs U C n d v := by
  obtain ⟨cfS, iS, kS, fS, st, cS, t1, t2, t3, t4, t5, t6, t7⟩ := S
  exact StaticIs.there (s := { Z with heap := U.heap }) ⟨cfS, iS, kS, fS, st, cS, t1, t2, t3, t4, t5, (fun q => by rw [q] at t6; cases t6), t7⟩ al rfl
/-- **length() OF SUCH A STRING** -/
theorem lenW {p : Program} {l : Launch} {e : Env} {R : Room} {s : State} {args : Array Value} {below : List Frame} {len W : Nat} {Z : State} {a0 : Array Value} {h : Heap} (hZ : Z.Warmed39 s.vm) (hw : ∀ d ∈ wordsLen, d.before a0 Z = true) {kI : Nat} (wi : (Jvm.Cond.instantiable ST kI).before a0 Z = true)
    {x t : Addr} {kb : ClassId} {cs : List Int32} {cd N2 z : Int32} {vs : List Value} (E : RoadKit.Exa Z h x ST) (V : RoadKit.Fld Z h x ST "value" "[B" (.ref t)) (C : RoadKit.Fld Z h x ST "coder" "B" (.int cd)) (K : RoadKit.Arv Z h t kb .byte N2 vs (.int 0)) (hc : CodA cs cd N2 vs) (hb : ∀ c ∈ cs, ¬ c < 0 ∧ ¬ (65535 : Int32) < c)
    (S : RoadKit.Sta Z h ST "COMPACT_STRINGS" "Z" (.int z)) (hz : ¬ z = 0) (l2 : cs.length ≤ 4000) (hfr : 2 ≤ R.frames) (hlo : W + 25 ≤ R.locals) :
    Back l R p e below s args (⟨"java/lang/String", "length", "()I"⟩ : MethodName) len W (fun P a => a = #[.ref x] ∧ P.U.heap = h ∧ P.cells + 0 ≤ R.cells ∧ P.slots + 0 ≤ R.slots)
      (fun P _ v B => ∃ L, (v = some (.int (Int32.ofNat cs.length)) ∧ L = [] ∧ B.U.heap = h) ∧ B.locs = P.locs ++ L ∧ B.cells = P.cells + 0 ∧ B.slots = P.slots + 0) := by
  obtain ⟨A, K1, K2, K3, K4, K5, K6⟩ := K
  have hcod := hc.cod (by omega) K3 K5
  intro m meth c P g ig mk a X hg hsize hdg hW hn hp'
  obtain ⟨rfl, rfl, r1, r2⟩ := hp'
  have al : Z.vm.Alike P.U.vm := hZ.alike.trans X.warmed.alike
  obtain ⟨D, fV, fC, hB, F1, F2, g1, g2, -, -⟩ := strObj wi al E V C
  have hx : Txt x t A cd cs.length (fun j => cs.getD j 0) P.U := ⟨⟨_, hB.2.2.1, D, hB.1, rfl, by cases q : D.vm <;> first | rfl | exact absurd q (hB.2.1.2 _)⟩, Has.of hB F1 g1, Has.of hB F2 g2, ⟨K1.1, State.isArrayOf_alike al K1.2.1, K1.2.2, by rcases hcod with ⟨-, q, -⟩ | ⟨-, q, -⟩ <;> omega⟩, hcod, fun j hj => by
    have e : cs.getD j 0 = cs[j] := by simp [List.getD_eq_getElem?_getD, hj]
    show ¬ cs.getD j 0 < 0 ∧ ¬ 65535 < cs.getD j 0
    rw [e]; exact hb _ (List.getElem_mem _)⟩
  obtain ⟨v, B, X', ⟨⟨hv, hh⟩, hl, hk, hs⟩, st⟩ := Len.pays x t A cd cs.length (fun j => cs.getD j 0) z (tabLen_of (movedLen hZ hw)) hfr hlo m meth c P g ig mk _ X hg hsize hdg hW hn ⟨r1, r2, rfl, hx, sta_is al S, hz⟩
  exact ⟨v, B, X', ⟨[], ⟨hv, rfl, hh⟩, hl, hk, hs⟩, st⟩
end StrChars.Road
namespace StrChars.Road
open Jvm Sem ClassFile Op Lib Jvm.Stand Jvm.Free Jvm.Free.XT
open Jvm.Lib.Cold (StaticIs)
/-- what backV says of its String, as the contracts of this text ask it: cs's low bytes, coder 0 -/
theorem codOf {cs : List Int32} {n : Nat} (hn : cs.length = n) (hb : ∀ c ∈ cs, ¬ 255 < c) : CodA cs 0 (Int32.ofNat n) ((cs.map lo8).map Value.int) := Or.inl ⟨rfl, by rw [hn], by simp [List.map_map, Function.comp_def], hb⟩
end StrChars.Road
end Jvm.Pilot.@@N@@
namespace Jvm.Pilot.@@N@@
open Jvm Jvm.ClassFile Sem Op Lib Jvm.Free Jvm.Stand Jvm.LawKit Jvm.RoadKit Bundle Jvm.Pilot.@@N@@.Jvm.D
/-! own kit: a walk written forwards. Go: the run goes on from this frame and ends as P says. -/
def Go (tb : Tables) (e : Env) (below : List Frame) (P : State → Prop) (T : State) (f : JFrame) : Prop := ∃ t, Steps tb e below (T.setTop f) t ∧ P t
section WK
variable {tb : Tables} {e : Env} {below : List Frame} {P : State → Prop} {T : State} {m : MethodId} {c : Code} {pc pc' : Nat} {Ls l' : Array Slot} {st : List Value}
theorem Go.next {T' : State} {f f' : JFrame} (k : ∀ t, Steps tb e below (T'.setTop f') t → Steps tb e below (T.setTop f) t) (r : Go tb e below P T' f') : Go tb e below P T f := by
  obtain ⟨t, h1, h2⟩ := r; exact ⟨t, k t h1, h2⟩
theorem Go.jump {T' : State} {f f' : JFrame} (k : Steps tb e below (T.setTop f) (T'.setTop f')) (r : Go tb e below P T' f') : Go tb e below P T f := by
  obtain ⟨t, h1, h2⟩ := r; exact ⟨t, k.trans h1, h2⟩
theorem Go.mono {P' : State → Prop} {f : JFrame} (k : Go tb e below P T f) (q : ∀ t, P t → P' t) : Go tb e below P' T f := by
  obtain ⟨t, h1, h2⟩ := k; exact ⟨t, h1, q t h2⟩
variable [Ours tb]
theorem w_aloadN (h : At T m c below) (hx : tb.exec = Jvm.exec) {k : Fin 4} {v : Value} (hd : decode c.code pc = .ok (.aload_n k, 1)) (hl : Ls[k.val]? = some (.val v)) (hv : v.isRef = true) (hp : pc + 1 = pc') (r : Go tb e below P T (mkF m pc' Ls (v :: st))) : Go tb e below P T (mkF m pc Ls st) := by
  subst hp; exact Go.next (fun t hr => XS.aloadN h hx rfl hd hl hv hr) r
theorem w_aload (h : At T m c below) (hx : tb.exec = Jvm.exec) {k : Nat} {v : Value} (hd : decode c.code pc = .ok (.aload k, 2)) (hl : Ls[k]? = some (.val v)) (hv : v.isRef = true) (hp : pc + 2 = pc') (r : Go tb e below P T (mkF m pc' Ls (v :: st))) : Go tb e below P T (mkF m pc Ls st) := by
  subst hp; exact Go.next (fun t hr => XS.aload h hx rfl hd hl hv hr) r
theorem w_iloadN (h : At T m c below) (hx : tb.exec = Jvm.exec) {k : Fin 4} {v : Int32} (hd : decode c.code pc = .ok (.iload_n k, 1)) (hl : Ls[k.val]? = some (.val (.int v))) (hp : pc + 1 = pc') (r : Go tb e below P T (mkF m pc' Ls (.int v :: st))) : Go tb e below P T (mkF m pc Ls st) := by
  subst hp; exact Go.next (fun t hr => XS.iloadN h hx rfl hd hl hr) r
theorem w_iload (h : At T m c below) (hx : tb.exec = Jvm.exec) {k : Nat} {v : Int32} (hd : decode c.code pc = .ok (.iload k, 2)) (hl : Ls[k]? = some (.val (.int v))) (hp : pc + 2 = pc') (r : Go tb e below P T (mkF m pc' Ls (.int v :: st))) : Go tb e below P T (mkF m pc Ls st) := by
  subst hp; exact Go.next (fun t hr => XS.iload h hx rfl hd hl hr) r
theorem w_iconst (h : At T m c below) (hx : tb.exec = Jvm.exec) {i : Int} {z : Int32} (hd : decode c.code pc = .ok (.iconst i, 1)) (hz : Int32.ofInt i = z) (hp : pc + 1 = pc') (r : Go tb e below P T (mkF m pc' Ls (.int z :: st))) : Go tb e below P T (mkF m pc Ls st) := by
  subst hp hz; exact Go.next (fun t hr => XS.iconst h hx rfl hd hr) r
theorem w_bipush (h : At T m c below) (hx : tb.exec = Jvm.exec) {i : Int} {z : Int32} (hd : decode c.code pc = .ok (.bipush i, 2)) (hz : (Int8.ofInt i).toInt32 = z) (hp : pc + 2 = pc') (r : Go tb e below P T (mkF m pc' Ls (.int z :: st))) : Go tb e below P T (mkF m pc Ls st) := by
  subst hp hz; exact Go.next (fun t hr => XS.bipush h hx rfl hd hr) r
theorem w_sipush (h : At T m c below) (hx : tb.exec = Jvm.exec) {i : Int} {z : Int32} (hd : decode c.code pc = .ok (.sipush i, 3)) (hz : (Int16.ofInt i).toInt32 = z) (hp : pc + 3 = pc') (r : Go tb e below P T (mkF m pc' Ls (.int z :: st))) : Go tb e below P T (mkF m pc Ls st) := by
  subst hp hz; exact Go.next (fun t hr => XS.sipush h hx rfl hd hr) r
theorem w_null (h : At T m c below) (hx : tb.exec = Jvm.exec) (hd : decode c.code pc = .ok (.aconst_null, 1)) (hp : pc + 1 = pc') (r : Go tb e below P T (mkF m pc' Ls (.null :: st))) : Go tb e below P T (mkF m pc Ls st) := by
  subst hp; exact Go.next (fun t hr => XS.aconstNull h hx rfl hd hr) r
theorem w_iadd (h : At T m c below) (hx : tb.exec = Jvm.exec) {x y : Int32} (hd : decode c.code pc = .ok (.iadd, 1)) (hp : pc + 1 = pc') (r : Go tb e below P T (mkF m pc' Ls (.int (x + y) :: st))) : Go tb e below P T (mkF m pc Ls (.int y :: .int x :: st)) := by
  subst hp; exact Go.next (fun t hr => XS.iadd h hx rfl hd rfl hr) r
theorem w_isub (h : At T m c below) (hx : tb.exec = Jvm.exec) {x y : Int32} (hd : decode c.code pc = .ok (.isub, 1)) (hp : pc + 1 = pc') (r : Go tb e below P T (mkF m pc' Ls (.int (x - y) :: st))) : Go tb e below P T (mkF m pc Ls (.int y :: .int x :: st)) := by
  subst hp; exact Go.next (fun t hr => XS.isub h hx rfl hd rfl hr) r
theorem w_imul (h : At T m c below) (hx : tb.exec = Jvm.exec) {x y : Int32} (hd : decode c.code pc = .ok (.imul, 1)) (hp : pc + 1 = pc') (r : Go tb e below P T (mkF m pc' Ls (.int (x * y) :: st))) : Go tb e below P T (mkF m pc Ls (.int y :: .int x :: st)) := by
  subst hp; exact Go.next (fun t hr => XS.imul h hx rfl hd rfl hr) r
theorem w_iand (h : At T m c below) (hx : tb.exec = Jvm.exec) {x y : Int32} (hd : decode c.code pc = .ok (.iand, 1)) (hp : pc + 1 = pc') (r : Go tb e below P T (mkF m pc' Ls (.int (x &&& y) :: st))) : Go tb e below P T (mkF m pc Ls (.int y :: .int x :: st)) := by
  subst hp; exact Go.next (fun t hr => XS.iand h hx rfl hd rfl hr) r
theorem w_ior (h : At T m c below) (hx : tb.exec = Jvm.exec) {x y : Int32} (hd : decode c.code pc = .ok (.ior, 1)) (hp : pc + 1 = pc') (r : Go tb e below P T (mkF m pc' Ls (.int (x ||| y) :: st))) : Go tb e below P T (mkF m pc Ls (.int y :: .int x :: st)) := by
  subst hp; exact Go.next (fun t hr => Jvm.Free.XT.ior h hx rfl hd rfl hr) r
theorem w_ixor (h : At T m c below) (hx : tb.exec = Jvm.exec) {x y : Int32} (hd : decode c.code pc = .ok (.ixor, 1)) (hp : pc + 1 = pc') (r : Go tb e below P T (mkF m pc' Ls (.int (x ^^^ y) :: st))) : Go tb e below P T (mkF m pc Ls (.int y :: .int x :: st)) := by
  subst hp; exact Go.next (fun t hr => Jvm.Free.XT.ixor h hx rfl hd rfl hr) r
theorem w_ishl (h : At T m c below) (hx : tb.exec = Jvm.exec) {x y : Int32} (hd : decode c.code pc = .ok (.ishl, 1)) (hp : pc + 1 = pc') (r : Go tb e below P T (mkF m pc' Ls (.int (x <<< (y &&& 31)) :: st))) : Go tb e below P T (mkF m pc Ls (.int y :: .int x :: st)) := by
  subst hp; exact Go.next (fun t hr => Jvm.Free.XT.ishl h hx rfl hd rfl hr) r
theorem w_ishr (h : At T m c below) (hx : tb.exec = Jvm.exec) {x y : Int32} (hd : decode c.code pc = .ok (.ishr, 1)) (hp : pc + 1 = pc') (r : Go tb e below P T (mkF m pc' Ls (.int (x >>> (y &&& 31)) :: st))) : Go tb e below P T (mkF m pc Ls (.int y :: .int x :: st)) := by
  subst hp; exact Go.next (fun t hr => Jvm.Free.XT.ishr h hx rfl hd rfl hr) r
theorem w_iushr (h : At T m c below) (hx : tb.exec = Jvm.exec) {x y : Int32} (hd : decode c.code pc = .ok (.iushr, 1)) (hp : pc + 1 = pc') (r : Go tb e below P T (mkF m pc' Ls (.int (x.toUInt32 >>> (y &&& 31).toUInt32).toInt32 :: st))) : Go tb e below P T (mkF m pc Ls (.int y :: .int x :: st)) := by
  subst hp; exact Go.next (fun t hr => Jvm.Free.XT.iushr h hx rfl hd rfl hr) r
theorem w_irem (h : At T m c below) (hx : tb.exec = Jvm.exec) {x y : Int32} (hd : decode c.code pc = .ok (.irem, 1)) (hy : y ≠ 0) (hp : pc + 1 = pc') (r : Go tb e below P T (mkF m pc' Ls (.int (x % y) :: st))) : Go tb e below P T (mkF m pc Ls (.int y :: .int x :: st)) := by
  subst hp
  have q : x - x / y * y = x % y := irem_eq_mod x y
  exact Go.next (fun t hr => XS.irem h hx rfl hd rfl hy (by rw [q]; exact hr)) r
theorem w_i2b (h : At T m c below) (hx : tb.exec = Jvm.exec) {x : Int32} (hd : decode c.code pc = .ok (.i2b, 1)) (hp : pc + 1 = pc') (r : Go tb e below P T (mkF m pc' Ls (.int x.toInt8.toInt32 :: st))) : Go tb e below P T (mkF m pc Ls (.int x :: st)) := by
  subst hp; exact Go.next (fun t hr => Jvm.Free.XT.i2b h hx rfl hd rfl hr) r
theorem w_i2c (h : At T m c below) (hx : tb.exec = Jvm.exec) {x : Int32} (hd : decode c.code pc = .ok (.i2c, 1)) (hp : pc + 1 = pc') (r : Go tb e below P T (mkF m pc' Ls (.int x.toUInt32.toUInt16.toUInt32.toInt32 :: st))) : Go tb e below P T (mkF m pc Ls (.int x :: st)) := by
  subst hp; exact Go.next (fun t hr => Jvm.Free.XT.i2c h hx rfl hd rfl hr) r
theorem w_dup (h : At T m c below) (hx : tb.exec = Jvm.exec) {x : Value} (hd : decode c.code pc = .ok (.dup, 1)) (hc : x.category = 1) (hp : pc + 1 = pc') (r : Go tb e below P T (mkF m pc' Ls (x :: x :: st))) : Go tb e below P T (mkF m pc Ls (x :: st)) := by
  subst hp; exact Go.next (fun t hr => XS.dup h hx rfl hd rfl hc hr) r
theorem w_pop (h : At T m c below) (hx : tb.exec = Jvm.exec) {x : Value} (hd : decode c.code pc = .ok (.pop, 1)) (hc : x.category = 1) (hp : pc + 1 = pc') (r : Go tb e below P T (mkF m pc' Ls st)) : Go tb e below P T (mkF m pc Ls (x :: st)) := by
  subst hp; exact Go.next (fun t hr => Jvm.Free.XT.pop h hx rfl hd rfl hc hr) r
theorem w_istoreN (h : At T m c below) (hx : tb.exec = Jvm.exec) {k : Fin 4} {x : Int32} (hd : decode c.code pc = .ok (.istore_n k, 1)) (hl : storeLocals Ls k.val (.int x) = some l') (hp : pc + 1 = pc') (r : Go tb e below P T (mkF m pc' l' st)) : Go tb e below P T (mkF m pc Ls (.int x :: st)) := by
  subst hp; exact Go.next (fun t hr => XS.istoreN h hx rfl hd rfl hl hr) r
theorem w_istore (h : At T m c below) (hx : tb.exec = Jvm.exec) {k : Nat} {x : Int32} (hd : decode c.code pc = .ok (.istore k, 2)) (hl : storeLocals Ls k (.int x) = some l') (hp : pc + 2 = pc') (r : Go tb e below P T (mkF m pc' l' st)) : Go tb e below P T (mkF m pc Ls (.int x :: st)) := by
  subst hp; exact Go.next (fun t hr => XS.istore h hx rfl hd rfl hl hr) r
theorem w_astoreN (h : At T m c below) (hx : tb.exec = Jvm.exec) {k : Fin 4} {x : Value} (hd : decode c.code pc = .ok (.astore_n k, 1)) (hv : x.isRef = true) (hl : storeLocals Ls k.val x = some l') (hp : pc + 1 = pc') (r : Go tb e below P T (mkF m pc' l' st)) : Go tb e below P T (mkF m pc Ls (x :: st)) := by
  subst hp; exact Go.next (fun t hr => XS.astoreN h hx rfl hd rfl hv hl hr) r
theorem w_astore (h : At T m c below) (hx : tb.exec = Jvm.exec) {k : Nat} {x : Value} (hd : decode c.code pc = .ok (.astore k, 2)) (hv : x.isRef = true) (hl : storeLocals Ls k x = some l') (hp : pc + 2 = pc') (r : Go tb e below P T (mkF m pc' l' st)) : Go tb e below P T (mkF m pc Ls (x :: st)) := by
  subst hp; exact Go.next (fun t hr => XS.astore h hx rfl hd rfl hv hl hr) r
theorem w_iinc (h : At T m c below) (hx : tb.exec = Jvm.exec) {k : Nat} {cst : Int} {x z : Int32} (hd : decode c.code pc = .ok (.iinc k cst, 3)) (hl : Ls[k]? = some (.val (.int x))) (hz : Int32.ofInt cst = z) (hl' : storeLocals Ls k (.int (x + z)) = some l') (hp : pc + 3 = pc') (r : Go tb e below P T (mkF m pc' l' st)) : Go tb e below P T (mkF m pc Ls st) := by
  subst hp hz; exact Go.next (fun t hr => XS.iinc h hx rfl hd hl hl' hr) r
theorem w_goto (h : At T m c below) (hx : tb.exec = Jvm.exec) {o : Int} (hd : decode c.code pc = .ok (.goto o, 3)) (ho : 0 ≤ (pc : Int) + o) (hp : ((pc : Int) + o).toNat = pc') (r : Go tb e below P T (mkF m pc' Ls st)) : Go tb e below P T (mkF m pc Ls st) :=
  Go.next (fun t hr => XS.goto h hx rfl rfl hd ho hp hr) r
theorem w_ifYes (h : At T m c below) (hx : tb.exec = Jvm.exec) {cd : ClassFile.Cond} {x : Int32} {o : Int} (hd : decode c.code pc = .ok (.ifCond cd o, 3)) (hc : if_icmp.holds cd x 0 = true) (ho : 0 ≤ (pc : Int) + o) (hp : ((pc : Int) + o).toNat = pc') (r : Go tb e below P T (mkF m pc' Ls st)) : Go tb e below P T (mkF m pc Ls (.int x :: st)) :=
  Go.next (fun t hr => XS.ifYes h hx rfl rfl hd rfl ((if0 _ _).trans hc) ho hp hr) r
theorem w_ifNo (h : At T m c below) (hx : tb.exec = Jvm.exec) {cd : ClassFile.Cond} {x : Int32} {o : Int} (hd : decode c.code pc = .ok (.ifCond cd o, 3)) (hc : if_icmp.holds cd x 0 = false) (hp : pc + 3 = pc') (r : Go tb e below P T (mkF m pc' Ls st)) : Go tb e below P T (mkF m pc Ls (.int x :: st)) := by
  subst hp; exact Go.next (fun t hr => XS.ifNo h hx rfl hd rfl ((if0 _ _).trans hc) hr) r
theorem w_icmpYes (h : At T m c below) (hx : tb.exec = Jvm.exec) {cd : ClassFile.Cond} {x y : Int32} {o : Int} (hd : decode c.code pc = .ok (.if_icmp cd o, 3)) (hc : if_icmp.holds cd x y = true) (ho : 0 ≤ (pc : Int) + o) (hp : ((pc : Int) + o).toNat = pc') (r : Go tb e below P T (mkF m pc' Ls st)) : Go tb e below P T (mkF m pc Ls (.int y :: .int x :: st)) :=
  Go.next (fun t hr => XS.icmpYes h hx rfl rfl hd rfl hc ho hp hr) r
theorem w_icmpNo (h : At T m c below) (hx : tb.exec = Jvm.exec) {cd : ClassFile.Cond} {x y : Int32} {o : Int} (hd : decode c.code pc = .ok (.if_icmp cd o, 3)) (hc : if_icmp.holds cd x y = false) (hp : pc + 3 = pc') (r : Go tb e below P T (mkF m pc' Ls st)) : Go tb e below P T (mkF m pc Ls (.int y :: .int x :: st)) := by
  subst hp; exact Go.next (fun t hr => XS.icmpNo h hx rfl hd rfl hc hr) r
theorem w_ifnullYes (h : At T m c below) (hx : tb.exec = Jvm.exec) {o : Int} (hd : decode c.code pc = .ok (.ifnull o, 3)) (ho : 0 ≤ (pc : Int) + o) (hp : ((pc : Int) + o).toNat = pc') (r : Go tb e below P T (mkF m pc' Ls st)) : Go tb e below P T (mkF m pc Ls (.null :: st)) :=
  Go.next (fun t hr => XS.ifnullYes h hx rfl rfl hd rfl ho hp hr) r
theorem w_ifnullNo (h : At T m c below) (hx : tb.exec = Jvm.exec) {b : Addr} {o : Int} (hd : decode c.code pc = .ok (.ifnull o, 3)) (hp : pc + 3 = pc') (r : Go tb e below P T (mkF m pc' Ls st)) : Go tb e below P T (mkF m pc Ls (.ref b :: st)) := by
  subst hp; exact Go.next (fun t hr => XS.ifnullNo h hx rfl hd rfl hr) r
theorem w_ifnonnullYes (h : At T m c below) (hx : tb.exec = Jvm.exec) {b : Addr} {o : Int} (hd : decode c.code pc = .ok (.ifnonnull o, 3)) (ho : 0 ≤ (pc : Int) + o) (hp : ((pc : Int) + o).toNat = pc') (r : Go tb e below P T (mkF m pc' Ls st)) : Go tb e below P T (mkF m pc Ls (.ref b :: st)) :=
  Go.next (fun t hr => Jvm.Free.XT.ifnonnullYes h hx rfl rfl hd rfl ho hp hr) r
theorem w_ifnonnullNo (h : At T m c below) (hx : tb.exec = Jvm.exec) {o : Int} (hd : decode c.code pc = .ok (.ifnonnull o, 3)) (hp : pc + 3 = pc') (r : Go tb e below P T (mkF m pc' Ls st)) : Go tb e below P T (mkF m pc Ls (.null :: st)) := by
  subst hp; exact Go.next (fun t hr => Jvm.Free.XT.ifnonnullNo h hx rfl hd rfl hr) r
theorem w_acmpYes (h : At T m c below) (hx : tb.exec = Jvm.exec) {cd : ACond} {x y : Value} {o : Int} (hd : decode c.code pc = .ok (.if_acmp cd o, 3)) (h1 : x.isRef = true) (h2 : y.isRef = true) (hc : Jvm.Free.XT.acmp cd x y = true) (ho : 0 ≤ (pc : Int) + o) (hp : ((pc : Int) + o).toNat = pc') (r : Go tb e below P T (mkF m pc' Ls st)) : Go tb e below P T (mkF m pc Ls (y :: x :: st)) :=
  Go.next (fun t hr => Jvm.Free.XT.acmpYes h hx rfl rfl hd rfl h1 h2 hc ho hp hr) r
theorem w_acmpNo (h : At T m c below) (hx : tb.exec = Jvm.exec) {cd : ACond} {x y : Value} {o : Int} (hd : decode c.code pc = .ok (.if_acmp cd o, 3)) (h1 : x.isRef = true) (h2 : y.isRef = true) (hc : Jvm.Free.XT.acmp cd x y = false) (hp : pc + 3 = pc') (r : Go tb e below P T (mkF m pc' Ls st)) : Go tb e below P T (mkF m pc Ls (y :: x :: st)) := by
  subst hp; exact Go.next (fun t hr => Jvm.Free.XT.acmpNo h hx rfl hd rfl h1 h2 hc hr) r
end WK
section WE
variable {p : Program} {l : Launch} {e : Env} {R : Room} {s : State} {m : MethodId} {args : Array Value} {below : List Frame} {meth : Method} {c : Code} {T : State} {locs : List Loc} {cells slots : Nat} {pc : Nat} {Ls : Array Slot} {st : List Value} {Q : Option Value → Heap → List Loc → Prop} {K N : Nat} {Z : State} {h h0 h1 h' : Heap}
/-- how a body ends: it returned, Q, and the frame -/
def EndN (s : State) (below : List Frame) (Q : Option Value → Heap → List Loc → Prop) (K N : Nat) (t : State) : Prop := t.status = .running ∧ ∃ v L, Ended t below (.returned v) ∧ Q v t.heap L ∧ FrameEnd s (.returned v) t L K N
theorem endI (X : Stand p l e R s m args below meth c T locs cells slots) (hx : p.tables.exec = Jvm.exec) (hlk : meth.locks = false) {z : Int32} (hret : meth.sig.returnType = some .int) (hd : decode c.code pc = .ok (.ireturn, 1)) (hc : cells ≤ K) (hs : slots ≤ N) (hQ : Q (some (.int z)) T.heap locs) : Go p.tables e below (EndN s below Q K N) T (mkF m pc Ls (.int z :: st)) := by
  obtain ⟨fs, hr, hrun, hended, hW, hsame⟩ := X.leave (v := some (.int z)) (fun h => by rw [hret] at h; cases h) hlk
  exact ⟨_, retI X hx hret hd hr, hrun, _, _, hended, hQ, ⟨_, rfl⟩, hW, hsame.mono hc hs⟩
theorem endZ (X : Stand p l e R s m args below meth c T locs cells slots) (hx : p.tables.exec = Jvm.exec) (hlk : meth.locks = false) {z z' : Int32} {t : FieldType} (hret : meth.sig.returnType = some t) (ht : t = .boolean ∨ t = .byte ∨ t = .char ∨ t = .short) (hd : decode c.code pc = .ok (.ireturn, 1)) (hz : nar t z = z') (hc : cells ≤ K) (hs : slots ≤ N) (hQ : Q (some (.int z')) T.heap locs) : Go p.tables e below (EndN s below Q K N) T (mkF m pc Ls (.int z :: st)) := by
  subst hz
  obtain ⟨fs, hr, hrun, hended, hW, hsame⟩ := X.leave (v := some (.int (nar t z))) (fun h => by rw [hret] at h; cases h) hlk
  exact ⟨_, retN X hx hret ht hd hr, hrun, _, _, hended, hQ, ⟨_, rfl⟩, hW, hsame.mono hc hs⟩
theorem endV (X : Stand p l e R s m args below meth c T locs cells slots) (hx : p.tables.exec = Jvm.exec) (hlk : meth.locks = false) (hret : meth.sig.returnType = none) (hd : decode c.code pc = .ok (.return_, 1)) (hc : cells ≤ K) (hs : slots ≤ N) (hQ : Q none T.heap locs) : Go p.tables e below (EndN s below Q K N) T (mkF m pc Ls []) := by
  obtain ⟨fs, hr, hrun, hended, hW, hsame⟩ := X.leave (v := none) (fun _ => rfl) hlk
  exact ⟨_, X.returnOut hx hret hd hr, hrun, _, _, hended, hQ, ⟨_, rfl⟩, hW, hsame.mono hc hs⟩
theorem retR (X : Stand p l e R s m args below meth c T locs cells slots) (hx : p.tables.exec = Jvm.exec) {v : Value} {t : FieldType} (hv : v.isRef = true) (hret : meth.sig.returnType = some t) (ht : t.isReference = true) (hd : decode c.code pc = .ok (.areturn, 1)) {fs : List Frame}
    (hl : ∀ (f : JFrame) (acts : List Action), f.method = m → f.locked = none → f.entered = [] → (doReturn e (T.setTop f) acts (some v)).1 = T.setFrames fs) : Steps p.tables e below (T.setTop (mkF m pc Ls (v :: st))) (T.setFrames fs) := by
  have hm' : T.vm.method? m = some meth := X.method'
  rcases ref_cases hv with rfl | ⟨a, rfl⟩
  all_goals
    show Steps p.tables e below (T.setTop { method := m, pc := pc, locals := Ls, stack := _ :: st, locked := none }) _
    jvm_step X.here [X.here.top, hx, hd, hm', hret, ht, Value.isRef]
    first | (intro acts; rw [hl _ acts rfl rfl rfl]) | rw [hl _ _ rfl rfl rfl]
    exact Steps.refl _
theorem endR (X : Stand p l e R s m args below meth c T locs cells slots) (hx : p.tables.exec = Jvm.exec) (hlk : meth.locks = false) {v : Value} {t : FieldType} (hv : v.isRef = true) (hret : meth.sig.returnType = some t) (ht : t.isReference = true) (hd : decode c.code pc = .ok (.areturn, 1)) (hc : cells ≤ K) (hs : slots ≤ N) (hQ : Q (some v) T.heap locs) : Go p.tables e below (EndN s below Q K N) T (mkF m pc Ls (v :: st)) := by
  obtain ⟨fs, hr, hrun, hended, hW, hsame⟩ := X.leave (v := some v) (fun h => by rw [hret] at h; cases h) hlk
  exact ⟨_, retR X hx hv hret ht hd hr, hrun, _, _, hended, hQ, ⟨_, rfl⟩, hW, hsame.mono hc hs⟩
/-- a body's contract: from the heap h0, with these arguments, it returns as Q says -/
abbrev Ct (l : Launch) (y : MethodName) (bytes : ByteArray) (maxL : Nat) (ret : Option FieldType) (rm : Room) (Z : State) (as' : Array Value) (h0 : Heap) (Q : Option Value → Heap → List Loc → Prop) : Prop :=
  MetFree l y (head1 [Jvm.Cond.code y bytes maxL ret] rm) (fun a U => a = as' ∧ Z.Warmed39 U.vm ∧ U.heap = h0) (fun _ _ _ _ _ => True) (fun _ U o U' => ∃ v L, o = .returned v ∧ Q v U'.heap L ∧ FrameEnd U o U' L rm.cells rm.slots)
theorem ct_of {y : MethodName} {bytes : ByteArray} {maxL : Nat} {ret : Option FieldType} {rm : Room} {as' : Array Value} {ws : List Jvm.Cond} (hpn : plainFor y = true)
    (body : ∀ (p : Program) (e : Env) (s : State) (m : MethodId) (below : List Frame) (meth : Method) (c : Code) (s₁ : State), Stand p l e rm s m as' below meth c s₁ [] 0 0 → p.tables.exec = Jvm.exec → c.code = bytes → c.maxLocals = maxL → meth.sig.returnType = ret → meth.name = y.name → meth.locks = false → s.vm.findClass y.cls = some m.cls → Z.Warmed39 s.vm → s.heap = h0 → s₁.heap = h0 → Go p.tables e below (EndN s below Q K N) s₁ (entryFrame m as' maxL)) :
    MetFree l y (head1 (Jvm.Cond.code y bytes maxL ret :: ws) rm) (fun a U => a = as' ∧ Z.Warmed39 U.vm ∧ U.heap = h0) (fun _ _ _ _ _ => True) (fun _ U o U' => ∃ v L, o = .returned v ∧ Q v U'.heap L ∧ FrameEnd U o U' L K N) := by
  refine MetFree.of_bodySF hpn hisR ?_
  intro p e s m args below meth c s₁ Bd hml0 hP hK
  obtain ⟨rfl, hZ, hh⟩ := hP
  have e0 : s₁.heap = h0 := by rw [← hh, Bd.state]; rfl
  obtain ⟨t, g1, g2, v, L, g3, g4, g5⟩ := body p e s m below meth c s₁ (Stand.of_body Bd) Bd.exec Bd.bytes hml0 Bd.returns (name_of_methodNamed Bd.named Bd.method).1 Bd.notSynchronized (findClass_of_methodNamed Bd.named) hZ hh e0
  exact ⟨t, _, g1, g2, g3, v, L, rfl, g4, g5⟩
theorem Ext.rfl' : Ext h h := ⟨Nat.le_refl _, fun _ _ q => q⟩
theorem Ext.trs (E : Ext h0 h) (E' : Ext h h') : Ext h0 h' := ⟨Nat.le_trans E.1 E'.1, fun a c q => E'.2 a c (E.2 a c q)⟩
theorem Ext.wr {a : Addr} {sl : Nat} {v : Value} (E : Ext h0 h) (W : Wr h h' a sl v) (q : h0.size ≤ a) : Ext h0 h' := by
  refine ⟨Nat.le_trans E.1 (Nat.le_of_eq W.size.symm), fun b c hb => ?_⟩
  obtain ⟨cb', h1, -, -, -, h5, -⟩ := wr_at W (E.2 b c hb)
  have : b ≠ a := Nat.ne_of_lt (Nat.lt_of_lt_of_le (Array.getElem?_eq_some_iff.mp hb).1 q)
  rw [h1, h5 this]
theorem Ext.kp {ws : List Addr} (E : Ext h0 h) (K : Keep h h' ws) (q : ∀ x ∈ ws, h0.size ≤ x) : Ext h0 h' :=
  ⟨Nat.le_trans E.1 K.1, fun b c hb => K.2.1 b c (E.2 b c hb) fun hm => absurd (q b hm) (Nat.not_le.mpr (Array.getElem?_eq_some_iff.mp hb).1)⟩
theorem Ext.keep (E : Ext h h') : Keep h h' [] := (Keep.refl h []).ext E
theorem w_arraylength (X : Stand p l e R s m args below meth c T locs cells slots) (hx : p.tables.exec = Jvm.exec) (hZ : Z.Warmed39 s.vm) (eT : T.heap = h) {a : Addr} {k : ClassId} {ty : FieldType} {n : Int32} {vs : List Value} {dv : Value} (A : Arv Z h a k ty n vs dv) (hd : decode c.code pc = .ok (.arraylength, 1)) {pc' : Nat} (hp : pc + 1 = pc') {P : State → Prop} (r : Go p.tables e below P T (mkF m pc' Ls (.int n :: st))) : Go p.tables e below P T (mkF m pc Ls (.ref a :: st)) := by
  obtain ⟨cl, Ar, -, S, M, -, -⟩ := A
  subst hp
  exact Go.next (fun t hr => X.arraylength hx (by rw [eT]; exact Ar.1) (State.isArrayOf_alike hZ.alike Ar.2.1) (g := mkF m pc Ls (.ref a :: st)) rfl rfl hd _ (by rw [len_of S M]; exact hr)) r
theorem w_caload (X : Stand p l e R s m args below meth c T locs cells slots) (hx : p.tables.exec = Jvm.exec) (hZ : Z.Warmed39 s.vm) (eT : T.heap = h) {a : Addr} {k : ClassId} {n j : Int32} {vs : List Value} {dv v : Value} (A : Arv Z h a k .char n vs dv) (hj : ¬ j < 0 ∧ j < n) (hv : vs.getD j.toNatClampNeg dv = v) (hd : decode c.code pc = .ok (.caload, 1)) {pc' : Nat} (hp : pc + 1 = pc') {P : State → Prop} (r : Go p.tables e below P T (mkF m pc' Ls (v :: st))) : Go p.tables e below P T (mkF m pc Ls (.int j :: .ref a :: st)) := by
  obtain ⟨cl, Ar, -, S, M, H, -⟩ := A
  subst hp
  exact Go.next (fun t hr => X.caload hx (by rw [eT]; exact Ar.1) (State.isArrayOf_alike hZ.alike Ar.2.1) Ar.2.2 (inb_of S hj) (H.at (inb_of S hj) hv) (g := mkF m pc Ls (.int j :: .ref a :: st)) rfl rfl hd _ hr) r
theorem w_baload (X : Stand p l e R s m args below meth c T locs cells slots) (hx : p.tables.exec = Jvm.exec) (hZ : Z.Warmed39 s.vm) (eT : T.heap = h) {a : Addr} {k : ClassId} {n j : Int32} {vs : List Value} {dv v : Value} (A : Arv Z h a k .byte n vs dv) (hj : ¬ j < 0 ∧ j < n) (hv : vs.getD j.toNatClampNeg dv = v) (hd : decode c.code pc = .ok (.baload, 1)) {pc' : Nat} (hp : pc + 1 = pc') {P : State → Prop} (r : Go p.tables e below P T (mkF m pc' Ls (v :: st))) : Go p.tables e below P T (mkF m pc Ls (.int j :: .ref a :: st)) := by
  obtain ⟨cl, Ar, -, S, M, H, -⟩ := A
  subst hp
  exact Go.next (fun t hr => X.baloadBytes hx (by rw [eT]; exact Ar.1) (State.isArrayOf_alike hZ.alike Ar.2.1) Ar.2.2 (inb_of S hj) (H.at (inb_of S hj) hv) (g := mkF m pc Ls (.int j :: .ref a :: st)) rfl rfl hd _ hr) r
theorem w_aaload (X : Stand p l e R s m args below meth c T locs cells slots) (hx : p.tables.exec = Jvm.exec) (hZ : Z.Warmed39 s.vm) (eT : T.heap = h) {a : Addr} {k : ClassId} {ty : FieldType} {n j : Int32} {vs : List Value} {dv v : Value} (A : Arv Z h a k ty n vs dv) (hty : ty.isReference = true) (hj : ¬ j < 0 ∧ j < n) (hv : vs.getD j.toNatClampNeg dv = v) (hd : decode c.code pc = .ok (.aaload, 1)) {pc' : Nat} (hp : pc + 1 = pc') {P : State → Prop} (r : Go p.tables e below P T (mkF m pc' Ls (v :: st))) : Go p.tables e below P T (mkF m pc Ls (.int j :: .ref a :: st)) := by
  obtain ⟨cl, Ar, -, S, M, H, -⟩ := A
  subst hp
  exact Go.next (fun t hr => X.aaload hx (by rw [eT]; exact Ar.1) (State.isArrayOf_alike hZ.alike Ar.2.1) hty Ar.2.2 (inb_of S hj) (H.at (inb_of S hj) hv) (g := mkF m pc Ls (.int j :: .ref a :: st)) rfl rfl hd _ hr) r
theorem w_castore (X : Stand p l e R s m args below meth c T locs cells slots) (hx : p.tables.exec = Jvm.exec) (hZ : Z.Warmed39 s.vm) (eT : T.heap = h) {a : Addr} {k : ClassId} {n j z : Int32} {vs : List Value} {dv : Value} (A : Arv Z h a k .char n vs dv) (hj : ¬ j < 0 ∧ j < n) (i : Nat) (hi : j.toNatClampNeg = i) (hl : i < vs.length) (hd : decode c.code pc = .ok (.castore, 1)) {pc' : Nat} (hp : pc + 1 = pc') {P : State → Prop}
    (r : ∀ T' h', Stand p l e R s m args below meth c T' (locs ++ [⟨a, i⟩]) cells slots → T'.heap = h' → Wr h h' a i (.int (nar .char z)) → Arv Z h' a k .char n (vs.set i (.int (nar .char z))) dv → Go p.tables e below P T' (mkF m pc' Ls st)) : Go p.tables e below P T (mkF m pc Ls (.int z :: .int j :: .ref a :: st)) := by
  obtain ⟨cl, Ar, q1, S, M, H, G⟩ := A
  subst hp
  obtain ⟨T', h', X', e', W, stp⟩ := stC X hx hZ eT Ar (j := j) (inb_of S hj) (g := mkF m pc Ls (.int z :: .int j :: .ref a :: st)) rfl rfl hd
  have W' : Wr h h' a i (.int (nar .char z)) := by rw [← hi]; exact W
  exact Go.next stp (r T' h' (by rw [← hi]; exact X') e' W' (Arv.set Ar q1 S M H G (fits_nar_char _) W i hi hl))
theorem w_bastore (X : Stand p l e R s m args below meth c T locs cells slots) (hx : p.tables.exec = Jvm.exec) (hZ : Z.Warmed39 s.vm) (eT : T.heap = h) {a : Addr} {k : ClassId} {n j z : Int32} {vs : List Value} {dv : Value} (A : Arv Z h a k .byte n vs dv) (hj : ¬ j < 0 ∧ j < n) (i : Nat) (hi : j.toNatClampNeg = i) (hl : i < vs.length) (hd : decode c.code pc = .ok (.bastore, 1)) {pc' : Nat} (hp : pc + 1 = pc') {P : State → Prop}
    (r : ∀ T' h', Stand p l e R s m args below meth c T' (locs ++ [⟨a, i⟩]) cells slots → T'.heap = h' → Wr h h' a i (.int z.toInt8.toInt32) → Arv Z h' a k .byte n (vs.set i (.int z.toInt8.toInt32)) dv → Go p.tables e below P T' (mkF m pc' Ls st)) : Go p.tables e below P T (mkF m pc Ls (.int z :: .int j :: .ref a :: st)) := by
  obtain ⟨cl, Ar, q1, S, M, H, G⟩ := A
  subst hp
  obtain ⟨T', h', X', e', W, stp⟩ := stB X hx hZ eT Ar (j := j) (inb_of S hj) (g := mkF m pc Ls (.int z :: .int j :: .ref a :: st)) rfl rfl hd
  have W' : Wr h h' a i (.int z.toInt8.toInt32) := by rw [← hi]; exact W
  exact Go.next stp (r T' h' (by rw [← hi]; exact X') e' W' (Arv.set Ar q1 S M H G (fits_nar_byte _) W i hi hl))
end WE

section WH
variable {p : Program} {l : Launch} {e : Env} {R : Room} {s : State} {m : MethodId} {args : Array Value} {below : List Frame} {meth : Method} {c : Code} {T : State} {locs : List Loc} {cells slots : Nat} {pc pc' : Nat} {Ls : Array Slot} {st stk : List Value} {P : State → Prop} {Z : State} {a0 : Array Value} {h : Heap}
theorem w_getF (X : Stand p l e R s m args below meth c T locs cells slots) (hx : p.tables.exec = Jvm.exec) (hZ : Z.Warmed39 s.vm) {own R0 O n d : String} {index : Nat} (hown : s.vm.findClass own = some m.cls) (w : (Jvm.Cond.fieldLink own index R0 n d).before a0 Z = true) (via : Via Z R0 O n d)
    (eT : T.heap = h) {a : Addr} {v : Value} (F : Fld Z h a O n d v) (hd : decode c.code pc = .ok (.getfield index, 3)) (hp : pc + 3 = pc') (r : ∀ T', Stand p l e R s m args below meth c T' locs cells slots → T'.heap = h → Go p.tables e below P T' (mkF m pc' Ls (v :: st))) : Go p.tables e below P T (mkF m pc Ls (.ref a :: st)) := by
  subst hp
  obtain ⟨T', X', e', stp⟩ := getF X hx hZ hown (host := "") (Or.inl w) via eT F (g := mkF m pc Ls (.ref a :: st)) rfl rfl hd
  exact Go.next stp (r T' X' e')
theorem w_getS (X : Stand p l e R s m args below meth c T locs cells slots) (hx : p.tables.exec = Jvm.exec) (hZ : Z.Warmed39 s.vm) {own R0 O n d : String} {index : Nat} (hown : s.vm.findClass own = some m.cls) (w : (Jvm.Cond.fieldLink own index R0 n d).before a0 Z = true) (via : Via Z R0 O n d)
    (eT : T.heap = h) {v : Value} (F : Sta Z h O n d v) (hd : decode c.code pc = .ok (.getstatic index, 3)) (hp : pc + 3 = pc') (r : ∀ T', Stand p l e R s m args below meth c T' locs cells slots → T'.heap = h → Go p.tables e below P T' (mkF m pc' Ls (v :: st))) : Go p.tables e below P T (mkF m pc Ls st) := by
  subst hp
  obtain ⟨T', X', e', stp⟩ := getS2 X hx hZ hown (host := "") (Or.inl w) via eT F (g := mkF m pc Ls st) rfl hd
  exact Go.next stp (r T' X' e')
theorem w_putF (X : Stand p l e R s m args below meth c T locs cells slots) (hx : p.tables.exec = Jvm.exec) (hZ : Z.Warmed39 s.vm) {own R0 O n d C : String} {index kk : Nat} {ty : FieldType} (hown : s.vm.findClass own = some m.cls) (w : (Jvm.Cond.fieldLink own index R0 n d).before a0 Z = true) (via : Via Z R0 O n d)
    (eT : T.heap = h) {a : Addr} {v old : Value} (F : Fld Z h a O n d old) (E : Exa Z h a C) (L : (Jvm.Cond.lays C O n d).before a0 Z = true ∨ ((Jvm.Cond.laysFinal C O n d).before a0 Z = true ∧ own = O ∧ meth.name = "<init>")) (wi : (Jvm.Cond.instantiable C kk).before a0 Z = true)
    (hty : parseFieldDescriptor d = some ty) (hn : narrow ty v = v) (hf : fits ty v = true) (hd : decode c.code pc = .ok (.putfield index, 3)) (hp : pc + 3 = pc')
    (r : ∀ T' h', Stand p l e R s m args below meth c T' (locs ++ [⟨a, Jvm.RoadKit.slotOf Z O n d⟩]) cells slots → T'.heap = h' → Wr h h' a (Jvm.RoadKit.slotOf Z O n d) v → Go p.tables e below P T' (mkF m pc' Ls st)) : Go p.tables e below P T (mkF m pc Ls (v :: .ref a :: st)) := by
  subst hp
  obtain ⟨T', h', X', e', W, stp⟩ := putF X hx hZ hown (host := "") (Or.inl w) via eT F E L wi hty hn hf (g := mkF m pc Ls (v :: .ref a :: st)) rfl rfl hd
  exact Go.next stp (r T' h' X' e' W)
theorem w_new (X : Stand p l e R s m args below meth c T locs cells slots) (hx : p.tables.exec = Jvm.exec) (hZ : Z.Warmed39 s.vm) {own C : String} {index n : Nat} (hown : s.vm.findClass own = some m.cls) (w : (Jvm.Cond.classLink own index C).before a0 Z = true) (wi : (Jvm.Cond.instantiable C n).before a0 Z = true) (wz : (Jvm.Cond.initialized C).before a0 Z = true) (eT : T.heap = h)
    (hd : decode c.code pc = .ok (.new index, 3)) (hc : cells + 1 ≤ R.cells) (hl : slots + n ≤ R.slots) (hp : pc + 3 = pc')
    (r : ∀ T' h' b, h.size = b → Stand p l e R s m args below meth c T' locs (cells + 1) (slots + n) → T'.heap = h' → Ext h h' → Exa Z h' b C → (∀ {O nm d : String} {ty : FieldType}, Laid Z a0 C O nm d → parseFieldDescriptor d = some ty → Fld Z h' b O nm d (defaultValue ty)) → (∃ cell : Cell, h'[b]? = some cell ∧ cell.vm = .none ∧ cell.monitor = {}) → Go p.tables e below P T' (mkF m pc' Ls (.ref b :: st))) : Go p.tables e below P T (mkF m pc Ls st) := by
  subst hp
  obtain ⟨T', h', X', e', E, A, D, U, stp⟩ := newO X hx hZ hown w wi wz eT (g := mkF m pc Ls st) rfl hd hc hl
  exact Go.next stp (r T' h' _ rfl X' e' E A D U)
theorem w_newarray (X : Stand p l e R s m args below meth c T locs cells slots) (hx : p.tables.exec = Jvm.exec) (hZ : Z.Warmed39 s.vm) {aty : ArrayType} {ty : FieldType} {dv : Value} (hty : newarray.typeOf aty = ty) (hdv : defaultValue ty = dv) (w : (Jvm.Cond.arrayClass ty).before a0 Z = true) (eT : T.heap = h) {n : Int32} (hd : decode c.code pc = .ok (.newarray aty, 2)) (hn : ¬ n < 0) {cap : Nat} (hcap : n.toNatClampNeg ≤ cap) (hb : cap * 8 ≤ 536870912) (hc : cells + 1 ≤ R.cells) (hl : slots + cap ≤ R.slots) (hp : pc + 2 = pc')
    (r : ∀ T' h' b k, h.size = b → Stand p l e R s m args below meth c T' locs (cells + 1) (slots + cap) → T'.heap = h' → Ext h h' → Arv Z h' b k ty n (List.replicate n.toNatClampNeg dv) dv → Go p.tables e below P T' (mkF m pc' Ls (.ref b :: st))) : Go p.tables e below P T (mkF m pc Ls (.int n :: st)) := by
  subst hp hty hdv
  obtain ⟨T', h', k, X', e', E, A, stp⟩ := newP X hx hZ w eT (g := mkF m pc Ls (.int n :: st)) rfl hd rfl hn hcap hb hc hl
  exact Go.next stp (r T' h' _ k rfl X' e' E ((Arv.new A hn).pad (pad_rep [] _ _)))
abbrev BackQ (l : Launch) (R : Room) (p : Program) (e : Env) (below : List Frame) (s : State) (args : Array Value) (y : MethodName) (W : Nat) (as' : Array Value) (h : Heap) (kc ks : Nat) (Q : Option Value → Heap → List Loc → Prop) : Prop :=
  Back l R p e below s args y 3 W (fun A a => a = as' ∧ A.U.heap = h ∧ A.cells + kc ≤ R.cells ∧ A.slots + ks ≤ R.slots) (fun A _ v B => ∃ L, Q v B.U.heap L ∧ B.locs = A.locs ++ L ∧ B.cells = A.cells + kc ∧ B.slots = A.slots + ks)
theorem backC {y : MethodName} {bytes : ByteArray} {maxL : Nat} {ret : Option FieldType} {rm : Room} {W : Nat} {as' : Array Value} {Q : Option Value → Heap → List Loc → Prop} (hM : Ct l y bytes maxL ret rm Z as' h Q) (hZ : Z.Warmed39 s.vm) (wc : (Jvm.Cond.code y bytes maxL ret).before a0 Z = true) (wz : (Jvm.Cond.initialized y.cls).before a0 Z = true) (hf : rm.frames + 1 ≤ R.frames) (hl : W + (maxL + 11) + rm.locals ≤ R.locals) : BackQ l R p e below s args y W as' h rm.cells rm.slots Q :=
  backOf hM hZ wc wz hf hl
theorem w_static (X : Stand p l e R s m args below meth c T locs cells slots) (hx : p.tables.exec = Jvm.exec) (hZ : Z.Warmed39 s.vm) {own : String} {index : Nat} {y : MethodName} {bytes : ByteArray} {maxL : Nat} {ret : Option FieldType} {sig : MethodDescriptor} (hown : s.vm.findClass own = some m.cls) (w1 : (Jvm.Cond.methodLink own index y).before a0 Z = true) (w2 : (Jvm.Cond.static y).before a0 Z = true) (w3 : (Jvm.Cond.initialized y.cls).before a0 Z = true) (w4 : (Jvm.Cond.code y bytes maxL ret).before a0 Z = true)
    (hy : y.cls ≠ "java/lang/invoke/MethodHandle" ∧ y.cls ≠ "java/lang/invoke/VarHandle") {W kc ks : Nat} {as' : Array Value} {Q : Option Value → Heap → List Loc → Prop} (hK : BackQ l R p e below s args y W as' h kc ks Q) (eT : T.heap = h) (hsize : Ls.size = c.maxLocals) {argsL : List Value} (hsig : parseMethodDescriptor y.desc = some sig) (hlen : argsL.length = sig.parameters.length) (hstk : stk = argsL.reverse ++ st) (has : argsL.toArray = as') (hW : (st.map fun v => v.category).sum ≤ W) (hd : decode c.code pc = .ok (.invokestatic index, 3)) (hc : cells + kc ≤ R.cells) (hs : slots + ks ≤ R.slots) (hp : pc + 3 = pc')
    (r : ∀ T' v L, Stand p l e R s m args below meth c T' (locs ++ L) (cells + kc) (slots + ks) → Q v T'.heap L → Go p.tables e below P T' (mkF m pc' Ls (v.toList ++ st))) : Go p.tables e below P T (mkF m pc Ls stk) := by
  subst hp hstk
  obtain ⟨v, _, ⟨T', L', k', n'⟩, -, X', ⟨Lc, hQ, l', y', z'⟩, stp⟩ := Jvm.LawKit.callS X hx (y := y) hown (mvT hZ w1) (mvT hZ w2) (mvT hZ w3) (mvT hZ w4) hy hK (g := mkF m pc Ls (argsL.reverse ++ st)) rfl hsize (argsL := argsL) (rest := st) (lenOf hsig hlen) rfl (by show 2 * 0 + _ ≤ _; omega) hd (fun _ _ => ⟨has, eT, hc, hs⟩)
  dsimp only at X' hQ l' y' z' stp
  subst l' y' z'
  exact Go.next stp (r T' v Lc X' hQ)
theorem w_virtual (X : Stand p l e R s m args below meth c T locs cells slots) (hx : p.tables.exec = Jvm.exec) (hZ : Z.Warmed39 s.vm) {own C : String} {index : Nat} {y z : MethodName} {sig : MethodDescriptor} (hown : s.vm.findClass own = some m.cls) (w1 : (Jvm.Cond.methodLink own index y).before a0 Z = true) (w2 : (Jvm.Cond.declares y).before a0 Z = true) (hnf : NotFace s y) (w3 : (Jvm.Cond.selects C y z).before a0 Z = true) (w4 : (Jvm.Cond.instanceMethod z).before a0 Z = true)
    (hy : y.cls ≠ "java/lang/invoke/MethodHandle" ∧ y.cls ≠ "java/lang/invoke/VarHandle") {W kc ks : Nat} {as' : Array Value} {Q : Option Value → Heap → List Loc → Prop} (hK : BackQ l R p e below s args z W as' h kc ks Q) (eT : T.heap = h) {b : Addr} (E : Exa Z h b C) (hsize : Ls.size = c.maxLocals) {argsL : List Value} (hsig : parseMethodDescriptor y.desc = some sig) (hlen : argsL.length = sig.parameters.length) (hstk : stk = argsL.reverse ++ .ref b :: st) (has : (.ref b :: argsL).toArray = as') (hW : (st.map fun v => v.category).sum ≤ W) (hd : decode c.code pc = .ok (.invokevirtual index, 3)) (hc : cells + kc ≤ R.cells) (hs : slots + ks ≤ R.slots) (hp : pc + 3 = pc')
    (r : ∀ T' v L, Stand p l e R s m args below meth c T' (locs ++ L) (cells + kc) (slots + ks) → Q v T'.heap L → Go p.tables e below P T' (mkF m pc' Ls (v.toList ++ st))) : Go p.tables e below P T (mkF m pc Ls stk) := by
  subst hp hstk
  obtain ⟨cq, kq, qa, qb, qc⟩ := isOf hZ eT E
  obtain ⟨v, _, ⟨T', L', k', n'⟩, -, X', ⟨Lc, hQ, l', y', z'⟩, stp⟩ := X.virtualBack hx (y := y) (z := z) hown (mvT hZ w1) (mvT hZ w2) hnf (mvT hZ w3) (mvT hZ w4) hy hK qa qc (g := mkF m pc Ls (argsL.reverse ++ .ref b :: st)) rfl hsize (Steps.refl _) (argsL := argsL) (rest := st) (lenOf hsig hlen) rfl (by show 2 * 0 + _ ≤ _; omega) hd (fun _ _ => ⟨has, eT, hc, hs⟩)
  dsimp only at X' hQ l' y' z' stp
  subst l' y' z'
  exact Go.jump stp (r T' v Lc X' hQ)
theorem w_special (X : Stand p l e R s m args below meth c T locs cells slots) (hx : p.tables.exec = Jvm.exec) (hZ : Z.Warmed39 s.vm) {own : String} {index : Nat} {y : MethodName} {bytes : ByteArray} {maxL : Nat} {sig : MethodDescriptor} (hy1 : y.name = "<init>") (hown : s.vm.findClass own = some m.cls) (w1 : (Jvm.Cond.methodLink own index y).before a0 Z = true) (w2 : (Jvm.Cond.instanceMethod y).before a0 Z = true) (w4 : (Jvm.Cond.code y bytes maxL none).before a0 Z = true)
    (hy : y.cls ≠ "java/lang/invoke/MethodHandle" ∧ y.cls ≠ "java/lang/invoke/VarHandle") {W kc ks : Nat} {as' : Array Value} {Q : Option Value → Heap → List Loc → Prop} (hK : BackQ l R p e below s args y W as' h kc ks Q) (eT : T.heap = h) {b : Addr} (hsize : Ls.size = c.maxLocals) {argsL : List Value} (hsig : parseMethodDescriptor y.desc = some sig) (hlen : argsL.length = sig.parameters.length) (hstk : stk = argsL.reverse ++ .ref b :: st) (has : (.ref b :: argsL).toArray = as') (hW : (st.map fun v => v.category).sum ≤ W) (hd : decode c.code pc = .ok (.invokespecial index, 3)) (hc : cells + kc ≤ R.cells) (hs : slots + ks ≤ R.slots) (hp : pc + 3 = pc')
    (r : ∀ T' v L, Stand p l e R s m args below meth c T' (locs ++ L) (cells + kc) (slots + ks) → Q v T'.heap L → Go p.tables e below P T' (mkF m pc' Ls (v.toList ++ st))) : Go p.tables e below P T (mkF m pc Ls stk) := by
  subst hp hstk
  obtain ⟨v, _, ⟨T', L', k', n'⟩, -, X', ⟨Lc, hQ, l', y', z'⟩, stp⟩ := X.specialBack hx (y := y) hy1 hown (mvT hZ w1) (mvT hZ w2) (mvT hZ w4) hy hK (g := mkF m pc Ls (argsL.reverse ++ .ref b :: st)) rfl hsize (Steps.refl _) (a := b) (argsL := argsL) (rest := st) (lenOf hsig hlen) rfl (by show 2 * 0 + _ ≤ _; omega) hd (fun _ _ => ⟨has, eT, hc, hs⟩)
  dsimp only at X' hQ l' y' z' stp
  subst l' y' z'
  exact Go.jump stp (r T' v Lc X' hQ)
theorem w_initO (X : Stand p l e R s m args below meth c T locs cells slots) (hx : p.tables.exec = Jvm.exec) (hZ : Z.Warmed39 s.vm) {own : String} {idx : Nat} (hown : s.vm.findClass own = some m.cls) (w1 : (Jvm.Cond.methodLink own idx Lib.objectInit).before a0 Z = true) (w2 : (Jvm.Cond.instanceMethod Lib.objectInit).before a0 Z = true)
    (w3 : (Jvm.Cond.code Lib.objectInit ⟨#[0xb1]⟩ 1 none).before a0 Z = true) (eT : T.heap = h) (hsize : Ls.size = c.maxLocals) {a : Addr} (hd : decode c.code pc = .ok (.invokespecial idx, 3)) (hf : 1 ≤ R.frames) {W : Nat} (hW : (st.map fun v => v.category).sum ≤ W) (hl : W + 12 ≤ R.locals) (hp : pc + 3 = pc') (r : ∀ T', Stand p l e R s m args below meth c T' locs cells slots → T'.heap = h → Go p.tables e below P T' (mkF m pc' Ls st)) : Go p.tables e below P T (mkF m pc Ls (.ref a :: st)) := by
  subst hp
  obtain ⟨T', X', e', stp⟩ := initO X hx hZ hown w1 w2 w3 eT (g := mkF m pc Ls (.ref a :: st)) rfl hsize rfl hd hf (W := W) (by show 2 * 0 + _ ≤ _; omega) hl
  exact Go.next stp (r T' X' e')
theorem w_castY (X : Stand p l e R s m args below meth c T locs cells slots) (hx : p.tables.exec = Jvm.exec) (hZ : Z.Warmed39 s.vm) {own K : String} {index : Nat} (hown : s.vm.findClass own = some m.cls) (w : (Jvm.Cond.classLink own index K).before a0 Z = true) (eT : T.heap = h) {a : Addr} (F : Ins Z h a K true) (hd : decode c.code pc = .ok (.checkcast index, 3)) (hp : pc + 3 = pc') (r : ∀ T', Stand p l e R s m args below meth c T' locs cells slots → T'.heap = h → Go p.tables e below P T' (mkF m pc' Ls (.ref a :: st))) : Go p.tables e below P T (mkF m pc Ls (.ref a :: st)) := by
  subst hp
  obtain ⟨T', X', e', stp⟩ := castY X hx hZ hown w eT F (g := mkF m pc Ls (.ref a :: st)) rfl rfl hd
  exact Go.next stp (r T' X' e')
theorem w_instY (X : Stand p l e R s m args below meth c T locs cells slots) (hx : p.tables.exec = Jvm.exec) (hZ : Z.Warmed39 s.vm) {own K : String} {index : Nat} (hown : s.vm.findClass own = some m.cls) (w : (Jvm.Cond.classLink own index K).before a0 Z = true) (eT : T.heap = h) {a : Addr} (F : Ins Z h a K true) (hd : decode c.code pc = .ok (.instanceof index, 3)) (hp : pc + 3 = pc') (r : ∀ T', Stand p l e R s m args below meth c T' locs cells slots → T'.heap = h → Go p.tables e below P T' (mkF m pc' Ls (.int 1 :: st))) : Go p.tables e below P T (mkF m pc Ls (.ref a :: st)) := by
  subst hp
  obtain ⟨T', X', e', stp⟩ := instY X hx hZ hown w eT F (g := mkF m pc Ls (.ref a :: st)) rfl rfl hd
  exact Go.next stp (r T' X' e')
theorem w_cloneA (X : Stand p l e R s m args below meth c T locs cells slots) (hx : p.tables.exec = Jvm.exec) (hZ : Z.Warmed39 s.vm) {own ad : String} {index : Nat} (hown : s.vm.findClass own = some m.cls)
    (w1 : (Jvm.Cond.methodLink own index ⟨ad, "clone", "()Ljava/lang/Object;"⟩).before a0 Z = true) (w2 : (Jvm.Cond.sameMethod ad "java/lang/Object" "clone" "()Ljava/lang/Object;").before a0 Z = true) (w3 : (Jvm.Cond.native ⟨"java/lang/Object", "clone", "()Ljava/lang/Object;"⟩).before a0 Z = true)
    (w4 : (Jvm.Cond.instanceMethod ⟨"java/lang/Object", "clone", "()Ljava/lang/Object;"⟩).before a0 Z = true) (w5 : (Jvm.Cond.selects ad ⟨ad, "clone", "()Ljava/lang/Object;"⟩ ⟨"java/lang/Object", "clone", "()Ljava/lang/Object;"⟩).before a0 Z = true) (w6 : (Jvm.Cond.castable ad "java/lang/Cloneable").before a0 Z = true)
    (eT : T.heap = h) {a : Addr} {k : ClassId} {ty : FieldType} {n : Int32} {vs : List Value} {dv : Value} (A : Arv Z h a k ty n vs dv) (E : Exa Z h a ad) (hsize : Ls.size = c.maxLocals) (hd : decode c.code pc = .ok (.invokevirtual index, 3))
    (hf : 1 ≤ R.frames) {W cap : Nat} (hW : (st.map fun v => v.category).sum ≤ W) (hl : W + 14 ≤ R.locals) (hcap : n.toNatClampNeg ≤ cap) (hc : cells + 1 ≤ R.cells) (hsl : slots + cap ≤ R.slots) (hp : pc + 3 = pc')
    (r : ∀ T' h' b, h.size = b → Stand p l e R s m args below meth c T' locs (cells + 1) (slots + cap) → T'.heap = h' → Ext h h' → Arv Z h' b k ty n vs dv → Exa Z h' b ad → Go p.tables e below P T' (mkF m pc' Ls (.ref b :: st))) : Go p.tables e below P T (mkF m pc Ls (.ref a :: st)) := by
  subst hp
  obtain ⟨cl, Ar, q1, S, M, H, G⟩ := A
  have F : FitC Z cl := fitC_of Ar fun i hi v hv => by rw [H i hi] at hv; cases hv; exact G i hi
  obtain ⟨T', h', X', e', Ex, A', E', stp⟩ := cloneA X hx hZ hown w1 w2 w3 w4 w5 w6 eT Ar E F (g := mkF m pc Ls (.ref a :: st)) rfl hsize rfl hd hf (W := W) (cap := cap) (by show 2 * 0 + _ ≤ _; omega) hl (by rw [S]; exact hcap) hc hsl
  exact Go.next stp (r T' h' _ rfl X' e' Ex ⟨cloneOf cl, A', q1, S, M, H, G⟩ E')
end WH
theorem w_ldcI {p : Program} {l : Launch} {e : Env} {R : Room} {s : State} {m : MethodId} {args : Array Value} {below : List Frame} {meth : Method} {c : Code} {T : State} {locs : List Loc} {cells slots : Nat} {pc pc' : Nat} {Ls : Array Slot} {st : List Value} {P : State → Prop} {Z : State} {a0 : Array Value}
    (X : Stand p l e R s m args below meth c T locs cells slots) (hx : p.tables.exec = Jvm.exec) (hZ : Z.Warmed39 s.vm) {own : String} {index : Nat} {v : Int32} (hown : s.vm.findClass own = some m.cls) (w : (Jvm.Cond.constant own index v).before a0 Z = true) (hd : decode c.code pc = .ok (.ldc index, 2)) (hp : pc + 2 = pc') (r : Go p.tables e below P T (mkF m pc' Ls (.int v :: st))) : Go p.tables e below P T (mkF m pc Ls st) := by
  subst hp
  exact Go.next (fun t hr => X.ldcI hx hown (mvT hZ w) (g := mkF m pc Ls st) rfl hd hr) r

/-! the same for walks that may load String constants (the base's tables move: s.setVm vm0) -/
section WW
variable {p : Program} {l : Launch} {e : Env} {R : Room} {s : State} {vm0 : Vm} {m : MethodId} {args : Array Value} {below : List Frame} {meth : Method} {c : Code} {T : State} {locs : List Loc} {cells slots : Nat} {pc pc' : Nat} {Ls : Array Slot} {st stk : List Value} {P : State → Prop} {Z : State} {a0 : Array Value} {h h0 : Heap} {EL : List (String × Nat)} {Q : Option Value → Heap → List Loc → Prop} {K N k0 : Nat}
/-- how such a body ends -/
def EndW (Z : State) (EL : List (String × Nat)) (s : State) (below : List Frame) (Q : Option Value → Heap → List Loc → Prop) (K N : Nat) (t : State) : Prop := t.status = .running ∧ ∃ v L, Ended t below (.returned v) ∧ Q v t.heap L ∧ CHr Z EL s.vm s.heap t.vm t.heap ∧ ReturnedEndW s (.returned v) t L K N
/-- what a wide walk carries from step to step: the constants' book, and that the tables only grew -/
def Wd (Z : State) (a0 : Array Value) (EL : List (String × Nat)) (s : State) (own : String) (cl : ClassId) (vm0 : Vm) (h : Heap) : Prop := (∃ k0, s.Since vm0 k0 ∧ k0 ≤ h.size) ∧ Z.Warmed39 vm0 ∧ vm0.findClass own = some cl ∧ CHr Z EL s.vm s.heap vm0 h ∧ EW Z a0 EL
theorem Wd.ext {own : String} {cl : ClassId} {h' : Heap} (W : Wd Z a0 EL s own cl vm0 h) (E : Ext h h') : Wd Z a0 EL s own cl vm0 h' := by
  obtain ⟨⟨k0, q1, q2⟩, q3, q4, q5, q6⟩ := W
  exact ⟨⟨k0, q1, Nat.le_trans q2 E.1⟩, q3, q4, q5.trans (CHr.ext E q5.1), q6⟩
theorem Wd.wr {own : String} {cl : ClassId} {h' : Heap} {a : Addr} {sl : Nat} {v : Value} (D : Wd Z a0 EL s own cl vm0 h) (W : Wr h h' a sl v) (S : Safe Z EL vm0 h a) : Wd Z a0 EL s own cl vm0 h' := by
  obtain ⟨⟨k0, q1, q2⟩, q3, q4, q5, q6⟩ := D
  exact ⟨⟨k0, q1, by rw [W.size]; exact q2⟩, q3, q4, q5.trans (CHr.wr W S q5.1), q6⟩
theorem Wd.keep {own : String} {cl : ClassId} {h' : Heap} {ws : List Addr} (D : Wd Z a0 EL s own cl vm0 h) (Kp : Keep h h' ws) (S : ∀ x ∈ ws, Safe Z EL vm0 h x) : Wd Z a0 EL s own cl vm0 h' := by
  obtain ⟨⟨k0, q1, q2⟩, q3, q4, q5, q6⟩ := D
  exact ⟨⟨k0, q1, Nat.le_trans q2 Kp.1⟩, q3, q4, q5.trans (CHr.keep Kp S q5.1), q6⟩
theorem Wd.zw {own : String} {cl : ClassId} (D : Wd Z a0 EL s own cl vm0 h) : Z.Warmed39 (s.setVm vm0).vm := D.2.1
theorem Wd.ow {own : String} {cl : ClassId} (D : Wd Z a0 EL s own cl vm0 h) : (s.setVm vm0).vm.findClass own = some cl := D.2.2.1
theorem Wd.end_ {own : String} (D : Wd Z a0 EL s own m.cls vm0 h) (X : Stand p l e R (s.setVm vm0) m args below meth c T locs cells slots) (eT : T.heap = h) : CHr Z EL s.vm s.heap T.vm T.heap := by
  subst eT; exact D.2.2.2.1.trans (CHv.at X D.2.1 D.2.2.2.2 D.2.2.2.1.1)
theorem endIW {own : String} (X : Stand p l e R (s.setVm vm0) m args below meth c T locs cells slots) (hx : p.tables.exec = Jvm.exec) (D : Wd Z a0 EL s own m.cls vm0 h) (eT : T.heap = h) (hlk : meth.locks = false) {z : Int32} (hret : meth.sig.returnType = some .int) (hd : decode c.code pc = .ok (.ireturn, 1)) (hc : cells ≤ K) (hs : slots ≤ N) (hQ : Q (some (.int z)) T.heap locs) : Go p.tables e below (EndW Z EL s below Q K N) T (mkF m pc Ls (.int z :: st)) := by
  obtain ⟨k0, q1, q2⟩ := D.1
  obtain ⟨fs, hr, hrun, hended, h1, h2, h3, h4⟩ := X.leaveW q1 (by rw [eT]; exact q2) (v := some (.int z)) (fun h => by rw [hret] at h; cases h) hlk
  exact ⟨_, retI X hx hret hd hr, hrun, _, _, hended, hQ, (show CHr Z EL s.vm s.heap T.vm T.heap from D.end_ X eT), h1, h2, h3, h4.mono hc hs⟩
theorem endZW {own : String} (X : Stand p l e R (s.setVm vm0) m args below meth c T locs cells slots) (hx : p.tables.exec = Jvm.exec) (D : Wd Z a0 EL s own m.cls vm0 h) (eT : T.heap = h) (hlk : meth.locks = false) {z z' : Int32} {t : FieldType} (hret : meth.sig.returnType = some t) (ht : t = .boolean ∨ t = .byte ∨ t = .char ∨ t = .short) (hd : decode c.code pc = .ok (.ireturn, 1)) (hz : nar t z = z') (hc : cells ≤ K) (hs : slots ≤ N) (hQ : Q (some (.int z')) T.heap locs) : Go p.tables e below (EndW Z EL s below Q K N) T (mkF m pc Ls (.int z :: st)) := by
  subst hz
  obtain ⟨k0, q1, q2⟩ := D.1
  obtain ⟨fs, hr, hrun, hended, h1, h2, h3, h4⟩ := X.leaveW q1 (by rw [eT]; exact q2) (v := some (.int (nar t z))) (fun h => by rw [hret] at h; cases h) hlk
  exact ⟨_, retN X hx hret ht hd hr, hrun, _, _, hended, hQ, (show CHr Z EL s.vm s.heap T.vm T.heap from D.end_ X eT), h1, h2, h3, h4.mono hc hs⟩
theorem endVW {own : String} (X : Stand p l e R (s.setVm vm0) m args below meth c T locs cells slots) (hx : p.tables.exec = Jvm.exec) (D : Wd Z a0 EL s own m.cls vm0 h) (eT : T.heap = h) (hlk : meth.locks = false) (hret : meth.sig.returnType = none) (hd : decode c.code pc = .ok (.return_, 1)) (hc : cells ≤ K) (hs : slots ≤ N) (hQ : Q none T.heap locs) : Go p.tables e below (EndW Z EL s below Q K N) T (mkF m pc Ls []) := by
  obtain ⟨k0, q1, q2⟩ := D.1
  obtain ⟨fs, hr, hrun, hended, h1, h2, h3, h4⟩ := X.leaveW q1 (by rw [eT]; exact q2) (v := none) (fun _ => rfl) hlk
  exact ⟨_, X.returnOut hx hret hd hr, hrun, _, _, hended, hQ, (show CHr Z EL s.vm s.heap T.vm T.heap from D.end_ X eT), h1, h2, h3, h4.mono hc hs⟩
theorem endRW {own : String} (X : Stand p l e R (s.setVm vm0) m args below meth c T locs cells slots) (hx : p.tables.exec = Jvm.exec) (D : Wd Z a0 EL s own m.cls vm0 h) (eT : T.heap = h) (hlk : meth.locks = false) {v : Value} {t : FieldType} (hv : v.isRef = true) (hret : meth.sig.returnType = some t) (ht : t.isReference = true) (hd : decode c.code pc = .ok (.areturn, 1)) (hc : cells ≤ K) (hs : slots ≤ N) (hQ : Q (some v) T.heap locs) : Go p.tables e below (EndW Z EL s below Q K N) T (mkF m pc Ls (v :: st)) := by
  obtain ⟨k0, q1, q2⟩ := D.1
  obtain ⟨fs, hr, hrun, hended, h1, h2, h3, h4⟩ := X.leaveW q1 (by rw [eT]; exact q2) (v := some v) (fun h => by rw [hret] at h; cases h) hlk
  exact ⟨_, retR X hx hv hret ht hd hr, hrun, _, _, hended, hQ, (show CHr Z EL s.vm s.heap T.vm T.heap from D.end_ X eT), h1, h2, h3, h4.mono hc hs⟩
abbrev CtW (l : Launch) (y : MethodName) (bytes : ByteArray) (maxL : Nat) (ret : Option FieldType) (rm : Room) (Z : State) (EL : List (String × Nat)) (as' : Array Value) (h0 : Heap) (Q : Option Value → Heap → List Loc → Prop) : Prop :=
  MetFree l y (head1 [Jvm.Cond.code y bytes maxL ret] rm) (fun a U => a = as' ∧ Z.Warmed39 U.vm ∧ U.heap = h0 ∧ CHv Z EL U.vm h0) (fun _ _ _ _ _ => True) (fun _ U o U' => ∃ v L, o = .returned v ∧ Q v U'.heap L ∧ CHr Z EL U.vm U.heap U'.vm U'.heap ∧ ReturnedEndW U o U' L rm.cells rm.slots)
theorem ct_ofW {y : MethodName} {bytes : ByteArray} {maxL : Nat} {ret : Option FieldType} {rm : Room} {as' : Array Value} {ws : List Jvm.Cond} (hpn : plainFor y = true) (hEL : EW Z a0 EL)
    (body : ∀ (p : Program) (e : Env) (s : State) (m : MethodId) (below : List Frame) (meth : Method) (c : Code) (s₁ : State), Stand p l e rm (s.setVm s.vm) m as' below meth c s₁ [] 0 0 → p.tables.exec = Jvm.exec → c.code = bytes → c.maxLocals = maxL → meth.sig.returnType = ret → meth.name = y.name → meth.locks = false → Wd Z a0 EL s y.cls m.cls s.vm h0 → s.heap = h0 → s₁.heap = h0 → Go p.tables e below (EndW Z EL s below Q K N) s₁ (entryFrame m as' maxL)) :
    MetFree l y (head1 (Jvm.Cond.code y bytes maxL ret :: ws) rm) (fun a U => a = as' ∧ Z.Warmed39 U.vm ∧ U.heap = h0 ∧ CHv Z EL U.vm h0) (fun _ _ _ _ _ => True) (fun _ U o U' => ∃ v L, o = .returned v ∧ Q v U'.heap L ∧ CHr Z EL U.vm U.heap U'.vm U'.heap ∧ ReturnedEndW U o U' L K N) := by
  refine MetFree.of_bodySF hpn hisR ?_
  intro p e s m args below meth c s₁ Bd hml0 hP hK
  obtain ⟨rfl, hZ, hh, hCH⟩ := hP
  have e0 : s₁.heap = h0 := by rw [← hh, Bd.state]; rfl
  have W : Wd Z a0 EL s y.cls m.cls s.vm h0 := ⟨⟨0, (State.WarmedH.refl s).since 0, Nat.zero_le _⟩, hZ, findClass_of_methodNamed Bd.named, by rw [hh]; exact CHr.refl hCH, hEL⟩
  obtain ⟨t, g1, g2, v, L, g3, g4, g5, g6⟩ := body p e s m below meth c s₁ (Stand.of_body Bd) Bd.exec Bd.bytes hml0 Bd.returns (name_of_methodNamed Bd.named Bd.method).1 Bd.notSynchronized W hh e0
  exact ⟨t, _, g1, g2, g3, v, L, rfl, g4, g5, g6⟩
/-- ldc of a String constant whose text is known -/
theorem w_ldcS {own : String} (X : Stand p l e R (s.setVm vm0) m args below meth c T locs cells slots) (hx : p.tables.exec = Jvm.exec) (D : Wd Z a0 EL s own m.cls vm0 h) {text : String} {index : Nat} (w : (Jvm.Cond.stringLink own index text).before a0 Z = true) (wS : ∀ a ∈ Bundle.stringAtoms, a.before a0 Z = true) (eT : T.heap = h) (hmem : (own, index) ∈ EL)
    {vs : List Value} {z : Int32} (ht : (∀ c ∈ text.toList, c.toNat < 256) ∧ text.toList.map (fun c => Value.int (Jvm.Lit.byteI c.toNat.toUInt16)) = vs) (hz : ¬ z < 0) (hl : z.toNatClampNeg = vs.length)
    (hd : decode c.code pc = .ok (.ldc index, 2)) {n : Nat} (hn : 4 * text.toList.length ≤ n) (hbig : n ≤ 536870912) (hc : cells + 2 ≤ R.cells) (hl' : slots + (n + 4) ≤ R.slots) (hp : pc + 2 = pc')
    (r : ∀ (a : Addr) (T' : State) (h' : Heap) (b : Addr) (k : ClassId), Stand p l e R (s.setVm T'.vm) m args below meth c T' locs (cells + 2) (slots + (n + 4)) → T'.heap = h' → Ext h h' → Wd Z a0 EL s own m.cls T'.vm h' → Exa Z h' a "java/lang/String" → Fld Z h' a "java/lang/String" "coder" "B" (.int 0) → Fld Z h' a "java/lang/String" "value" "[B" (.ref b) → Arv Z h' b k .byte z vs (.int 0) → CHr Z EL vm0 h T'.vm h' → Lit (s.setVm T'.vm) own index a → (∀ x, Safe Z EL T'.vm h' x → x ≠ a ∧ x ≠ b) → Go p.tables e below P T' (mkF m pc' Ls (.ref a :: st))) : Go p.tables e below P T (mkF m pc Ls st) := by
  subst hp
  obtain ⟨⟨k0, q1, q2⟩, q3, q4, q5, q6⟩ := D
  obtain ⟨a, T', h', k1, b, k, g1, g2, g3, g4, g5, g6, g7, g8, g9, g10, g11, g12, g13, g14, g15, g16, stp⟩ := ldcCH X hx q3 q4 w wS eT q1 q2 q6 hmem q5.1 ht hz hl (g := mkF m pc Ls st) rfl hd hn hbig hc hl'
  exact Go.next stp (r a T' h' b k g1 g2 g3 ⟨⟨k1, g4, g5⟩, g6, g7, q5.trans g14, q6⟩ g8 g9 g10 g11 g14 g15 g16)
theorem w_ldcA {own : String} (X : Stand p l e R (s.setVm vm0) m args below meth c T locs cells slots) (hx : p.tables.exec = Jvm.exec) (D : Wd Z a0 EL s own m.cls vm0 h) {text : String} {index : Nat} (w : (Jvm.Cond.stringLink own index text).before a0 Z = true) {a : Addr} (L : Lit (s.setVm vm0) own index a) (hd : decode c.code pc = .ok (.ldc index, 2)) (hp : pc + 2 = pc') (r : Go p.tables e below P T (mkF m pc' Ls (.ref a :: st))) : Go p.tables e below P T (mkF m pc Ls st) := by
  subst hp
  exact Go.next (ldcAgain X hx D.2.1 D.2.2.1 w L (g := mkF m pc Ls st) rfl hd) r
abbrev BackQW (l : Launch) (R : Room) (p : Program) (e : Env) (below : List Frame) (s : State) (vm0 : Vm) (args : Array Value) (y : MethodName) (W : Nat) (as' : Array Value) (Z : State) (EL : List (String × Nat)) (h : Heap) (kc ks : Nat) (Q : Option Value → Heap → List Loc → Prop) : Prop :=
  BackS l R p e below (s.setVm vm0) args y 3 W (fun A a => a = as' ∧ A.U.heap = h ∧ A.cells + kc ≤ R.cells ∧ A.slots + ks ≤ R.slots) (fun A _ v B => ∃ L, Q v B.U.heap L ∧ B.locs = A.locs ++ L ∧ B.cells = A.cells + kc ∧ B.slots = A.slots + ks ∧ CHr Z EL vm0 h B.U.vm B.U.heap)
theorem Wd.on {own : String} {T' : State} (D : Wd Z a0 EL s own m.cls vm0 h) (hS : (s.setVm vm0).Since T'.vm T'.heap.size) (hh : h.size ≤ T'.heap.size) (C : CHr Z EL vm0 h T'.vm T'.heap) : Wd Z a0 EL s own m.cls T'.vm T'.heap := by
  obtain ⟨⟨k0, q1, q2⟩, q3, q4, q5, q6⟩ := D
  exact ⟨⟨_, q1.trans hS (Nat.le_trans q2 hh), Nat.le_refl _⟩, State.Warmed39.trans (t := s.setVm vm0) q3 hS.1, (hS.1.alike.findClass _ _).trans q4, q5.trans C, q6⟩
theorem backCW {own : String} {y : MethodName} {bytes : ByteArray} {maxL : Nat} {ret : Option FieldType} {rm : Room} {W : Nat} {as' : Array Value} {Q : Option Value → Heap → List Loc → Prop} (hM : CtW l y bytes maxL ret rm Z EL as' h Q) (D : Wd Z a0 EL s own m.cls vm0 h) (wc : (Jvm.Cond.code y bytes maxL ret).before a0 Z = true) (wz : (Jvm.Cond.initialized y.cls).before a0 Z = true) (hf : rm.frames + 1 ≤ R.frames) (hl : W + (maxL + 11) + rm.locals ≤ R.locals) : BackQW l R p e below s vm0 args y W as' Z EL h rm.cells rm.slots Q :=
  backOfSH hM D.2.1 wc wz hf hl D.2.2.2.2 D.2.2.2.1.1
theorem w_staticW {own : String} (X : Stand p l e R (s.setVm vm0) m args below meth c T locs cells slots) (hx : p.tables.exec = Jvm.exec) (D : Wd Z a0 EL s own m.cls vm0 h) {index : Nat} {y : MethodName} {bytes : ByteArray} {maxL : Nat} {ret : Option FieldType} {sig : MethodDescriptor} (w1 : (Jvm.Cond.methodLink own index y).before a0 Z = true) (w2 : (Jvm.Cond.static y).before a0 Z = true) (w3 : (Jvm.Cond.initialized y.cls).before a0 Z = true) (w4 : (Jvm.Cond.code y bytes maxL ret).before a0 Z = true)
    (hy : y.cls ≠ "java/lang/invoke/MethodHandle" ∧ y.cls ≠ "java/lang/invoke/VarHandle") {W kc ks : Nat} {as' : Array Value} {Q : Option Value → Heap → List Loc → Prop} (hK : BackQW l R p e below s vm0 args y W as' Z EL h kc ks Q) (eT : T.heap = h) (hsize : Ls.size = c.maxLocals) {argsL : List Value} (hsig : parseMethodDescriptor y.desc = some sig) (hlen : argsL.length = sig.parameters.length) (hstk : stk = argsL.reverse ++ st) (has : argsL.toArray = as') (hW : (st.map fun v => v.category).sum ≤ W) (hd : decode c.code pc = .ok (.invokestatic index, 3)) (hc : cells + kc ≤ R.cells) (hs : slots + ks ≤ R.slots) (hp : pc + 3 = pc')
    (r : ∀ T' v L, Stand p l e R (s.setVm T'.vm) m args below meth c T' (locs ++ L) (cells + kc) (slots + ks) → Wd Z a0 EL s own m.cls T'.vm T'.heap → CHr Z EL vm0 h T'.vm T'.heap → Q v T'.heap L → Go p.tables e below P T' (mkF m pc' Ls (v.toList ++ st))) : Go p.tables e below P T (mkF m pc Ls stk) := by
  subst hp hstk
  obtain ⟨v, _, ⟨T', L', k', n'⟩, -, X', hS, hh, ⟨Lc, hQ, l', y', z', hC⟩, stp⟩ := callSS X hx (y := y) D.ow (mvT D.zw w1) (mvT D.zw w2) (mvT D.zw w3) (mvT D.zw w4) hy hK (g := mkF m pc Ls (argsL.reverse ++ st)) rfl hsize (argsL := argsL) (rest := st) (lenOf hsig hlen) rfl (by show 2 * 0 + _ ≤ _; omega) hd (fun _ _ => ⟨has, eT, hc, hs⟩)
  dsimp only at X' hQ l' y' z' hC hS hh stp
  subst l' y' z'
  exact Go.jump stp (r T' v Lc X' (D.on hS (by rw [← eT]; exact hh) hC) hC hQ)
theorem w_specialW {own : String} (X : Stand p l e R (s.setVm vm0) m args below meth c T locs cells slots) (hx : p.tables.exec = Jvm.exec) (D : Wd Z a0 EL s own m.cls vm0 h) {index : Nat} {y : MethodName} {bytes : ByteArray} {maxL : Nat} {sig : MethodDescriptor} (hy1 : y.name = "<init>") (w1 : (Jvm.Cond.methodLink own index y).before a0 Z = true) (w2 : (Jvm.Cond.instanceMethod y).before a0 Z = true) (w4 : (Jvm.Cond.code y bytes maxL none).before a0 Z = true)
    (hy : y.cls ≠ "java/lang/invoke/MethodHandle" ∧ y.cls ≠ "java/lang/invoke/VarHandle") {W kc ks : Nat} {as' : Array Value} {Q : Option Value → Heap → List Loc → Prop} (hK : BackQW l R p e below s vm0 args y W as' Z EL h kc ks Q) (eT : T.heap = h) {b : Addr} (hsize : Ls.size = c.maxLocals) {argsL : List Value} (hsig : parseMethodDescriptor y.desc = some sig) (hlen : argsL.length = sig.parameters.length) (hstk : stk = argsL.reverse ++ .ref b :: st) (has : (.ref b :: argsL).toArray = as') (hW : (st.map fun v => v.category).sum ≤ W) (hd : decode c.code pc = .ok (.invokespecial index, 3)) (hc : cells + kc ≤ R.cells) (hs : slots + ks ≤ R.slots) (hp : pc + 3 = pc')
    (r : ∀ T' v L, Stand p l e R (s.setVm T'.vm) m args below meth c T' (locs ++ L) (cells + kc) (slots + ks) → Wd Z a0 EL s own m.cls T'.vm T'.heap → CHr Z EL vm0 h T'.vm T'.heap → Q v T'.heap L → Go p.tables e below P T' (mkF m pc' Ls (v.toList ++ st))) : Go p.tables e below P T (mkF m pc Ls stk) := by
  subst hp hstk
  obtain ⟨v, _, ⟨T', L', k', n'⟩, -, X', hS, hh, ⟨Lc, hQ, l', y', z', hC⟩, stp⟩ := X.specialBackS hx (y := y) hy1 D.ow (mvT D.zw w1) (mvT D.zw w2) (mvT D.zw w4) hy hK (g := mkF m pc Ls (argsL.reverse ++ .ref b :: st)) rfl hsize (Steps.refl _) (a := b) (argsL := argsL) (rest := st) (lenOf hsig hlen) rfl (by show 2 * 0 + _ ≤ _; omega) hd (fun _ _ => ⟨has, eT, hc, hs⟩)
  dsimp only at X' hQ l' y' z' hC hS hh stp
  subst l' y' z'
  exact Go.jump stp (r T' v Lc X' (D.on hS (by rw [← eT]; exact hh) hC) hC hQ)
end WW

theorem Safe.null {Z : State} {EL : List (String × Nat)} {vm : Vm} {h : Heap} {x : Addr} (hal : Z.vm.Alike vm) (E : Exa Z h x "java/lang/String") (F : Fld Z h x "java/lang/String" "value" "[B" .null) : Safe Z EL vm h x := fun B => by
  obtain ⟨cell, k, e1, e2, e3, -, -⟩ := E
  obtain ⟨pr, -, u, a, -, q, -, G, rfl | rfl⟩ := B
  · obtain ⟨cS, ⟨⟨s1, s2, s3, ⟨cv, kv, iv, s4, s4'⟩, -, s6, s7, s8, -⟩, -⟩, -⟩ := G
    obtain ⟨kv', z4⟩ := ff_back (U := Wst Z vm h) hal s4
    obtain ⟨c2, cf, kf, i, f, g1, g2, -, -, -, -, g7⟩ := F
    cases (show h[q.sa]? = some q.sC from s1).symm.trans g1
    cases z4.symm.trans g2
    rw [s8] at g7; cases g7
  · have hd := (show h[q.sd]? = some q.SA from G.hd)
    cases hd.symm.trans e1
    obtain ⟨cS, -, -, f, -⟩ := G
    have f' : vm.findClass "[B" = some q.SA.cls := f
    rw [hal.findClass] at f'
    obtain ⟨k1, q1, q2⟩ := Vm.findClass_spec f'
    obtain ⟨k2, q3, q4⟩ := Vm.findClass_spec e2
    cases q1.symm.trans q3
    have := q2.symm.trans q4
    exact absurd this (by decide)

/-! Strings: the object at x is a String that spells the chars cs -/
def StrOf (Z : State) (h : Heap) (x : Addr) (cs : List Int32) : Prop := ∃ (t : Addr) (kb : ClassId) (cd N2 : Int32) (vs : List Value), Exa Z h x "java/lang/String" ∧ Fld Z h x "java/lang/String" "value" "[B" (.ref t) ∧ Fld Z h x "java/lang/String" "coder" "B" (.int cd) ∧ Arv Z h t kb .byte N2 vs (.int 0) ∧ StrChars.Road.CodA cs cd N2 vs ∧ (∀ c ∈ cs, ¬ c < 0 ∧ ¬ (65535 : Int32) < c) ∧ cs.length ≤ 4000
theorem StrOf.ext {Z : State} {h h' : Heap} {x : Addr} {cs : List Int32} (F : StrOf Z h x cs) (E : Ext h h') : StrOf Z h' x cs := by
  obtain ⟨t, kb, cd, N2, vs, a, b, c, d, r⟩ := F; exact ⟨t, kb, cd, N2, vs, a.ext E, b.ext E, c.ext E, d.ext E, r⟩
theorem StrOf.exa {Z : State} {h : Heap} {x : Addr} {cs : List Int32} (F : StrOf Z h x cs) : Exa Z h x "java/lang/String" := by
  obtain ⟨t, kb, cd, N2, vs, a, r⟩ := F; exact a
abbrev QEq (cs ds : List Int32) (h : Heap) (v : Option Value) (h' : Heap) (L : List Loc) : Prop := ((v = some (.int 1) ∧ cs = ds) ∨ (v = some (.int 0) ∧ ¬ cs = ds)) ∧ L = [] ∧ h' = h

abbrev QLen (cs : List Int32) (h : Heap) (v : Option Value) (h' : Heap) (L : List Loc) : Prop := v = some (.int (Int32.ofNat cs.length)) ∧ L = [] ∧ h' = h
theorem k_len {p : Program} {l : Launch} {e : Env} {R : Room} {s : State} {args : Array Value} {below : List Frame} {W : Nat} {Z : State} {a0 : Array Value} {h : Heap} (hZ : Z.Warmed39 s.vm) (hw : ∀ d ∈ StrChars.Road.wordsLen, d.before a0 Z = true) (wi : (Jvm.Cond.instantiable "java/lang/String" 4).before a0 Z = true)
    {x : Addr} {cs : List Int32} (A : StrOf Z h x cs) {z : Int32} (S : Sta Z h "java/lang/String" "COMPACT_STRINGS" "Z" (.int z)) (hz : ¬ z = 0) (hfr : 2 ≤ R.frames) (hlo : W + 25 ≤ R.locals) :
    BackQ l R p e below s args (⟨"java/lang/String", "length", "()I"⟩ : MethodName) W #[.ref x] h 0 0 (QLen cs h) := by
  obtain ⟨t, kb, cd, N2, vs, a1, a2, a3, a4, a5, a6, a7⟩ := A
  exact StrChars.Road.lenW hZ hw wi a1 a2 a3 a4 a5 a6 S hz a7 hfr hlo

/-! small numbers as Int32, lists as arrays' contents -/
theorem n_toInt {n : Nat} (h : n < 2 ^ 31) : (Int32.ofNat n).toInt = n := Int32.toInt_ofNat_small h
theorem n_nn {n : Nat} (h : n < 2 ^ 31) : ¬ Int32.ofNat n < 0 := by rw [Int32.lt_iff_toInt_lt, n_toInt h]; simp
theorem n_lt {i n : Nat} (h : i < n) (hn : n < 2 ^ 31) : Int32.ofNat i < Int32.ofNat n := by rw [Int32.lt_iff_toInt_lt, n_toInt hn, n_toInt (by omega)]; omega
theorem n_nlt {i n : Nat} (h : n ≤ i) (hn : i < 2 ^ 31) : ¬ Int32.ofNat i < Int32.ofNat n := by rw [Int32.lt_iff_toInt_lt, n_toInt hn, n_toInt (by omega)]; omega
theorem n_nat {n : Nat} (h : n < 2 ^ 31) : (Int32.ofNat n).toNatClampNeg = n := by simp only [Int32.toNatClampNeg, n_toInt h]; rfl
theorem n_succ (i : Nat) : Int32.ofNat i + (1 : Int32) = Int32.ofNat (i + 1) := (Int32.ofNat_add i 1).symm
theorem n_ne {i n : Nat} (h : i < n) (hn : n < 2 ^ 31) : ¬ Int32.ofNat i = Int32.ofNat n := fun q => by
  have := congrArg Int32.toInt q
  rw [n_toInt hn, n_toInt (by omega)] at this; omega
theorem n_shl1 {i : Nat} (h : 2 * i < 2 ^ 31) : Int32.ofNat i <<< ((1 : Int32) &&& 31) = Int32.ofNat (2 * i) := by
  have e : ((1 : Int32) &&& 31) = 1 := by decide
  rw [e]
  apply Int32.toBitVec_inj.mp
  have e1 : (Int32.ofNat i).toBitVec = BitVec.ofNat 32 i := rfl
  have e2 : (Int32.ofNat (2 * i)).toBitVec = BitVec.ofNat 32 (2 * i) := rfl
  have e3 : (Int32.ofNat i <<< (1 : Int32)).toBitVec = (Int32.ofNat i).toBitVec <<< 1 := rfl
  rw [e3, e1, e2]
  apply BitVec.eq_of_toNat_eq
  simp [BitVec.toNat_shiftLeft, Nat.shiftLeft_eq]
  omega
theorem in_rng {i n : Nat} (h : i < n) (hn : n < 2 ^ 31) : ¬ Int32.ofNat i < 0 ∧ Int32.ofNat i < Int32.ofNat n := ⟨n_nn (by omega), n_lt h hn⟩
theorem at_chr {cs : List Int32} {i : Nat} {d : Value} (h : i < cs.length) (hl : cs.length < 2 ^ 31) : (cs.map Value.int).getD (Int32.ofNat i).toNatClampNeg d = .int (cs.getD i 0) := by
  rw [n_nat (by omega)]; simp [List.getD_eq_getElem?_getD, h]
theorem set_app {α : Type} (A B : List α) (z v : α) (i : Nat) (h : A.length = i) : (A ++ z :: B).set i v = A ++ v :: B := by subst h; simp
/-- an array of bytes of which the first i are written -/
def fillB (cs : List Int32) (i : Nat) : List Value := (cs.take i).map (fun c => Value.int (StrChars.lo8 c)) ++ List.replicate (cs.length - i) (.int 0)
theorem fillB_len {cs : List Int32} {i : Nat} (h : i ≤ cs.length) : (fillB cs i).length = cs.length := by simp [fillB]; omega
theorem fillB_zero (cs : List Int32) : fillB cs 0 = List.replicate cs.length (.int 0) := by simp [fillB]
theorem fillB_all (cs : List Int32) : fillB cs cs.length = cs.map (fun c => Value.int (StrChars.lo8 c)) := by simp [fillB]
theorem take_succ' {cs : List Int32} {i : Nat} (h : i < cs.length) : cs.take (i + 1) = cs.take i ++ [cs.getD i 0] := by
  rw [List.take_add_one]; simp [List.getD_eq_getElem?_getD, h]
theorem fillB_set {cs : List Int32} {i : Nat} (h : i < cs.length) : (fillB cs i).set i (.int (StrChars.lo8 (cs.getD i 0))) = fillB cs (i + 1) := by
  have e : cs.length - i = (cs.length - (i + 1)) + 1 := by omega
  unfold fillB
  rw [e, List.replicate_succ, set_app _ _ _ _ _ (by simp; omega), take_succ' h]
  simp
/-- .. of two bytes a char -/
def fillW (cs : List Int32) (i : Nat) : List Value := StrChars.Road.wideBytes (cs.take i) ++ List.replicate (2 * (cs.length - i)) (.int 0)
theorem wide_len (cs : List Int32) : (StrChars.Road.wideBytes cs).length = 2 * cs.length := by
  induction cs with
  | nil => rfl
  | cons c r ih => simp [StrChars.Road.wideBytes] at ih ⊢; omega
theorem wide_app (cs : List Int32) (c : Int32) : StrChars.Road.wideBytes (cs ++ [c]) = StrChars.Road.wideBytes cs ++ [.int (StrChars.lo8 c), .int (StrChars.hi8 c)] := by
  induction cs with
  | nil => rfl
  | cons d r ih => simp [StrChars.Road.wideBytes] at ih ⊢; exact ih
theorem fillW_len {cs : List Int32} {i : Nat} (h : i ≤ cs.length) : (fillW cs i).length = 2 * cs.length := by simp [fillW, wide_len]; omega
theorem fillW_zero (cs : List Int32) : fillW cs 0 = List.replicate (2 * cs.length) (.int 0) := by simp [fillW, StrChars.Road.wideBytes]
theorem fillW_all (cs : List Int32) : fillW cs cs.length = StrChars.Road.wideBytes cs := by simp [fillW]
theorem fillW_set {cs : List Int32} {i : Nat} (h : i < cs.length) : ((fillW cs i).set (2 * i) (.int (StrChars.lo8 (cs.getD i 0)))).set (2 * i + 1) (.int (StrChars.hi8 (cs.getD i 0))) = fillW cs (i + 1) := by
  have e : 2 * (cs.length - i) = (2 * (cs.length - (i + 1)) + 1) + 1 := by omega
  have l1 : (StrChars.Road.wideBytes (cs.take i)).length = 2 * i := by rw [wide_len]; simp; omega
  unfold fillW
  rw [e, List.replicate_succ, List.replicate_succ, set_app _ _ _ _ _ l1]
  rw [show StrChars.Road.wideBytes (cs.take i) ++ Value.int (StrChars.lo8 (cs.getD i 0)) :: Value.int 0 :: List.replicate (2 * (cs.length - (i + 1))) (Value.int 0) = (StrChars.Road.wideBytes (cs.take i) ++ [Value.int (StrChars.lo8 (cs.getD i 0))]) ++ Value.int 0 :: List.replicate (2 * (cs.length - (i + 1))) (Value.int 0) from by simp]
  rw [set_app _ _ _ _ _ (by simp [l1]), take_succ' h, wide_app]
  simp
theorem nar_c2 (x : Int32) : nar .char (x.toUInt32.toUInt16.toUInt32.toInt32) = x.toUInt32.toUInt16.toUInt32.toInt32 := by
  generalize x.toUInt32.toUInt16 = u
  show (u.toUInt32.toInt32).toUInt32.toUInt16.toUInt32.toInt32 = _
  have e1 : u.toUInt32.toInt32.toUInt32 = u.toUInt32 := rfl
  have e2 : u.toUInt32.toUInt16 = u := by simp
  rw [e1, e2]

/-! from the case's words to facts of the start's heap -/
section ST
variable {args : Array Value} {Z : State}
theorem st_int {t : Term} {n : Int32} (h : (Jvm.Cond.eq t (.int n)).value args Z none Z [] = some true) : t.eval args Z none [] Z = some (.int n) := by
  obtain ⟨x, y, e1, e2, k1, k2⟩ := cmp_v (Or.inl h)
  have e2' : y = .int n := (Option.some.inj e2).symm
  subst e2'
  obtain ⟨z, rfl⟩ := k2
  have : z = n := by simpa [Cond.value, e1, Term.eval] using h
  subst this; exact e1
theorem st_ref {t u : Term} {a : Addr} (hu : u.eval args Z none [] Z = some (.ref a)) (h : (Jvm.Cond.eq t u).value args Z none Z [] = some true) : t.eval args Z none [] Z = some (.ref a) := by
  obtain ⟨x, y, e1, e2, k1, k2⟩ := cmp_v (Or.inl h)
  cases hu.symm.trans e2
  have hx : x.isRef = true := k2.2
  rcases ref_cases hx with rfl | ⟨b, rfl⟩
  · simp [Cond.value, e1, hu] at h
  · have : b = a := by simpa [Cond.value, e1, hu] using h
    subst this; exact e1
theorem st_len {t : Term} {a : Addr} {cl : Cell} {ty : FieldType} {n : Int32} (ht : t.eval args Z none [] Z = some (.ref a)) (A : Arr Z Z.heap a cl ty) (h : (Jvm.Cond.eq (.length t) (.int n)).value args Z none Z [] = some true) : cl.slots.size < 2 ^ 31 ∧ cl.slots.size.toInt32 = n := by
  have e := st_int h
  have hat := A.fin (Vm.Alike.refl _)
  simp only [Term.eval, ht, Option.bind_eq_bind, Option.bind_some, hat, Option.pure_def] at e
  by_cases q : cl.slots.size < 2 ^ 31
  · rw [if_pos q] at e; exact ⟨q, by cases e; rfl⟩
  · rw [if_neg q] at e; cases e
theorem st_elem {t i : Term} {a : Addr} {cl : Cell} {ty : FieldType} {j : Int32} {v : Value} (ht : t.eval args Z none [] Z = some (.ref a)) (A : Arr Z Z.heap a cl ty) (hi : i.eval args Z none [] Z = some (.int j)) (h : (Term.elem t i).eval args Z none [] Z = some v) : cl.slots[j.toNatClampNeg]? = some v := (elem_in h ht hi A.1).2
/-- the bytes of the array that t names, one word each -/
def ElemsEq (args : Array Value) (Z : State) (t : Term) : Nat → List Int32 → Prop
  | _, [] => True
  | i, b :: r => (Jvm.Cond.eq (.elem t (.int (Int32.ofNat i))) (.int b)).value args Z none Z [] = some true ∧ ElemsEq args Z t (i + 1) r
theorem st_has {t : Term} {a : Addr} {cl : Cell} {ty : FieldType} (ht : t.eval args Z none [] Z = some (.ref a)) (A : Arr Z Z.heap a cl ty) : ∀ (bs : List Int32) (i : Nat), i + bs.length < 2 ^ 31 → ElemsEq args Z t i bs → HasL cl i (bs.map Value.int)
  | [], _, _, _ => trivial
  | b :: r, i, hi, h => ⟨by
      have q := st_elem ht A (j := Int32.ofNat i) rfl (st_int h.1)
      have e : (Int32.ofNat i).toNatClampNeg = i := by
        have : (Int32.ofNat i).toInt = i := Int32.toInt_ofNat_small (by simp at hi; omega)
        simp only [Int32.toNatClampNeg, this]; rfl
      rwa [e] at q, st_has ht A r (i + 1) (by simp at hi; omega) h.2⟩
theorem st_str (hf : Fit Z) {t : Term} {x : Addr} {n : Int32} {cs bs : List Int32} (ht : t.eval args Z none [] Z = some (.ref x)) (h1 : (Jvm.Cond.exactly t "java/lang/String").value args Z none Z [] = some true) (h2 : (Jvm.Cond.eq (.field t "java/lang/String" "coder" "B") (.int 0)).value args Z none Z [] = some true)
    (h3 : (Jvm.Cond.arrayOf (.field t "java/lang/String" "value" "[B") .byte).value args Z none Z [] = some true) (h4 : (Jvm.Cond.eq (.length (.field t "java/lang/String" "value" "[B")) (.int n)).value args Z none Z [] = some true) (h5 : ElemsEq args Z (.field t "java/lang/String" "value" "[B") 0 bs)
    (hb : bs = cs.map StrChars.lo8) (hn : n = Int32.ofNat cs.length) (hl : cs.length ≤ 4000) (hc : ∀ c ∈ cs, ¬ c < 0 ∧ ¬ (255 : Int32) < c) : StrOf Z Z.heap x cs := by
  obtain ⟨b, eb⟩ := arr_v h3
  obtain ⟨cl, A⟩ := Arr.start eb h3
  obtain ⟨l1, l2⟩ := st_len eb A h4
  have nn : n.toInt = cs.length := by rw [hn]; exact Int32.toInt_ofNat_small (by omega)
  have lb : bs.length = cs.length := by rw [hb]; simp
  have V : Arv Z Z.heap b cl.cls .byte n (bs.map Value.int) (.int 0) := Arv.start hf A l1 l2 (by rw [Int32.lt_iff_toInt_lt, nn]; simp) (by simp only [Int32.toNatClampNeg, nn]; simp [lb]) (st_has eb A bs 0 (by omega) h5)
  refine ⟨b, cl.cls, 0, n, _, Exa.start ht h1, Fld.start ((fld_at ht).symm.trans eb), Fld.start ((fld_at ht).symm.trans (st_int h2)), V, ?_, fun c q => ⟨(hc c q).1, fun r => (hc c q).2 (by rw [Int32.lt_iff_toInt_lt] at r ⊢; exact Int.lt_trans (by decide) r)⟩, hl⟩
  subst hb hn
  exact Or.inl ⟨rfl, rfl, by simp [List.map_map, Function.comp_def], fun c q => (hc c q).2⟩
end ST

theorem own_wLen : ∀ d ∈ StrChars.Road.wordsLen, d ∈ tables_1 := by decide +kernel
theorem own_wStr : ∀ d ∈ Bundle.stringAtoms, d ∈ tables_1 := by decide +kernel

/-- the statics that the String code reads -/
def SU (Z : State) (h : Heap) (z : Int32) : Prop := Sta Z h "java/lang/String" "COMPACT_STRINGS" "Z" (.int z) ∧ ¬ z = 0 ∧ Sta Z h "java/lang/StringUTF16" "$assertionsDisabled" "Z" (.int 1) ∧ Sta Z h "java/lang/StringUTF16" "HI_BYTE_SHIFT" "I" (.int 0) ∧ Sta Z h "java/lang/StringUTF16" "LO_BYTE_SHIFT" "I" (.int 8)
theorem SU.ext {Z : State} {h h' : Heap} {z : Int32} (F : SU Z h z) (E : Ext h h') : SU Z h' z := ⟨F.1.ext E, F.2.1, F.2.2.1.ext E, F.2.2.2.1.ext E, F.2.2.2.2.ext E⟩
/-- the static facts, from the sets' words -/
theorem SU.start {Z : State} {args : Array Value} (w0 : (Jvm.Cond.initializedFor "java/lang/String" "COMPACT_STRINGS" "Z").before args Z = true) (w1 : (Jvm.Cond.isInt (.static "java/lang/String" "COMPACT_STRINGS" "Z")).before args Z = true) (w2 : (Jvm.Cond.not (.eq (.static "java/lang/String" "COMPACT_STRINGS" "Z") (.int 0))).before args Z = true)
    (w3 : (Jvm.Cond.initializedFor "java/lang/StringUTF16" "$assertionsDisabled" "Z").before args Z = true) (w4 : (Jvm.Cond.eq (.static "java/lang/StringUTF16" "$assertionsDisabled" "Z") (.int 1)).before args Z = true) (w5 : (Jvm.Cond.initializedFor "java/lang/StringUTF16" "HI_BYTE_SHIFT" "I").before args Z = true) (w6 : (Jvm.Cond.eq (.static "java/lang/StringUTF16" "HI_BYTE_SHIFT" "I") (.int 0)).before args Z = true)
    (w7 : (Jvm.Cond.initializedFor "java/lang/StringUTF16" "LO_BYTE_SHIFT" "I").before args Z = true) (w8 : (Jvm.Cond.eq (.static "java/lang/StringUTF16" "LO_BYTE_SHIFT" "I") (.int 8)).before args Z = true) : ∃ z, SU Z Z.heap z := by
  obtain ⟨z, ez⟩ := is_v (Cond.before_iff.mp w1)
  refine ⟨z, Sta.start ez (Or.inl w0), fun q => ?_, Sta.start (st_int (Cond.before_iff.mp w4)) (Or.inl w3), Sta.start (st_int (Cond.before_iff.mp w6)) (Or.inl w5), Sta.start (st_int (Cond.before_iff.mp w8)) (Or.inl w7)⟩
  have q2 := not_v (Cond.before_iff.mp w2)
  rw [eq_i ez (Term.int_eval 0) (by rw [q])] at q2
  cases q2
theorem hi8_def (c : Int32) : (c >>> ((8 : Int32) &&& 31)).toInt8.toInt32 = StrChars.hi8 c := rfl
theorem lo8_def (c : Int32) : (c >>> ((0 : Int32) &&& 31)).toInt8.toInt32 = StrChars.lo8 c := by rw [StrChars.shr0]; rfl
theorem wd_len {n : Nat} (h : 2 * n < 2 ^ 31) : (Int32.ofNat (2 * n)).toNatClampNeg = 2 * n := n_nat h


theorem ushr31_neg {x : Int32} (h : x < 0) : (x.toUInt32 >>> ((31 : Int32) &&& 31).toUInt32).toInt32 = 1 := by
  have hm : x.toBitVec.msb = true := (Jvm.Free.XT.neg32 x).mp h
  have e : (x.toUInt32 >>> ((31 : Int32) &&& 31).toUInt32).toInt32.toBitVec = x.toBitVec >>> 31 := rfl
  apply Int32.toBitVec_inj.mp
  rw [e]
  apply BitVec.eq_of_toNat_eq
  have h2 : 2 ^ 31 ≤ x.toBitVec.toNat := by
    have := BitVec.msb_eq_true_iff_two_mul_ge.mp hm
    omega
  have h3 : x.toBitVec.toNat < 2 ^ 32 := x.toBitVec.isLt
  have e2 : (1 : Int32).toBitVec.toNat = 1 := rfl
  rw [e2]
  simp [BitVec.toNat_ushiftRight, Nat.shiftRight_eq_div_pow]
  omega
theorem cod_len {cs : List Int32} {cd N2 : Int32} {vs : List Value} (h : StrChars.Road.CodA cs cd N2 vs) {n : Nat} (hl : cs.length = n) (hn : n ≤ 4000) : ((Int32.ofNat n - N2).toUInt32 >>> ((31 : Int32) &&& 31).toUInt32).toInt32 = cd := by
  rcases h with ⟨rfl, rfl, -⟩ | ⟨rfl, rfl, -, c, hc, -⟩
  · rw [hl, Int32.sub_self]; rfl
  · refine ushr31_neg ?_
    have : 0 < cs.length := List.length_pos_of_mem hc
    rw [Int32.lt_iff_toInt_lt, Int32.toInt_sub, n_toInt (by omega), n_toInt (by omega), hl]
    have e0 : (0 : Int32).toInt = 0 := rfl
    rw [e0, Int.bmod_eq_of_le (by omega) (by omega)]
    omega
theorem cod_cd {cs : List Int32} {cd N2 : Int32} {vs : List Value} (h : StrChars.Road.CodA cs cd N2 vs) : nar .byte cd = cd ∧ cd.toInt8.toInt32 = cd := by
  rcases h with ⟨rfl, -⟩ | ⟨rfl, -⟩ <;> exact ⟨rfl, rfl⟩

theorem d_jdk_52m_4_0 : decode jdk_52_method_4_code 0 = .ok (.getstatic 44, 3) := by decide +kernel
theorem d_jdk_52m_4_3 : decode jdk_52_method_4_code 3 = .ok (.ifCond .ne 25, 3) := by decide +kernel
theorem d_jdk_52m_4_28 : decode jdk_52_method_4_code 28 = .ok (.iload_n 1, 1) := by decide +kernel
theorem d_jdk_52m_4_29 : decode jdk_52_method_4_code 29 = .ok (.iconst 1, 1) := by decide +kernel
theorem d_jdk_52m_4_30 : decode jdk_52_method_4_code 30 = .ok (.ishl, 1) := by decide +kernel
theorem d_jdk_52m_4_31 : decode jdk_52_method_4_code 31 = .ok (.istore_n 1, 1) := by decide +kernel
theorem d_jdk_52m_4_32 : decode jdk_52_method_4_code 32 = .ok (.aload_n 0, 1) := by decide +kernel
theorem d_jdk_52m_4_33 : decode jdk_52_method_4_code 33 = .ok (.iload_n 1, 1) := by decide +kernel
theorem d_jdk_52m_4_34 : decode jdk_52_method_4_code 34 = .ok (.iinc 1 1, 3) := by decide +kernel
theorem d_jdk_52m_4_37 : decode jdk_52_method_4_code 37 = .ok (.iload_n 2, 1) := by decide +kernel
theorem d_jdk_52m_4_38 : decode jdk_52_method_4_code 38 = .ok (.getstatic 59, 3) := by decide +kernel
theorem d_jdk_52m_4_41 : decode jdk_52_method_4_code 41 = .ok (.ishr, 1) := by decide +kernel
theorem d_jdk_52m_4_42 : decode jdk_52_method_4_code 42 = .ok (.i2b, 1) := by decide +kernel
theorem d_jdk_52m_4_43 : decode jdk_52_method_4_code 43 = .ok (.bastore, 1) := by decide +kernel
theorem d_jdk_52m_4_44 : decode jdk_52_method_4_code 44 = .ok (.aload_n 0, 1) := by decide +kernel
theorem d_jdk_52m_4_45 : decode jdk_52_method_4_code 45 = .ok (.iload_n 1, 1) := by decide +kernel
theorem d_jdk_52m_4_46 : decode jdk_52_method_4_code 46 = .ok (.iload_n 2, 1) := by decide +kernel
theorem d_jdk_52m_4_47 : decode jdk_52_method_4_code 47 = .ok (.getstatic 63, 3) := by decide +kernel
theorem d_jdk_52m_4_50 : decode jdk_52_method_4_code 50 = .ok (.ishr, 1) := by decide +kernel
theorem d_jdk_52m_4_51 : decode jdk_52_method_4_code 51 = .ok (.i2b, 1) := by decide +kernel
theorem d_jdk_52m_4_52 : decode jdk_52_method_4_code 52 = .ok (.bastore, 1) := by decide +kernel
theorem d_jdk_52m_4_53 : decode jdk_52_method_4_code 53 = .ok (.return_, 1) := by decide +kernel
theorem pn_0 : plainName "java/lang/StringUTF16" = true := by first | (simp [plainName, overriddenIn]; done) | decide +kernel
set_option maxRecDepth 65536 in
set_option maxHeartbeats 40000000 in
theorem rmPut (l : Launch) (Z : State) (a0 : Array Value) (hw : ∀ d ∈ tables_1, d.before a0 Z = true) (b : Addr) (kb : ClassId) (n i : Nat) (ch z : Int32) (vs : List Value) (h0 : Heap) (n0 : Nat) (gb : n0 ≤ b) (Su : SU Z h0 z) (V : Arv Z h0 b kb .byte (Int32.ofNat (2 * n)) vs (.int 0)) (hl : vs.length = 2 * n) (hi : i < n) (hn : n ≤ 4000) :
    Ct l (⟨"java/lang/StringUTF16", "putChar", "([BII)V"⟩ : MethodName) jdk_52_method_4_code 3 none ({ frames := 0, cells := 0, slots := 0, locals := 0 } : Room) Z #[(.ref b), (.int (Int32.ofNat i)), (.int ch)] h0 (fun v h L => v = none ∧ Fr n0 L ∧ Keep h0 h [b] ∧ Arv Z h b kb .byte (Int32.ofNat (2 * n)) ((vs.set (2 * i) (.int (StrChars.lo8 ch))).set (2 * i + 1) (.int (StrChars.hi8 ch))) (.int 0)) := by
  refine ct_of (Q := fun v h L => v = none ∧ Fr n0 L ∧ Keep h0 h [b] ∧ Arv Z h b kb .byte (Int32.ofNat (2 * n)) ((vs.set (2 * i) (.int (StrChars.lo8 ch))).set (2 * i + 1) (.int (StrChars.hi8 ch))) (.int 0)) (plainFor_of_name pn_0) ?_
  intro p e s m below meth c s₁ X0 hx hby hml hret hnm hlk hown hZ hs0 e0
  have N0 := Fr.nil n0
  rw [show entryFrame m #[(.ref b), (.int (Int32.ofNat i)), (.int ch)] 3 = mkF m 0 #[.val (.ref b), .val (.int (Int32.ofNat i)), .val (.int ch)] [] from by first | (simp [entryFrame, mkF, argsToLocals, Value.category]; done) | rfl]
  refine w_getS X0 hx hZ hown (hw _ (List.mem_of_getElem? (i := 80) rfl)) Via.refl e0 Su.2.2.1 (hb hby d_jdk_52m_4_0) (pc' := 3) rfl ?_
  intro T1 X1 e1
  refine w_ifYes X1.here hx (hb hby d_jdk_52m_4_3) (feq (show ¬ ((1 : Int32) = (0 : Int32)) from by decide)).2 (pc' := 28) (by decide) (by decide) ?_
  refine w_iloadN X1.here hx (hb hby d_jdk_52m_4_28) rfl (pc' := 29) rfl ?_
  refine w_iconst X1.here hx (hb hby d_jdk_52m_4_29) (z := 1) rfl (pc' := 30) rfl ?_
  refine w_ishl X1.here hx (hb hby d_jdk_52m_4_30) (pc' := 31) rfl ?_
  rw [n_shl1 (by omega)]
  show Go _ _ _ _ T1 (mkF m 31 #[.val (.ref b), .val (.int (Int32.ofNat i)), .val (.int ch)] [(.int (Int32.ofNat (2 * i)))])
  refine w_istoreN X1.here hx (hb hby d_jdk_52m_4_31) (l' := #[.val (.ref b), .val (.int (Int32.ofNat (2 * i))), .val (.int ch)]) rfl (pc' := 32) rfl ?_
  refine w_aloadN X1.here hx (hb hby d_jdk_52m_4_32) rfl rfl (pc' := 33) rfl ?_
  refine w_iloadN X1.here hx (hb hby d_jdk_52m_4_33) rfl (pc' := 34) rfl ?_
  refine w_iinc X1.here hx (hb hby d_jdk_52m_4_34) rfl (z := 1) rfl (l' := #[.val (.ref b), .val (.int ((Int32.ofNat (2 * i)) + (1 : Int32))), .val (.int ch)]) rfl (pc' := 37) rfl ?_
  refine w_iloadN X1.here hx (hb hby d_jdk_52m_4_37) rfl (pc' := 38) rfl ?_
  refine w_getS X1 hx hZ hown (hw _ (List.mem_of_getElem? (i := 81) rfl)) Via.refl e1 Su.2.2.2.1 (hb hby d_jdk_52m_4_38) (pc' := 41) rfl ?_
  intro T2 X2 e2
  refine w_ishr X2.here hx (hb hby d_jdk_52m_4_41) (pc' := 42) rfl ?_
  refine w_i2b X2.here hx (hb hby d_jdk_52m_4_42) (pc' := 43) rfl ?_
  refine w_bastore X2 hx hZ e2 V (in_rng (n := 2 * n) (by omega) (by omega)) (2 * i) (n_nat (by omega)) (by omega) (hb hby d_jdk_52m_4_43) (pc' := 44) rfl ?_
  intro Ta ha Xa ea Wa Va
  have Na := Fr.snoc Xa N0 gb
  rw [show ((ch >>> ((0 : Int32) &&& 31)).toInt8.toInt32.toInt8.toInt32) = StrChars.lo8 ch from by rw [StrChars.shr0]; simp [StrChars.lo8]] at Va
  refine w_aloadN Xa.here hx (hb hby d_jdk_52m_4_44) rfl rfl (pc' := 45) rfl ?_
  refine w_iloadN Xa.here hx (hb hby d_jdk_52m_4_45) rfl (pc' := 46) rfl ?_
  refine w_iloadN Xa.here hx (hb hby d_jdk_52m_4_46) rfl (pc' := 47) rfl ?_
  refine w_getS Xa hx hZ hown (hw _ (List.mem_of_getElem? (i := 82) rfl)) Via.refl ea (Su.2.2.2.2.wr Wa) (hb hby d_jdk_52m_4_47) (pc' := 50) rfl ?_
  intro T4 X4 e4
  refine w_ishr X4.here hx (hb hby d_jdk_52m_4_50) (pc' := 51) rfl ?_
  refine w_i2b X4.here hx (hb hby d_jdk_52m_4_51) (pc' := 52) rfl ?_
  refine w_bastore X4 hx hZ e4 Va (by rw [n_succ]; exact in_rng (n := 2 * n) (by omega) (by omega)) (2 * i + 1) (by rw [n_succ]; exact n_nat (by omega)) (by simp; omega) (hb hby d_jdk_52m_4_52) (pc' := 53) rfl ?_
  intro Tb hb' Xb eb Wb Vb
  have Nb := Fr.snoc Xb Na gb
  rw [show ((ch >>> ((8 : Int32) &&& 31)).toInt8.toInt32.toInt8.toInt32) = StrChars.hi8 ch from by simp [StrChars.hi8, StrChars.lo8]] at Vb
  exact endV Xb hx hlk hret (hb hby d_jdk_52m_4_53) (by decide) (by decide) (by rw [eb]; exact ⟨rfl, Nb, ((Keep.refl h0 [b]).wr Wa (Or.inl (List.mem_cons_self ..))).wr Wb (Or.inl (List.mem_cons_self ..)), Vb⟩)
theorem d_jdk_52m_5_0 : decode jdk_52_method_5_code 0 = .ok (.getstatic 44, 3) := by decide +kernel
theorem d_jdk_52m_5_3 : decode jdk_52_method_5_code 3 = .ok (.ifCond .ne 25, 3) := by decide +kernel
theorem d_jdk_52m_5_28 : decode jdk_52_method_5_code 28 = .ok (.iload_n 1, 1) := by decide +kernel
theorem d_jdk_52m_5_29 : decode jdk_52_method_5_code 29 = .ok (.iconst 1, 1) := by decide +kernel
theorem d_jdk_52m_5_30 : decode jdk_52_method_5_code 30 = .ok (.ishl, 1) := by decide +kernel
theorem d_jdk_52m_5_31 : decode jdk_52_method_5_code 31 = .ok (.istore_n 1, 1) := by decide +kernel
theorem d_jdk_52m_5_32 : decode jdk_52_method_5_code 32 = .ok (.aload_n 0, 1) := by decide +kernel
theorem d_jdk_52m_5_33 : decode jdk_52_method_5_code 33 = .ok (.iload_n 1, 1) := by decide +kernel
theorem d_jdk_52m_5_34 : decode jdk_52_method_5_code 34 = .ok (.iinc 1 1, 3) := by decide +kernel
theorem d_jdk_52m_5_37 : decode jdk_52_method_5_code 37 = .ok (.baload, 1) := by decide +kernel
theorem d_jdk_52m_5_38 : decode jdk_52_method_5_code 38 = .ok (.sipush 255, 3) := by decide +kernel
theorem d_jdk_52m_5_41 : decode jdk_52_method_5_code 41 = .ok (.iand, 1) := by decide +kernel
theorem d_jdk_52m_5_42 : decode jdk_52_method_5_code 42 = .ok (.getstatic 59, 3) := by decide +kernel
theorem d_jdk_52m_5_45 : decode jdk_52_method_5_code 45 = .ok (.ishl, 1) := by decide +kernel
theorem d_jdk_52m_5_46 : decode jdk_52_method_5_code 46 = .ok (.aload_n 0, 1) := by decide +kernel
theorem d_jdk_52m_5_47 : decode jdk_52_method_5_code 47 = .ok (.iload_n 1, 1) := by decide +kernel
theorem d_jdk_52m_5_48 : decode jdk_52_method_5_code 48 = .ok (.baload, 1) := by decide +kernel
theorem d_jdk_52m_5_49 : decode jdk_52_method_5_code 49 = .ok (.sipush 255, 3) := by decide +kernel
theorem d_jdk_52m_5_52 : decode jdk_52_method_5_code 52 = .ok (.iand, 1) := by decide +kernel
theorem d_jdk_52m_5_53 : decode jdk_52_method_5_code 53 = .ok (.getstatic 63, 3) := by decide +kernel
theorem d_jdk_52m_5_56 : decode jdk_52_method_5_code 56 = .ok (.ishl, 1) := by decide +kernel
theorem d_jdk_52m_5_57 : decode jdk_52_method_5_code 57 = .ok (.ior, 1) := by decide +kernel
theorem d_jdk_52m_5_58 : decode jdk_52_method_5_code 58 = .ok (.i2c, 1) := by decide +kernel
theorem d_jdk_52m_5_59 : decode jdk_52_method_5_code 59 = .ok (.ireturn, 1) := by decide +kernel
set_option maxRecDepth 65536 in
set_option maxHeartbeats 40000000 in
theorem rmGet (l : Launch) (Z : State) (a0 : Array Value) (hw : ∀ d ∈ tables_1, d.before a0 Z = true) (b : Addr) (kb : ClassId) (n i : Nat) (u1 u2 z : Int32) (vs : List Value) (h0 : Heap) (n0 : Nat) (Su : SU Z h0 z) (V : Arv Z h0 b kb .byte (Int32.ofNat (2 * n)) vs (.int 0)) (hi : i < n) (hn : n ≤ 4000) (hu1 : vs.getD (2 * i) (.int 0) = .int u1) (hu2 : vs.getD (2 * i + 1) (.int 0) = .int u2) :
    Ct l (⟨"java/lang/StringUTF16", "getChar", "([BI)C"⟩ : MethodName) jdk_52_method_5_code 2 (some .char) ({ frames := 0, cells := 0, slots := 0, locals := 0 } : Room) Z #[(.ref b), (.int (Int32.ofNat i))] h0 (fun v h L => v = some (.int (StrChars.pairCh u1 u2)) ∧ Fr n0 L ∧ h = h0) := by
  refine ct_of (Q := fun v h L => v = some (.int (StrChars.pairCh u1 u2)) ∧ Fr n0 L ∧ h = h0) (plainFor_of_name pn_0) ?_
  intro p e s m below meth c s₁ X0 hx hby hml hret hnm hlk hown hZ hs0 e0
  have N0 := Fr.nil n0
  rw [show entryFrame m #[(.ref b), (.int (Int32.ofNat i))] 2 = mkF m 0 #[.val (.ref b), .val (.int (Int32.ofNat i))] [] from by first | (simp [entryFrame, mkF, argsToLocals, Value.category]; done) | rfl]
  refine w_getS X0 hx hZ hown (hw _ (List.mem_of_getElem? (i := 80) rfl)) Via.refl e0 Su.2.2.1 (hb hby d_jdk_52m_5_0) (pc' := 3) rfl ?_
  intro T5 X5 e5
  refine w_ifYes X5.here hx (hb hby d_jdk_52m_5_3) (feq (show ¬ ((1 : Int32) = (0 : Int32)) from by decide)).2 (pc' := 28) (by decide) (by decide) ?_
  refine w_iloadN X5.here hx (hb hby d_jdk_52m_5_28) rfl (pc' := 29) rfl ?_
  refine w_iconst X5.here hx (hb hby d_jdk_52m_5_29) (z := 1) rfl (pc' := 30) rfl ?_
  refine w_ishl X5.here hx (hb hby d_jdk_52m_5_30) (pc' := 31) rfl ?_
  rw [n_shl1 (by omega)]
  show Go _ _ _ _ T5 (mkF m 31 #[.val (.ref b), .val (.int (Int32.ofNat i))] [(.int (Int32.ofNat (2 * i)))])
  refine w_istoreN X5.here hx (hb hby d_jdk_52m_5_31) (l' := #[.val (.ref b), .val (.int (Int32.ofNat (2 * i)))]) rfl (pc' := 32) rfl ?_
  refine w_aloadN X5.here hx (hb hby d_jdk_52m_5_32) rfl rfl (pc' := 33) rfl ?_
  refine w_iloadN X5.here hx (hb hby d_jdk_52m_5_33) rfl (pc' := 34) rfl ?_
  refine w_iinc X5.here hx (hb hby d_jdk_52m_5_34) rfl (z := 1) rfl (l' := #[.val (.ref b), .val (.int ((Int32.ofNat (2 * i)) + (1 : Int32)))]) rfl (pc' := 37) rfl ?_
  refine w_baload X5 hx hZ e5 V (in_rng (n := 2 * n) (by omega) (by omega)) (v := (.int u1)) (by rw [n_nat (by omega)]; exact hu1) (hb hby d_jdk_52m_5_37) (pc' := 38) rfl ?_
  refine w_sipush X5.here hx (hb hby d_jdk_52m_5_38) (z := 255) rfl (pc' := 41) rfl ?_
  refine w_iand X5.here hx (hb hby d_jdk_52m_5_41) (pc' := 42) rfl ?_
  refine w_getS X5 hx hZ hown (hw _ (List.mem_of_getElem? (i := 81) rfl)) Via.refl e5 Su.2.2.2.1 (hb hby d_jdk_52m_5_42) (pc' := 45) rfl ?_
  intro T6 X6 e6
  refine w_ishl X6.here hx (hb hby d_jdk_52m_5_45) (pc' := 46) rfl ?_
  refine w_aloadN X6.here hx (hb hby d_jdk_52m_5_46) rfl rfl (pc' := 47) rfl ?_
  refine w_iloadN X6.here hx (hb hby d_jdk_52m_5_47) rfl (pc' := 48) rfl ?_
  refine w_baload X6 hx hZ e6 V (by rw [n_succ]; exact in_rng (n := 2 * n) (by omega) (by omega)) (v := (.int u2)) (by rw [n_succ, n_nat (by omega)]; exact hu2) (hb hby d_jdk_52m_5_48) (pc' := 49) rfl ?_
  refine w_sipush X6.here hx (hb hby d_jdk_52m_5_49) (z := 255) rfl (pc' := 52) rfl ?_
  refine w_iand X6.here hx (hb hby d_jdk_52m_5_52) (pc' := 53) rfl ?_
  refine w_getS X6 hx hZ hown (hw _ (List.mem_of_getElem? (i := 82) rfl)) Via.refl e6 Su.2.2.2.2 (hb hby d_jdk_52m_5_53) (pc' := 56) rfl ?_
  intro T7 X7 e7
  refine w_ishl X7.here hx (hb hby d_jdk_52m_5_56) (pc' := 57) rfl ?_
  refine w_ior X7.here hx (hb hby d_jdk_52m_5_57) (pc' := 58) rfl ?_
  refine w_i2c X7.here hx (hb hby d_jdk_52m_5_58) (pc' := 59) rfl ?_
  exact endZ X7 hx hlk hret (by simp) (hb hby d_jdk_52m_5_59) (show nar .char _ = StrChars.pairCh u1 u2 from nar_c2 _) (by decide) (by decide) (by rw [e7]; exact ⟨rfl, N0, rfl⟩)
theorem d_jdk_52m_3_0 : decode jdk_52_method_3_code 0 = .ok (.iload_n 0, 1) := by decide +kernel
theorem d_jdk_52m_3_1 : decode jdk_52_method_3_code 1 = .ok (.ifCond .ge 11, 3) := by decide +kernel
theorem d_jdk_52m_3_12 : decode jdk_52_method_3_code 12 = .ok (.iload_n 0, 1) := by decide +kernel
theorem d_jdk_52m_3_13 : decode jdk_52_method_3_code 13 = .ok (.ldc 20, 2) := by decide +kernel
theorem d_jdk_52m_3_15 : decode jdk_52_method_3_code 15 = .ok (.if_icmp .lt 40, 3) := by decide +kernel
theorem d_jdk_52m_3_55 : decode jdk_52_method_3_code 55 = .ok (.iload_n 0, 1) := by decide +kernel
theorem d_jdk_52m_3_56 : decode jdk_52_method_3_code 56 = .ok (.iconst 1, 1) := by decide +kernel
theorem d_jdk_52m_3_57 : decode jdk_52_method_3_code 57 = .ok (.ishl, 1) := by decide +kernel
theorem d_jdk_52m_3_58 : decode jdk_52_method_3_code 58 = .ok (.ireturn, 1) := by decide +kernel
set_option maxRecDepth 65536 in
set_option maxHeartbeats 40000000 in
theorem rmNBL (l : Launch) (Z : State) (a0 : Array Value) (hw : ∀ d ∈ tables_1, d.before a0 Z = true) (n : Nat) (h0 : Heap) (n0 : Nat) (hn : n ≤ 4000) :
    Ct l (⟨"java/lang/StringUTF16", "newBytesLength", "(I)I"⟩ : MethodName) jdk_52_method_3_code 1 (some .int) ({ frames := 0, cells := 0, slots := 0, locals := 0 } : Room) Z #[(.int (Int32.ofNat n))] h0 (fun v h L => v = some (.int (Int32.ofNat (2 * n))) ∧ Fr n0 L ∧ h = h0) := by
  refine ct_of (Q := fun v h L => v = some (.int (Int32.ofNat (2 * n))) ∧ Fr n0 L ∧ h = h0) (plainFor_of_name pn_0) ?_
  intro p e s m below meth c s₁ X0 hx hby hml hret hnm hlk hown hZ hs0 e0
  have N0 := Fr.nil n0
  rw [show entryFrame m #[(.int (Int32.ofNat n))] 1 = mkF m 0 #[.val (.int (Int32.ofNat n))] [] from by first | (simp [entryFrame, mkF, argsToLocals, Value.category]; done) | rfl]
  refine w_iloadN X0.here hx (hb hby d_jdk_52m_3_0) rfl (pc' := 1) rfl ?_
  refine w_ifYes X0.here hx (hb hby d_jdk_52m_3_1) (flt (show ¬ ((Int32.ofNat n) < (0 : Int32)) from n_nn (by omega))).2.1 (pc' := 12) (by decide) (by decide) ?_
  refine w_iloadN X0.here hx (hb hby d_jdk_52m_3_12) rfl (pc' := 13) rfl ?_
  refine w_ldcI X0 hx hZ hown (hw _ (List.mem_of_getElem? (i := 76) rfl)) (hb hby d_jdk_52m_3_13) (pc' := 15) rfl ?_
  refine w_icmpYes X0.here hx (hb hby d_jdk_52m_3_15) (tlt (show (Int32.ofNat n) < (1073741823 : Int32) from by rw [Int32.lt_iff_toInt_lt, n_toInt (by omega)]; exact Int.lt_of_le_of_lt (Int.ofNat_le.mpr hn) (by decide))).1 (pc' := 55) (by decide) (by decide) ?_
  refine w_iloadN X0.here hx (hb hby d_jdk_52m_3_55) rfl (pc' := 56) rfl ?_
  refine w_iconst X0.here hx (hb hby d_jdk_52m_3_56) (z := 1) rfl (pc' := 57) rfl ?_
  refine w_ishl X0.here hx (hb hby d_jdk_52m_3_57) (pc' := 58) rfl ?_
  rw [n_shl1 (by omega)]
  show Go _ _ _ _ s₁ (mkF m 58 #[.val (.int (Int32.ofNat n))] [(.int (Int32.ofNat (2 * n)))])
  exact endI X0 hx hlk hret (hb hby d_jdk_52m_3_58) (by decide) (by decide) (by rw [e0]; exact ⟨rfl, N0, rfl⟩)
theorem d_jdk_52m_2_0 : decode jdk_52_method_2_code 0 = .ok (.iload_n 0, 1) := by decide +kernel
theorem pd_0 : parseMethodDescriptor "(I)I" = some ⟨[.int], some .int⟩ := by decide +kernel
theorem d_jdk_52m_2_1 : decode jdk_52_method_2_code 1 = .ok (.invokestatic 11, 3) := by decide +kernel
theorem d_jdk_52m_2_4 : decode jdk_52_method_2_code 4 = .ok (.newarray .byte, 2) := by decide +kernel
theorem d_jdk_52m_2_6 : decode jdk_52_method_2_code 6 = .ok (.areturn, 1) := by decide +kernel
set_option maxRecDepth 65536 in
set_option maxHeartbeats 40000000 in
theorem rmNBF (l : Launch) (Z : State) (a0 : Array Value) (hw : ∀ d ∈ tables_1, d.before a0 Z = true) (n : Nat) (h0 : Heap) (n0 : Nat) (hn : n ≤ 4) :
    Ct l (⟨"java/lang/StringUTF16", "newBytesFor", "(I)[B"⟩ : MethodName) jdk_52_method_2_code 1 (some (.array .byte)) ({ frames := 1, cells := 1, slots := 8, locals := 12 } : Room) Z #[(.int (Int32.ofNat n))] h0 (fun v h L => ∃ b kb, v = some (.ref b) ∧ Fr n0 L ∧ Ext h0 h ∧ h0.size ≤ b ∧ Arv Z h b kb .byte (Int32.ofNat (2 * n)) (List.replicate (2 * n) (.int 0)) (.int 0)) := by
  refine ct_of (Q := fun v h L => ∃ b kb, v = some (.ref b) ∧ Fr n0 L ∧ Ext h0 h ∧ h0.size ≤ b ∧ Arv Z h b kb .byte (Int32.ofNat (2 * n)) (List.replicate (2 * n) (.int 0)) (.int 0)) (plainFor_of_name pn_0) ?_
  intro p e s m below meth c s₁ X0 hx hby hml hret hnm hlk hown hZ hs0 e0
  have N0 := Fr.nil n0
  rw [show entryFrame m #[(.int (Int32.ofNat n))] 1 = mkF m 0 #[.val (.int (Int32.ofNat n))] [] from by first | (simp [entryFrame, mkF, argsToLocals, Value.category]; done) | rfl]
  refine w_iloadN X0.here hx (hb hby d_jdk_52m_2_0) rfl (pc' := 1) rfl ?_
  refine w_static X0 hx hZ (y := (⟨"java/lang/StringUTF16", "newBytesLength", "(I)I"⟩ : MethodName)) hown (hw _ (List.mem_of_getElem? (i := 73) rfl)) (hw _ (List.mem_of_getElem? (i := 74) rfl)) (hw _ (List.mem_of_getElem? (i := 58) rfl)) (hw _ (List.mem_of_getElem? (i := 75) rfl)) (by decide) (backC (W := 0) (rmNBL l Z a0 hw n h0 n0 (by omega)) hZ (hw _ (List.mem_of_getElem? (i := 75) rfl)) (hw _ (List.mem_of_getElem? (i := 58) rfl)) (by decide) (by decide)) e0 (by rw [hml]; rfl) (argsL := [(.int (Int32.ofNat n))]) (st := []) pd_0 rfl rfl rfl (Nat.le_of_ble_eq_true rfl) (hb hby d_jdk_52m_2_1) (by decide) (by decide) (pc' := 4) rfl ?_
  intro T8 v8 L8 X8 Q8
  obtain ⟨rfl, N1, hh⟩ := Q8
  show Go _ _ _ _ T8 (mkF m 4 #[.val (.int (Int32.ofNat n))] [(.int (Int32.ofNat (2 * n)))])
  refine w_newarray X8 hx hZ (ty := .byte) (dv := (.int 0)) rfl rfl (hw _ (List.mem_of_getElem? (i := 27) rfl)) hh (n := (Int32.ofNat (2 * n))) (hb hby d_jdk_52m_2_4) (n_nn (by omega)) (cap := 8) (by rw [n_nat (by omega)]; omega) (by decide) (by decide) (by decide) (pc' := 6) rfl ?_
  intro T9 h9 b kb gb X9 e9 E9 V
  have ge_b_h0 : h0.size ≤ b := Nat.le_trans (Ext.rfl' : Ext h0 h0).1 (Nat.le_of_eq gb)
  have C10 : Ext h0 h9 := Ext.trs Ext.rfl' E9
  rw [n_nat (by omega)] at V
  have N2 := Fr.app N0 N1
  exact endR X9 hx hlk rfl hret rfl (hb hby d_jdk_52m_2_6) (by decide) (by decide) (by rw [e9]; exact ⟨b, _, rfl, N2, C10, ge_b_h0, V⟩)
theorem d_jdk_52m_14_8 : decode jdk_52_method_14_code 8 = .ok (.iload 4, 2) := by decide +kernel
theorem d_jdk_52m_14_10 : decode jdk_52_method_14_code 10 = .ok (.iload_n 2, 1) := by decide +kernel
theorem d_jdk_52m_14_11 : decode jdk_52_method_14_code 11 = .ok (.if_icmp .ge 21, 3) := by decide +kernel
theorem d_jdk_52m_14_14 : decode jdk_52_method_14_code 14 = .ok (.aload_n 3, 1) := by decide +kernel
theorem d_jdk_52m_14_15 : decode jdk_52_method_14_code 15 = .ok (.iload 4, 2) := by decide +kernel
theorem d_jdk_52m_14_17 : decode jdk_52_method_14_code 17 = .ok (.aload_n 0, 1) := by decide +kernel
theorem d_jdk_52m_14_18 : decode jdk_52_method_14_code 18 = .ok (.iload_n 1, 1) := by decide +kernel
theorem d_jdk_52m_14_19 : decode jdk_52_method_14_code 19 = .ok (.caload, 1) := by decide +kernel
theorem pd_1 : parseMethodDescriptor "([BII)V" = some ⟨[(.array .byte), .int, .int], none⟩ := by decide +kernel
theorem d_jdk_52m_14_20 : decode jdk_52_method_14_code 20 = .ok (.invokestatic 111, 3) := by decide +kernel
theorem d_jdk_52m_14_23 : decode jdk_52_method_14_code 23 = .ok (.iinc 1 1, 3) := by decide +kernel
theorem d_jdk_52m_14_26 : decode jdk_52_method_14_code 26 = .ok (.iinc 4 1, 3) := by decide +kernel
theorem d_jdk_52m_14_29 : decode jdk_52_method_14_code 29 = .ok (.goto (-21), 3) := by decide +kernel
set_option maxRecDepth 65536 in
set_option maxHeartbeats 40000000 in
theorem lpToB {p : Program} {l : Launch} {e : Env} {R : Room} {s : State} {m : MethodId} {args : Array Value} {below : List Frame} {meth : Method} {c : Code} {cells slots : Nat} {P : State → Prop} (Z : State) (a0 : Array Value) (hw : ∀ d ∈ tables_1, d.before a0 Z = true) (hx : p.tables.exec = Jvm.exec) (hby : c.code = jdk_52_method_14_code) (hml : c.maxLocals = 5) (hown : s.vm.findClass "java/lang/StringUTF16" = some m.cls) (hZ : Z.Warmed39 s.vm) (a b : Addr) (ka kb : ClassId) (n n0 : Nat) (z : Int32) (cs : List Int32) (dv : Value) (h0 : Heap) (hfr : 1 ≤ R.frames) (hlo : 0 + (3 + 11) + 0 ≤ R.locals) (hcl : cells ≤ R.cells) (hsl : slots ≤ R.slots) (Su : SU Z h0 z) (VA : Arv Z h0 a ka .char (Int32.ofNat n) (cs.map Value.int) dv) (hl : cs.length = n) (hn : n ≤ 4000) (gb : n0 ≤ b) (gh : h0.size ≤ b) (out : ∀ (T : State) (h : Heap) (locs : List Loc) (X0 : Stand p l e R s m args below meth c T locs cells slots) (e0 : T.heap = h) (N0 : Fr n0 locs) (E : Ext h0 h) (V : Arv Z h b kb .byte (Int32.ofNat (2 * n)) (fillW cs n) (.int 0)), Go p.tables e below P T (mkF m 32 #[.val (.ref a), .val (.int (Int32.ofNat n)), .val (.int (Int32.ofNat n)), .val (.ref b), .val (.int (Int32.ofNat n))] [])) :
    ∀ (k i : Nat), i + k = n → ∀ (T : State) (h : Heap) (locs : List Loc) (X0 : Stand p l e R s m args below meth c T locs cells slots) (e0 : T.heap = h) (N0 : Fr n0 locs) (E : Ext h0 h) (V : Arv Z h b kb .byte (Int32.ofNat (2 * n)) (fillW cs i) (.int 0)), Go p.tables e below P T (mkF m 8 #[.val (.ref a), .val (.int (Int32.ofNat i)), .val (.int (Int32.ofNat n)), .val (.ref b), .val (.int (Int32.ofNat i))] []) := by
  intro k
  induction k with
  | zero =>
    intro i hik T h locs X0 e0 N0 E V
    obtain rfl : n = i := by omega
    refine w_iload X0.here hx (hb hby d_jdk_52m_14_8) rfl (pc' := 10) rfl ?_
    refine w_iloadN X0.here hx (hb hby d_jdk_52m_14_10) rfl (pc' := 11) rfl ?_
    refine w_icmpYes X0.here hx (hb hby d_jdk_52m_14_11) (flt (show ¬ ((Int32.ofNat n) < (Int32.ofNat n)) from n_nlt (Nat.le_refl _) (by omega))).2.1 (pc' := 32) (by decide) (by decide) ?_
    exact out T h locs X0 e0 N0 E V
  | succ k ih =>
    intro i hik T h locs X0 e0 N0 E V
    refine w_iload X0.here hx (hb hby d_jdk_52m_14_8) rfl (pc' := 10) rfl ?_
    refine w_iloadN X0.here hx (hb hby d_jdk_52m_14_10) rfl (pc' := 11) rfl ?_
    refine w_icmpNo X0.here hx (hb hby d_jdk_52m_14_11) (tlt (show (Int32.ofNat i) < (Int32.ofNat n) from n_lt (by omega) (by omega))).2.1 (pc' := 14) rfl ?_
    refine w_aloadN X0.here hx (hb hby d_jdk_52m_14_14) rfl rfl (pc' := 15) rfl ?_
    refine w_iload X0.here hx (hb hby d_jdk_52m_14_15) rfl (pc' := 17) rfl ?_
    refine w_aloadN X0.here hx (hb hby d_jdk_52m_14_17) rfl rfl (pc' := 18) rfl ?_
    refine w_iloadN X0.here hx (hb hby d_jdk_52m_14_18) rfl (pc' := 19) rfl ?_
    refine w_caload X0 hx hZ e0 (VA.ext E) (in_rng (by omega) (by omega)) (v := (.int (cs.getD i 0))) (at_chr (by omega) (by omega)) (hb hby d_jdk_52m_14_19) (pc' := 20) rfl ?_
    refine w_static X0 hx hZ (y := (⟨"java/lang/StringUTF16", "putChar", "([BII)V"⟩ : MethodName)) hown (hw _ (List.mem_of_getElem? (i := 77) rfl)) (hw _ (List.mem_of_getElem? (i := 78) rfl)) (hw _ (List.mem_of_getElem? (i := 58) rfl)) (hw _ (List.mem_of_getElem? (i := 79) rfl)) (by decide) (backC (W := 0) (rmPut l Z a0 hw b kb n i (cs.getD i 0) z (fillW cs i) h n0 gb (Su.ext E) V (by rw [fillW_len (by omega)]; omega) (by omega) (by omega)) hZ (hw _ (List.mem_of_getElem? (i := 79) rfl)) (hw _ (List.mem_of_getElem? (i := 58) rfl)) hfr hlo) e0 (by rw [hml]; rfl) (argsL := [(.ref b), (.int (Int32.ofNat i)), (.int (cs.getD i 0))]) (st := []) pd_1 rfl rfl rfl (Nat.le_of_ble_eq_true rfl) (hb hby d_jdk_52m_14_20) (by omega) (by omega) (pc' := 23) rfl ?_
    intro T11 v11 L11 X11 Q11
    obtain ⟨rfl, N1, K1, V1⟩ := Q11
    show Go _ _ _ _ T11 (mkF m 23 #[.val (.ref a), .val (.int (Int32.ofNat i)), .val (.int (Int32.ofNat n)), .val (.ref b), .val (.int (Int32.ofNat i))] [])
    have N2 := Fr.app N0 N1
    have E1 : Ext h0 T11.heap := Ext.kp E K1 (allS gh all0)
    rw [fillW_set (by omega)] at V1
    refine w_iinc X11.here hx (hb hby d_jdk_52m_14_23) rfl (z := 1) rfl (l' := #[.val (.ref a), .val (.int ((Int32.ofNat i) + (1 : Int32))), .val (.int (Int32.ofNat n)), .val (.ref b), .val (.int (Int32.ofNat i))]) rfl (pc' := 26) rfl ?_
    refine w_iinc X11.here hx (hb hby d_jdk_52m_14_26) rfl (z := 1) rfl (l' := #[.val (.ref a), .val (.int ((Int32.ofNat i) + (1 : Int32))), .val (.int (Int32.ofNat n)), .val (.ref b), .val (.int ((Int32.ofNat i) + (1 : Int32)))]) rfl (pc' := 29) rfl ?_
    refine w_goto X11.here hx (hb hby d_jdk_52m_14_29) (pc' := 8) (by decide) (by decide) ?_
    rw [n_succ]
    exact ih (i + 1) (by omega) _ _ _ X11 rfl N2 E1 V1
theorem d_jdk_52m_14_0 : decode jdk_52_method_14_code 0 = .ok (.iload_n 2, 1) := by decide +kernel
theorem pd_2 : parseMethodDescriptor "(I)[B" = some ⟨[.int], some (.array .byte)⟩ := by decide +kernel
theorem d_jdk_52m_14_1 : decode jdk_52_method_14_code 1 = .ok (.invokestatic 107, 3) := by decide +kernel
theorem d_jdk_52m_14_4 : decode jdk_52_method_14_code 4 = .ok (.astore_n 3, 1) := by decide +kernel
theorem d_jdk_52m_14_5 : decode jdk_52_method_14_code 5 = .ok (.iconst 0, 1) := by decide +kernel
theorem d_jdk_52m_14_6 : decode jdk_52_method_14_code 6 = .ok (.istore 4, 2) := by decide +kernel
theorem d_jdk_52m_14_32 : decode jdk_52_method_14_code 32 = .ok (.aload_n 3, 1) := by decide +kernel
theorem d_jdk_52m_14_33 : decode jdk_52_method_14_code 33 = .ok (.areturn, 1) := by decide +kernel
set_option maxRecDepth 65536 in
set_option maxHeartbeats 40000000 in
theorem rmToB (l : Launch) (Z : State) (a0 : Array Value) (hw : ∀ d ∈ tables_1, d.before a0 Z = true) (a : Addr) (ka : ClassId) (n : Nat) (z : Int32) (cs : List Int32) (dv : Value) (h0 : Heap) (n0 : Nat) (Z0 : n0 ≤ h0.size) (Su : SU Z h0 z) (VA : Arv Z h0 a ka .char (Int32.ofNat n) (cs.map Value.int) dv) (hl : cs.length = n) (hn : n ≤ 4) :
    Ct l (⟨"java/lang/StringUTF16", "toBytes", "([CII)[B"⟩ : MethodName) jdk_52_method_14_code 5 (some (.array .byte)) ({ frames := 2, cells := 1, slots := 8, locals := 24 } : Room) Z #[(.ref a), (.int (0 : Int32)), (.int (Int32.ofNat n))] h0 (fun v h L => ∃ b kb, v = some (.ref b) ∧ Fr n0 L ∧ Ext h0 h ∧ h0.size ≤ b ∧ Arv Z h b kb .byte (Int32.ofNat (2 * n)) (StrChars.Road.wideBytes cs) (.int 0)) := by
  refine ct_of (Q := fun v h L => ∃ b kb, v = some (.ref b) ∧ Fr n0 L ∧ Ext h0 h ∧ h0.size ≤ b ∧ Arv Z h b kb .byte (Int32.ofNat (2 * n)) (StrChars.Road.wideBytes cs) (.int 0)) (plainFor_of_name pn_0) ?_
  intro p e s m below meth c s₁ X0 hx hby hml hret hnm hlk hown hZ hs0 e0
  have N0 := Fr.nil n0
  rw [show entryFrame m #[(.ref a), (.int (0 : Int32)), (.int (Int32.ofNat n))] 5 = mkF m 0 #[.val (.ref a), .val (.int (0 : Int32)), .val (.int (Int32.ofNat n)), .unset, .unset] [] from by first | (simp [entryFrame, mkF, argsToLocals, Value.category]; done) | rfl]
  refine w_iloadN X0.here hx (hb hby d_jdk_52m_14_0) rfl (pc' := 1) rfl ?_
  refine w_static X0 hx hZ (y := (⟨"java/lang/StringUTF16", "newBytesFor", "(I)[B"⟩ : MethodName)) hown (hw _ (List.mem_of_getElem? (i := 70) rfl)) (hw _ (List.mem_of_getElem? (i := 71) rfl)) (hw _ (List.mem_of_getElem? (i := 58) rfl)) (hw _ (List.mem_of_getElem? (i := 72) rfl)) (by decide) (backC (W := 0) (rmNBF l Z a0 hw n h0 n0 hn) hZ (hw _ (List.mem_of_getElem? (i := 72) rfl)) (hw _ (List.mem_of_getElem? (i := 58) rfl)) (by decide) (by decide)) e0 (by rw [hml]; rfl) (argsL := [(.int (Int32.ofNat n))]) (st := []) pd_2 rfl rfl rfl (Nat.le_of_ble_eq_true rfl) (hb hby d_jdk_52m_14_1) (by decide) (by decide) (pc' := 4) rfl ?_
  intro T12 v12 L12 X12 Q12
  obtain ⟨b, kb, rfl, N1, E1, gh, V⟩ := Q12
  show Go _ _ _ _ T12 (mkF m 4 #[.val (.ref a), .val (.int (0 : Int32)), .val (.int (Int32.ofNat n)), .unset, .unset] [(.ref b)])
  have N2 := Fr.app N0 N1
  have gb : n0 ≤ b := Nat.le_trans Z0 gh
  refine w_astoreN X12.here hx (hb hby d_jdk_52m_14_4) rfl (l' := #[.val (.ref a), .val (.int (0 : Int32)), .val (.int (Int32.ofNat n)), .val (.ref b), .unset]) rfl (pc' := 5) rfl ?_
  refine w_iconst X12.here hx (hb hby d_jdk_52m_14_5) (z := 0) rfl (pc' := 6) rfl ?_
  refine w_istore X12.here hx (hb hby d_jdk_52m_14_6) (l' := #[.val (.ref a), .val (.int (0 : Int32)), .val (.int (Int32.ofNat n)), .val (.ref b), .val (.int (0 : Int32))]) rfl (pc' := 8) rfl ?_
  refine lpToB Z a0 hw hx hby hml hown hZ a b ka kb n n0 z cs dv h0 (by decide) (by decide) (by decide) (by decide) Su VA hl (by omega) gb gh ?_ n 0 (by omega) _ _ _ X12 rfl N2 E1 (by rw [fillW_zero, hl]; exact V)
  intro T h locs X e1 N3 E3 V3
  refine w_aloadN X.here hx (hb hby d_jdk_52m_14_32) rfl rfl (pc' := 33) rfl ?_
  rw [← hl, fillW_all, hl] at V3
  exact endR X hx hlk rfl hret rfl (hb hby d_jdk_52m_14_33) (by decide) (by decide) (by rw [e1]; exact ⟨b, kb, rfl, N3, E3, gh, V3⟩)
theorem d_jdk_52m_21_3 : decode jdk_52_method_21_code 3 = .ok (.iload 5, 2) := by decide +kernel
theorem d_jdk_52m_21_5 : decode jdk_52_method_21_code 5 = .ok (.iload 4, 2) := by decide +kernel
theorem d_jdk_52m_21_7 : decode jdk_52_method_21_code 7 = .ok (.if_icmp .ge 37, 3) := by decide +kernel
theorem d_jdk_52m_21_10 : decode jdk_52_method_21_code 10 = .ok (.aload_n 0, 1) := by decide +kernel
theorem d_jdk_52m_21_11 : decode jdk_52_method_21_code 11 = .ok (.iload_n 1, 1) := by decide +kernel
theorem d_jdk_52m_21_12 : decode jdk_52_method_21_code 12 = .ok (.caload, 1) := by decide +kernel
theorem d_jdk_52m_21_13 : decode jdk_52_method_21_code 13 = .ok (.istore 6, 2) := by decide +kernel
theorem d_jdk_52m_21_15 : decode jdk_52_method_21_code 15 = .ok (.iload 6, 2) := by decide +kernel
theorem d_jdk_52m_21_17 : decode jdk_52_method_21_code 17 = .ok (.sipush 255, 3) := by decide +kernel
theorem d_jdk_52m_21_20 : decode jdk_52_method_21_code 20 = .ok (.if_icmp .le 6, 3) := by decide +kernel
theorem d_jdk_52m_21_26 : decode jdk_52_method_21_code 26 = .ok (.aload_n 2, 1) := by decide +kernel
theorem d_jdk_52m_21_27 : decode jdk_52_method_21_code 27 = .ok (.iload_n 3, 1) := by decide +kernel
theorem d_jdk_52m_21_28 : decode jdk_52_method_21_code 28 = .ok (.iload 6, 2) := by decide +kernel
theorem d_jdk_52m_21_30 : decode jdk_52_method_21_code 30 = .ok (.i2b, 1) := by decide +kernel
theorem d_jdk_52m_21_31 : decode jdk_52_method_21_code 31 = .ok (.bastore, 1) := by decide +kernel
theorem d_jdk_52m_21_32 : decode jdk_52_method_21_code 32 = .ok (.iinc 1 1, 3) := by decide +kernel
theorem d_jdk_52m_21_35 : decode jdk_52_method_21_code 35 = .ok (.iinc 3 1, 3) := by decide +kernel
theorem d_jdk_52m_21_38 : decode jdk_52_method_21_code 38 = .ok (.iinc 5 1, 3) := by decide +kernel
theorem d_jdk_52m_21_41 : decode jdk_52_method_21_code 41 = .ok (.goto (-38), 3) := by decide +kernel
set_option maxRecDepth 65536 in
set_option maxHeartbeats 40000000 in
theorem lpC5 {p : Program} {l : Launch} {e : Env} {R : Room} {s : State} {m : MethodId} {args : Array Value} {below : List Frame} {meth : Method} {c : Code} {cells slots : Nat} {P : State → Prop} (Z : State) (a0 : Array Value) (hw : ∀ d ∈ tables_1, d.before a0 Z = true) (hx : p.tables.exec = Jvm.exec) (hby : c.code = jdk_52_method_21_code) (hml : c.maxLocals = 7) (hown : s.vm.findClass "java/lang/StringUTF16" = some m.cls) (hZ : Z.Warmed39 s.vm) (a d : Addr) (ka kd : ClassId) (n n0 : Nat) (cs : List Int32) (dv : Value) (h0 : Heap) (VA : Arv Z h0 a ka .char (Int32.ofNat n) (cs.map Value.int) dv) (hl : cs.length = n) (hn : n ≤ 4000) (gd : n0 ≤ d) (ne : a ≠ d) (out1 : ∀ (s6 : Slot) (T : State) (h : Heap) (locs : List Loc) (X0 : Stand p l e R s m args below meth c T locs cells slots) (e0 : T.heap = h) (N0 : Fr n0 locs) (K : Keep h0 h [d]) (V : Arv Z h d kd .byte (Int32.ofNat n) (fillB cs n) (.int 0)) (lo : ∀ j, j < n → ¬ (255 : Int32) < cs.getD j 0), Go p.tables e below P T (mkF m 44 #[.val (.ref a), .val (.int (Int32.ofNat n)), .val (.ref d), .val (.int (Int32.ofNat n)), .val (.int (Int32.ofNat n)), .val (.int (Int32.ofNat n)), s6] [])) (out2 : ∀ (i : Nat), i < n → (255 : Int32) < cs.getD i 0 → ∀ (s6 : Slot) (T : State) (h : Heap) (locs : List Loc) (X0 : Stand p l e R s m args below meth c T locs cells slots) (e0 : T.heap = h) (N0 : Fr n0 locs) (K : Keep h0 h [d]), Go p.tables e below P T (mkF m 23 #[.val (.ref a), .val (.int (Int32.ofNat i)), .val (.ref d), .val (.int (Int32.ofNat i)), .val (.int (Int32.ofNat n)), .val (.int (Int32.ofNat i)), s6] [])) :
    ∀ (k i : Nat), i + k = n → ∀ (s6 : Slot) (hs6 : One s6) (T : State) (h : Heap) (locs : List Loc) (X0 : Stand p l e R s m args below meth c T locs cells slots) (e0 : T.heap = h) (N0 : Fr n0 locs) (K : Keep h0 h [d]) (V : Arv Z h d kd .byte (Int32.ofNat n) (fillB cs i) (.int 0)) (lo : ∀ j, j < i → ¬ (255 : Int32) < cs.getD j 0), Go p.tables e below P T (mkF m 3 #[.val (.ref a), .val (.int (Int32.ofNat i)), .val (.ref d), .val (.int (Int32.ofNat i)), .val (.int (Int32.ofNat n)), .val (.int (Int32.ofNat i)), s6] []) := by
  intro k
  induction k with
  | zero =>
    intro i hik s6 hs6 T h locs X0 e0 N0 K V lo
    obtain rfl : n = i := by omega
    refine w_iload X0.here hx (hb hby d_jdk_52m_21_3) rfl (pc' := 5) rfl ?_
    refine w_iload X0.here hx (hb hby d_jdk_52m_21_5) rfl (pc' := 7) rfl ?_
    refine w_icmpYes X0.here hx (hb hby d_jdk_52m_21_7) (flt (show ¬ ((Int32.ofNat n) < (Int32.ofNat n)) from n_nlt (Nat.le_refl _) (by omega))).2.1 (pc' := 44) (by decide) (by decide) ?_
    exact out1 s6 T h locs X0 e0 N0 K V lo
  | succ k ih =>
    intro i hik s6 hs6 T h locs X0 e0 N0 K V lo
    refine w_iload X0.here hx (hb hby d_jdk_52m_21_3) rfl (pc' := 5) rfl ?_
    refine w_iload X0.here hx (hb hby d_jdk_52m_21_5) rfl (pc' := 7) rfl ?_
    refine w_icmpNo X0.here hx (hb hby d_jdk_52m_21_7) (tlt (show (Int32.ofNat i) < (Int32.ofNat n) from n_lt (by omega) (by omega))).2.1 (pc' := 10) rfl ?_
    refine w_aloadN X0.here hx (hb hby d_jdk_52m_21_10) rfl rfl (pc' := 11) rfl ?_
    refine w_iloadN X0.here hx (hb hby d_jdk_52m_21_11) rfl (pc' := 12) rfl ?_
    refine w_caload X0 hx hZ e0 (VA.keep K (ninS ne nin0)) (in_rng (by omega) (by omega)) (v := (.int (cs.getD i 0))) (at_chr (by omega) (by omega)) (hb hby d_jdk_52m_21_12) (pc' := 13) rfl ?_
    refine w_istore X0.here hx (hb hby d_jdk_52m_21_13) (l' := #[.val (.ref a), .val (.int (Int32.ofNat i)), .val (.ref d), .val (.int (Int32.ofNat i)), .val (.int (Int32.ofNat n)), .val (.int (Int32.ofNat i)), .val (.int (cs.getD i 0))]) (XS.store1 rfl hs6 rfl) (pc' := 15) rfl ?_
    refine w_iload X0.here hx (hb hby d_jdk_52m_21_15) rfl (pc' := 17) rfl ?_
    refine w_sipush X0.here hx (hb hby d_jdk_52m_21_17) (z := 255) rfl (pc' := 20) rfl ?_
    by_cases hc : (255 : Int32) < cs.getD i 0
    · refine w_icmpNo X0.here hx (hb hby d_jdk_52m_21_20) (tlt (show (255 : Int32) < (cs.getD i 0) from hc)).2.2.2 (pc' := 23) rfl ?_
      exact out2 i (by omega) hc _ T h locs X0 e0 N0 K
    · refine w_icmpYes X0.here hx (hb hby d_jdk_52m_21_20) (flt (show ¬ ((255 : Int32) < (cs.getD i 0)) from hc)).2.2.2 (pc' := 26) (by decide) (by decide) ?_
      refine w_aloadN X0.here hx (hb hby d_jdk_52m_21_26) rfl rfl (pc' := 27) rfl ?_
      refine w_iloadN X0.here hx (hb hby d_jdk_52m_21_27) rfl (pc' := 28) rfl ?_
      refine w_iload X0.here hx (hb hby d_jdk_52m_21_28) rfl (pc' := 30) rfl ?_
      refine w_i2b X0.here hx (hb hby d_jdk_52m_21_30) (pc' := 31) rfl ?_
      refine w_bastore X0 hx hZ e0 V (in_rng (by omega) (by omega)) i (n_nat (by omega)) (by rw [fillB_len (by omega)]; omega) (hb hby d_jdk_52m_21_31) (pc' := 32) rfl ?_
      intro T1 h1 X1 e1 W1 V1
      have N1 := Fr.snoc X1 N0 gd
      have K1 := K.wr W1 (Or.inl (List.mem_cons_self ..))
      rw [show ((cs.getD i 0).toInt8.toInt32.toInt8.toInt32) = StrChars.lo8 (cs.getD i 0) from by simp [StrChars.lo8], fillB_set (by omega)] at V1
      refine w_iinc X1.here hx (hb hby d_jdk_52m_21_32) rfl (z := 1) rfl (l' := #[.val (.ref a), .val (.int ((Int32.ofNat i) + (1 : Int32))), .val (.ref d), .val (.int (Int32.ofNat i)), .val (.int (Int32.ofNat n)), .val (.int (Int32.ofNat i)), .val (.int (cs.getD i 0))]) rfl (pc' := 35) rfl ?_
      refine w_iinc X1.here hx (hb hby d_jdk_52m_21_35) rfl (z := 1) rfl (l' := #[.val (.ref a), .val (.int ((Int32.ofNat i) + (1 : Int32))), .val (.ref d), .val (.int ((Int32.ofNat i) + (1 : Int32))), .val (.int (Int32.ofNat n)), .val (.int (Int32.ofNat i)), .val (.int (cs.getD i 0))]) rfl (pc' := 38) rfl ?_
      refine w_iinc X1.here hx (hb hby d_jdk_52m_21_38) rfl (z := 1) rfl (l' := #[.val (.ref a), .val (.int ((Int32.ofNat i) + (1 : Int32))), .val (.ref d), .val (.int ((Int32.ofNat i) + (1 : Int32))), .val (.int (Int32.ofNat n)), .val (.int ((Int32.ofNat i) + (1 : Int32))), .val (.int (cs.getD i 0))]) rfl (pc' := 41) rfl ?_
      refine w_goto X1.here hx (hb hby d_jdk_52m_21_41) (pc' := 3) (by decide) (by decide) ?_
      rw [n_succ]
      exact ih (i + 1) (by omega) _ (One.val rfl) _ _ _ X1 e1 N1 K1 V1 (fun j hj => (Nat.lt_succ_iff_lt_or_eq.mp hj).elim (lo j) (fun q => by rw [q]; exact hc))
theorem d_jdk_52m_21_0 : decode jdk_52_method_21_code 0 = .ok (.iconst 0, 1) := by decide +kernel
theorem d_jdk_52m_21_1 : decode jdk_52_method_21_code 1 = .ok (.istore 5, 2) := by decide +kernel
theorem d_jdk_52m_21_44 : decode jdk_52_method_21_code 44 = .ok (.iload 4, 2) := by decide +kernel
theorem d_jdk_52m_21_46 : decode jdk_52_method_21_code 46 = .ok (.ireturn, 1) := by decide +kernel
theorem d_jdk_52m_21_23 : decode jdk_52_method_21_code 23 = .ok (.iload 5, 2) := by decide +kernel
theorem d_jdk_52m_21_25 : decode jdk_52_method_21_code 25 = .ok (.ireturn, 1) := by decide +kernel
set_option maxRecDepth 65536 in
set_option maxHeartbeats 40000000 in
theorem rmC5 (l : Launch) (Z : State) (a0 : Array Value) (hw : ∀ d ∈ tables_1, d.before a0 Z = true) (a d : Addr) (ka kd : ClassId) (n : Nat) (cs : List Int32) (dv : Value) (h0 : Heap) (n0 : Nat) (VA : Arv Z h0 a ka .char (Int32.ofNat n) (cs.map Value.int) dv) (hl : cs.length = n) (hn : n ≤ 4000) (gd : n0 ≤ d) (ne : a ≠ d) (V : Arv Z h0 d kd .byte (Int32.ofNat n) (List.replicate n (.int 0)) (.int 0)) :
    Ct l (⟨"java/lang/StringUTF16", "compress", "([CI[BII)I"⟩ : MethodName) jdk_52_method_21_code 7 (some .int) ({ frames := 0, cells := 0, slots := 0, locals := 0 } : Room) Z #[(.ref a), (.int (0 : Int32)), (.ref d), (.int (0 : Int32)), (.int (Int32.ofNat n))] h0 (fun v h L => Fr n0 L ∧ Keep h0 h [d] ∧ ((v = some (.int (Int32.ofNat n)) ∧ (∀ c ∈ cs, ¬ (255 : Int32) < c) ∧ Arv Z h d kd .byte (Int32.ofNat n) (cs.map (fun c => Value.int (StrChars.lo8 c))) (.int 0)) ∨ ∃ i, i < n ∧ v = some (.int (Int32.ofNat i)) ∧ (255 : Int32) < cs.getD i 0)) := by
  refine ct_of (Q := fun v h L => Fr n0 L ∧ Keep h0 h [d] ∧ ((v = some (.int (Int32.ofNat n)) ∧ (∀ c ∈ cs, ¬ (255 : Int32) < c) ∧ Arv Z h d kd .byte (Int32.ofNat n) (cs.map (fun c => Value.int (StrChars.lo8 c))) (.int 0)) ∨ ∃ i, i < n ∧ v = some (.int (Int32.ofNat i)) ∧ (255 : Int32) < cs.getD i 0)) (plainFor_of_name pn_0) ?_
  intro p e s m below meth c s₁ X0 hx hby hml hret hnm hlk hown hZ hs0 e0
  have N0 := Fr.nil n0
  rw [show entryFrame m #[(.ref a), (.int (0 : Int32)), (.ref d), (.int (0 : Int32)), (.int (Int32.ofNat n))] 7 = mkF m 0 #[.val (.ref a), .val (.int (0 : Int32)), .val (.ref d), .val (.int (0 : Int32)), .val (.int (Int32.ofNat n)), .unset, .unset] [] from by first | (simp [entryFrame, mkF, argsToLocals, Value.category]; done) | rfl]
  refine w_iconst X0.here hx (hb hby d_jdk_52m_21_0) (z := 0) rfl (pc' := 1) rfl ?_
  refine w_istore X0.here hx (hb hby d_jdk_52m_21_1) (l' := #[.val (.ref a), .val (.int (0 : Int32)), .val (.ref d), .val (.int (0 : Int32)), .val (.int (Int32.ofNat n)), .val (.int (0 : Int32)), .unset]) rfl (pc' := 3) rfl ?_
  refine lpC5 Z a0 hw hx hby hml hown hZ a d ka kd n n0 cs dv h0 VA hl hn gd ne ?_ ?_ n 0 (by omega) _ One.u _ _ _ X0 e0 N0 (Keep.refl _ _) (by rw [fillB_zero, hl]; exact V) (fun j hj => absurd hj (Nat.not_lt_zero j))
  · intro s6 T h locs X e1 N1 K1 V1 lo
    refine w_iload X.here hx (hb hby d_jdk_52m_21_44) rfl (pc' := 46) rfl ?_
    rw [← hl, fillB_all, hl] at V1
    exact endI X hx hlk hret (hb hby d_jdk_52m_21_46) (by decide) (by decide) (by rw [e1]; exact ⟨N1, K1, Or.inl ⟨rfl, fun c hc => by obtain ⟨j, hj, rfl⟩ := List.getElem_of_mem hc; have q := lo j (by omega); simpa [List.getD_eq_getElem?_getD, hj] using q, V1⟩⟩)
  · intro i hi hc s6 T h locs X e1 N1 K1
    refine w_iload X.here hx (hb hby d_jdk_52m_21_23) rfl (pc' := 25) rfl ?_
    exact endI X hx hlk hret (hb hby d_jdk_52m_21_25) (by decide) (by decide) (by rw [e1]; exact ⟨N1, K1, Or.inr ⟨i, hi, rfl, hc⟩⟩)
theorem d_jdk_52m_16_0 : decode jdk_52_method_16_code 0 = .ok (.iload_n 2, 1) := by decide +kernel
theorem d_jdk_52m_16_1 : decode jdk_52_method_16_code 1 = .ok (.newarray .byte, 2) := by decide +kernel
theorem d_jdk_52m_16_3 : decode jdk_52_method_16_code 3 = .ok (.astore_n 3, 1) := by decide +kernel
theorem d_jdk_52m_16_4 : decode jdk_52_method_16_code 4 = .ok (.aload_n 0, 1) := by decide +kernel
theorem d_jdk_52m_16_5 : decode jdk_52_method_16_code 5 = .ok (.iload_n 1, 1) := by decide +kernel
theorem d_jdk_52m_16_6 : decode jdk_52_method_16_code 6 = .ok (.aload_n 3, 1) := by decide +kernel
theorem d_jdk_52m_16_7 : decode jdk_52_method_16_code 7 = .ok (.iconst 0, 1) := by decide +kernel
theorem d_jdk_52m_16_8 : decode jdk_52_method_16_code 8 = .ok (.iload_n 2, 1) := by decide +kernel
theorem pd_3 : parseMethodDescriptor "([CI[BII)I" = some ⟨[(.array .char), .int, (.array .byte), .int, .int], some .int⟩ := by decide +kernel
theorem d_jdk_52m_16_9 : decode jdk_52_method_16_code 9 = .ok (.invokestatic 115, 3) := by decide +kernel
theorem d_jdk_52m_16_12 : decode jdk_52_method_16_code 12 = .ok (.istore 4, 2) := by decide +kernel
theorem d_jdk_52m_16_14 : decode jdk_52_method_16_code 14 = .ok (.iload 4, 2) := by decide +kernel
theorem d_jdk_52m_16_16 : decode jdk_52_method_16_code 16 = .ok (.iload_n 2, 1) := by decide +kernel
theorem d_jdk_52m_16_17 : decode jdk_52_method_16_code 17 = .ok (.if_icmp .eq 40, 3) := by decide +kernel
theorem d_jdk_52m_16_57 : decode jdk_52_method_16_code 57 = .ok (.aload_n 3, 1) := by decide +kernel
theorem d_jdk_52m_16_58 : decode jdk_52_method_16_code 58 = .ok (.areturn, 1) := by decide +kernel
theorem d_jdk_52m_16_20 : decode jdk_52_method_16_code 20 = .ok (.aload_n 0, 1) := by decide +kernel
theorem d_jdk_52m_16_21 : decode jdk_52_method_16_code 21 = .ok (.iload_n 1, 1) := by decide +kernel
theorem d_jdk_52m_16_22 : decode jdk_52_method_16_code 22 = .ok (.iload_n 2, 1) := by decide +kernel
theorem pd_4 : parseMethodDescriptor "([CII)[B" = some ⟨[(.array .char), .int, .int], some (.array .byte)⟩ := by decide +kernel
theorem d_jdk_52m_16_23 : decode jdk_52_method_16_code 23 = .ok (.invokestatic 119, 3) := by decide +kernel
theorem d_jdk_52m_16_26 : decode jdk_52_method_16_code 26 = .ok (.astore 5, 2) := by decide +kernel
theorem d_jdk_52m_16_28 : decode jdk_52_method_16_code 28 = .ok (.aload 5, 2) := by decide +kernel
theorem d_jdk_52m_16_30 : decode jdk_52_method_16_code 30 = .ok (.iload 4, 2) := by decide +kernel
theorem pd_5 : parseMethodDescriptor "([BI)C" = some ⟨[(.array .byte), .int], some .char⟩ := by decide +kernel
theorem d_jdk_52m_16_32 : decode jdk_52_method_16_code 32 = .ok (.invokestatic 71, 3) := by decide +kernel
theorem d_jdk_52m_16_35 : decode jdk_52_method_16_code 35 = .ok (.sipush 255, 3) := by decide +kernel
theorem d_jdk_52m_16_38 : decode jdk_52_method_16_code 38 = .ok (.if_icmp .gt 16, 3) := by decide +kernel
theorem d_jdk_52m_16_54 : decode jdk_52_method_16_code 54 = .ok (.aload 5, 2) := by decide +kernel
theorem d_jdk_52m_16_56 : decode jdk_52_method_16_code 56 = .ok (.areturn, 1) := by decide +kernel
set_option maxRecDepth 65536 in
set_option maxHeartbeats 40000000 in
theorem rmC3 (l : Launch) (Z : State) (a0 : Array Value) (hw : ∀ d ∈ tables_1, d.before a0 Z = true) (a : Addr) (ka : ClassId) (n : Nat) (z : Int32) (cs : List Int32) (dv : Value) (h0 : Heap) (n0 : Nat) (Z0 : n0 ≤ h0.size) (Su : SU Z h0 z) (VA : Arv Z h0 a ka .char (Int32.ofNat n) (cs.map Value.int) dv) (hl : cs.length = n) (hn : n ≤ 4) (hb16 : ∀ c ∈ cs, ¬ c < 0 ∧ ¬ (65535 : Int32) < c) :
    Ct l (⟨"java/lang/StringUTF16", "compress", "([CII)[B"⟩ : MethodName) jdk_52_method_16_code 6 (some (.array .byte)) ({ frames := 3, cells := 2, slots := 12, locals := 40 } : Room) Z #[(.ref a), (.int (0 : Int32)), (.int (Int32.ofNat n))] h0 (fun v h L => ∃ t kt N2 vs cd, v = some (.ref t) ∧ Fr n0 L ∧ Ext h0 h ∧ h0.size ≤ t ∧ Arv Z h t kt .byte N2 vs (.int 0) ∧ StrChars.Road.CodA cs cd N2 vs) := by
  refine ct_of (Q := fun v h L => ∃ t kt N2 vs cd, v = some (.ref t) ∧ Fr n0 L ∧ Ext h0 h ∧ h0.size ≤ t ∧ Arv Z h t kt .byte N2 vs (.int 0) ∧ StrChars.Road.CodA cs cd N2 vs) (plainFor_of_name pn_0) ?_
  intro p e s m below meth c s₁ X0 hx hby hml hret hnm hlk hown hZ hs0 e0
  have N0 := Fr.nil n0
  rw [show entryFrame m #[(.ref a), (.int (0 : Int32)), (.int (Int32.ofNat n))] 6 = mkF m 0 #[.val (.ref a), .val (.int (0 : Int32)), .val (.int (Int32.ofNat n)), .unset, .unset, .unset] [] from by first | (simp [entryFrame, mkF, argsToLocals, Value.category]; done) | rfl]
  refine w_iloadN X0.here hx (hb hby d_jdk_52m_16_0) rfl (pc' := 1) rfl ?_
  refine w_newarray X0 hx hZ (ty := .byte) (dv := (.int 0)) rfl rfl (hw _ (List.mem_of_getElem? (i := 27) rfl)) e0 (n := (Int32.ofNat n)) (hb hby d_jdk_52m_16_1) (n_nn (by omega)) (cap := 4) (by rw [n_nat (by omega)]; omega) (by decide) (by decide) (by decide) (pc' := 3) rfl ?_
  intro T13 h13 d kd gd X13 e13 E13 V
  have ge_d_h0 : h0.size ≤ d := Nat.le_trans (Ext.rfl' : Ext h0 h0).1 (Nat.le_of_eq gd)
  have C14 : Ext h0 h13 := Ext.trs Ext.rfl' E13
  rw [n_nat (by omega)] at V
  have gd : n0 ≤ d := Nat.le_trans Z0 ge_d_h0
  have ne : a ≠ d := Nat.ne_of_lt (Nat.lt_of_lt_of_le VA.lt ge_d_h0)
  refine w_astoreN X13.here hx (hb hby d_jdk_52m_16_3) rfl (l' := #[.val (.ref a), .val (.int (0 : Int32)), .val (.int (Int32.ofNat n)), .val (.ref d), .unset, .unset]) rfl (pc' := 4) rfl ?_
  refine w_aloadN X13.here hx (hb hby d_jdk_52m_16_4) rfl rfl (pc' := 5) rfl ?_
  refine w_iloadN X13.here hx (hb hby d_jdk_52m_16_5) rfl (pc' := 6) rfl ?_
  refine w_aloadN X13.here hx (hb hby d_jdk_52m_16_6) rfl rfl (pc' := 7) rfl ?_
  refine w_iconst X13.here hx (hb hby d_jdk_52m_16_7) (z := 0) rfl (pc' := 8) rfl ?_
  refine w_iloadN X13.here hx (hb hby d_jdk_52m_16_8) rfl (pc' := 9) rfl ?_
  refine w_static X13 hx hZ (y := (⟨"java/lang/StringUTF16", "compress", "([CI[BII)I"⟩ : MethodName)) hown (hw _ (List.mem_of_getElem? (i := 60) rfl)) (hw _ (List.mem_of_getElem? (i := 61) rfl)) (hw _ (List.mem_of_getElem? (i := 58) rfl)) (hw _ (List.mem_of_getElem? (i := 62) rfl)) (by decide) (backC (W := 0) (rmC5 l Z a0 hw a d ka kd n cs dv h13 n0 (VA.ext C14) hl (by omega) gd ne V) hZ (hw _ (List.mem_of_getElem? (i := 62) rfl)) (hw _ (List.mem_of_getElem? (i := 58) rfl)) (by decide) (by decide)) e13 (by rw [hml]; rfl) (argsL := [(.ref a), (.int (0 : Int32)), (.ref d), (.int (0 : Int32)), (.int (Int32.ofNat n))]) (st := []) pd_3 rfl rfl rfl (Nat.le_of_ble_eq_true rfl) (hb hby d_jdk_52m_16_9) (by decide) (by decide) (pc' := 12) rfl ?_
  intro T15 v15 L15 X15 Q15
  obtain ⟨N1, K1, hv⟩ := Q15
  have N2 := Fr.app N0 N1
  have E2 : Ext h0 T15.heap := Ext.kp C14 K1 (allS ge_d_h0 all0)
  rcases hv with ⟨rfl, lo, V1⟩ | ⟨i, hi, rfl, hc⟩
  · show Go _ _ _ _ T15 (mkF m 12 #[.val (.ref a), .val (.int (0 : Int32)), .val (.int (Int32.ofNat n)), .val (.ref d), .unset, .unset] [(.int (Int32.ofNat n))])
    refine w_istore X15.here hx (hb hby d_jdk_52m_16_12) (l' := #[.val (.ref a), .val (.int (0 : Int32)), .val (.int (Int32.ofNat n)), .val (.ref d), .val (.int (Int32.ofNat n)), .unset]) rfl (pc' := 14) rfl ?_
    refine w_iload X15.here hx (hb hby d_jdk_52m_16_14) rfl (pc' := 16) rfl ?_
    refine w_iloadN X15.here hx (hb hby d_jdk_52m_16_16) rfl (pc' := 17) rfl ?_
    refine w_icmpYes X15.here hx (hb hby d_jdk_52m_16_17) (teq (show (Int32.ofNat n) = (Int32.ofNat n) from rfl)).1 (pc' := 57) (by decide) (by decide) ?_
    refine w_aloadN X15.here hx (hb hby d_jdk_52m_16_57) rfl rfl (pc' := 58) rfl ?_
    exact endR X15 hx hlk rfl hret rfl (hb hby d_jdk_52m_16_58) (by decide) (by decide) (⟨d, kd, _, _, 0, rfl, N2, E2, ge_d_h0, V1, Or.inl ⟨rfl, by rw [hl], rfl, lo⟩⟩)
  · show Go _ _ _ _ T15 (mkF m 12 #[.val (.ref a), .val (.int (0 : Int32)), .val (.int (Int32.ofNat n)), .val (.ref d), .unset, .unset] [(.int (Int32.ofNat i))])
    refine w_istore X15.here hx (hb hby d_jdk_52m_16_12) (l' := #[.val (.ref a), .val (.int (0 : Int32)), .val (.int (Int32.ofNat n)), .val (.ref d), .val (.int (Int32.ofNat i)), .unset]) rfl (pc' := 14) rfl ?_
    refine w_iload X15.here hx (hb hby d_jdk_52m_16_14) rfl (pc' := 16) rfl ?_
    refine w_iloadN X15.here hx (hb hby d_jdk_52m_16_16) rfl (pc' := 17) rfl ?_
    refine w_icmpNo X15.here hx (hb hby d_jdk_52m_16_17) (feq (show ¬ ((Int32.ofNat i) = (Int32.ofNat n)) from n_ne hi (by omega))).1 (pc' := 20) rfl ?_
    refine w_aloadN X15.here hx (hb hby d_jdk_52m_16_20) rfl rfl (pc' := 21) rfl ?_
    refine w_iloadN X15.here hx (hb hby d_jdk_52m_16_21) rfl (pc' := 22) rfl ?_
    refine w_iloadN X15.here hx (hb hby d_jdk_52m_16_22) rfl (pc' := 23) rfl ?_
    refine w_static X15 hx hZ (y := (⟨"java/lang/StringUTF16", "toBytes", "([CII)[B"⟩ : MethodName)) hown (hw _ (List.mem_of_getElem? (i := 67) rfl)) (hw _ (List.mem_of_getElem? (i := 68) rfl)) (hw _ (List.mem_of_getElem? (i := 58) rfl)) (hw _ (List.mem_of_getElem? (i := 69) rfl)) (by decide) (backC (W := 0) (rmToB l Z a0 hw a ka n z cs dv T15.heap n0 (Nat.le_trans Z0 E2.1) (Su.ext E2) (VA.ext E2) hl hn) hZ (hw _ (List.mem_of_getElem? (i := 69) rfl)) (hw _ (List.mem_of_getElem? (i := 58) rfl)) (by decide) (by decide)) rfl (by rw [hml]; rfl) (argsL := [(.ref a), (.int (0 : Int32)), (.int (Int32.ofNat n))]) (st := []) pd_4 rfl rfl rfl (Nat.le_of_ble_eq_true rfl) (hb hby d_jdk_52m_16_23) (by decide) (by decide) (pc' := 26) rfl ?_
    intro T16 v16 L16 X16 Q16
    obtain ⟨b, kb, rfl, N3, E3, gb, V3⟩ := Q16
    show Go _ _ _ _ T16 (mkF m 26 #[.val (.ref a), .val (.int (0 : Int32)), .val (.int (Int32.ofNat n)), .val (.ref d), .val (.int (Int32.ofNat i)), .unset] [(.ref b)])
    have N4 := Fr.app N2 N3
    have E4 := Ext.trs E2 E3
    refine w_astore X16.here hx (hb hby d_jdk_52m_16_26) rfl (l' := #[.val (.ref a), .val (.int (0 : Int32)), .val (.int (Int32.ofNat n)), .val (.ref d), .val (.int (Int32.ofNat i)), .val (.ref b)]) rfl (pc' := 28) rfl ?_
    refine w_aload X16.here hx (hb hby d_jdk_52m_16_28) rfl rfl (pc' := 30) rfl ?_
    refine w_iload X16.here hx (hb hby d_jdk_52m_16_30) rfl (pc' := 32) rfl ?_
    refine w_static X16 hx hZ (y := (⟨"java/lang/StringUTF16", "getChar", "([BI)C"⟩ : MethodName)) hown (hw _ (List.mem_of_getElem? (i := 83) rfl)) (hw _ (List.mem_of_getElem? (i := 84) rfl)) (hw _ (List.mem_of_getElem? (i := 58) rfl)) (hw _ (List.mem_of_getElem? (i := 85) rfl)) (by decide) (backC (W := 0) (rmGet l Z a0 hw b kb n i (StrChars.lo8 (cs.getD i 0)) (StrChars.hi8 (cs.getD i 0)) z _ T16.heap n0 (Su.ext E4) V3 hi (by omega) (StrChars.Road.wide_lo _ cs i (by omega)) (StrChars.Road.wide_hi _ cs i (by omega))) hZ (hw _ (List.mem_of_getElem? (i := 85) rfl)) (hw _ (List.mem_of_getElem? (i := 58) rfl)) (by decide) (by decide)) rfl (by rw [hml]; rfl) (argsL := [(.ref b), (.int (Int32.ofNat i))]) (st := []) pd_5 rfl rfl rfl (Nat.le_of_ble_eq_true rfl) (hb hby d_jdk_52m_16_32) (by decide) (by decide) (pc' := 35) rfl ?_
    intro T17 v17 L17 X17 Q17
    obtain ⟨rfl, N5, hh⟩ := Q17
    show Go _ _ _ _ T17 (mkF m 35 #[.val (.ref a), .val (.int (0 : Int32)), .val (.int (Int32.ofNat n)), .val (.ref d), .val (.int (Int32.ofNat i)), .val (.ref b)] [(.int (StrChars.pairCh (StrChars.lo8 (cs.getD i 0)) (StrChars.hi8 (cs.getD i 0))))])
    have hmem : cs.getD i 0 ∈ cs := by simp [List.getD_eq_getElem?_getD, show i < cs.length by omega]
    refine w_sipush X17.here hx (hb hby d_jdk_52m_16_35) (z := 255) rfl (pc' := 38) rfl ?_
    refine w_icmpYes X17.here hx (hb hby d_jdk_52m_16_38) (tlt (show (255 : Int32) < (StrChars.pairCh (StrChars.lo8 (cs.getD i 0)) (StrChars.hi8 (cs.getD i 0))) from by rw [StrChars.pair_says (hb16 _ hmem).1 (hb16 _ hmem).2]; exact hc)).2.2.1 (pc' := 54) (by decide) (by decide) ?_
    have N6 := Fr.app N4 N5
    rw [← hh] at E4 V3
    refine w_aload X17.here hx (hb hby d_jdk_52m_16_54) rfl rfl (pc' := 56) rfl ?_
    exact endR X17 hx hlk rfl hret rfl (hb hby d_jdk_52m_16_56) (by decide) (by decide) (⟨b, kb, _, _, 1, rfl, N6, E4, Nat.le_trans E2.1 gb, V3, Or.inr ⟨rfl, by rw [hl], rfl, _, hmem, hc⟩⟩)
theorem d_jdk_52m_15_0 : decode jdk_52_method_15_code 0 = .ok (.iload_n 1, 1) := by decide +kernel
theorem d_jdk_52m_15_1 : decode jdk_52_method_15_code 1 = .ok (.aload_n 0, 1) := by decide +kernel
theorem d_jdk_52m_15_2 : decode jdk_52_method_15_code 2 = .ok (.arraylength, 1) := by decide +kernel
theorem d_jdk_52m_15_3 : decode jdk_52_method_15_code 3 = .ok (.isub, 1) := by decide +kernel
theorem d_jdk_52m_15_4 : decode jdk_52_method_15_code 4 = .ok (.bipush 31, 2) := by decide +kernel
theorem d_jdk_52m_15_6 : decode jdk_52_method_15_code 6 = .ok (.iushr, 1) := by decide +kernel
theorem d_jdk_52m_15_7 : decode jdk_52_method_15_code 7 = .ok (.i2b, 1) := by decide +kernel
theorem d_jdk_52m_15_8 : decode jdk_52_method_15_code 8 = .ok (.ireturn, 1) := by decide +kernel
set_option maxRecDepth 65536 in
set_option maxHeartbeats 40000000 in
theorem rmCod (l : Launch) (Z : State) (a0 : Array Value) (hw : ∀ d ∈ tables_1, d.before a0 Z = true) (t : Addr) (kt : ClassId) (N2 cd : Int32) (vs : List Value) (cs : List Int32) (n : Nat) (h0 : Heap) (n0 : Nat) (V : Arv Z h0 t kt .byte N2 vs (.int 0)) (hc : StrChars.Road.CodA cs cd N2 vs) (hl : cs.length = n) (hn : n ≤ 4000) :
    Ct l (⟨"java/lang/StringUTF16", "coderFromArrayLen", "([BI)B"⟩ : MethodName) jdk_52_method_15_code 2 (some .byte) ({ frames := 0, cells := 0, slots := 0, locals := 0 } : Room) Z #[(.ref t), (.int (Int32.ofNat n))] h0 (fun v h L => v = some (.int cd) ∧ Fr n0 L ∧ h = h0) := by
  refine ct_of (Q := fun v h L => v = some (.int cd) ∧ Fr n0 L ∧ h = h0) (plainFor_of_name pn_0) ?_
  intro p e s m below meth c s₁ X0 hx hby hml hret hnm hlk hown hZ hs0 e0
  have N0 := Fr.nil n0
  rw [show entryFrame m #[(.ref t), (.int (Int32.ofNat n))] 2 = mkF m 0 #[.val (.ref t), .val (.int (Int32.ofNat n))] [] from by first | (simp [entryFrame, mkF, argsToLocals, Value.category]; done) | rfl]
  refine w_iloadN X0.here hx (hb hby d_jdk_52m_15_0) rfl (pc' := 1) rfl ?_
  refine w_aloadN X0.here hx (hb hby d_jdk_52m_15_1) rfl rfl (pc' := 2) rfl ?_
  refine w_arraylength X0 hx hZ e0 V (hb hby d_jdk_52m_15_2) (pc' := 3) rfl ?_
  refine w_isub X0.here hx (hb hby d_jdk_52m_15_3) (pc' := 4) rfl ?_
  refine w_bipush X0.here hx (hb hby d_jdk_52m_15_4) (z := 31) rfl (pc' := 6) rfl ?_
  refine w_iushr X0.here hx (hb hby d_jdk_52m_15_6) (pc' := 7) rfl ?_
  rw [cod_len hc hl hn]
  show Go _ _ _ _ s₁ (mkF m 7 #[.val (.ref t), .val (.int (Int32.ofNat n))] [(.int cd)])
  refine w_i2b X0.here hx (hb hby d_jdk_52m_15_7) (pc' := 8) rfl ?_
  rw [(cod_cd hc).2]
  show Go _ _ _ _ s₁ (mkF m 8 #[.val (.ref t), .val (.int (Int32.ofNat n))] [(.int cd)])
  exact endZ X0 hx hlk hret (by simp) (hb hby d_jdk_52m_15_8) ((cod_cd hc).1) (by decide) (by decide) (by rw [e0]; exact ⟨rfl, N0, rfl⟩)
theorem d_jdk_42m_149_0 : decode jdk_42_method_149_code 0 = .ok (.aload_n 0, 1) := by decide +kernel
theorem d_jdk_42m_149_1 : decode jdk_42_method_149_code 1 = .ok (.invokespecial 1, 3) := by decide +kernel
theorem d_jdk_42m_149_4 : decode jdk_42_method_149_code 4 = .ok (.iload_n 3, 1) := by decide +kernel
theorem d_jdk_42m_149_5 : decode jdk_42_method_149_code 5 = .ok (.ifCond .ne 22, 3) := by decide +kernel
theorem d_jdk_42m_149_27 : decode jdk_42_method_149_code 27 = .ok (.getstatic 38, 3) := by decide +kernel
theorem d_jdk_42m_149_30 : decode jdk_42_method_149_code 30 = .ok (.ifCond .eq 28, 3) := by decide +kernel
theorem d_jdk_42m_149_33 : decode jdk_42_method_149_code 33 = .ok (.aload_n 1, 1) := by decide +kernel
theorem d_jdk_42m_149_34 : decode jdk_42_method_149_code 34 = .ok (.iload_n 2, 1) := by decide +kernel
theorem d_jdk_42m_149_35 : decode jdk_42_method_149_code 35 = .ok (.iload_n 3, 1) := by decide +kernel
theorem d_jdk_42m_149_36 : decode jdk_42_method_149_code 36 = .ok (.invokestatic 177, 3) := by decide +kernel
theorem d_jdk_42m_149_39 : decode jdk_42_method_149_code 39 = .ok (.astore 5, 2) := by decide +kernel
theorem d_jdk_42m_149_41 : decode jdk_42_method_149_code 41 = .ok (.aload_n 0, 1) := by decide +kernel
theorem d_jdk_42m_149_42 : decode jdk_42_method_149_code 42 = .ok (.aload 5, 2) := by decide +kernel
theorem d_jdk_42m_149_44 : decode jdk_42_method_149_code 44 = .ok (.iload_n 3, 1) := by decide +kernel
theorem pd_6 : parseMethodDescriptor "([BI)B" = some ⟨[(.array .byte), .int], some .byte⟩ := by decide +kernel
theorem d_jdk_42m_149_45 : decode jdk_42_method_149_code 45 = .ok (.invokestatic 47, 3) := by decide +kernel
theorem d_jdk_42m_149_48 : decode jdk_42_method_149_code 48 = .ok (.putfield 15, 3) := by decide +kernel
theorem d_jdk_42m_149_51 : decode jdk_42_method_149_code 51 = .ok (.aload_n 0, 1) := by decide +kernel
theorem d_jdk_42m_149_52 : decode jdk_42_method_149_code 52 = .ok (.aload 5, 2) := by decide +kernel
theorem d_jdk_42m_149_54 : decode jdk_42_method_149_code 54 = .ok (.putfield 9, 3) := by decide +kernel
theorem d_jdk_42m_149_57 : decode jdk_42_method_149_code 57 = .ok (.return_, 1) := by decide +kernel
theorem pn_1 : plainName "java/lang/String" = true := by first | (simp [plainName, overriddenIn]; done) | decide +kernel
set_option maxRecDepth 65536 in
set_option maxHeartbeats 40000000 in
theorem rmI4 (l : Launch) (Z : State) (a0 : Array Value) (hw : ∀ d ∈ tables_1, d.before a0 Z = true) (x a : Addr) (ka : ClassId) (n : Nat) (z : Int32) (cs : List Int32) (dv v0 c0 : Value) (h0 : Heap) (n0 : Nat) (Z0 : n0 ≤ h0.size) (gx : n0 ≤ x) (Su : SU Z h0 z) (VA : Arv Z h0 a ka .char (Int32.ofNat n) (cs.map Value.int) dv) (hl : cs.length = n) (hpos : 0 < n) (hn : n ≤ 4) (hb16 : ∀ c ∈ cs, ¬ c < 0 ∧ ¬ (65535 : Int32) < c) (EX : Exa Z h0 x "java/lang/String") (FV : Fld Z h0 x "java/lang/String" "value" "[B" v0) (FC : Fld Z h0 x "java/lang/String" "coder" "B" c0) :
    Ct l (⟨"java/lang/String", "<init>", "([CIILjava/lang/Void;)V"⟩ : MethodName) jdk_42_method_149_code 6 none ({ frames := 4, cells := 2, slots := 12, locals := 57 } : Room) Z #[(.ref x), (.ref a), (.int (0 : Int32)), (.int (Int32.ofNat n)), .null] h0 (fun v h L => v = none ∧ Fr n0 L ∧ Keep h0 h [x] ∧ StrOf Z h x cs) := by
  refine ct_of (Q := fun v h L => v = none ∧ Fr n0 L ∧ Keep h0 h [x] ∧ StrOf Z h x cs) (plainFor_of_name pn_1) ?_
  intro p e s m below meth c s₁ X0 hx hby hml hret hnm hlk hown hZ hs0 e0
  have N0 := Fr.nil n0
  rw [show entryFrame m #[(.ref x), (.ref a), (.int (0 : Int32)), (.int (Int32.ofNat n)), .null] 6 = mkF m 0 #[.val (.ref x), .val (.ref a), .val (.int (0 : Int32)), .val (.int (Int32.ofNat n)), .val .null, .unset] [] from by first | (simp [entryFrame, mkF, argsToLocals, Value.category]; done) | rfl]
  refine w_aloadN X0.here hx (hb hby d_jdk_42m_149_0) rfl rfl (pc' := 1) rfl ?_
  refine w_initO X0 hx hZ hown (hw _ (List.mem_of_getElem? (i := 23) rfl)) (hw _ (List.mem_of_getElem? (i := 24) rfl)) (hw _ (List.mem_of_getElem? (i := 25) rfl)) e0 (by rw [hml]; rfl) (hb hby d_jdk_42m_149_1) (by decide) (W := 0) (Nat.le_of_ble_eq_true rfl) (by decide) (pc' := 4) rfl ?_
  intro T18 X18 e18
  refine w_iloadN X18.here hx (hb hby d_jdk_42m_149_4) rfl (pc' := 5) rfl ?_
  refine w_ifYes X18.here hx (hb hby d_jdk_42m_149_5) (feq (show ¬ ((Int32.ofNat n) = (0 : Int32)) from by have := n_ne (i := 0) (n := n) hpos (by omega); exact fun q => this q.symm)).2 (pc' := 27) (by decide) (by decide) ?_
  refine w_getS X18 hx hZ hown (hw _ (List.mem_of_getElem? (i := 48) rfl)) Via.refl e18 Su.1 (hb hby d_jdk_42m_149_27) (pc' := 30) rfl ?_
  intro T19 X19 e19
  refine w_ifNo X19.here hx (hb hby d_jdk_42m_149_30) (feq (show ¬ (z = (0 : Int32)) from Su.2.1)).1 (pc' := 33) rfl ?_
  refine w_aloadN X19.here hx (hb hby d_jdk_42m_149_33) rfl rfl (pc' := 34) rfl ?_
  refine w_iloadN X19.here hx (hb hby d_jdk_42m_149_34) rfl (pc' := 35) rfl ?_
  refine w_iloadN X19.here hx (hb hby d_jdk_42m_149_35) rfl (pc' := 36) rfl ?_
  refine w_static X19 hx hZ (y := (⟨"java/lang/StringUTF16", "compress", "([CII)[B"⟩ : MethodName)) hown (hw _ (List.mem_of_getElem? (i := 56) rfl)) (hw _ (List.mem_of_getElem? (i := 57) rfl)) (hw _ (List.mem_of_getElem? (i := 58) rfl)) (hw _ (List.mem_of_getElem? (i := 59) rfl)) (by decide) (backC (W := 0) (rmC3 l Z a0 hw a ka n z cs dv h0 n0 Z0 Su VA hl hn hb16) hZ (hw _ (List.mem_of_getElem? (i := 59) rfl)) (hw _ (List.mem_of_getElem? (i := 58) rfl)) (by decide) (by decide)) e19 (by rw [hml]; rfl) (argsL := [(.ref a), (.int (0 : Int32)), (.int (Int32.ofNat n))]) (st := []) pd_4 rfl rfl rfl (Nat.le_of_ble_eq_true rfl) (hb hby d_jdk_42m_149_36) (by decide) (by decide) (pc' := 39) rfl ?_
  intro T20 v20 L20 X20 Q20
  obtain ⟨t, kt, N2, vs, cd, rfl, Nc, E1, gt, V1, hc⟩ := Q20
  show Go _ _ _ _ T20 (mkF m 39 #[.val (.ref x), .val (.ref a), .val (.int (0 : Int32)), .val (.int (Int32.ofNat n)), .val .null, .unset] [(.ref t)])
  have N1 := Fr.app N0 Nc
  refine w_astore X20.here hx (hb hby d_jdk_42m_149_39) rfl (l' := #[.val (.ref x), .val (.ref a), .val (.int (0 : Int32)), .val (.int (Int32.ofNat n)), .val .null, .val (.ref t)]) rfl (pc' := 41) rfl ?_
  refine w_aloadN X20.here hx (hb hby d_jdk_42m_149_41) rfl rfl (pc' := 42) rfl ?_
  refine w_aload X20.here hx (hb hby d_jdk_42m_149_42) rfl rfl (pc' := 44) rfl ?_
  refine w_iloadN X20.here hx (hb hby d_jdk_42m_149_44) rfl (pc' := 45) rfl ?_
  refine w_static X20 hx hZ (y := (⟨"java/lang/StringUTF16", "coderFromArrayLen", "([BI)B"⟩ : MethodName)) hown (hw _ (List.mem_of_getElem? (i := 63) rfl)) (hw _ (List.mem_of_getElem? (i := 64) rfl)) (hw _ (List.mem_of_getElem? (i := 58) rfl)) (hw _ (List.mem_of_getElem? (i := 65) rfl)) (by decide) (backC (W := 1) (rmCod l Z a0 hw t kt N2 cd vs cs n T20.heap n0 V1 hc hl (by omega)) hZ (hw _ (List.mem_of_getElem? (i := 65) rfl)) (hw _ (List.mem_of_getElem? (i := 58) rfl)) (by decide) (by decide)) rfl (by rw [hml]; rfl) (argsL := [(.ref t), (.int (Int32.ofNat n))]) (st := [(.ref x)]) pd_6 rfl rfl rfl (Nat.le_of_ble_eq_true rfl) (hb hby d_jdk_42m_149_45) (by decide) (by decide) (pc' := 48) rfl ?_
  intro T21 v21 L21 X21 Q21
  obtain ⟨rfl, Nd, hh⟩ := Q21
  show Go _ _ _ _ T21 (mkF m 48 #[.val (.ref x), .val (.ref a), .val (.int (0 : Int32)), .val (.int (Int32.ofNat n)), .val .null, .val (.ref t)] [(.int cd), (.ref x)])
  have N2' := Fr.app N1 Nd
  rw [← hh] at E1 V1
  have hcd := (cod_cd hc).1
  refine w_putF X21 hx hZ hown (hw _ (List.mem_of_getElem? (i := 33) rfl)) Via.refl rfl (FC.ext E1) (EX.ext E1) (Or.inr ⟨(hw _ (List.mem_of_getElem? (i := 29) rfl)), rfl, hnm⟩) (hw _ (List.mem_of_getElem? (i := 14) rfl)) (ty := .byte) (by decide) (by show narrow .byte _ = _; simp only [narrow]; rw [(cod_cd hc).2]) (by rw [← hcd]; exact fits_nar_byte _) (hb hby d_jdk_42m_149_48) (pc' := 51) rfl ?_
  intro Ta ha Xa ea Wa
  have Na := Fr.snoc Xa N2' gx
  refine w_aloadN Xa.here hx (hb hby d_jdk_42m_149_51) rfl rfl (pc' := 52) rfl ?_
  refine w_aload Xa.here hx (hb hby d_jdk_42m_149_52) rfl rfl (pc' := 54) rfl ?_
  have FV1 := (FV.ext E1).other Wa (Or.inr (slot_ne (Or.inr (hw _ (List.mem_of_getElem? (i := 28) rfl))) (Or.inr (hw _ (List.mem_of_getElem? (i := 29) rfl))) (by decide) (t := (.array .byte)) (t' := .byte) (by decide) (by decide)))
  have FC1 := Fld.same Wa (FC.ext E1)
  have EX1 := (EX.ext E1).wr Wa
  refine w_putF Xa hx hZ hown (hw _ (List.mem_of_getElem? (i := 32) rfl)) Via.refl ea FV1 EX1 (Or.inr ⟨(hw _ (List.mem_of_getElem? (i := 28) rfl)), rfl, hnm⟩) (hw _ (List.mem_of_getElem? (i := 14) rfl)) (ty := (.array .byte)) (by decide) rfl rfl (hb hby d_jdk_42m_149_54) (pc' := 57) rfl ?_
  intro T23 h23 X23 e23 W23
  have Nb := Fr.snoc X23 Na gx
  have ne : t ≠ x := Nat.ne_of_gt (Nat.lt_of_lt_of_le EX.lt gt)
  exact endV X23 hx hlk hret (hb hby d_jdk_42m_149_57) (by decide) (by decide) (by rw [e23]; exact ⟨rfl, Nb, (((Keep.refl h0 [x]).ext E1).wr Wa (Or.inl (List.mem_cons_self ..))).wr W23 (Or.inl (List.mem_cons_self ..)), t, kt, cd, N2, vs, EX1.wr W23, Fld.same W23 FV1, FC1.other W23 (Or.inr (slot_ne (Or.inr (hw _ (List.mem_of_getElem? (i := 29) rfl))) (Or.inr (hw _ (List.mem_of_getElem? (i := 28) rfl))) (by decide) (t := .byte) (t' := (.array .byte)) (by decide) (by decide))), (V1.other Wa ne).other W23 ne, hc, hb16, by omega⟩)
theorem d_jdk_42m_3_0 : decode jdk_42_method_3_code 0 = .ok (.aload_n 0, 1) := by decide +kernel
theorem d_jdk_42m_3_1 : decode jdk_42_method_3_code 1 = .ok (.aload_n 1, 1) := by decide +kernel
theorem d_jdk_42m_3_2 : decode jdk_42_method_3_code 2 = .ok (.iconst 0, 1) := by decide +kernel
theorem d_jdk_42m_3_3 : decode jdk_42_method_3_code 3 = .ok (.aload_n 1, 1) := by decide +kernel
theorem d_jdk_42m_3_4 : decode jdk_42_method_3_code 4 = .ok (.arraylength, 1) := by decide +kernel
theorem d_jdk_42m_3_5 : decode jdk_42_method_3_code 5 = .ok (.aconst_null, 1) := by decide +kernel
theorem pd_7 : parseMethodDescriptor "([CIILjava/lang/Void;)V" = some ⟨[(.array .char), .int, .int, (.object "java/lang/Void")], none⟩ := by decide +kernel
theorem d_jdk_42m_3_6 : decode jdk_42_method_3_code 6 = .ok (.invokespecial 27, 3) := by decide +kernel
theorem d_jdk_42m_3_9 : decode jdk_42_method_3_code 9 = .ok (.return_, 1) := by decide +kernel
set_option maxRecDepth 65536 in
set_option maxHeartbeats 40000000 in
theorem rmI1 (l : Launch) (Z : State) (a0 : Array Value) (hw : ∀ d ∈ tables_1, d.before a0 Z = true) (x a : Addr) (ka : ClassId) (n : Nat) (z : Int32) (cs : List Int32) (dv v0 c0 : Value) (h0 : Heap) (n0 : Nat) (Z0 : n0 ≤ h0.size) (gx : n0 ≤ x) (Su : SU Z h0 z) (VA : Arv Z h0 a ka .char (Int32.ofNat n) (cs.map Value.int) dv) (hl : cs.length = n) (hpos : 0 < n) (hn : n ≤ 4) (hb16 : ∀ c ∈ cs, ¬ c < 0 ∧ ¬ (65535 : Int32) < c) (EX : Exa Z h0 x "java/lang/String") (FV : Fld Z h0 x "java/lang/String" "value" "[B" v0) (FC : Fld Z h0 x "java/lang/String" "coder" "B" c0) :
    Ct l (⟨"java/lang/String", "<init>", "([C)V"⟩ : MethodName) jdk_42_method_3_code 2 none ({ frames := 5, cells := 2, slots := 12, locals := 74 } : Room) Z #[(.ref x), (.ref a)] h0 (fun v h L => v = none ∧ Fr n0 L ∧ Keep h0 h [x] ∧ StrOf Z h x cs) := by
  refine ct_of (Q := fun v h L => v = none ∧ Fr n0 L ∧ Keep h0 h [x] ∧ StrOf Z h x cs) (plainFor_of_name pn_1) ?_
  intro p e s m below meth c s₁ X0 hx hby hml hret hnm hlk hown hZ hs0 e0
  have N0 := Fr.nil n0
  rw [show entryFrame m #[(.ref x), (.ref a)] 2 = mkF m 0 #[.val (.ref x), .val (.ref a)] [] from by first | (simp [entryFrame, mkF, argsToLocals, Value.category]; done) | rfl]
  refine w_aloadN X0.here hx (hb hby d_jdk_42m_3_0) rfl rfl (pc' := 1) rfl ?_
  refine w_aloadN X0.here hx (hb hby d_jdk_42m_3_1) rfl rfl (pc' := 2) rfl ?_
  refine w_iconst X0.here hx (hb hby d_jdk_42m_3_2) (z := 0) rfl (pc' := 3) rfl ?_
  refine w_aloadN X0.here hx (hb hby d_jdk_42m_3_3) rfl rfl (pc' := 4) rfl ?_
  refine w_arraylength X0 hx hZ e0 VA (hb hby d_jdk_42m_3_4) (pc' := 5) rfl ?_
  refine w_null X0.here hx (hb hby d_jdk_42m_3_5) (pc' := 6) rfl ?_
  refine w_special X0 hx hZ (y := (⟨"java/lang/String", "<init>", "([CIILjava/lang/Void;)V"⟩ : MethodName)) rfl hown (hw _ (List.mem_of_getElem? (i := 19) rfl)) (hw _ (List.mem_of_getElem? (i := 20) rfl)) (hw _ (List.mem_of_getElem? (i := 22) rfl)) (by decide) (backC (W := 0) (rmI4 l Z a0 hw x a ka n z cs dv v0 c0 h0 n0 Z0 gx Su VA hl hpos hn hb16 EX FV FC) hZ (hw _ (List.mem_of_getElem? (i := 22) rfl)) (hw _ (List.mem_of_getElem? (i := 15) rfl)) (by decide) (by decide)) e0 (by rw [hml]; rfl) (argsL := [(.ref a), (.int (0 : Int32)), (.int (Int32.ofNat n)), .null]) (st := []) pd_7 rfl rfl rfl (Nat.le_of_ble_eq_true rfl) (hb hby d_jdk_42m_3_6) (by decide) (by decide) (pc' := 9) rfl ?_
  intro T24 v24 L24 X24 Q24
  obtain ⟨rfl, N1, K1, G1⟩ := Q24
  show Go _ _ _ _ T24 (mkF m 9 #[.val (.ref x), .val (.ref a)] [])
  have N2 := Fr.app N0 N1
  exact endV X24 hx hlk hret (hb hby d_jdk_42m_3_9) (by decide) (by decide) (⟨rfl, N2, K1, G1⟩)

theorem lat_at {cs : List Int32} {N2 : Int32} {vs : List Value} (h : StrChars.Road.CodA cs 0 N2 vs) {i : Nat} (hi : i < cs.length) (hl : cs.length ≤ 4000) : N2 = Int32.ofNat cs.length ∧ vs.getD (Int32.ofNat i).toNatClampNeg (.int 0) = .int (StrChars.lo8 (cs.getD i 0)) ∧ ¬ (255 : Int32) < cs.getD i 0 := by
  rcases h with ⟨-, rfl, rfl, h⟩ | ⟨q, -⟩
  · refine ⟨rfl, ?_, ?_⟩
    · rw [n_nat (by omega)]; exact StrChars.Road.low_at _ _ _ hi
    · have e : cs.getD i 0 = cs[i] := by simp [List.getD_eq_getElem?_getD, hi]
      rw [e]; exact h _ (List.getElem_mem _)
  · cases q
theorem wid_at {cs : List Int32} {N2 : Int32} {vs : List Value} (h : StrChars.Road.CodA cs 1 N2 vs) : N2 = Int32.ofNat (2 * cs.length) ∧ vs = StrChars.Road.wideBytes cs := by
  rcases h with ⟨q, -⟩ | ⟨-, rfl, rfl, -⟩
  · cases q
  · exact ⟨rfl, rfl⟩
theorem cod_01 {cs : List Int32} {cd N2 : Int32} {vs : List Value} (h : StrChars.Road.CodA cs cd N2 vs) : cd = 0 ∨ cd = 1 := h.imp (·.1) (·.1)
theorem chr_in {cs : List Int32} (hb : ∀ c ∈ cs, ¬ c < 0 ∧ ¬ (65535 : Int32) < c) {i : Nat} (hi : i < cs.length) : ¬ cs.getD i 0 < 0 ∧ ¬ (65535 : Int32) < cs.getD i 0 := by
  have e : cs.getD i 0 = cs[i] := by simp [List.getD_eq_getElem?_getD, hi]
  rw [e]; exact hb _ (List.getElem_mem _)
theorem n_shr1 {n : Nat} (h : 2 * n < 2 ^ 31) : Int32.ofNat (2 * n) >>> ((1 : Int32) &&& 31) = Int32.ofNat n := StrChars.shr1 h

theorem d_jdk_42m_154_0 : decode jdk_42_method_154_code 0 = .ok (.getstatic 38, 3) := by decide +kernel
theorem d_jdk_42m_154_3 : decode jdk_42_method_154_code 3 = .ok (.ifCond .eq 14, 3) := by decide +kernel
theorem d_jdk_42m_154_6 : decode jdk_42_method_154_code 6 = .ok (.aload_n 0, 1) := by decide +kernel
theorem d_jdk_42m_154_7 : decode jdk_42_method_154_code 7 = .ok (.getfield 15, 3) := by decide +kernel
theorem d_jdk_42m_154_10 : decode jdk_42_method_154_code 10 = .ok (.ifCond .ne 7, 3) := by decide +kernel
theorem d_jdk_42m_154_13 : decode jdk_42_method_154_code 13 = .ok (.iconst 1, 1) := by decide +kernel
theorem d_jdk_42m_154_14 : decode jdk_42_method_154_code 14 = .ok (.goto 4, 3) := by decide +kernel
theorem d_jdk_42m_154_18 : decode jdk_42_method_154_code 18 = .ok (.ireturn, 1) := by decide +kernel
theorem d_jdk_42m_154_17 : decode jdk_42_method_154_code 17 = .ok (.iconst 0, 1) := by decide +kernel
set_option maxRecDepth 65536 in
set_option maxHeartbeats 40000000 in
theorem rmIsL (l : Launch) (Z : State) (a0 : Array Value) (hw : ∀ d ∈ tables_1, d.before a0 Z = true) (x : Addr) (cd z : Int32) (h0 : Heap) (n0 : Nat) (Su : SU Z h0 z) (FC : Fld Z h0 x "java/lang/String" "coder" "B" (.int cd)) (hcd : cd = 0 ∨ cd = 1) :
    Ct l (⟨"java/lang/String", "isLatin1", "()Z"⟩ : MethodName) jdk_42_method_154_code 1 (some .boolean) ({ frames := 0, cells := 0, slots := 0, locals := 0 } : Room) Z #[(.ref x)] h0 (fun v h L => v = some (.int (1 - cd)) ∧ Fr n0 L ∧ h = h0) := by
  refine ct_of (Q := fun v h L => v = some (.int (1 - cd)) ∧ Fr n0 L ∧ h = h0) (plainFor_of_name pn_1) ?_
  intro p e s m below meth c s₁ X0 hx hby hml hret hnm hlk hown hZ hs0 e0
  have N0 := Fr.nil n0
  rw [show entryFrame m #[(.ref x)] 1 = mkF m 0 #[.val (.ref x)] [] from by first | (simp [entryFrame, mkF, argsToLocals, Value.category]; done) | rfl]
  refine w_getS X0 hx hZ hown (hw _ (List.mem_of_getElem? (i := 48) rfl)) Via.refl e0 Su.1 (hb hby d_jdk_42m_154_0) (pc' := 3) rfl ?_
  intro T25 X25 e25
  refine w_ifNo X25.here hx (hb hby d_jdk_42m_154_3) (feq (show ¬ (z = (0 : Int32)) from Su.2.1)).1 (pc' := 6) rfl ?_
  refine w_aloadN X25.here hx (hb hby d_jdk_42m_154_6) rfl rfl (pc' := 7) rfl ?_
  refine w_getF X25 hx hZ hown (hw _ (List.mem_of_getElem? (i := 33) rfl)) Via.refl e25 FC (hb hby d_jdk_42m_154_7) (pc' := 10) rfl ?_
  intro T26 X26 e26
  rcases hcd with rfl | rfl
  · show Go _ _ _ _ T26 (mkF m 10 #[.val (.ref x)] [(.int (0 : Int32))])
    refine w_ifNo X26.here hx (hb hby d_jdk_42m_154_10) (teq (show (0 : Int32) = (0 : Int32) from by decide)).2 (pc' := 13) rfl ?_
    refine w_iconst X26.here hx (hb hby d_jdk_42m_154_13) (z := 1) rfl (pc' := 14) rfl ?_
    refine w_goto X26.here hx (hb hby d_jdk_42m_154_14) (pc' := 18) (by decide) (by decide) ?_
    exact endZ X26 hx hlk hret (by simp) (hb hby d_jdk_42m_154_18) (show nar .boolean (1 : Int32) = (1 : Int32) from rfl) (by decide) (by decide) (by rw [e26]; exact ⟨rfl, N0, rfl⟩)
  · show Go _ _ _ _ T26 (mkF m 10 #[.val (.ref x)] [(.int (1 : Int32))])
    refine w_ifYes X26.here hx (hb hby d_jdk_42m_154_10) (feq (show ¬ ((1 : Int32) = (0 : Int32)) from by decide)).2 (pc' := 17) (by decide) (by decide) ?_
    refine w_iconst X26.here hx (hb hby d_jdk_42m_154_17) (z := 0) rfl (pc' := 18) rfl ?_
    exact endZ X26 hx hlk hret (by simp) (hb hby d_jdk_42m_154_18) (show nar .boolean (0 : Int32) = (0 : Int32) from rfl) (by decide) (by decide) (by rw [e26]; exact ⟨rfl, N0, rfl⟩)
theorem d_jdk_41m_11_0 : decode jdk_41_method_11_code 0 = .ok (.iload_n 0, 1) := by decide +kernel
theorem d_jdk_41m_11_1 : decode jdk_41_method_11_code 1 = .ok (.ifCond .lt 8, 3) := by decide +kernel
theorem d_jdk_41m_11_4 : decode jdk_41_method_11_code 4 = .ok (.iload_n 0, 1) := by decide +kernel
theorem d_jdk_41m_11_5 : decode jdk_41_method_11_code 5 = .ok (.iload_n 1, 1) := by decide +kernel
theorem d_jdk_41m_11_6 : decode jdk_41_method_11_code 6 = .ok (.if_icmp .lt 10, 3) := by decide +kernel
theorem d_jdk_41m_11_16 : decode jdk_41_method_11_code 16 = .ok (.iload_n 0, 1) := by decide +kernel
theorem d_jdk_41m_11_17 : decode jdk_41_method_11_code 17 = .ok (.ireturn, 1) := by decide +kernel
theorem pn_2 : plainName "jdk/internal/util/Preconditions" = true := by first | (simp [plainName, overriddenIn]; done) | decide +kernel
set_option maxRecDepth 65536 in
set_option maxHeartbeats 40000000 in
theorem rmPckN (l : Launch) (Z : State) (a0 : Array Value) (hw : ∀ d ∈ tables_1, d.before a0 Z = true) (i n : Nat) (h0 : Heap) (n0 : Nat) (hi : i < n) (hn : n ≤ 4000) :
    Ct l (⟨"jdk/internal/util/Preconditions", "checkIndex", "(IILjava/util/function/BiFunction;)I"⟩ : MethodName) jdk_41_method_11_code 3 (some .int) ({ frames := 0, cells := 0, slots := 0, locals := 0 } : Room) Z #[(.int (Int32.ofNat i)), (.int (Int32.ofNat n)), .null] h0 (fun v h L => v = some (.int (Int32.ofNat i)) ∧ Fr n0 L ∧ h = h0) := by
  refine ct_of (Q := fun v h L => v = some (.int (Int32.ofNat i)) ∧ Fr n0 L ∧ h = h0) (plainFor_of_name pn_2) ?_
  intro p e s m below meth c s₁ X0 hx hby hml hret hnm hlk hown hZ hs0 e0
  have N0 := Fr.nil n0
  rw [show entryFrame m #[(.int (Int32.ofNat i)), (.int (Int32.ofNat n)), .null] 3 = mkF m 0 #[.val (.int (Int32.ofNat i)), .val (.int (Int32.ofNat n)), .val .null] [] from by first | (simp [entryFrame, mkF, argsToLocals, Value.category]; done) | rfl]
  refine w_iloadN X0.here hx (hb hby d_jdk_41m_11_0) rfl (pc' := 1) rfl ?_
  refine w_ifNo X0.here hx (hb hby d_jdk_41m_11_1) (flt (show ¬ ((Int32.ofNat i) < (0 : Int32)) from n_nn (by omega))).1 (pc' := 4) rfl ?_
  refine w_iloadN X0.here hx (hb hby d_jdk_41m_11_4) rfl (pc' := 5) rfl ?_
  refine w_iloadN X0.here hx (hb hby d_jdk_41m_11_5) rfl (pc' := 6) rfl ?_
  refine w_icmpYes X0.here hx (hb hby d_jdk_41m_11_6) (tlt (show (Int32.ofNat i) < (Int32.ofNat n) from n_lt hi (by omega))).1 (pc' := 16) (by decide) (by decide) ?_
  refine w_iloadN X0.here hx (hb hby d_jdk_41m_11_16) rfl (pc' := 17) rfl ?_
  exact endI X0 hx hlk hret (hb hby d_jdk_41m_11_17) (by decide) (by decide) (by rw [e0]; exact ⟨rfl, N0, rfl⟩)
set_option maxRecDepth 65536 in
set_option maxHeartbeats 40000000 in
theorem rmPckR (l : Launch) (Z : State) (a0 : Array Value) (hw : ∀ d ∈ tables_1, d.before a0 Z = true) (fa : Addr) (i n : Nat) (h0 : Heap) (n0 : Nat) (hi : i < n) (hn : n ≤ 4000) :
    Ct l (⟨"jdk/internal/util/Preconditions", "checkIndex", "(IILjava/util/function/BiFunction;)I"⟩ : MethodName) jdk_41_method_11_code 3 (some .int) ({ frames := 0, cells := 0, slots := 0, locals := 0 } : Room) Z #[(.int (Int32.ofNat i)), (.int (Int32.ofNat n)), (.ref fa)] h0 (fun v h L => v = some (.int (Int32.ofNat i)) ∧ Fr n0 L ∧ h = h0) := by
  refine ct_of (Q := fun v h L => v = some (.int (Int32.ofNat i)) ∧ Fr n0 L ∧ h = h0) (plainFor_of_name pn_2) ?_
  intro p e s m below meth c s₁ X0 hx hby hml hret hnm hlk hown hZ hs0 e0
  have N0 := Fr.nil n0
  rw [show entryFrame m #[(.int (Int32.ofNat i)), (.int (Int32.ofNat n)), (.ref fa)] 3 = mkF m 0 #[.val (.int (Int32.ofNat i)), .val (.int (Int32.ofNat n)), .val (.ref fa)] [] from by first | (simp [entryFrame, mkF, argsToLocals, Value.category]; done) | rfl]
  refine w_iloadN X0.here hx (hb hby d_jdk_41m_11_0) rfl (pc' := 1) rfl ?_
  refine w_ifNo X0.here hx (hb hby d_jdk_41m_11_1) (flt (show ¬ ((Int32.ofNat i) < (0 : Int32)) from n_nn (by omega))).1 (pc' := 4) rfl ?_
  refine w_iloadN X0.here hx (hb hby d_jdk_41m_11_4) rfl (pc' := 5) rfl ?_
  refine w_iloadN X0.here hx (hb hby d_jdk_41m_11_5) rfl (pc' := 6) rfl ?_
  refine w_icmpYes X0.here hx (hb hby d_jdk_41m_11_6) (tlt (show (Int32.ofNat i) < (Int32.ofNat n) from n_lt hi (by omega))).1 (pc' := 16) (by decide) (by decide) ?_
  refine w_iloadN X0.here hx (hb hby d_jdk_41m_11_16) rfl (pc' := 17) rfl ?_
  exact endI X0 hx hlk hret (hb hby d_jdk_41m_11_17) (by decide) (by decide) (by rw [e0]; exact ⟨rfl, N0, rfl⟩)
theorem d_jdk_42m_155_0 : decode jdk_42_method_155_code 0 = .ok (.iload_n 0, 1) := by decide +kernel
theorem d_jdk_42m_155_1 : decode jdk_42_method_155_code 1 = .ok (.iload_n 1, 1) := by decide +kernel
theorem d_jdk_42m_155_2 : decode jdk_42_method_155_code 2 = .ok (.getstatic 1053, 3) := by decide +kernel
theorem pd_8 : parseMethodDescriptor "(IILjava/util/function/BiFunction;)I" = some ⟨[.int, .int, (.object "java/util/function/BiFunction")], some .int⟩ := by decide +kernel
theorem d_jdk_42m_155_5 : decode jdk_42_method_155_code 5 = .ok (.invokestatic 1059, 3) := by decide +kernel
theorem d_jdk_42m_155_8 : decode jdk_42_method_155_code 8 = .ok (.pop, 1) := by decide +kernel
theorem d_jdk_42m_155_9 : decode jdk_42_method_155_code 9 = .ok (.return_, 1) := by decide +kernel
set_option maxRecDepth 65536 in
set_option maxHeartbeats 40000000 in
theorem rmCkI (l : Launch) (Z : State) (a0 : Array Value) (hw : ∀ d ∈ tables_1, d.before a0 Z = true) (i n : Nat) (h0 : Heap) (n0 : Nat) (hi : i < n) (hn : n ≤ 4000) (fm : Value) (hfm : fm.isRef = true) (Fm : Sta Z h0 "jdk/internal/util/Preconditions" "SIOOBE_FORMATTER" "Ljava/util/function/BiFunction;" fm) :
    Ct l (⟨"java/lang/String", "checkIndex", "(II)V"⟩ : MethodName) jdk_42_method_155_code 2 none ({ frames := 1, cells := 0, slots := 0, locals := 14 } : Room) Z #[(.int (Int32.ofNat i)), (.int (Int32.ofNat n))] h0 (fun v h L => v = none ∧ Fr n0 L ∧ h = h0) := by
  refine ct_of (Q := fun v h L => v = none ∧ Fr n0 L ∧ h = h0) (plainFor_of_name pn_1) ?_
  intro p e s m below meth c s₁ X0 hx hby hml hret hnm hlk hown hZ hs0 e0
  have N0 := Fr.nil n0
  rw [show entryFrame m #[(.int (Int32.ofNat i)), (.int (Int32.ofNat n))] 2 = mkF m 0 #[.val (.int (Int32.ofNat i)), .val (.int (Int32.ofNat n))] [] from by first | (simp [entryFrame, mkF, argsToLocals, Value.category]; done) | rfl]
  refine w_iloadN X0.here hx (hb hby d_jdk_42m_155_0) rfl (pc' := 1) rfl ?_
  refine w_iloadN X0.here hx (hb hby d_jdk_42m_155_1) rfl (pc' := 2) rfl ?_
  rcases ref_cases hfm with rfl | ⟨fa, rfl⟩
  · refine w_getS X0 hx hZ hown (hw _ (List.mem_of_getElem? (i := 108) rfl)) Via.refl e0 Fm (hb hby d_jdk_42m_155_2) (pc' := 5) rfl ?_
    intro T27 X27 e27
    refine w_static X27 hx hZ (y := (⟨"jdk/internal/util/Preconditions", "checkIndex", "(IILjava/util/function/BiFunction;)I"⟩ : MethodName)) hown (hw _ (List.mem_of_getElem? (i := 110) rfl)) (hw _ (List.mem_of_getElem? (i := 111) rfl)) (hw _ (List.mem_of_getElem? (i := 109) rfl)) (hw _ (List.mem_of_getElem? (i := 112) rfl)) (by decide) (backC (W := 0) (rmPckN l Z a0 hw i n h0 n0 hi hn) hZ (hw _ (List.mem_of_getElem? (i := 112) rfl)) (hw _ (List.mem_of_getElem? (i := 109) rfl)) (by decide) (by decide)) e27 (by rw [hml]; rfl) (argsL := [(.int (Int32.ofNat i)), (.int (Int32.ofNat n)), .null]) (st := []) pd_8 rfl rfl rfl (Nat.le_of_ble_eq_true rfl) (hb hby d_jdk_42m_155_5) (by decide) (by decide) (pc' := 8) rfl ?_
    intro T28 v28 L28 X28 Q28
    obtain ⟨rfl, N1, hh⟩ := Q28
    show Go _ _ _ _ T28 (mkF m 8 #[.val (.int (Int32.ofNat i)), .val (.int (Int32.ofNat n))] [(.int (Int32.ofNat i))])
    refine w_pop X28.here hx (hb hby d_jdk_42m_155_8) rfl (pc' := 9) rfl ?_
    exact endV X28 hx hlk hret (hb hby d_jdk_42m_155_9) (by decide) (by decide) (⟨rfl, Fr.app N0 N1, hh⟩)
  · refine w_getS X0 hx hZ hown (hw _ (List.mem_of_getElem? (i := 108) rfl)) Via.refl e0 Fm (hb hby d_jdk_42m_155_2) (pc' := 5) rfl ?_
    intro T29 X29 e29
    refine w_static X29 hx hZ (y := (⟨"jdk/internal/util/Preconditions", "checkIndex", "(IILjava/util/function/BiFunction;)I"⟩ : MethodName)) hown (hw _ (List.mem_of_getElem? (i := 110) rfl)) (hw _ (List.mem_of_getElem? (i := 111) rfl)) (hw _ (List.mem_of_getElem? (i := 109) rfl)) (hw _ (List.mem_of_getElem? (i := 112) rfl)) (by decide) (backC (W := 0) (rmPckR l Z a0 hw fa i n h0 n0 hi hn) hZ (hw _ (List.mem_of_getElem? (i := 112) rfl)) (hw _ (List.mem_of_getElem? (i := 109) rfl)) (by decide) (by decide)) e29 (by rw [hml]; rfl) (argsL := [(.int (Int32.ofNat i)), (.int (Int32.ofNat n)), (.ref fa)]) (st := []) pd_8 rfl rfl rfl (Nat.le_of_ble_eq_true rfl) (hb hby d_jdk_42m_155_5) (by decide) (by decide) (pc' := 8) rfl ?_
    intro T30 v30 L30 X30 Q30
    obtain ⟨rfl, N1, hh⟩ := Q30
    show Go _ _ _ _ T30 (mkF m 8 #[.val (.int (Int32.ofNat i)), .val (.int (Int32.ofNat n))] [(.int (Int32.ofNat i))])
    refine w_pop X30.here hx (hb hby d_jdk_42m_155_8) rfl (pc' := 9) rfl ?_
    exact endV X30 hx hlk hret (hb hby d_jdk_42m_155_9) (by decide) (by decide) (⟨rfl, Fr.app N0 N1, hh⟩)
theorem d_jdk_43m_2_0 : decode jdk_43_method_2_code 0 = .ok (.iload_n 1, 1) := by decide +kernel
theorem d_jdk_43m_2_1 : decode jdk_43_method_2_code 1 = .ok (.aload_n 0, 1) := by decide +kernel
theorem d_jdk_43m_2_2 : decode jdk_43_method_2_code 2 = .ok (.arraylength, 1) := by decide +kernel
theorem pd_9 : parseMethodDescriptor "(II)V" = some ⟨[.int, .int], none⟩ := by decide +kernel
theorem d_jdk_43m_2_3 : decode jdk_43_method_2_code 3 = .ok (.invokestatic 9, 3) := by decide +kernel
theorem d_jdk_43m_2_6 : decode jdk_43_method_2_code 6 = .ok (.aload_n 0, 1) := by decide +kernel
theorem d_jdk_43m_2_7 : decode jdk_43_method_2_code 7 = .ok (.iload_n 1, 1) := by decide +kernel
theorem d_jdk_43m_2_8 : decode jdk_43_method_2_code 8 = .ok (.baload, 1) := by decide +kernel
theorem d_jdk_43m_2_9 : decode jdk_43_method_2_code 9 = .ok (.sipush 255, 3) := by decide +kernel
theorem d_jdk_43m_2_12 : decode jdk_43_method_2_code 12 = .ok (.iand, 1) := by decide +kernel
theorem d_jdk_43m_2_13 : decode jdk_43_method_2_code 13 = .ok (.i2c, 1) := by decide +kernel
theorem d_jdk_43m_2_14 : decode jdk_43_method_2_code 14 = .ok (.ireturn, 1) := by decide +kernel
theorem pn_3 : plainName "java/lang/StringLatin1" = true := by first | (simp [plainName, overriddenIn]; done) | decide +kernel
set_option maxRecDepth 65536 in
set_option maxHeartbeats 40000000 in
theorem rmLCh (l : Launch) (Z : State) (a0 : Array Value) (hw : ∀ d ∈ tables_1, d.before a0 Z = true) (t : Addr) (kb : ClassId) (N2 : Int32) (vs : List Value) (cs : List Int32) (i : Nat) (h0 : Heap) (n0 : Nat) (V : Arv Z h0 t kb .byte N2 vs (.int 0)) (hcod : StrChars.Road.CodA cs 0 N2 vs) (hi : i < cs.length) (hb16 : ∀ c ∈ cs, ¬ c < 0 ∧ ¬ (65535 : Int32) < c) (hl4 : cs.length ≤ 4000) (fm : Value) (hfm : fm.isRef = true) (Fm : Sta Z h0 "jdk/internal/util/Preconditions" "SIOOBE_FORMATTER" "Ljava/util/function/BiFunction;" fm) :
    Ct l (⟨"java/lang/StringLatin1", "charAt", "([BI)C"⟩ : MethodName) jdk_43_method_2_code 2 (some .char) ({ frames := 2, cells := 0, slots := 0, locals := 27 } : Room) Z #[(.ref t), (.int (Int32.ofNat i))] h0 (fun v h L => v = some (.int (cs.getD i 0)) ∧ Fr n0 L ∧ h = h0) := by
  refine ct_of (Q := fun v h L => v = some (.int (cs.getD i 0)) ∧ Fr n0 L ∧ h = h0) (plainFor_of_name pn_3) ?_
  intro p e s m below meth c s₁ X0 hx hby hml hret hnm hlk hown hZ hs0 e0
  have N0 := Fr.nil n0
  rw [show entryFrame m #[(.ref t), (.int (Int32.ofNat i))] 2 = mkF m 0 #[.val (.ref t), .val (.int (Int32.ofNat i))] [] from by first | (simp [entryFrame, mkF, argsToLocals, Value.category]; done) | rfl]
  obtain ⟨hN, hv, h255⟩ := lat_at hcod hi hl4
  subst hN
  refine w_iloadN X0.here hx (hb hby d_jdk_43m_2_0) rfl (pc' := 1) rfl ?_
  refine w_aloadN X0.here hx (hb hby d_jdk_43m_2_1) rfl rfl (pc' := 2) rfl ?_
  refine w_arraylength X0 hx hZ e0 V (hb hby d_jdk_43m_2_2) (pc' := 3) rfl ?_
  refine w_static X0 hx hZ (y := (⟨"java/lang/String", "checkIndex", "(II)V"⟩ : MethodName)) hown (hw _ (List.mem_of_getElem? (i := 117) rfl)) (hw _ (List.mem_of_getElem? (i := 106) rfl)) (hw _ (List.mem_of_getElem? (i := 15) rfl)) (hw _ (List.mem_of_getElem? (i := 107) rfl)) (by decide) (backC (W := 0) (rmCkI l Z a0 hw i cs.length h0 n0 hi hl4 fm hfm Fm) hZ (hw _ (List.mem_of_getElem? (i := 107) rfl)) (hw _ (List.mem_of_getElem? (i := 15) rfl)) (by decide) (by decide)) e0 (by rw [hml]; rfl) (argsL := [(.int (Int32.ofNat i)), (.int (Int32.ofNat cs.length))]) (st := []) pd_9 rfl rfl rfl (Nat.le_of_ble_eq_true rfl) (hb hby d_jdk_43m_2_3) (by decide) (by decide) (pc' := 6) rfl ?_
  intro T31 v31 L31 X31 Q31
  obtain ⟨rfl, N1, hh⟩ := Q31
  show Go _ _ _ _ T31 (mkF m 6 #[.val (.ref t), .val (.int (Int32.ofNat i))] [])
  refine w_aloadN X31.here hx (hb hby d_jdk_43m_2_6) rfl rfl (pc' := 7) rfl ?_
  refine w_iloadN X31.here hx (hb hby d_jdk_43m_2_7) rfl (pc' := 8) rfl ?_
  refine w_baload X31 hx hZ hh V (in_rng hi (by omega)) (v := (.int (StrChars.lo8 (cs.getD i 0)))) hv (hb hby d_jdk_43m_2_8) (pc' := 9) rfl ?_
  refine w_sipush X31.here hx (hb hby d_jdk_43m_2_9) (z := 255) rfl (pc' := 12) rfl ?_
  refine w_iand X31.here hx (hb hby d_jdk_43m_2_12) (pc' := 13) rfl ?_
  rw [StrChars.lo8_mask (chr_in hb16 hi).1 h255]
  show Go _ _ _ _ T31 (mkF m 13 #[.val (.ref t), .val (.int (Int32.ofNat i))] [(.int (cs.getD i 0))])
  refine w_i2c X31.here hx (hb hby d_jdk_43m_2_13) (pc' := 14) rfl ?_
  exact endZ X31 hx hlk hret (by simp) (hb hby d_jdk_43m_2_14) (show nar .char _ = cs.getD i 0 from by simp only [nar]; have q := StrChars.narrow_ch (chr_in hb16 hi).1 (chr_in hb16 hi).2; simp only [narrow, Value.int.injEq] at q; rw [q, q]) (by decide) (by decide) (by rw [hh]; exact ⟨rfl, Fr.app N0 N1, rfl⟩)
theorem d_jdk_52m_6_0 : decode jdk_52_method_6_code 0 = .ok (.aload_n 0, 1) := by decide +kernel
theorem d_jdk_52m_6_1 : decode jdk_52_method_6_code 1 = .ok (.arraylength, 1) := by decide +kernel
theorem d_jdk_52m_6_2 : decode jdk_52_method_6_code 2 = .ok (.iconst 1, 1) := by decide +kernel
theorem d_jdk_52m_6_3 : decode jdk_52_method_6_code 3 = .ok (.ishr, 1) := by decide +kernel
theorem d_jdk_52m_6_4 : decode jdk_52_method_6_code 4 = .ok (.ireturn, 1) := by decide +kernel
set_option maxRecDepth 65536 in
set_option maxHeartbeats 40000000 in
theorem rmUlen (l : Launch) (Z : State) (a0 : Array Value) (hw : ∀ d ∈ tables_1, d.before a0 Z = true) (t : Addr) (kb : ClassId) (n : Nat) (vs : List Value) (h0 : Heap) (n0 : Nat) (V : Arv Z h0 t kb .byte (Int32.ofNat (2 * n)) vs (.int 0)) (hn : n ≤ 4000) :
    Ct l (⟨"java/lang/StringUTF16", "length", "([B)I"⟩ : MethodName) jdk_52_method_6_code 1 (some .int) ({ frames := 0, cells := 0, slots := 0, locals := 0 } : Room) Z #[(.ref t)] h0 (fun v h L => v = some (.int (Int32.ofNat n)) ∧ Fr n0 L ∧ h = h0) := by
  refine ct_of (Q := fun v h L => v = some (.int (Int32.ofNat n)) ∧ Fr n0 L ∧ h = h0) (plainFor_of_name pn_0) ?_
  intro p e s m below meth c s₁ X0 hx hby hml hret hnm hlk hown hZ hs0 e0
  have N0 := Fr.nil n0
  rw [show entryFrame m #[(.ref t)] 1 = mkF m 0 #[.val (.ref t)] [] from by first | (simp [entryFrame, mkF, argsToLocals, Value.category]; done) | rfl]
  refine w_aloadN X0.here hx (hb hby d_jdk_52m_6_0) rfl rfl (pc' := 1) rfl ?_
  refine w_arraylength X0 hx hZ e0 V (hb hby d_jdk_52m_6_1) (pc' := 2) rfl ?_
  refine w_iconst X0.here hx (hb hby d_jdk_52m_6_2) (z := 1) rfl (pc' := 3) rfl ?_
  refine w_ishr X0.here hx (hb hby d_jdk_52m_6_3) (pc' := 4) rfl ?_
  rw [n_shr1 (by omega)]
  show Go _ _ _ _ s₁ (mkF m 4 #[.val (.ref t)] [(.int (Int32.ofNat n))])
  exact endI X0 hx hlk hret (hb hby d_jdk_52m_6_4) (by decide) (by decide) (by rw [e0]; exact ⟨rfl, N0, rfl⟩)
theorem d_jdk_52m_91_0 : decode jdk_52_method_91_code 0 = .ok (.iload_n 0, 1) := by decide +kernel
theorem d_jdk_52m_91_1 : decode jdk_52_method_91_code 1 = .ok (.aload_n 1, 1) := by decide +kernel
theorem pd_10 : parseMethodDescriptor "([B)I" = some ⟨[(.array .byte)], some .int⟩ := by decide +kernel
theorem d_jdk_52m_91_2 : decode jdk_52_method_91_code 2 = .ok (.invokestatic 48, 3) := by decide +kernel
theorem d_jdk_52m_91_5 : decode jdk_52_method_91_code 5 = .ok (.invokestatic 414, 3) := by decide +kernel
theorem d_jdk_52m_91_8 : decode jdk_52_method_91_code 8 = .ok (.return_, 1) := by decide +kernel
set_option maxRecDepth 65536 in
set_option maxHeartbeats 40000000 in
theorem rmUck (l : Launch) (Z : State) (a0 : Array Value) (hw : ∀ d ∈ tables_1, d.before a0 Z = true) (t : Addr) (kb : ClassId) (n i : Nat) (vs : List Value) (h0 : Heap) (n0 : Nat) (V : Arv Z h0 t kb .byte (Int32.ofNat (2 * n)) vs (.int 0)) (hi : i < n) (hn : n ≤ 4000) (fm : Value) (hfm : fm.isRef = true) (Fm : Sta Z h0 "jdk/internal/util/Preconditions" "SIOOBE_FORMATTER" "Ljava/util/function/BiFunction;" fm) :
    Ct l (⟨"java/lang/StringUTF16", "checkIndex", "(I[B)V"⟩ : MethodName) jdk_52_method_91_code 2 none ({ frames := 2, cells := 0, slots := 0, locals := 27 } : Room) Z #[(.int (Int32.ofNat i)), (.ref t)] h0 (fun v h L => v = none ∧ Fr n0 L ∧ h = h0) := by
  refine ct_of (Q := fun v h L => v = none ∧ Fr n0 L ∧ h = h0) (plainFor_of_name pn_0) ?_
  intro p e s m below meth c s₁ X0 hx hby hml hret hnm hlk hown hZ hs0 e0
  have N0 := Fr.nil n0
  rw [show entryFrame m #[(.int (Int32.ofNat i)), (.ref t)] 2 = mkF m 0 #[.val (.int (Int32.ofNat i)), .val (.ref t)] [] from by first | (simp [entryFrame, mkF, argsToLocals, Value.category]; done) | rfl]
  refine w_iloadN X0.here hx (hb hby d_jdk_52m_91_0) rfl (pc' := 1) rfl ?_
  refine w_aloadN X0.here hx (hb hby d_jdk_52m_91_1) rfl rfl (pc' := 2) rfl ?_
  refine w_static X0 hx hZ (y := (⟨"java/lang/StringUTF16", "length", "([B)I"⟩ : MethodName)) hown (hw _ (List.mem_of_getElem? (i := 102) rfl)) (hw _ (List.mem_of_getElem? (i := 103) rfl)) (hw _ (List.mem_of_getElem? (i := 58) rfl)) (hw _ (List.mem_of_getElem? (i := 104) rfl)) (by decide) (backC (W := 1) (rmUlen l Z a0 hw t kb n vs h0 n0 V hn) hZ (hw _ (List.mem_of_getElem? (i := 104) rfl)) (hw _ (List.mem_of_getElem? (i := 58) rfl)) (by decide) (by decide)) e0 (by rw [hml]; rfl) (argsL := [(.ref t)]) (st := [(.int (Int32.ofNat i))]) pd_10 rfl rfl rfl (Nat.le_of_ble_eq_true rfl) (hb hby d_jdk_52m_91_2) (by decide) (by decide) (pc' := 5) rfl ?_
  intro T32 v32 L32 X32 Q32
  obtain ⟨rfl, N1, hh⟩ := Q32
  show Go _ _ _ _ T32 (mkF m 5 #[.val (.int (Int32.ofNat i)), .val (.ref t)] [(.int (Int32.ofNat n)), (.int (Int32.ofNat i))])
  refine w_static X32 hx hZ (y := (⟨"java/lang/String", "checkIndex", "(II)V"⟩ : MethodName)) hown (hw _ (List.mem_of_getElem? (i := 105) rfl)) (hw _ (List.mem_of_getElem? (i := 106) rfl)) (hw _ (List.mem_of_getElem? (i := 15) rfl)) (hw _ (List.mem_of_getElem? (i := 107) rfl)) (by decide) (backC (W := 0) (rmCkI l Z a0 hw i n h0 n0 hi hn fm hfm Fm) hZ (hw _ (List.mem_of_getElem? (i := 107) rfl)) (hw _ (List.mem_of_getElem? (i := 15) rfl)) (by decide) (by decide)) hh (by rw [hml]; rfl) (argsL := [(.int (Int32.ofNat i)), (.int (Int32.ofNat n))]) (st := []) pd_9 rfl rfl rfl (Nat.le_of_ble_eq_true rfl) (hb hby d_jdk_52m_91_5) (by decide) (by decide) (pc' := 8) rfl ?_
  intro T33 v33 L33 X33 Q33
  obtain ⟨rfl, N2, hh2⟩ := Q33
  show Go _ _ _ _ T33 (mkF m 8 #[.val (.int (Int32.ofNat i)), .val (.ref t)] [])
  exact endV X33 hx hlk hret (hb hby d_jdk_52m_91_8) (by decide) (by decide) (⟨rfl, Fr.app (Fr.app N0 N1) N2, hh2⟩)
theorem d_jdk_52m_83_0 : decode jdk_52_method_83_code 0 = .ok (.iload_n 1, 1) := by decide +kernel
theorem d_jdk_52m_83_1 : decode jdk_52_method_83_code 1 = .ok (.aload_n 0, 1) := by decide +kernel
theorem pd_11 : parseMethodDescriptor "(I[B)V" = some ⟨[.int, (.array .byte)], none⟩ := by decide +kernel
theorem d_jdk_52m_83_2 : decode jdk_52_method_83_code 2 = .ok (.invokestatic 67, 3) := by decide +kernel
theorem d_jdk_52m_83_5 : decode jdk_52_method_83_code 5 = .ok (.aload_n 0, 1) := by decide +kernel
theorem d_jdk_52m_83_6 : decode jdk_52_method_83_code 6 = .ok (.iload_n 1, 1) := by decide +kernel
theorem d_jdk_52m_83_7 : decode jdk_52_method_83_code 7 = .ok (.invokestatic 71, 3) := by decide +kernel
theorem d_jdk_52m_83_10 : decode jdk_52_method_83_code 10 = .ok (.ireturn, 1) := by decide +kernel
set_option maxRecDepth 65536 in
set_option maxHeartbeats 40000000 in
theorem rmUCh (l : Launch) (Z : State) (a0 : Array Value) (hw : ∀ d ∈ tables_1, d.before a0 Z = true) (t : Addr) (kb : ClassId) (N2 z : Int32) (vs : List Value) (cs : List Int32) (i : Nat) (h0 : Heap) (n0 : Nat) (Su : SU Z h0 z) (V : Arv Z h0 t kb .byte N2 vs (.int 0)) (hcod : StrChars.Road.CodA cs 1 N2 vs) (hi : i < cs.length) (hb16 : ∀ c ∈ cs, ¬ c < 0 ∧ ¬ (65535 : Int32) < c) (hl4 : cs.length ≤ 4000) (fm : Value) (hfm : fm.isRef = true) (Fm : Sta Z h0 "jdk/internal/util/Preconditions" "SIOOBE_FORMATTER" "Ljava/util/function/BiFunction;" fm) :
    Ct l (⟨"java/lang/StringUTF16", "charAt", "([BI)C"⟩ : MethodName) jdk_52_method_83_code 2 (some .char) ({ frames := 3, cells := 0, slots := 0, locals := 40 } : Room) Z #[(.ref t), (.int (Int32.ofNat i))] h0 (fun v h L => v = some (.int (cs.getD i 0)) ∧ Fr n0 L ∧ h = h0) := by
  refine ct_of (Q := fun v h L => v = some (.int (cs.getD i 0)) ∧ Fr n0 L ∧ h = h0) (plainFor_of_name pn_0) ?_
  intro p e s m below meth c s₁ X0 hx hby hml hret hnm hlk hown hZ hs0 e0
  have N0 := Fr.nil n0
  rw [show entryFrame m #[(.ref t), (.int (Int32.ofNat i))] 2 = mkF m 0 #[.val (.ref t), .val (.int (Int32.ofNat i))] [] from by first | (simp [entryFrame, mkF, argsToLocals, Value.category]; done) | rfl]
  obtain ⟨hN, hv⟩ := wid_at hcod
  subst hN hv
  refine w_iloadN X0.here hx (hb hby d_jdk_52m_83_0) rfl (pc' := 1) rfl ?_
  refine w_aloadN X0.here hx (hb hby d_jdk_52m_83_1) rfl rfl (pc' := 2) rfl ?_
  refine w_static X0 hx hZ (y := (⟨"java/lang/StringUTF16", "checkIndex", "(I[B)V"⟩ : MethodName)) hown (hw _ (List.mem_of_getElem? (i := 99) rfl)) (hw _ (List.mem_of_getElem? (i := 100) rfl)) (hw _ (List.mem_of_getElem? (i := 58) rfl)) (hw _ (List.mem_of_getElem? (i := 101) rfl)) (by decide) (backC (W := 0) (rmUck l Z a0 hw t kb cs.length i _ h0 n0 V hi hl4 fm hfm Fm) hZ (hw _ (List.mem_of_getElem? (i := 101) rfl)) (hw _ (List.mem_of_getElem? (i := 58) rfl)) (by decide) (by decide)) e0 (by rw [hml]; rfl) (argsL := [(.int (Int32.ofNat i)), (.ref t)]) (st := []) pd_11 rfl rfl rfl (Nat.le_of_ble_eq_true rfl) (hb hby d_jdk_52m_83_2) (by decide) (by decide) (pc' := 5) rfl ?_
  intro T34 v34 L34 X34 Q34
  obtain ⟨rfl, N1, hh⟩ := Q34
  show Go _ _ _ _ T34 (mkF m 5 #[.val (.ref t), .val (.int (Int32.ofNat i))] [])
  refine w_aloadN X34.here hx (hb hby d_jdk_52m_83_5) rfl rfl (pc' := 6) rfl ?_
  refine w_iloadN X34.here hx (hb hby d_jdk_52m_83_6) rfl (pc' := 7) rfl ?_
  refine w_static X34 hx hZ (y := (⟨"java/lang/StringUTF16", "getChar", "([BI)C"⟩ : MethodName)) hown (hw _ (List.mem_of_getElem? (i := 83) rfl)) (hw _ (List.mem_of_getElem? (i := 84) rfl)) (hw _ (List.mem_of_getElem? (i := 58) rfl)) (hw _ (List.mem_of_getElem? (i := 85) rfl)) (by decide) (backC (W := 0) (rmGet l Z a0 hw t kb cs.length i (StrChars.lo8 (cs.getD i 0)) (StrChars.hi8 (cs.getD i 0)) z _ h0 n0 Su V hi hl4 (StrChars.Road.wide_lo _ cs i hi) (StrChars.Road.wide_hi _ cs i hi)) hZ (hw _ (List.mem_of_getElem? (i := 85) rfl)) (hw _ (List.mem_of_getElem? (i := 58) rfl)) (by decide) (by decide)) hh (by rw [hml]; rfl) (argsL := [(.ref t), (.int (Int32.ofNat i))]) (st := []) pd_5 rfl rfl rfl (Nat.le_of_ble_eq_true rfl) (hb hby d_jdk_52m_83_7) (by decide) (by decide) (pc' := 10) rfl ?_
  intro T35 v35 L35 X35 Q35
  obtain ⟨hv, N2, hh2⟩ := Q35
  rw [StrChars.pair_says (chr_in hb16 hi).1 (chr_in hb16 hi).2] at hv
  subst hv
  show Go _ _ _ _ T35 (mkF m 10 #[.val (.ref t), .val (.int (Int32.ofNat i))] [(.int (cs.getD i 0))])
  exact endZ X35 hx hlk hret (by simp) (hb hby d_jdk_52m_83_10) (show nar .char _ = cs.getD i 0 from by simp only [nar]; have q := StrChars.narrow_ch (chr_in hb16 hi).1 (chr_in hb16 hi).2; simp only [narrow, Value.int.injEq] at q; exact q) (by decide) (by decide) (⟨rfl, Fr.app (Fr.app N0 N1) N2, hh2⟩)
theorem d_jdk_42m_56_0 : decode jdk_42_method_56_code 0 = .ok (.aload_n 0, 1) := by decide +kernel
theorem pd_12 : parseMethodDescriptor "()Z" = some ⟨[], some .boolean⟩ := by decide +kernel
theorem d_jdk_42m_56_1 : decode jdk_42_method_56_code 1 = .ok (.invokevirtual 492, 3) := by decide +kernel
theorem d_jdk_42m_56_4 : decode jdk_42_method_56_code 4 = .ok (.ifCond .eq 12, 3) := by decide +kernel
theorem d_jdk_42m_56_7 : decode jdk_42_method_56_code 7 = .ok (.aload_n 0, 1) := by decide +kernel
theorem d_jdk_42m_56_8 : decode jdk_42_method_56_code 8 = .ok (.getfield 9, 3) := by decide +kernel
theorem d_jdk_42m_56_11 : decode jdk_42_method_56_code 11 = .ok (.iload_n 1, 1) := by decide +kernel
theorem d_jdk_42m_56_12 : decode jdk_42_method_56_code 12 = .ok (.invokestatic 495, 3) := by decide +kernel
theorem d_jdk_42m_56_15 : decode jdk_42_method_56_code 15 = .ok (.ireturn, 1) := by decide +kernel
theorem d_jdk_42m_56_16 : decode jdk_42_method_56_code 16 = .ok (.aload_n 0, 1) := by decide +kernel
theorem d_jdk_42m_56_17 : decode jdk_42_method_56_code 17 = .ok (.getfield 9, 3) := by decide +kernel
theorem d_jdk_42m_56_20 : decode jdk_42_method_56_code 20 = .ok (.iload_n 1, 1) := by decide +kernel
theorem d_jdk_42m_56_21 : decode jdk_42_method_56_code 21 = .ok (.invokestatic 498, 3) := by decide +kernel
theorem d_jdk_42m_56_24 : decode jdk_42_method_56_code 24 = .ok (.ireturn, 1) := by decide +kernel
set_option maxRecDepth 65536 in
set_option maxHeartbeats 40000000 in
theorem rmChA (l : Launch) (Z : State) (a0 : Array Value) (hw : ∀ d ∈ tables_1, d.before a0 Z = true) (x : Addr) (cs : List Int32) (i : Nat) (z : Int32) (h0 : Heap) (n0 : Nat) (Su : SU Z h0 z) (G : StrOf Z h0 x cs) (hi : i < cs.length) (fm : Value) (hfm : fm.isRef = true) (Fm : Sta Z h0 "jdk/internal/util/Preconditions" "SIOOBE_FORMATTER" "Ljava/util/function/BiFunction;" fm) :
    Ct l (⟨"java/lang/String", "charAt", "(I)C"⟩ : MethodName) jdk_42_method_56_code 2 (some .char) ({ frames := 4, cells := 0, slots := 0, locals := 53 } : Room) Z #[(.ref x), (.int (Int32.ofNat i))] h0 (fun v h L => v = some (.int (cs.getD i 0)) ∧ Fr n0 L ∧ h = h0) := by
  refine ct_of (Q := fun v h L => v = some (.int (cs.getD i 0)) ∧ Fr n0 L ∧ h = h0) (plainFor_of_name pn_1) ?_
  intro p e s m below meth c s₁ X0 hx hby hml hret hnm hlk hown hZ hs0 e0
  have N0 := Fr.nil n0
  rw [show entryFrame m #[(.ref x), (.int (Int32.ofNat i))] 2 = mkF m 0 #[.val (.ref x), .val (.int (Int32.ofNat i))] [] from by first | (simp [entryFrame, mkF, argsToLocals, Value.category]; done) | rfl]
  have G' := G
  obtain ⟨t, kb, cd, N2, vs, EX, FV, FC, V, hcod, hb16, hl4⟩ := G'
  have hcd := cod_01 hcod
  refine w_aloadN X0.here hx (hb hby d_jdk_42m_56_0) rfl rfl (pc' := 1) rfl ?_
  refine w_virtual X0 hx hZ (y := (⟨"java/lang/String", "isLatin1", "()Z"⟩ : MethodName)) (z := (⟨"java/lang/String", "isLatin1", "()Z"⟩ : MethodName)) hown (hw _ (List.mem_of_getElem? (i := 91) rfl)) (hw _ (List.mem_of_getElem? (i := 92) rfl)) (notFace_of_selects (args := #[]) (mvT hZ (hw _ (List.mem_of_getElem? (i := 94) rfl)))) (hw _ (List.mem_of_getElem? (i := 94) rfl)) (hw _ (List.mem_of_getElem? (i := 93) rfl)) (by decide) (backC (W := 0) (rmIsL l Z a0 hw x cd z h0 n0 Su FC hcd) hZ (hw _ (List.mem_of_getElem? (i := 95) rfl)) (hw _ (List.mem_of_getElem? (i := 15) rfl)) (by decide) (by decide)) e0 EX (by rw [hml]; rfl) (argsL := []) (st := []) pd_12 rfl rfl rfl (Nat.le_of_ble_eq_true rfl) (hb hby d_jdk_42m_56_1) (by decide) (by decide) (pc' := 4) rfl ?_
  intro T36 v36 L36 X36 Q36
  obtain ⟨rfl, N1, hh⟩ := Q36
  show Go _ _ _ _ T36 (mkF m 4 #[.val (.ref x), .val (.int (Int32.ofNat i))] [(.int ((1 : Int32) - cd))])
  rcases hcd with rfl | rfl
  · show Go _ _ _ _ T36 (mkF m 4 #[.val (.ref x), .val (.int (Int32.ofNat i))] [(.int (1 : Int32))])
    refine w_ifNo X36.here hx (hb hby d_jdk_42m_56_4) (feq (show ¬ ((1 : Int32) = (0 : Int32)) from by decide)).1 (pc' := 7) rfl ?_
    refine w_aloadN X36.here hx (hb hby d_jdk_42m_56_7) rfl rfl (pc' := 8) rfl ?_
    refine w_getF X36 hx hZ hown (hw _ (List.mem_of_getElem? (i := 32) rfl)) Via.refl hh FV (hb hby d_jdk_42m_56_8) (pc' := 11) rfl ?_
    intro T37 X37 e37
    refine w_iloadN X37.here hx (hb hby d_jdk_42m_56_11) rfl (pc' := 12) rfl ?_
    refine w_static X37 hx hZ (y := (⟨"java/lang/StringLatin1", "charAt", "([BI)C"⟩ : MethodName)) hown (hw _ (List.mem_of_getElem? (i := 113) rfl)) (hw _ (List.mem_of_getElem? (i := 114) rfl)) (hw _ (List.mem_of_getElem? (i := 115) rfl)) (hw _ (List.mem_of_getElem? (i := 116) rfl)) (by decide) (backC (W := 0) (rmLCh l Z a0 hw t kb N2 vs cs i h0 n0 V hcod hi hb16 hl4 fm hfm Fm) hZ (hw _ (List.mem_of_getElem? (i := 116) rfl)) (hw _ (List.mem_of_getElem? (i := 115) rfl)) (by decide) (by decide)) e37 (by rw [hml]; rfl) (argsL := [(.ref t), (.int (Int32.ofNat i))]) (st := []) pd_5 rfl rfl rfl (Nat.le_of_ble_eq_true rfl) (hb hby d_jdk_42m_56_12) (by decide) (by decide) (pc' := 15) rfl ?_
    intro T38 v38 L38 X38 Q38
    obtain ⟨rfl, N2', hh2⟩ := Q38
    show Go _ _ _ _ T38 (mkF m 15 #[.val (.ref x), .val (.int (Int32.ofNat i))] [(.int (cs.getD i 0))])
    exact endZ X38 hx hlk hret (by simp) (hb hby d_jdk_42m_56_15) (show nar .char _ = cs.getD i 0 from by simp only [nar]; have q := StrChars.narrow_ch (chr_in hb16 hi).1 (chr_in hb16 hi).2; simp only [narrow, Value.int.injEq] at q; exact q) (by decide) (by decide) (⟨rfl, Fr.app (Fr.app N0 N1) N2', hh2⟩)
  · show Go _ _ _ _ T36 (mkF m 4 #[.val (.ref x), .val (.int (Int32.ofNat i))] [(.int (0 : Int32))])
    refine w_ifYes X36.here hx (hb hby d_jdk_42m_56_4) (teq (show (0 : Int32) = (0 : Int32) from by decide)).1 (pc' := 16) (by decide) (by decide) ?_
    refine w_aloadN X36.here hx (hb hby d_jdk_42m_56_16) rfl rfl (pc' := 17) rfl ?_
    refine w_getF X36 hx hZ hown (hw _ (List.mem_of_getElem? (i := 32) rfl)) Via.refl hh FV (hb hby d_jdk_42m_56_17) (pc' := 20) rfl ?_
    intro T39 X39 e39
    refine w_iloadN X39.here hx (hb hby d_jdk_42m_56_20) rfl (pc' := 21) rfl ?_
    refine w_static X39 hx hZ (y := (⟨"java/lang/StringUTF16", "charAt", "([BI)C"⟩ : MethodName)) hown (hw _ (List.mem_of_getElem? (i := 96) rfl)) (hw _ (List.mem_of_getElem? (i := 97) rfl)) (hw _ (List.mem_of_getElem? (i := 58) rfl)) (hw _ (List.mem_of_getElem? (i := 98) rfl)) (by decide) (backC (W := 0) (rmUCh l Z a0 hw t kb N2 z vs cs i h0 n0 Su V hcod hi hb16 hl4 fm hfm Fm) hZ (hw _ (List.mem_of_getElem? (i := 98) rfl)) (hw _ (List.mem_of_getElem? (i := 58) rfl)) (by decide) (by decide)) e39 (by rw [hml]; rfl) (argsL := [(.ref t), (.int (Int32.ofNat i))]) (st := []) pd_5 rfl rfl rfl (Nat.le_of_ble_eq_true rfl) (hb hby d_jdk_42m_56_21) (by decide) (by decide) (pc' := 24) rfl ?_
    intro T40 v40 L40 X40 Q40
    obtain ⟨rfl, N2', hh2⟩ := Q40
    show Go _ _ _ _ T40 (mkF m 24 #[.val (.ref x), .val (.int (Int32.ofNat i))] [(.int (cs.getD i 0))])
    exact endZ X40 hx hlk hret (by simp) (hb hby d_jdk_42m_56_24) (show nar .char _ = cs.getD i 0 from by simp only [nar]; have q := StrChars.narrow_ch (chr_in hb16 hi).1 (chr_in hb16 hi).2; simp only [narrow, Value.int.injEq] at q; exact q) (by decide) (by decide) (⟨rfl, Fr.app (Fr.app N0 N1) N2', hh2⟩)
theorem d_jdk_42m_149_8 : decode jdk_42_method_149_code 8 = .ok (.aload_n 0, 1) := by decide +kernel
theorem d_jdk_42m_149_9 : decode jdk_42_method_149_code 9 = .ok (.ldc 7, 2) := by decide +kernel
theorem d_jdk_42m_149_11 : decode jdk_42_method_149_code 11 = .ok (.getfield 9, 3) := by decide +kernel
theorem d_jdk_42m_149_14 : decode jdk_42_method_149_code 14 = .ok (.putfield 9, 3) := by decide +kernel
theorem d_jdk_42m_149_17 : decode jdk_42_method_149_code 17 = .ok (.aload_n 0, 1) := by decide +kernel
theorem d_jdk_42m_149_18 : decode jdk_42_method_149_code 18 = .ok (.ldc 7, 2) := by decide +kernel
theorem d_jdk_42m_149_20 : decode jdk_42_method_149_code 20 = .ok (.getfield 15, 3) := by decide +kernel
theorem d_jdk_42m_149_23 : decode jdk_42_method_149_code 23 = .ok (.putfield 15, 3) := by decide +kernel
theorem d_jdk_42m_149_26 : decode jdk_42_method_149_code 26 = .ok (.return_, 1) := by decide +kernel
set_option maxRecDepth 65536 in
set_option maxHeartbeats 40000000 in
theorem rmI4e (l : Launch) (Z : State) (a0 : Array Value) (hw : ∀ d ∈ tables_1, d.before a0 Z = true) (hEL : EW Z a0 [("java/lang/String", 7)]) (x a : Addr) (c0 : Value) (h0 : Heap) (n0 : Nat) (gx : n0 ≤ x) (EX : Exa Z h0 x "java/lang/String") (FV : Fld Z h0 x "java/lang/String" "value" "[B" .null) (FC : Fld Z h0 x "java/lang/String" "coder" "B" c0) :
    CtW l (⟨"java/lang/String", "<init>", "([CIILjava/lang/Void;)V"⟩ : MethodName) jdk_42_method_149_code 6 none ({ frames := 1, cells := 2, slots := 4, locals := 12 } : Room) Z [("java/lang/String", 7)] #[(.ref x), (.ref a), (.int (0 : Int32)), (.int (0 : Int32)), .null] h0 (fun v h L => v = none ∧ Fr n0 L ∧ Keep h0 h [x] ∧ StrOf Z h x []) := by
  refine ct_ofW (Q := fun v h L => v = none ∧ Fr n0 L ∧ Keep h0 h [x] ∧ StrOf Z h x []) (plainFor_of_name pn_1) hEL ?_
  intro p e s m below meth c s₁ X0 hx hby hml hret hnm hlk D0 hs0 e0
  have N0 := Fr.nil n0
  rw [show entryFrame m #[(.ref x), (.ref a), (.int (0 : Int32)), (.int (0 : Int32)), .null] 6 = mkF m 0 #[.val (.ref x), .val (.ref a), .val (.int (0 : Int32)), .val (.int (0 : Int32)), .val .null, .unset] [] from by first | (simp [entryFrame, mkF, argsToLocals, Value.category]; done) | rfl]
  have Sx : Safe Z [("java/lang/String", 7)] s.vm h0 x := Safe.null D0.2.1.alike EX FV
  refine w_aloadN X0.here hx (hb hby d_jdk_42m_149_0) rfl rfl (pc' := 1) rfl ?_
  refine w_initO X0 hx D0.zw D0.ow (hw _ (List.mem_of_getElem? (i := 23) rfl)) (hw _ (List.mem_of_getElem? (i := 24) rfl)) (hw _ (List.mem_of_getElem? (i := 25) rfl)) e0 (by rw [hml]; rfl) (hb hby d_jdk_42m_149_1) (by decide) (W := 0) (Nat.le_of_ble_eq_true rfl) (by decide) (pc' := 4) rfl ?_
  intro T41 X41 e41
  refine w_iloadN X41.here hx (hb hby d_jdk_42m_149_4) rfl (pc' := 5) rfl ?_
  refine w_ifNo X41.here hx (hb hby d_jdk_42m_149_5) (teq (show (0 : Int32) = (0 : Int32) from by decide)).2 (pc' := 8) rfl ?_
  refine w_aloadN X41.here hx (hb hby d_jdk_42m_149_8) rfl rfl (pc' := 9) rfl ?_
  refine w_ldcS X41 hx D0 (hw _ (List.mem_of_getElem? (i := 26) rfl)) (fun d hd => hw d (own_wStr d hd)) e41 (EL := [("java/lang/String", 7)]) (by decide) (vs := []) (z := 0) ⟨by decide, by decide⟩ (by decide) (by decide) (hb hby d_jdk_42m_149_9) (n := 0) (by decide) (by decide) (by decide) (by decide) (pc' := 11) rfl ?_
  intro u T42 h42 b_u k_u X42 e42 E42 D42 EX_u FC_u FV_u V_u CH_u LT_u NE_u
  have Sx1 := CH_u.safe EX.lt Sx
  obtain ⟨nxa, nxb⟩ := NE_u x Sx1
  have EX1 := EX.ext E42
  have FV1 := FV.ext E42
  have FC1 := FC.ext E42
  refine w_getF X42 hx D42.zw D42.ow (hw _ (List.mem_of_getElem? (i := 32) rfl)) Via.refl e42 FV_u (hb hby d_jdk_42m_149_11) (pc' := 14) rfl ?_
  intro T43 X43 e43
  refine w_putF X43 hx D42.zw D42.ow (hw _ (List.mem_of_getElem? (i := 32) rfl)) Via.refl e43 FV1 EX1 (Or.inr ⟨(hw _ (List.mem_of_getElem? (i := 28) rfl)), rfl, hnm⟩) (hw _ (List.mem_of_getElem? (i := 14) rfl)) (ty := (.array .byte)) (by decide) rfl rfl (hb hby d_jdk_42m_149_14) (pc' := 17) rfl ?_
  intro T44 h44 X44 e44 W44
  have D2 := D42.wr W44 Sx1
  have Sx2 := Safe.wr W44 Sx1 D42.2.2.2.1.1 Sx1
  have N1 := Fr.snoc X44 N0 gx
  refine w_aloadN X44.here hx (hb hby d_jdk_42m_149_17) rfl rfl (pc' := 18) rfl ?_
  refine w_ldcA X44 hx D2 (hw _ (List.mem_of_getElem? (i := 26) rfl)) LT_u (hb hby d_jdk_42m_149_18) (pc' := 20) rfl ?_
  refine w_getF X44 hx D2.zw D2.ow (hw _ (List.mem_of_getElem? (i := 33) rfl)) Via.refl e44 (FC_u.other W44 (Or.inl (Ne.symm nxa))) (hb hby d_jdk_42m_149_20) (pc' := 23) rfl ?_
  intro T45 X45 e45
  have FC2 := FC1.other W44 (Or.inr (slot_ne (Or.inr (hw _ (List.mem_of_getElem? (i := 29) rfl))) (Or.inr (hw _ (List.mem_of_getElem? (i := 28) rfl))) (by decide) (t := .byte) (t' := (.array .byte)) (by decide) (by decide)))
  have FV2 := Fld.same W44 FV1
  have EX2 := EX1.wr W44
  refine w_putF X45 hx D2.zw D2.ow (hw _ (List.mem_of_getElem? (i := 33) rfl)) Via.refl e45 FC2 EX2 (Or.inr ⟨(hw _ (List.mem_of_getElem? (i := 29) rfl)), rfl, hnm⟩) (hw _ (List.mem_of_getElem? (i := 14) rfl)) (ty := .byte) (by decide) rfl rfl (hb hby d_jdk_42m_149_23) (pc' := 26) rfl ?_
  intro T46 h46 X46 e46 W46
  have D3 := D2.wr W46 Sx2
  have N2 := Fr.snoc X46 N1 gx
  exact endVW X46 hx D3 e46 hlk hret (hb hby d_jdk_42m_149_26) (by decide) (by decide) (by rw [e46]; exact ⟨rfl, N2, (((Keep.refl h0 [x]).ext E42).wr W44 (Or.inl (List.mem_cons_self ..))).wr W46 (Or.inl (List.mem_cons_self ..)), b_u, k_u, 0, 0, [], EX2.wr W46, FV2.other W46 (Or.inr (slot_ne (Or.inr (hw _ (List.mem_of_getElem? (i := 28) rfl))) (Or.inr (hw _ (List.mem_of_getElem? (i := 29) rfl))) (by decide) (t := (.array .byte)) (t' := .byte) (by decide) (by decide))), Fld.same W46 FC2, (V_u.other W44 (Ne.symm nxb)).other W46 (Ne.symm nxb), Or.inl ⟨rfl, rfl, rfl, (fun c hc => (nomatch hc))⟩, (fun c hc => (nomatch hc)), by decide⟩)
set_option maxRecDepth 65536 in
set_option maxHeartbeats 40000000 in
theorem rmI1e (l : Launch) (Z : State) (a0 : Array Value) (hw : ∀ d ∈ tables_1, d.before a0 Z = true) (hEL : EW Z a0 [("java/lang/String", 7)]) (x a : Addr) (c0 : Value) (h0 : Heap) (n0 : Nat) (gx : n0 ≤ x) (EX : Exa Z h0 x "java/lang/String") (FV : Fld Z h0 x "java/lang/String" "value" "[B" .null) (FC : Fld Z h0 x "java/lang/String" "coder" "B" c0) (ka : ClassId) (vs : List Value) (dv : Value) (VA : Arv Z h0 a ka .char 0 vs dv) :
    CtW l (⟨"java/lang/String", "<init>", "([C)V"⟩ : MethodName) jdk_42_method_3_code 2 none ({ frames := 2, cells := 2, slots := 4, locals := 29 } : Room) Z [("java/lang/String", 7)] #[(.ref x), (.ref a)] h0 (fun v h L => v = none ∧ Fr n0 L ∧ Keep h0 h [x] ∧ StrOf Z h x []) := by
  refine ct_ofW (Q := fun v h L => v = none ∧ Fr n0 L ∧ Keep h0 h [x] ∧ StrOf Z h x []) (plainFor_of_name pn_1) hEL ?_
  intro p e s m below meth c s₁ X0 hx hby hml hret hnm hlk D0 hs0 e0
  have N0 := Fr.nil n0
  rw [show entryFrame m #[(.ref x), (.ref a)] 2 = mkF m 0 #[.val (.ref x), .val (.ref a)] [] from by first | (simp [entryFrame, mkF, argsToLocals, Value.category]; done) | rfl]
  refine w_aloadN X0.here hx (hb hby d_jdk_42m_3_0) rfl rfl (pc' := 1) rfl ?_
  refine w_aloadN X0.here hx (hb hby d_jdk_42m_3_1) rfl rfl (pc' := 2) rfl ?_
  refine w_iconst X0.here hx (hb hby d_jdk_42m_3_2) (z := 0) rfl (pc' := 3) rfl ?_
  refine w_aloadN X0.here hx (hb hby d_jdk_42m_3_3) rfl rfl (pc' := 4) rfl ?_
  refine w_arraylength X0 hx D0.zw e0 VA (hb hby d_jdk_42m_3_4) (pc' := 5) rfl ?_
  refine w_null X0.here hx (hb hby d_jdk_42m_3_5) (pc' := 6) rfl ?_
  refine w_specialW X0 hx D0 (y := (⟨"java/lang/String", "<init>", "([CIILjava/lang/Void;)V"⟩ : MethodName)) rfl (hw _ (List.mem_of_getElem? (i := 19) rfl)) (hw _ (List.mem_of_getElem? (i := 20) rfl)) (hw _ (List.mem_of_getElem? (i := 22) rfl)) (by decide) (backCW (W := 0) (rmI4e l Z a0 hw hEL x a c0 h0 n0 gx EX FV FC) D0 (hw _ (List.mem_of_getElem? (i := 22) rfl)) (hw _ (List.mem_of_getElem? (i := 15) rfl)) (by decide) (by decide)) e0 (by rw [hml]; rfl) (argsL := [(.ref a), (.int (0 : Int32)), (.int (0 : Int32)), .null]) (st := []) pd_7 rfl rfl rfl (Nat.le_of_ble_eq_true rfl) (hb hby d_jdk_42m_3_6) (by decide) (by decide) (pc' := 9) rfl ?_
  intro T47 v47 L47 X47 D47 CH47 Q47
  obtain ⟨rfl, N1, K1, G1⟩ := Q47
  show Go _ _ _ _ T47 (mkF m 9 #[.val (.ref x), .val (.ref a)] [])
  have N2 := Fr.app N0 N1
  exact endVW X47 hx D47 rfl hlk hret (hb hby d_jdk_42m_3_9) (by decide) (by decide) (⟨rfl, N2, K1, G1⟩)

theorem own_i2c {x : Int32} (h0 : 0 ≤ x.toInt) (h1 : x.toInt < 65536) : x.toUInt32.toUInt16.toUInt32.toInt32 = x := by
  have h := c_i2c x
  exact Int32.toInt_inj.mp (by omega)
theorem nar_c {c : Int32} (h : ¬ c < 0 ∧ ¬ (65535 : Int32) < c) : nar .char c = c := by
  have q := StrChars.narrow_ch h.1 h.2; simp only [narrow, Value.int.injEq] at q; exact q
/-- a code point that is no surrogate -/
def okC (c : Int32) : Prop := (0 ≤ c.toInt ∧ c.toInt < 55296) ∨ (57344 ≤ c.toInt ∧ c.toInt < 1114112)
theorem k_55296 : (55296 : Int32).toInt = 55296 := rfl
theorem k_56320 : (56320 : Int32).toInt = 56320 := rfl
theorem k_57344 : (57344 : Int32).toInt = 57344 := rfl
theorem k_65536 : (65536 : Int32).toInt = 65536 := rfl
theorem k_65535 : (65535 : Int32).toInt = 65535 := rfl
theorem k_8192 : (8192 : Int32).toInt = 8192 := rfl
theorem k_2048 : (2048 : Int32).toInt = 2048 := rfl
theorem k_0 : (0 : Int32).toInt = 0 := rfl
theorem add_s {x y : Int32} (h : -2147483648 ≤ x.toInt + y.toInt ∧ x.toInt + y.toInt < 2147483648) : (x + y).toInt = x.toInt + y.toInt := by
  rw [Int32.toInt_add, Int.bmod_eq_of_le (by omega) (by omega)]
theorem sub_s {x y : Int32} (h : -2147483648 ≤ x.toInt - y.toInt ∧ x.toInt - y.toInt < 2147483648) : (x - y).toInt = x.toInt - y.toInt := by
  rw [Int32.toInt_sub, Int.bmod_eq_of_le (by omega) (by omega)]
theorem shr2 (p : Int32) : 0 ≤ (p.toUInt32 >>> ((2 : Int32) &&& 31).toUInt32).toInt32.toInt ∧ (p.toUInt32 >>> ((2 : Int32) &&& 31).toUInt32).toInt32.toInt < 1073741824 := by
  have h := c_iushr p 2 2 (by decide) (by decide)
  rw [h]; omega

theorem d_method_2_0 : decode method_2_code 0 = .ok (.iload_n 0, 1) := by decide +kernel
theorem d_method_2_1 : decode method_2_code 1 = .ok (.iconst 3, 1) := by decide +kernel
theorem d_method_2_2 : decode method_2_code 2 = .ok (.iand, 1) := by decide +kernel
theorem d_method_2_3 : decode method_2_code 3 = .ok (.istore_n 1, 1) := by decide +kernel
theorem d_method_2_4 : decode method_2_code 4 = .ok (.iload_n 0, 1) := by decide +kernel
theorem d_method_2_5 : decode method_2_code 5 = .ok (.iconst 2, 1) := by decide +kernel
theorem d_method_2_6 : decode method_2_code 6 = .ok (.iushr, 1) := by decide +kernel
theorem d_method_2_7 : decode method_2_code 7 = .ok (.istore_n 2, 1) := by decide +kernel
theorem d_method_2_8 : decode method_2_code 8 = .ok (.iload_n 1, 1) := by decide +kernel
theorem d_method_2_9 : decode method_2_code 9 = .ok (.ifCond .ne 8, 3) := by decide +kernel
theorem d_method_2_12 : decode method_2_code 12 = .ok (.iload_n 2, 1) := by decide +kernel
theorem d_method_2_13 : decode method_2_code 13 = .ok (.ldc 7, 2) := by decide +kernel
theorem d_method_2_15 : decode method_2_code 15 = .ok (.irem, 1) := by decide +kernel
theorem d_method_2_16 : decode method_2_code 16 = .ok (.ireturn, 1) := by decide +kernel
theorem d_method_2_17 : decode method_2_code 17 = .ok (.iload_n 1, 1) := by decide +kernel
theorem d_method_2_18 : decode method_2_code 18 = .ok (.iconst 1, 1) := by decide +kernel
theorem d_method_2_19 : decode method_2_code 19 = .ok (.if_icmp .ne 12, 3) := by decide +kernel
theorem d_method_2_22 : decode method_2_code 22 = .ok (.ldc 8, 2) := by decide +kernel
theorem d_method_2_24 : decode method_2_code 24 = .ok (.iload_n 2, 1) := by decide +kernel
theorem d_method_2_25 : decode method_2_code 25 = .ok (.sipush 8192, 3) := by decide +kernel
theorem d_method_2_28 : decode method_2_code 28 = .ok (.irem, 1) := by decide +kernel
theorem d_method_2_29 : decode method_2_code 29 = .ok (.iadd, 1) := by decide +kernel
theorem d_method_2_30 : decode method_2_code 30 = .ok (.ireturn, 1) := by decide +kernel
theorem d_method_2_31 : decode method_2_code 31 = .ok (.iload_n 1, 1) := by decide +kernel
theorem d_method_2_32 : decode method_2_code 32 = .ok (.iconst 2, 1) := by decide +kernel
theorem d_method_2_33 : decode method_2_code 33 = .ok (.if_icmp .ne 11, 3) := by decide +kernel
theorem d_method_2_36 : decode method_2_code 36 = .ok (.ldc 9, 2) := by decide +kernel
theorem d_method_2_38 : decode method_2_code 38 = .ok (.iload_n 2, 1) := by decide +kernel
theorem d_method_2_39 : decode method_2_code 39 = .ok (.ldc 10, 2) := by decide +kernel
theorem d_method_2_41 : decode method_2_code 41 = .ok (.irem, 1) := by decide +kernel
theorem d_method_2_42 : decode method_2_code 42 = .ok (.iadd, 1) := by decide +kernel
theorem d_method_2_43 : decode method_2_code 43 = .ok (.ireturn, 1) := by decide +kernel
theorem d_method_2_44 : decode method_2_code 44 = .ok (.iload_n 2, 1) := by decide +kernel
theorem d_method_2_45 : decode method_2_code 45 = .ok (.ldc 11, 2) := by decide +kernel
theorem d_method_2_47 : decode method_2_code 47 = .ok (.irem, 1) := by decide +kernel
theorem d_method_2_48 : decode method_2_code 48 = .ok (.istore_n 3, 1) := by decide +kernel
theorem d_method_2_49 : decode method_2_code 49 = .ok (.iload_n 3, 1) := by decide +kernel
theorem d_method_2_50 : decode method_2_code 50 = .ok (.ldc 7, 2) := by decide +kernel
theorem d_method_2_52 : decode method_2_code 52 = .ok (.if_icmp .lt 9, 3) := by decide +kernel
theorem d_method_2_61 : decode method_2_code 61 = .ok (.iload_n 3, 1) := by decide +kernel
theorem d_method_2_62 : decode method_2_code 62 = .ok (.ireturn, 1) := by decide +kernel
theorem d_method_2_55 : decode method_2_code 55 = .ok (.iload_n 3, 1) := by decide +kernel
theorem d_method_2_56 : decode method_2_code 56 = .ok (.sipush 2048, 3) := by decide +kernel
theorem d_method_2_59 : decode method_2_code 59 = .ok (.iadd, 1) := by decide +kernel
theorem d_method_2_60 : decode method_2_code 60 = .ok (.istore_n 3, 1) := by decide +kernel
theorem pn_4 : plainName "com/example/strict_censor/strictcensor/core/TermCompareCodePointsPinLaw" = true := by first | (simp [plainName, overriddenIn]; done) | decide +kernel
set_option maxRecDepth 65536 in
set_option maxHeartbeats 40000000 in
theorem rmCp (l : Launch) (Z : State) (a0 : Array Value) (hw : ∀ d ∈ tables_1, d.before a0 Z = true) (p1 : Int32) (h0 : Heap) (n0 : Nat) :
    Ct l (⟨"com/example/strict_censor/strictcensor/core/TermCompareCodePointsPinLaw", "cp", "(I)I"⟩ : MethodName) method_2_code 4 (some .int) ({ frames := 0, cells := 0, slots := 0, locals := 0 } : Room) Z #[(.int p1)] h0 (fun v h L => ∃ ch : Int32, v = some (.int ch) ∧ Fr n0 L ∧ okC ch ∧ h = h0) := by
  refine ct_of (Q := fun v h L => ∃ ch : Int32, v = some (.int ch) ∧ Fr n0 L ∧ okC ch ∧ h = h0) (plainFor_of_name pn_4) ?_
  intro p e s m below meth c s₁ X0 hx hby hml hret hnm hlk hown hZ hs0 e0
  have N0 := Fr.nil n0
  rw [show entryFrame m #[(.int p1)] 4 = mkF m 0 #[.val (.int p1), .unset, .unset, .unset] [] from by first | (simp [entryFrame, mkF, argsToLocals, Value.category]; done) | rfl]
  refine w_iloadN X0.here hx (hb hby d_method_2_0) rfl (pc' := 1) rfl ?_
  refine w_iconst X0.here hx (hb hby d_method_2_1) (z := 3) rfl (pc' := 2) rfl ?_
  refine w_iand X0.here hx (hb hby d_method_2_2) (pc' := 3) rfl ?_
  refine w_istoreN X0.here hx (hb hby d_method_2_3) (l' := #[.val (.int p1), .val (.int (p1 &&& (3 : Int32))), .unset, .unset]) rfl (pc' := 4) rfl ?_
  refine w_iloadN X0.here hx (hb hby d_method_2_4) rfl (pc' := 5) rfl ?_
  refine w_iconst X0.here hx (hb hby d_method_2_5) (z := 2) rfl (pc' := 6) rfl ?_
  refine w_iushr X0.here hx (hb hby d_method_2_6) (pc' := 7) rfl ?_
  refine w_istoreN X0.here hx (hb hby d_method_2_7) (l' := #[.val (.int p1), .val (.int (p1 &&& (3 : Int32))), .val (.int (p1.toUInt32 >>> ((2 : Int32) &&& 31).toUInt32).toInt32), .unset]) rfl (pc' := 8) rfl ?_
  refine w_iloadN X0.here hx (hb hby d_method_2_8) rfl (pc' := 9) rfl ?_
  obtain ⟨kd, hkd⟩ : ∃ kd : Int32, kd = (p1 &&& (3 : Int32)) := ⟨_, rfl⟩
  have h2 := shr2 p1
  obtain ⟨wv, hwv⟩ : ∃ wv : Int32, wv = (p1.toUInt32 >>> ((2 : Int32) &&& 31).toUInt32).toInt32 := ⟨_, rfl⟩
  rw [← hwv] at h2
  rw [← hkd, ← hwv]
  show Go _ _ _ _ s₁ (mkF m 9 #[.val (.int p1), .val (.int kd), .val (.int wv), .unset] [(.int kd)])
  by_cases k0 : kd = (0 : Int32)
  · refine w_ifNo X0.here hx (hb hby d_method_2_9) (teq (show kd = (0 : Int32) from k0)).2 (pc' := 12) rfl ?_
    refine w_iloadN X0.here hx (hb hby d_method_2_12) rfl (pc' := 13) rfl ?_
    refine w_ldcI X0 hx hZ hown (hw _ (List.mem_of_getElem? (i := 4) rfl)) (hb hby d_method_2_13) (pc' := 15) rfl ?_
    refine w_irem X0.here hx (hb hby d_method_2_15) (by decide) (pc' := 16) rfl ?_
    exact endI X0 hx hlk hret (hb hby d_method_2_16) (by decide) (by decide) (by rw [e0]; exact ⟨_, rfl, N0, Or.inl (by rw [(c_irem wv 55296 55296 rfl).1 h2.1]; omega), rfl⟩)
  · refine w_ifYes X0.here hx (hb hby d_method_2_9) (feq (show ¬ (kd = (0 : Int32)) from k0)).2 (pc' := 17) (by decide) (by decide) ?_
    refine w_iloadN X0.here hx (hb hby d_method_2_17) rfl (pc' := 18) rfl ?_
    refine w_iconst X0.here hx (hb hby d_method_2_18) (z := 1) rfl (pc' := 19) rfl ?_
    by_cases k1 : kd = (1 : Int32)
    · refine w_icmpNo X0.here hx (hb hby d_method_2_19) (teq (show kd = (1 : Int32) from k1)).2 (pc' := 22) rfl ?_
      refine w_ldcI X0 hx hZ hown (hw _ (List.mem_of_getElem? (i := 8) rfl)) (hb hby d_method_2_22) (pc' := 24) rfl ?_
      refine w_iloadN X0.here hx (hb hby d_method_2_24) rfl (pc' := 25) rfl ?_
      refine w_sipush X0.here hx (hb hby d_method_2_25) (z := 8192) rfl (pc' := 28) rfl ?_
      refine w_irem X0.here hx (hb hby d_method_2_28) (by decide) (pc' := 29) rfl ?_
      refine w_iadd X0.here hx (hb hby d_method_2_29) (pc' := 30) rfl ?_
      have hr := (c_irem wv 8192 8192 rfl).1 h2.1
      exact endI X0 hx hlk hret (hb hby d_method_2_30) (by decide) (by decide) (by rw [e0]; exact ⟨_, rfl, N0, Or.inr (by rw [add_s (by rw [hr, k_57344]; omega), hr, k_57344]; omega), rfl⟩)
    · refine w_icmpYes X0.here hx (hb hby d_method_2_19) (feq (show ¬ (kd = (1 : Int32)) from k1)).2 (pc' := 31) (by decide) (by decide) ?_
      refine w_iloadN X0.here hx (hb hby d_method_2_31) rfl (pc' := 32) rfl ?_
      refine w_iconst X0.here hx (hb hby d_method_2_32) (z := 2) rfl (pc' := 33) rfl ?_
      by_cases k2 : kd = (2 : Int32)
      · refine w_icmpNo X0.here hx (hb hby d_method_2_33) (teq (show kd = (2 : Int32) from k2)).2 (pc' := 36) rfl ?_
        refine w_ldcI X0 hx hZ hown (hw _ (List.mem_of_getElem? (i := 6) rfl)) (hb hby d_method_2_36) (pc' := 38) rfl ?_
        refine w_iloadN X0.here hx (hb hby d_method_2_38) rfl (pc' := 39) rfl ?_
        refine w_ldcI X0 hx hZ hown (hw _ (List.mem_of_getElem? (i := 7) rfl)) (hb hby d_method_2_39) (pc' := 41) rfl ?_
        refine w_irem X0.here hx (hb hby d_method_2_41) (by decide) (pc' := 42) rfl ?_
        refine w_iadd X0.here hx (hb hby d_method_2_42) (pc' := 43) rfl ?_
        have hr := (c_irem wv 1048576 1048576 rfl).1 h2.1
        exact endI X0 hx hlk hret (hb hby d_method_2_43) (by decide) (by decide) (by rw [e0]; exact ⟨_, rfl, N0, Or.inr (by rw [add_s (by rw [hr, k_65536]; omega), hr, k_65536]; omega), rfl⟩)
      · refine w_icmpYes X0.here hx (hb hby d_method_2_33) (feq (show ¬ (kd = (2 : Int32)) from k2)).2 (pc' := 44) (by decide) (by decide) ?_
        refine w_iloadN X0.here hx (hb hby d_method_2_44) rfl (pc' := 45) rfl ?_
        refine w_ldcI X0 hx hZ hown (hw _ (List.mem_of_getElem? (i := 5) rfl)) (hb hby d_method_2_45) (pc' := 47) rfl ?_
        refine w_irem X0.here hx (hb hby d_method_2_47) (by decide) (pc' := 48) rfl ?_
        refine w_istoreN X0.here hx (hb hby d_method_2_48) (l' := #[.val (.int p1), .val (.int kd), .val (.int wv), .val (.int (wv % (1112064 : Int32)))]) rfl (pc' := 49) rfl ?_
        refine w_iloadN X0.here hx (hb hby d_method_2_49) rfl (pc' := 50) rfl ?_
        refine w_ldcI X0 hx hZ hown (hw _ (List.mem_of_getElem? (i := 4) rfl)) (hb hby d_method_2_50) (pc' := 52) rfl ?_
        have hr := (c_irem wv 1112064 1112064 rfl).1 h2.1
        by_cases k3 : wv % (1112064 : Int32) < (55296 : Int32)
        · refine w_icmpYes X0.here hx (hb hby d_method_2_52) (tlt (show (wv % (1112064 : Int32)) < (55296 : Int32) from k3)).1 (pc' := 61) (by decide) (by decide) ?_
          refine w_iloadN X0.here hx (hb hby d_method_2_61) rfl (pc' := 62) rfl ?_
          rw [Int32.lt_iff_toInt_lt, k_55296] at k3
          exact endI X0 hx hlk hret (hb hby d_method_2_62) (by decide) (by decide) (by rw [e0]; exact ⟨_, rfl, N0, Or.inl (by omega), rfl⟩)
        · refine w_icmpNo X0.here hx (hb hby d_method_2_52) (flt (show ¬ ((wv % (1112064 : Int32)) < (55296 : Int32)) from k3)).1 (pc' := 55) rfl ?_
          refine w_iloadN X0.here hx (hb hby d_method_2_55) rfl (pc' := 56) rfl ?_
          refine w_sipush X0.here hx (hb hby d_method_2_56) (z := 2048) rfl (pc' := 59) rfl ?_
          refine w_iadd X0.here hx (hb hby d_method_2_59) (pc' := 60) rfl ?_
          refine w_istoreN X0.here hx (hb hby d_method_2_60) (l' := #[.val (.int p1), .val (.int kd), .val (.int wv), .val (.int ((wv % (1112064 : Int32)) + (2048 : Int32)))]) rfl (pc' := 61) rfl ?_
          refine w_iloadN X0.here hx (hb hby d_method_2_61) rfl (pc' := 62) rfl ?_
          rw [Int32.lt_iff_toInt_lt, k_55296] at k3
          exact endI X0 hx hlk hret (hb hby d_method_2_62) (by decide) (by decide) (by rw [e0]; exact ⟨_, rfl, N0, Or.inr (by rw [add_s (by rw [k_2048]; omega), k_2048]; omega), rfl⟩)

/-- the UTF-16 units of a code point -/
def uni (c : Int32) : List Int32 := if c < 65536 then [c] else [55296 + ((c - 65536).toUInt32 >>> ((10 : Int32) &&& 31).toUInt32).toInt32, 56320 + ((c - 65536) &&& 1023)]
theorem uni_s {c : Int32} (hc : okC c) (h : c < 65536) : uni c = [c] ∧ (0 ≤ c.toInt ∧ c.toInt < 65536) := by
  rw [Int32.lt_iff_toInt_lt, k_65536] at h
  have : c < 65536 := by rw [Int32.lt_iff_toInt_lt, k_65536]; exact h
  exact ⟨by rw [uni, if_pos this], by rcases hc with q | q <;> omega⟩
theorem uni_p {c : Int32} (hc : okC c) (h : ¬ c < 65536) : uni c = [55296 + ((c - 65536).toUInt32 >>> ((10 : Int32) &&& 31).toUInt32).toInt32, 56320 + ((c - 65536) &&& 1023)] ∧ ((55296 : Int32) + ((c - 65536).toUInt32 >>> ((10 : Int32) &&& 31).toUInt32).toInt32).toInt = 55296 + (c.toInt - 65536) / 1024 ∧ ((56320 : Int32) + ((c - 65536) &&& 1023)).toInt = 56320 + (c.toInt - 65536) % 1024 ∧ 65536 ≤ c.toInt ∧ c.toInt < 1114112 := by
  have h' := h
  rw [Int32.lt_iff_toInt_lt, k_65536] at h'
  have hb : 65536 ≤ c.toInt ∧ c.toInt < 1114112 := by rcases hc with q | q <;> omega
  have hd : (c - 65536).toInt = c.toInt - 65536 := by rw [sub_s (by rw [k_65536]; omega), k_65536]
  have hu := c_iushr (c - 65536) 10 10 (by decide) (by decide)
  have hm := c_mask (c - 65536) 1023 10 (by decide) (by decide)
  rw [hd] at hu hm
  refine ⟨by rw [uni, if_neg h], ?_, ?_, hb⟩
  · rw [add_s (by rw [hu, k_55296]; omega), hu, k_55296]; omega
  · rw [add_s (by rw [hm, k_56320]; omega), hm, k_56320]; omega
theorem uni_len (c : Int32) : (uni c).length = 1 ∨ (uni c).length = 2 := by unfold uni; split <;> simp
theorem uni_rng {c : Int32} (hc : okC c) : ∀ u ∈ uni c, ¬ u < 0 ∧ ¬ (65535 : Int32) < u := by
  intro u hu
  by_cases h : c < 65536
  · obtain ⟨e, r⟩ := uni_s hc h
    rw [e] at hu; simp only [List.mem_cons, List.not_mem_nil, or_false] at hu; subst hu
    simp only [Int32.lt_iff_toInt_lt, k_65535, k_0]; omega
  · obtain ⟨e, r1, r2, r3⟩ := uni_p hc h
    rw [e] at hu; simp only [List.mem_cons, List.not_mem_nil, or_false] at hu
    rcases hu with rfl | rfl
    · simp only [Int32.lt_iff_toInt_lt, k_65535, k_0, r1]; omega
    · simp only [Int32.lt_iff_toInt_lt, k_65535, k_0, r2]; omega
/-- a char[4] whose first places hold e -/
def padC (e : List Int32) : List Value := e.map Value.int ++ List.replicate (4 - e.length) (.int 0)
theorem padC_len {e : List Int32} (h : e.length ≤ 4) : (padC e).length = 4 := by simp [padC]; omega
theorem padC_set {e : List Int32} {k : Nat} (x : Int32) (hk : e.length = k) (h : k < 4) : (padC e).set k (.int x) = padC (e ++ [x]) := by
  subst hk
  have q : 4 - e.length = (4 - (e.length + 1)) + 1 := by omega
  unfold padC
  rw [q, List.replicate_succ, set_app _ _ _ _ _ (by simp)]
  simp

theorem d_method_3_0 : decode method_3_code 0 = .ok (.iload_n 2, 1) := by decide +kernel
theorem d_method_3_1 : decode method_3_code 1 = .ok (.ldc 9, 2) := by decide +kernel
theorem d_method_3_3 : decode method_3_code 3 = .ok (.if_icmp .ge 12, 3) := by decide +kernel
theorem d_method_3_6 : decode method_3_code 6 = .ok (.aload_n 0, 1) := by decide +kernel
theorem d_method_3_7 : decode method_3_code 7 = .ok (.iload_n 1, 1) := by decide +kernel
theorem d_method_3_8 : decode method_3_code 8 = .ok (.iload_n 2, 1) := by decide +kernel
theorem d_method_3_9 : decode method_3_code 9 = .ok (.i2c, 1) := by decide +kernel
theorem d_method_3_10 : decode method_3_code 10 = .ok (.castore, 1) := by decide +kernel
theorem d_method_3_11 : decode method_3_code 11 = .ok (.iload_n 1, 1) := by decide +kernel
theorem d_method_3_12 : decode method_3_code 12 = .ok (.iconst 1, 1) := by decide +kernel
theorem d_method_3_13 : decode method_3_code 13 = .ok (.iadd, 1) := by decide +kernel
theorem d_method_3_14 : decode method_3_code 14 = .ok (.ireturn, 1) := by decide +kernel
theorem d_method_3_15 : decode method_3_code 15 = .ok (.iload_n 2, 1) := by decide +kernel
theorem d_method_3_16 : decode method_3_code 16 = .ok (.ldc 9, 2) := by decide +kernel
theorem d_method_3_18 : decode method_3_code 18 = .ok (.isub, 1) := by decide +kernel
theorem d_method_3_19 : decode method_3_code 19 = .ok (.istore_n 3, 1) := by decide +kernel
theorem d_method_3_20 : decode method_3_code 20 = .ok (.aload_n 0, 1) := by decide +kernel
theorem d_method_3_21 : decode method_3_code 21 = .ok (.iload_n 1, 1) := by decide +kernel
theorem d_method_3_22 : decode method_3_code 22 = .ok (.ldc 7, 2) := by decide +kernel
theorem d_method_3_24 : decode method_3_code 24 = .ok (.iload_n 3, 1) := by decide +kernel
theorem d_method_3_25 : decode method_3_code 25 = .ok (.bipush 10, 2) := by decide +kernel
theorem d_method_3_27 : decode method_3_code 27 = .ok (.iushr, 1) := by decide +kernel
theorem d_method_3_28 : decode method_3_code 28 = .ok (.iadd, 1) := by decide +kernel
theorem d_method_3_29 : decode method_3_code 29 = .ok (.i2c, 1) := by decide +kernel
theorem d_method_3_30 : decode method_3_code 30 = .ok (.castore, 1) := by decide +kernel
theorem d_method_3_31 : decode method_3_code 31 = .ok (.aload_n 0, 1) := by decide +kernel
theorem d_method_3_32 : decode method_3_code 32 = .ok (.iload_n 1, 1) := by decide +kernel
theorem d_method_3_33 : decode method_3_code 33 = .ok (.iconst 1, 1) := by decide +kernel
theorem d_method_3_34 : decode method_3_code 34 = .ok (.iadd, 1) := by decide +kernel
theorem d_method_3_35 : decode method_3_code 35 = .ok (.ldc 12, 2) := by decide +kernel
theorem d_method_3_37 : decode method_3_code 37 = .ok (.iload_n 3, 1) := by decide +kernel
theorem d_method_3_38 : decode method_3_code 38 = .ok (.sipush 1023, 3) := by decide +kernel
theorem d_method_3_41 : decode method_3_code 41 = .ok (.iand, 1) := by decide +kernel
theorem d_method_3_42 : decode method_3_code 42 = .ok (.iadd, 1) := by decide +kernel
theorem d_method_3_43 : decode method_3_code 43 = .ok (.i2c, 1) := by decide +kernel
theorem d_method_3_44 : decode method_3_code 44 = .ok (.castore, 1) := by decide +kernel
theorem d_method_3_45 : decode method_3_code 45 = .ok (.iload_n 1, 1) := by decide +kernel
theorem d_method_3_46 : decode method_3_code 46 = .ok (.iconst 2, 1) := by decide +kernel
theorem d_method_3_47 : decode method_3_code 47 = .ok (.iadd, 1) := by decide +kernel
theorem d_method_3_48 : decode method_3_code 48 = .ok (.ireturn, 1) := by decide +kernel
set_option maxRecDepth 65536 in
set_option maxHeartbeats 40000000 in
theorem rmPutC (l : Launch) (Z : State) (a0 : Array Value) (hw : ∀ d ∈ tables_1, d.before a0 Z = true) (u : Addr) (ku : ClassId) (k : Nat) (ch : Int32) (e : List Int32) (h0 : Heap) (n0 : Nat) (gu : n0 ≤ u) (hc : okC ch) (V : Arv Z h0 u ku .char (Int32.ofNat 4) (padC e) (.int 0)) (hek : e.length = k) (hk : k + (uni ch).length ≤ 4) :
    Ct l (⟨"com/example/strict_censor/strictcensor/core/TermCompareCodePointsPinLaw", "put", "([CII)I"⟩ : MethodName) method_3_code 4 (some .int) ({ frames := 0, cells := 0, slots := 0, locals := 0 } : Room) Z #[(.ref u), (.int (Int32.ofNat k)), (.int ch)] h0 (fun v h L => v = some (.int (Int32.ofNat (k + (uni ch).length))) ∧ Fr n0 L ∧ Keep h0 h [u] ∧ Arv Z h u ku .char (Int32.ofNat 4) (padC (e ++ uni ch)) (.int 0)) := by
  refine ct_of (Q := fun v h L => v = some (.int (Int32.ofNat (k + (uni ch).length))) ∧ Fr n0 L ∧ Keep h0 h [u] ∧ Arv Z h u ku .char (Int32.ofNat 4) (padC (e ++ uni ch)) (.int 0)) (plainFor_of_name pn_4) ?_
  intro p e s m below meth c s₁ X0 hx hby hml hret hnm hlk hown hZ hs0 e0
  have N0 := Fr.nil n0
  rw [show entryFrame m #[(.ref u), (.int (Int32.ofNat k)), (.int ch)] 4 = mkF m 0 #[.val (.ref u), .val (.int (Int32.ofNat k)), .val (.int ch), .unset] [] from by first | (simp [entryFrame, mkF, argsToLocals, Value.category]; done) | rfl]
  refine w_iloadN X0.here hx (hb hby d_method_3_0) rfl (pc' := 1) rfl ?_
  refine w_ldcI X0 hx hZ hown (hw _ (List.mem_of_getElem? (i := 6) rfl)) (hb hby d_method_3_1) (pc' := 3) rfl ?_
  by_cases hs : ch < (65536 : Int32)
  · refine w_icmpNo X0.here hx (hb hby d_method_3_3) (tlt (show ch < (65536 : Int32) from hs)).2.1 (pc' := 6) rfl ?_
    refine w_aloadN X0.here hx (hb hby d_method_3_6) rfl rfl (pc' := 7) rfl ?_
    refine w_iloadN X0.here hx (hb hby d_method_3_7) rfl (pc' := 8) rfl ?_
    refine w_iloadN X0.here hx (hb hby d_method_3_8) rfl (pc' := 9) rfl ?_
    refine w_i2c X0.here hx (hb hby d_method_3_9) (pc' := 10) rfl ?_
    obtain ⟨hu, hr⟩ := uni_s hc hs
    rw [hu] at hk
    simp only [List.length_cons, List.length_nil] at hk
    refine w_castore X0 hx hZ e0 V (in_rng (n := 4) (by omega) (by omega)) k (n_nat (by omega)) (by rw [padC_len (by omega)]; omega) (hb hby d_method_3_10) (pc' := 11) rfl ?_
    intro T1 h1 X1 e1 W1 V1
    have N1 := Fr.snoc X1 N0 gu
    rw [own_i2c hr.1 hr.2, nar_c (uni_rng hc ch (by rw [hu]; simp)), padC_set _ hek (by omega)] at V1
    refine w_iloadN X1.here hx (hb hby d_method_3_11) rfl (pc' := 12) rfl ?_
    refine w_iconst X1.here hx (hb hby d_method_3_12) (z := 1) rfl (pc' := 13) rfl ?_
    refine w_iadd X1.here hx (hb hby d_method_3_13) (pc' := 14) rfl ?_
    rw [n_succ]
    show Go _ _ _ _ T1 (mkF m 14 #[.val (.ref u), .val (.int (Int32.ofNat k)), .val (.int ch), .unset] [(.int (Int32.ofNat (k + 1)))])
    exact endI X1 hx hlk hret (hb hby d_method_3_14) (by decide) (by decide) (by rw [e1]; exact ⟨by rw [hu]; rfl, N1, (Keep.refl h0 [u]).wr W1 (Or.inl (List.mem_cons_self ..)), by rw [hu]; exact V1⟩)
  · refine w_icmpYes X0.here hx (hb hby d_method_3_3) (flt (show ¬ (ch < (65536 : Int32)) from hs)).2.1 (pc' := 15) (by decide) (by decide) ?_
    refine w_iloadN X0.here hx (hb hby d_method_3_15) rfl (pc' := 16) rfl ?_
    refine w_ldcI X0 hx hZ hown (hw _ (List.mem_of_getElem? (i := 6) rfl)) (hb hby d_method_3_16) (pc' := 18) rfl ?_
    refine w_isub X0.here hx (hb hby d_method_3_18) (pc' := 19) rfl ?_
    refine w_istoreN X0.here hx (hb hby d_method_3_19) (l' := #[.val (.ref u), .val (.int (Int32.ofNat k)), .val (.int ch), .val (.int (ch - (65536 : Int32)))]) rfl (pc' := 20) rfl ?_
    refine w_aloadN X0.here hx (hb hby d_method_3_20) rfl rfl (pc' := 21) rfl ?_
    refine w_iloadN X0.here hx (hb hby d_method_3_21) rfl (pc' := 22) rfl ?_
    refine w_ldcI X0 hx hZ hown (hw _ (List.mem_of_getElem? (i := 4) rfl)) (hb hby d_method_3_22) (pc' := 24) rfl ?_
    refine w_iloadN X0.here hx (hb hby d_method_3_24) rfl (pc' := 25) rfl ?_
    refine w_bipush X0.here hx (hb hby d_method_3_25) (z := 10) rfl (pc' := 27) rfl ?_
    refine w_iushr X0.here hx (hb hby d_method_3_27) (pc' := 28) rfl ?_
    refine w_iadd X0.here hx (hb hby d_method_3_28) (pc' := 29) rfl ?_
    refine w_i2c X0.here hx (hb hby d_method_3_29) (pc' := 30) rfl ?_
    obtain ⟨hu, hr1, hr2, hr3⟩ := uni_p hc hs
    rw [hu] at hk
    simp only [List.length_cons, List.length_nil] at hk
    refine w_castore X0 hx hZ e0 V (in_rng (n := 4) (by omega) (by omega)) k (n_nat (by omega)) (by rw [padC_len (by omega)]; omega) (hb hby d_method_3_30) (pc' := 31) rfl ?_
    intro T1 h1 X1 e1 W1 V1
    have N1 := Fr.snoc X1 N0 gu
    rw [own_i2c (x := ((55296 : Int32) + ((ch - (65536 : Int32)).toUInt32 >>> ((10 : Int32) &&& 31).toUInt32).toInt32)) (by omega) (by omega), nar_c (uni_rng hc _ (by rw [hu]; simp)), padC_set _ hek (by omega)] at V1
    refine w_aloadN X1.here hx (hb hby d_method_3_31) rfl rfl (pc' := 32) rfl ?_
    refine w_iloadN X1.here hx (hb hby d_method_3_32) rfl (pc' := 33) rfl ?_
    refine w_iconst X1.here hx (hb hby d_method_3_33) (z := 1) rfl (pc' := 34) rfl ?_
    refine w_iadd X1.here hx (hb hby d_method_3_34) (pc' := 35) rfl ?_
    refine w_ldcI X1 hx hZ hown (hw _ (List.mem_of_getElem? (i := 66) rfl)) (hb hby d_method_3_35) (pc' := 37) rfl ?_
    refine w_iloadN X1.here hx (hb hby d_method_3_37) rfl (pc' := 38) rfl ?_
    refine w_sipush X1.here hx (hb hby d_method_3_38) (z := 1023) rfl (pc' := 41) rfl ?_
    refine w_iand X1.here hx (hb hby d_method_3_41) (pc' := 42) rfl ?_
    refine w_iadd X1.here hx (hb hby d_method_3_42) (pc' := 43) rfl ?_
    refine w_i2c X1.here hx (hb hby d_method_3_43) (pc' := 44) rfl ?_
    refine w_castore X1 hx hZ e1 V1 (by rw [n_succ]; exact in_rng (n := 4) (by omega) (by omega)) (k + 1) (by rw [n_succ]; exact n_nat (by omega)) (by rw [padC_len (by simp; omega)]; omega) (hb hby d_method_3_44) (pc' := 45) rfl ?_
    intro T2 h2 X2 e2 W2 V2
    have N2 := Fr.snoc X2 N1 gu
    rw [own_i2c (x := ((56320 : Int32) + ((ch - (65536 : Int32)) &&& (1023 : Int32)))) (by omega) (by omega), nar_c (uni_rng hc _ (by rw [hu]; simp)), padC_set _ (by simp; omega) (by omega), List.append_assoc] at V2
    refine w_iloadN X2.here hx (hb hby d_method_3_45) rfl (pc' := 46) rfl ?_
    refine w_iconst X2.here hx (hb hby d_method_3_46) (z := 2) rfl (pc' := 47) rfl ?_
    refine w_iadd X2.here hx (hb hby d_method_3_47) (pc' := 48) rfl ?_
    rw [show Int32.ofNat k + (2 : Int32) = Int32.ofNat (k + 2) from (Int32.ofNat_add k 2).symm]
    show Go _ _ _ _ T2 (mkF m 48 #[.val (.ref u), .val (.int (Int32.ofNat k)), .val (.int ch), .val (.int (ch - (65536 : Int32)))] [(.int (Int32.ofNat (k + 2)))])
    exact endI X2 hx hlk hret (hb hby d_method_3_48) (by decide) (by decide) (by rw [e2]; exact ⟨by rw [hu]; rfl, N2, ((Keep.refl h0 [u]).wr W1 (Or.inl (List.mem_cons_self ..))).wr W2 (Or.inl (List.mem_cons_self ..)), by rw [hu]; exact V2⟩)
theorem d_method_4_35 : decode method_4_code 35 = .ok (.iload 4, 2) := by decide +kernel
theorem d_method_4_37 : decode method_4_code 37 = .ok (.ifCond .ne 14, 3) := by decide +kernel
theorem d_method_4_40 : decode method_4_code 40 = .ok (.new 19, 3) := by decide +kernel
theorem d_method_4_43 : decode method_4_code 43 = .ok (.dup, 1) := by decide +kernel
theorem d_method_4_44 : decode method_4_code 44 = .ok (.iconst 0, 1) := by decide +kernel
theorem d_method_4_45 : decode method_4_code 45 = .ok (.newarray .char, 2) := by decide +kernel
theorem pd_13 : parseMethodDescriptor "([C)V" = some ⟨[(.array .char)], none⟩ := by decide +kernel
theorem d_method_4_47 : decode method_4_code 47 = .ok (.invokespecial 21, 3) := by decide +kernel
theorem d_method_4_50 : decode method_4_code 50 = .ok (.areturn, 1) := by decide +kernel
theorem d_method_4_51 : decode method_4_code 51 = .ok (.iload 4, 2) := by decide +kernel
theorem d_method_4_53 : decode method_4_code 53 = .ok (.iconst 1, 1) := by decide +kernel
theorem d_method_4_54 : decode method_4_code 54 = .ok (.if_icmp .ne 20, 3) := by decide +kernel
theorem d_method_4_57 : decode method_4_code 57 = .ok (.new 19, 3) := by decide +kernel
theorem d_method_4_60 : decode method_4_code 60 = .ok (.dup, 1) := by decide +kernel
theorem d_method_4_61 : decode method_4_code 61 = .ok (.iconst 1, 1) := by decide +kernel
theorem d_method_4_62 : decode method_4_code 62 = .ok (.newarray .char, 2) := by decide +kernel
theorem d_method_4_64 : decode method_4_code 64 = .ok (.dup, 1) := by decide +kernel
theorem d_method_4_65 : decode method_4_code 65 = .ok (.iconst 0, 1) := by decide +kernel
theorem d_method_4_66 : decode method_4_code 66 = .ok (.aload_n 3, 1) := by decide +kernel
theorem d_method_4_67 : decode method_4_code 67 = .ok (.iconst 0, 1) := by decide +kernel
theorem d_method_4_68 : decode method_4_code 68 = .ok (.caload, 1) := by decide +kernel
theorem d_method_4_69 : decode method_4_code 69 = .ok (.castore, 1) := by decide +kernel
theorem d_method_4_70 : decode method_4_code 70 = .ok (.invokespecial 21, 3) := by decide +kernel
theorem d_method_4_73 : decode method_4_code 73 = .ok (.areturn, 1) := by decide +kernel
theorem d_method_4_74 : decode method_4_code 74 = .ok (.iload 4, 2) := by decide +kernel
theorem d_method_4_76 : decode method_4_code 76 = .ok (.iconst 2, 1) := by decide +kernel
theorem d_method_4_77 : decode method_4_code 77 = .ok (.if_icmp .ne 26, 3) := by decide +kernel
theorem d_method_4_80 : decode method_4_code 80 = .ok (.new 19, 3) := by decide +kernel
theorem d_method_4_83 : decode method_4_code 83 = .ok (.dup, 1) := by decide +kernel
theorem d_method_4_84 : decode method_4_code 84 = .ok (.iconst 2, 1) := by decide +kernel
theorem d_method_4_85 : decode method_4_code 85 = .ok (.newarray .char, 2) := by decide +kernel
theorem d_method_4_87 : decode method_4_code 87 = .ok (.dup, 1) := by decide +kernel
theorem d_method_4_88 : decode method_4_code 88 = .ok (.iconst 0, 1) := by decide +kernel
theorem d_method_4_89 : decode method_4_code 89 = .ok (.aload_n 3, 1) := by decide +kernel
theorem d_method_4_90 : decode method_4_code 90 = .ok (.iconst 0, 1) := by decide +kernel
theorem d_method_4_91 : decode method_4_code 91 = .ok (.caload, 1) := by decide +kernel
theorem d_method_4_92 : decode method_4_code 92 = .ok (.castore, 1) := by decide +kernel
theorem d_method_4_93 : decode method_4_code 93 = .ok (.dup, 1) := by decide +kernel
theorem d_method_4_94 : decode method_4_code 94 = .ok (.iconst 1, 1) := by decide +kernel
theorem d_method_4_95 : decode method_4_code 95 = .ok (.aload_n 3, 1) := by decide +kernel
theorem d_method_4_96 : decode method_4_code 96 = .ok (.iconst 1, 1) := by decide +kernel
theorem d_method_4_97 : decode method_4_code 97 = .ok (.caload, 1) := by decide +kernel
theorem d_method_4_98 : decode method_4_code 98 = .ok (.castore, 1) := by decide +kernel
theorem d_method_4_99 : decode method_4_code 99 = .ok (.invokespecial 21, 3) := by decide +kernel
theorem d_method_4_102 : decode method_4_code 102 = .ok (.areturn, 1) := by decide +kernel
theorem d_method_4_103 : decode method_4_code 103 = .ok (.iload 4, 2) := by decide +kernel
theorem d_method_4_105 : decode method_4_code 105 = .ok (.iconst 3, 1) := by decide +kernel
theorem d_method_4_106 : decode method_4_code 106 = .ok (.if_icmp .ne 32, 3) := by decide +kernel
theorem d_method_4_109 : decode method_4_code 109 = .ok (.new 19, 3) := by decide +kernel
theorem d_method_4_112 : decode method_4_code 112 = .ok (.dup, 1) := by decide +kernel
theorem d_method_4_113 : decode method_4_code 113 = .ok (.iconst 3, 1) := by decide +kernel
theorem d_method_4_114 : decode method_4_code 114 = .ok (.newarray .char, 2) := by decide +kernel
theorem d_method_4_116 : decode method_4_code 116 = .ok (.dup, 1) := by decide +kernel
theorem d_method_4_117 : decode method_4_code 117 = .ok (.iconst 0, 1) := by decide +kernel
theorem d_method_4_118 : decode method_4_code 118 = .ok (.aload_n 3, 1) := by decide +kernel
theorem d_method_4_119 : decode method_4_code 119 = .ok (.iconst 0, 1) := by decide +kernel
theorem d_method_4_120 : decode method_4_code 120 = .ok (.caload, 1) := by decide +kernel
theorem d_method_4_121 : decode method_4_code 121 = .ok (.castore, 1) := by decide +kernel
theorem d_method_4_122 : decode method_4_code 122 = .ok (.dup, 1) := by decide +kernel
theorem d_method_4_123 : decode method_4_code 123 = .ok (.iconst 1, 1) := by decide +kernel
theorem d_method_4_124 : decode method_4_code 124 = .ok (.aload_n 3, 1) := by decide +kernel
theorem d_method_4_125 : decode method_4_code 125 = .ok (.iconst 1, 1) := by decide +kernel
theorem d_method_4_126 : decode method_4_code 126 = .ok (.caload, 1) := by decide +kernel
theorem d_method_4_127 : decode method_4_code 127 = .ok (.castore, 1) := by decide +kernel
theorem d_method_4_128 : decode method_4_code 128 = .ok (.dup, 1) := by decide +kernel
theorem d_method_4_129 : decode method_4_code 129 = .ok (.iconst 2, 1) := by decide +kernel
theorem d_method_4_130 : decode method_4_code 130 = .ok (.aload_n 3, 1) := by decide +kernel
theorem d_method_4_131 : decode method_4_code 131 = .ok (.iconst 2, 1) := by decide +kernel
theorem d_method_4_132 : decode method_4_code 132 = .ok (.caload, 1) := by decide +kernel
theorem d_method_4_133 : decode method_4_code 133 = .ok (.castore, 1) := by decide +kernel
theorem d_method_4_134 : decode method_4_code 134 = .ok (.invokespecial 21, 3) := by decide +kernel
theorem d_method_4_137 : decode method_4_code 137 = .ok (.areturn, 1) := by decide +kernel
theorem d_method_4_138 : decode method_4_code 138 = .ok (.new 19, 3) := by decide +kernel
theorem d_method_4_141 : decode method_4_code 141 = .ok (.dup, 1) := by decide +kernel
theorem d_method_4_142 : decode method_4_code 142 = .ok (.iconst 4, 1) := by decide +kernel
theorem d_method_4_143 : decode method_4_code 143 = .ok (.newarray .char, 2) := by decide +kernel
theorem d_method_4_145 : decode method_4_code 145 = .ok (.dup, 1) := by decide +kernel
theorem d_method_4_146 : decode method_4_code 146 = .ok (.iconst 0, 1) := by decide +kernel
theorem d_method_4_147 : decode method_4_code 147 = .ok (.aload_n 3, 1) := by decide +kernel
theorem d_method_4_148 : decode method_4_code 148 = .ok (.iconst 0, 1) := by decide +kernel
theorem d_method_4_149 : decode method_4_code 149 = .ok (.caload, 1) := by decide +kernel
theorem d_method_4_150 : decode method_4_code 150 = .ok (.castore, 1) := by decide +kernel
theorem d_method_4_151 : decode method_4_code 151 = .ok (.dup, 1) := by decide +kernel
theorem d_method_4_152 : decode method_4_code 152 = .ok (.iconst 1, 1) := by decide +kernel
theorem d_method_4_153 : decode method_4_code 153 = .ok (.aload_n 3, 1) := by decide +kernel
theorem d_method_4_154 : decode method_4_code 154 = .ok (.iconst 1, 1) := by decide +kernel
theorem d_method_4_155 : decode method_4_code 155 = .ok (.caload, 1) := by decide +kernel
theorem d_method_4_156 : decode method_4_code 156 = .ok (.castore, 1) := by decide +kernel
theorem d_method_4_157 : decode method_4_code 157 = .ok (.dup, 1) := by decide +kernel
theorem d_method_4_158 : decode method_4_code 158 = .ok (.iconst 2, 1) := by decide +kernel
theorem d_method_4_159 : decode method_4_code 159 = .ok (.aload_n 3, 1) := by decide +kernel
theorem d_method_4_160 : decode method_4_code 160 = .ok (.iconst 2, 1) := by decide +kernel
theorem d_method_4_161 : decode method_4_code 161 = .ok (.caload, 1) := by decide +kernel
theorem d_method_4_162 : decode method_4_code 162 = .ok (.castore, 1) := by decide +kernel
theorem d_method_4_163 : decode method_4_code 163 = .ok (.dup, 1) := by decide +kernel
theorem d_method_4_164 : decode method_4_code 164 = .ok (.iconst 3, 1) := by decide +kernel
theorem d_method_4_165 : decode method_4_code 165 = .ok (.aload_n 3, 1) := by decide +kernel
theorem d_method_4_166 : decode method_4_code 166 = .ok (.iconst 3, 1) := by decide +kernel
theorem d_method_4_167 : decode method_4_code 167 = .ok (.caload, 1) := by decide +kernel
theorem d_method_4_168 : decode method_4_code 168 = .ok (.castore, 1) := by decide +kernel
theorem d_method_4_169 : decode method_4_code 169 = .ok (.invokespecial 21, 3) := by decide +kernel
theorem d_method_4_172 : decode method_4_code 172 = .ok (.areturn, 1) := by decide +kernel
set_option maxRecDepth 65536 in
set_option maxHeartbeats 40000000 in
theorem tailE {p : Program} {l : Launch} {e : Env} {R : Room} {s : State} {m : MethodId} {args : Array Value} {below : List Frame} {meth : Method} {c : Code} {cells slots : Nat} {P : State → Prop} (Z : State) (a0 : Array Value) (hw : ∀ d ∈ tables_1, d.before a0 Z = true) (hx : p.tables.exec = Jvm.exec) (hby : c.code = method_4_code) (hml : c.maxLocals = 5) {vm0 : Vm} {T : State} {locs : List Loc} (hEL : EW Z a0 [("java/lang/String", 7)]) (hret : meth.sig.returnType = some (.object "java/lang/String")) (hlk : meth.locks = false) (c0 c1 z : Int32) (u : Addr) (ku : ClassId) (n n0 : Nat) (es : List Int32) (h0 h : Heap) (Z0 : n0 ≤ h0.size) (hle : es.length ≤ 4) (hb16 : ∀ c ∈ es, ¬ c < 0 ∧ ¬ (65535 : Int32) < c) (X0 : Stand p l e ({ frames := 6, cells := 5, slots := 24, locals := 88 } : Room) (s.setVm vm0) m args below meth c T locs 1 4) (e0 : T.heap = h) (N0 : Fr n0 locs) (E0 : Ext h0 h) (D0 : Wd Z a0 [("java/lang/String", 7)] s "com/example/strict_censor/strictcensor/core/TermCompareCodePointsPinLaw" m.cls vm0 h) (V : Arv Z h u ku .char (Int32.ofNat 4) (padC es) (.int 0)) (Su : SU Z h0 z) :
    Go p.tables e below (EndW Z [("java/lang/String", 7)] s below (fun v h L => ∃ x, v = some (.ref x) ∧ Fr n0 L ∧ Ext h0 h ∧ StrOf Z h x es) 5 24) T (mkF m 35 #[.val (.int c0), .val (.int c1), .val (.int (Int32.ofNat n)), .val (.ref u), .val (.int (Int32.ofNat es.length))] []) := by
  rcases es with _ | ⟨e0', _ | ⟨e1', _ | ⟨e2', _ | ⟨e3', _ | ⟨e4', r⟩⟩⟩⟩⟩
  · show Go _ _ _ _ T (mkF m 35 #[.val (.int c0), .val (.int c1), .val (.int (Int32.ofNat n)), .val (.ref u), .val (.int (0 : Int32))] [])
    refine w_iload X0.here hx (hb hby d_method_4_35) rfl (pc' := 37) rfl ?_
    refine w_ifNo X0.here hx (hb hby d_method_4_37) (teq (show (0 : Int32) = (0 : Int32) from by decide)).2 (pc' := 40) rfl ?_
    refine w_new X0 hx D0.zw D0.ow (hw _ (List.mem_of_getElem? (i := 13) rfl)) (hw _ (List.mem_of_getElem? (i := 14) rfl)) (hw _ (List.mem_of_getElem? (i := 15) rfl)) e0 (hb hby d_method_4_40) (by decide) (by decide) (pc' := 43) rfl ?_
    intro T48 h48 x gx X48 e48 E48 A48 D48 U48
    have ge_x_h0 : h0.size ≤ x := Nat.le_trans (E0 : Ext h0 h).1 (Nat.le_of_eq gx)
    have ge_x_h : h.size ≤ x := Nat.le_trans (Ext.rfl' : Ext h h).1 (Nat.le_of_eq gx)
    have C49 : Ext h0 h48 := Ext.trs E0 E48
    have C50 : Ext h h48 := Ext.trs Ext.rfl' E48
    have gx0 : n0 ≤ x := Nat.le_trans Z0 ge_x_h0
    have FV : Fld Z h48 x "java/lang/String" "value" "[B" .null := D48 (Or.inr (hw _ (List.mem_of_getElem? (i := 28) rfl))) (ty := (.array .byte)) (by decide)
    have FC : Fld Z h48 x "java/lang/String" "coder" "B" (.int (0 : Int32)) := D48 (Or.inr (hw _ (List.mem_of_getElem? (i := 29) rfl))) (ty := .byte) (by decide)
    refine w_dup X48.here hx (hb hby d_method_4_43) rfl (pc' := 44) rfl ?_
    refine w_iconst X48.here hx (hb hby d_method_4_44) (z := 0) rfl (pc' := 45) rfl ?_
    refine w_newarray X48 hx D0.zw (ty := .char) (dv := (.int 0)) rfl rfl (hw _ (List.mem_of_getElem? (i := 12) rfl)) e48 (n := (0 : Int32)) (hb hby d_method_4_45) (by decide) (cap := 0) (by decide) (by decide) (by decide) (by decide) (pc' := 47) rfl ?_
    intro T51 h51 d kd gd X51 e51 E51 VD
    have ge_d_h0 : h0.size ≤ d := Nat.le_trans (C49 : Ext h0 h48).1 (Nat.le_of_eq gd)
    have ge_d_h : h.size ≤ d := Nat.le_trans (C50 : Ext h h48).1 (Nat.le_of_eq gd)
    have ge_d_h48 : h48.size ≤ d := Nat.le_trans (Ext.rfl' : Ext h48 h48).1 (Nat.le_of_eq gd)
    have C52 : Ext h0 h51 := Ext.trs C49 E51
    have C53 : Ext h h51 := Ext.trs C50 E51
    have C54 : Ext h48 h51 := Ext.trs Ext.rfl' E51
    have gd0 : n0 ≤ d := Nat.le_trans Z0 ge_d_h0
    have D1 := D0.ext C53
    refine w_specialW X51 hx D1 (y := (⟨"java/lang/String", "<init>", "([C)V"⟩ : MethodName)) rfl (hw _ (List.mem_of_getElem? (i := 16) rfl)) (hw _ (List.mem_of_getElem? (i := 17) rfl)) (hw _ (List.mem_of_getElem? (i := 18) rfl)) (by decide) (backCW (W := 1) (rmI1e l Z a0 hw hEL x d (.int 0) h51 n0 gx0 (A48.ext C54) (FV.ext C54) (FC.ext C54) kd _ _ VD) D1 (hw _ (List.mem_of_getElem? (i := 18) rfl)) (hw _ (List.mem_of_getElem? (i := 15) rfl)) (by decide) (by decide)) e51 (by rw [hml]; rfl) (argsL := [(.ref d)]) (st := [(.ref x)]) pd_13 rfl rfl rfl (Nat.le_of_ble_eq_true rfl) (hb hby d_method_4_47) (by decide) (by decide) (pc' := 50) rfl ?_
    intro T55 v55 L55 X55 D55 CH55 Q55
    obtain ⟨rfl, Nn, Kn, GX⟩ := Q55
    show Go _ _ _ _ T55 (mkF m 50 #[.val (.int c0), .val (.int c1), .val (.int (Int32.ofNat n)), .val (.ref u), .val (.int (0 : Int32))] [(.ref x)])
    have En : Ext h0 T55.heap := Ext.kp C52 Kn (allS ge_x_h0 all0)
    have N1 := Fr.app N0 Nn
    exact endRW X55 hx D55 rfl hlk rfl hret rfl (hb hby d_method_4_50) (by decide) (by decide) (⟨x, rfl, N1, En, GX⟩)
  · show Go _ _ _ _ T (mkF m 35 #[.val (.int c0), .val (.int c1), .val (.int (Int32.ofNat n)), .val (.ref u), .val (.int (1 : Int32))] [])
    refine w_iload X0.here hx (hb hby d_method_4_35) rfl (pc' := 37) rfl ?_
    refine w_ifYes X0.here hx (hb hby d_method_4_37) (feq (show ¬ ((1 : Int32) = (0 : Int32)) from by decide)).2 (pc' := 51) (by decide) (by decide) ?_
    refine w_iload X0.here hx (hb hby d_method_4_51) rfl (pc' := 53) rfl ?_
    refine w_iconst X0.here hx (hb hby d_method_4_53) (z := 1) rfl (pc' := 54) rfl ?_
    refine w_icmpNo X0.here hx (hb hby d_method_4_54) (teq (show (1 : Int32) = (1 : Int32) from by decide)).2 (pc' := 57) rfl ?_
    refine w_new X0 hx D0.zw D0.ow (hw _ (List.mem_of_getElem? (i := 13) rfl)) (hw _ (List.mem_of_getElem? (i := 14) rfl)) (hw _ (List.mem_of_getElem? (i := 15) rfl)) e0 (hb hby d_method_4_57) (by decide) (by decide) (pc' := 60) rfl ?_
    intro T56 h56 x gx X56 e56 E56 A56 D56 U56
    have ge_x_h0 : h0.size ≤ x := Nat.le_trans (E0 : Ext h0 h).1 (Nat.le_of_eq gx)
    have ge_x_h : h.size ≤ x := Nat.le_trans (Ext.rfl' : Ext h h).1 (Nat.le_of_eq gx)
    have C57 : Ext h0 h56 := Ext.trs E0 E56
    have C58 : Ext h h56 := Ext.trs Ext.rfl' E56
    have gx0 : n0 ≤ x := Nat.le_trans Z0 ge_x_h0
    have FV : Fld Z h56 x "java/lang/String" "value" "[B" .null := D56 (Or.inr (hw _ (List.mem_of_getElem? (i := 28) rfl))) (ty := (.array .byte)) (by decide)
    have FC : Fld Z h56 x "java/lang/String" "coder" "B" (.int (0 : Int32)) := D56 (Or.inr (hw _ (List.mem_of_getElem? (i := 29) rfl))) (ty := .byte) (by decide)
    refine w_dup X56.here hx (hb hby d_method_4_60) rfl (pc' := 61) rfl ?_
    refine w_iconst X56.here hx (hb hby d_method_4_61) (z := 1) rfl (pc' := 62) rfl ?_
    refine w_newarray X56 hx D0.zw (ty := .char) (dv := (.int 0)) rfl rfl (hw _ (List.mem_of_getElem? (i := 12) rfl)) e56 (n := (1 : Int32)) (hb hby d_method_4_62) (by decide) (cap := 1) (by decide) (by decide) (by decide) (by decide) (pc' := 64) rfl ?_
    intro T59 h59 d kd gd X59 e59 E59 VD
    have ge_d_h0 : h0.size ≤ d := Nat.le_trans (C57 : Ext h0 h56).1 (Nat.le_of_eq gd)
    have ge_d_h : h.size ≤ d := Nat.le_trans (C58 : Ext h h56).1 (Nat.le_of_eq gd)
    have ge_d_h56 : h56.size ≤ d := Nat.le_trans (Ext.rfl' : Ext h56 h56).1 (Nat.le_of_eq gd)
    have C60 : Ext h0 h59 := Ext.trs C57 E59
    have C61 : Ext h h59 := Ext.trs C58 E59
    have C62 : Ext h56 h59 := Ext.trs Ext.rfl' E59
    have gd0 : n0 ≤ d := Nat.le_trans Z0 ge_d_h0
    refine w_dup X59.here hx (hb hby d_method_4_64) rfl (pc' := 65) rfl ?_
    refine w_iconst X59.here hx (hb hby d_method_4_65) (z := 0) rfl (pc' := 66) rfl ?_
    refine w_aloadN X59.here hx (hb hby d_method_4_66) rfl rfl (pc' := 67) rfl ?_
    refine w_iconst X59.here hx (hb hby d_method_4_67) (z := 0) rfl (pc' := 68) rfl ?_
    refine w_caload X59 hx D0.zw e59 (V.ext C61) ⟨by decide, by decide⟩ (v := (.int e0')) rfl (hb hby d_method_4_68) (pc' := 69) rfl ?_
    refine w_castore X59 hx D0.zw e59 VD ⟨by decide, by decide⟩ 0 rfl (Nat.le_of_ble_eq_true rfl) (hb hby d_method_4_69) (pc' := 70) rfl ?_
    intro T63 h63 X63 e63 W63 VD
    have C64 : Ext h0 h63 := Ext.wr C60 W63 ge_d_h0
    have C65 : Ext h h63 := Ext.wr C61 W63 ge_d_h
    have C66 : Ext h56 h63 := Ext.wr C62 W63 ge_d_h56
    have N63 := Fr.snoc X63 N0 gd0
    have VD : Arv Z h63 d kd .char (Int32.ofNat 1) ([e0'].map Value.int) (.int 0) := by have q := VD; rw [nar_c (hb16 e0' (by simp))] at q; exact q
    refine w_special X63 hx D0.zw (y := (⟨"java/lang/String", "<init>", "([C)V"⟩ : MethodName)) rfl D0.ow (hw _ (List.mem_of_getElem? (i := 16) rfl)) (hw _ (List.mem_of_getElem? (i := 17) rfl)) (hw _ (List.mem_of_getElem? (i := 18) rfl)) (by decide) (backC (W := 1) (rmI1 l Z a0 hw x d kd 1 z [e0'] _ _ _ h63 n0 (Nat.le_trans Z0 C64.1) gx0 (Su.ext C64) VD rfl (by decide) (by decide) hb16 (A56.ext C66) (FV.ext C66) (FC.ext C66)) D0.zw (hw _ (List.mem_of_getElem? (i := 18) rfl)) (hw _ (List.mem_of_getElem? (i := 15) rfl)) (by decide) (by decide)) e63 (by rw [hml]; rfl) (argsL := [(.ref d)]) (st := [(.ref x)]) pd_13 rfl rfl rfl (Nat.le_of_ble_eq_true rfl) (hb hby d_method_4_70) (by decide) (by decide) (pc' := 73) rfl ?_
    intro T67 v67 L67 X67 Q67
    obtain ⟨rfl, Nn, Kn, GX⟩ := Q67
    show Go _ _ _ _ T67 (mkF m 73 #[.val (.int c0), .val (.int c1), .val (.int (Int32.ofNat n)), .val (.ref u), .val (.int (1 : Int32))] [(.ref x)])
    have En : Ext h0 T67.heap := Ext.kp C64 Kn (allS ge_x_h0 all0)
    have N1 := Fr.app N63 Nn
    have Dn := (D0.ext C65).keep Kn (sfS (Safe.null (D0.ext C65).2.1.alike (A56.ext C66) (FV.ext C66)) sf0)
    exact endRW X67 hx Dn rfl hlk rfl hret rfl (hb hby d_method_4_73) (by decide) (by decide) (⟨x, rfl, N1, En, GX⟩)
  · show Go _ _ _ _ T (mkF m 35 #[.val (.int c0), .val (.int c1), .val (.int (Int32.ofNat n)), .val (.ref u), .val (.int (2 : Int32))] [])
    refine w_iload X0.here hx (hb hby d_method_4_35) rfl (pc' := 37) rfl ?_
    refine w_ifYes X0.here hx (hb hby d_method_4_37) (feq (show ¬ ((2 : Int32) = (0 : Int32)) from by decide)).2 (pc' := 51) (by decide) (by decide) ?_
    refine w_iload X0.here hx (hb hby d_method_4_51) rfl (pc' := 53) rfl ?_
    refine w_iconst X0.here hx (hb hby d_method_4_53) (z := 1) rfl (pc' := 54) rfl ?_
    refine w_icmpYes X0.here hx (hb hby d_method_4_54) (feq (show ¬ ((2 : Int32) = (1 : Int32)) from by decide)).2 (pc' := 74) (by decide) (by decide) ?_
    refine w_iload X0.here hx (hb hby d_method_4_74) rfl (pc' := 76) rfl ?_
    refine w_iconst X0.here hx (hb hby d_method_4_76) (z := 2) rfl (pc' := 77) rfl ?_
    refine w_icmpNo X0.here hx (hb hby d_method_4_77) (teq (show (2 : Int32) = (2 : Int32) from by decide)).2 (pc' := 80) rfl ?_
    refine w_new X0 hx D0.zw D0.ow (hw _ (List.mem_of_getElem? (i := 13) rfl)) (hw _ (List.mem_of_getElem? (i := 14) rfl)) (hw _ (List.mem_of_getElem? (i := 15) rfl)) e0 (hb hby d_method_4_80) (by decide) (by decide) (pc' := 83) rfl ?_
    intro T68 h68 x gx X68 e68 E68 A68 D68 U68
    have ge_x_h0 : h0.size ≤ x := Nat.le_trans (E0 : Ext h0 h).1 (Nat.le_of_eq gx)
    have ge_x_h : h.size ≤ x := Nat.le_trans (Ext.rfl' : Ext h h).1 (Nat.le_of_eq gx)
    have C69 : Ext h0 h68 := Ext.trs E0 E68
    have C70 : Ext h h68 := Ext.trs Ext.rfl' E68
    have gx0 : n0 ≤ x := Nat.le_trans Z0 ge_x_h0
    have FV : Fld Z h68 x "java/lang/String" "value" "[B" .null := D68 (Or.inr (hw _ (List.mem_of_getElem? (i := 28) rfl))) (ty := (.array .byte)) (by decide)
    have FC : Fld Z h68 x "java/lang/String" "coder" "B" (.int (0 : Int32)) := D68 (Or.inr (hw _ (List.mem_of_getElem? (i := 29) rfl))) (ty := .byte) (by decide)
    refine w_dup X68.here hx (hb hby d_method_4_83) rfl (pc' := 84) rfl ?_
    refine w_iconst X68.here hx (hb hby d_method_4_84) (z := 2) rfl (pc' := 85) rfl ?_
    refine w_newarray X68 hx D0.zw (ty := .char) (dv := (.int 0)) rfl rfl (hw _ (List.mem_of_getElem? (i := 12) rfl)) e68 (n := (2 : Int32)) (hb hby d_method_4_85) (by decide) (cap := 2) (by decide) (by decide) (by decide) (by decide) (pc' := 87) rfl ?_
    intro T71 h71 d kd gd X71 e71 E71 VD
    have ge_d_h0 : h0.size ≤ d := Nat.le_trans (C69 : Ext h0 h68).1 (Nat.le_of_eq gd)
    have ge_d_h : h.size ≤ d := Nat.le_trans (C70 : Ext h h68).1 (Nat.le_of_eq gd)
    have ge_d_h68 : h68.size ≤ d := Nat.le_trans (Ext.rfl' : Ext h68 h68).1 (Nat.le_of_eq gd)
    have C72 : Ext h0 h71 := Ext.trs C69 E71
    have C73 : Ext h h71 := Ext.trs C70 E71
    have C74 : Ext h68 h71 := Ext.trs Ext.rfl' E71
    have gd0 : n0 ≤ d := Nat.le_trans Z0 ge_d_h0
    refine w_dup X71.here hx (hb hby d_method_4_87) rfl (pc' := 88) rfl ?_
    refine w_iconst X71.here hx (hb hby d_method_4_88) (z := 0) rfl (pc' := 89) rfl ?_
    refine w_aloadN X71.here hx (hb hby d_method_4_89) rfl rfl (pc' := 90) rfl ?_
    refine w_iconst X71.here hx (hb hby d_method_4_90) (z := 0) rfl (pc' := 91) rfl ?_
    refine w_caload X71 hx D0.zw e71 (V.ext C73) ⟨by decide, by decide⟩ (v := (.int e0')) rfl (hb hby d_method_4_91) (pc' := 92) rfl ?_
    refine w_castore X71 hx D0.zw e71 VD ⟨by decide, by decide⟩ 0 rfl (Nat.le_of_ble_eq_true rfl) (hb hby d_method_4_92) (pc' := 93) rfl ?_
    intro T75 h75 X75 e75 W75 VD
    have C76 : Ext h0 h75 := Ext.wr C72 W75 ge_d_h0
    have C77 : Ext h h75 := Ext.wr C73 W75 ge_d_h
    have C78 : Ext h68 h75 := Ext.wr C74 W75 ge_d_h68
    have N75 := Fr.snoc X75 N0 gd0
    refine w_dup X75.here hx (hb hby d_method_4_93) rfl (pc' := 94) rfl ?_
    refine w_iconst X75.here hx (hb hby d_method_4_94) (z := 1) rfl (pc' := 95) rfl ?_
    refine w_aloadN X75.here hx (hb hby d_method_4_95) rfl rfl (pc' := 96) rfl ?_
    refine w_iconst X75.here hx (hb hby d_method_4_96) (z := 1) rfl (pc' := 97) rfl ?_
    refine w_caload X75 hx D0.zw e75 (V.ext C77) ⟨by decide, by decide⟩ (v := (.int e1')) rfl (hb hby d_method_4_97) (pc' := 98) rfl ?_
    refine w_castore X75 hx D0.zw e75 VD ⟨by decide, by decide⟩ 1 rfl (Nat.le_of_ble_eq_true rfl) (hb hby d_method_4_98) (pc' := 99) rfl ?_
    intro T79 h79 X79 e79 W79 VD
    have C80 : Ext h0 h79 := Ext.wr C76 W79 ge_d_h0
    have C81 : Ext h h79 := Ext.wr C77 W79 ge_d_h
    have C82 : Ext h68 h79 := Ext.wr C78 W79 ge_d_h68
    have N79 := Fr.snoc X79 N75 gd0
    have VD : Arv Z h79 d kd .char (Int32.ofNat 2) ([e0', e1'].map Value.int) (.int 0) := by have q := VD; rw [nar_c (hb16 e0' (by simp)), nar_c (hb16 e1' (by simp))] at q; exact q
    refine w_special X79 hx D0.zw (y := (⟨"java/lang/String", "<init>", "([C)V"⟩ : MethodName)) rfl D0.ow (hw _ (List.mem_of_getElem? (i := 16) rfl)) (hw _ (List.mem_of_getElem? (i := 17) rfl)) (hw _ (List.mem_of_getElem? (i := 18) rfl)) (by decide) (backC (W := 1) (rmI1 l Z a0 hw x d kd 2 z [e0', e1'] _ _ _ h79 n0 (Nat.le_trans Z0 C80.1) gx0 (Su.ext C80) VD rfl (by decide) (by decide) hb16 (A68.ext C82) (FV.ext C82) (FC.ext C82)) D0.zw (hw _ (List.mem_of_getElem? (i := 18) rfl)) (hw _ (List.mem_of_getElem? (i := 15) rfl)) (by decide) (by decide)) e79 (by rw [hml]; rfl) (argsL := [(.ref d)]) (st := [(.ref x)]) pd_13 rfl rfl rfl (Nat.le_of_ble_eq_true rfl) (hb hby d_method_4_99) (by decide) (by decide) (pc' := 102) rfl ?_
    intro T83 v83 L83 X83 Q83
    obtain ⟨rfl, Nn, Kn, GX⟩ := Q83
    show Go _ _ _ _ T83 (mkF m 102 #[.val (.int c0), .val (.int c1), .val (.int (Int32.ofNat n)), .val (.ref u), .val (.int (2 : Int32))] [(.ref x)])
    have En : Ext h0 T83.heap := Ext.kp C80 Kn (allS ge_x_h0 all0)
    have N1 := Fr.app N79 Nn
    have Dn := (D0.ext C81).keep Kn (sfS (Safe.null (D0.ext C81).2.1.alike (A68.ext C82) (FV.ext C82)) sf0)
    exact endRW X83 hx Dn rfl hlk rfl hret rfl (hb hby d_method_4_102) (by decide) (by decide) (⟨x, rfl, N1, En, GX⟩)
  · show Go _ _ _ _ T (mkF m 35 #[.val (.int c0), .val (.int c1), .val (.int (Int32.ofNat n)), .val (.ref u), .val (.int (3 : Int32))] [])
    refine w_iload X0.here hx (hb hby d_method_4_35) rfl (pc' := 37) rfl ?_
    refine w_ifYes X0.here hx (hb hby d_method_4_37) (feq (show ¬ ((3 : Int32) = (0 : Int32)) from by decide)).2 (pc' := 51) (by decide) (by decide) ?_
    refine w_iload X0.here hx (hb hby d_method_4_51) rfl (pc' := 53) rfl ?_
    refine w_iconst X0.here hx (hb hby d_method_4_53) (z := 1) rfl (pc' := 54) rfl ?_
    refine w_icmpYes X0.here hx (hb hby d_method_4_54) (feq (show ¬ ((3 : Int32) = (1 : Int32)) from by decide)).2 (pc' := 74) (by decide) (by decide) ?_
    refine w_iload X0.here hx (hb hby d_method_4_74) rfl (pc' := 76) rfl ?_
    refine w_iconst X0.here hx (hb hby d_method_4_76) (z := 2) rfl (pc' := 77) rfl ?_
    refine w_icmpYes X0.here hx (hb hby d_method_4_77) (feq (show ¬ ((3 : Int32) = (2 : Int32)) from by decide)).2 (pc' := 103) (by decide) (by decide) ?_
    refine w_iload X0.here hx (hb hby d_method_4_103) rfl (pc' := 105) rfl ?_
    refine w_iconst X0.here hx (hb hby d_method_4_105) (z := 3) rfl (pc' := 106) rfl ?_
    refine w_icmpNo X0.here hx (hb hby d_method_4_106) (teq (show (3 : Int32) = (3 : Int32) from by decide)).2 (pc' := 109) rfl ?_
    refine w_new X0 hx D0.zw D0.ow (hw _ (List.mem_of_getElem? (i := 13) rfl)) (hw _ (List.mem_of_getElem? (i := 14) rfl)) (hw _ (List.mem_of_getElem? (i := 15) rfl)) e0 (hb hby d_method_4_109) (by decide) (by decide) (pc' := 112) rfl ?_
    intro T84 h84 x gx X84 e84 E84 A84 D84 U84
    have ge_x_h0 : h0.size ≤ x := Nat.le_trans (E0 : Ext h0 h).1 (Nat.le_of_eq gx)
    have ge_x_h : h.size ≤ x := Nat.le_trans (Ext.rfl' : Ext h h).1 (Nat.le_of_eq gx)
    have C85 : Ext h0 h84 := Ext.trs E0 E84
    have C86 : Ext h h84 := Ext.trs Ext.rfl' E84
    have gx0 : n0 ≤ x := Nat.le_trans Z0 ge_x_h0
    have FV : Fld Z h84 x "java/lang/String" "value" "[B" .null := D84 (Or.inr (hw _ (List.mem_of_getElem? (i := 28) rfl))) (ty := (.array .byte)) (by decide)
    have FC : Fld Z h84 x "java/lang/String" "coder" "B" (.int (0 : Int32)) := D84 (Or.inr (hw _ (List.mem_of_getElem? (i := 29) rfl))) (ty := .byte) (by decide)
    refine w_dup X84.here hx (hb hby d_method_4_112) rfl (pc' := 113) rfl ?_
    refine w_iconst X84.here hx (hb hby d_method_4_113) (z := 3) rfl (pc' := 114) rfl ?_
    refine w_newarray X84 hx D0.zw (ty := .char) (dv := (.int 0)) rfl rfl (hw _ (List.mem_of_getElem? (i := 12) rfl)) e84 (n := (3 : Int32)) (hb hby d_method_4_114) (by decide) (cap := 3) (by decide) (by decide) (by decide) (by decide) (pc' := 116) rfl ?_
    intro T87 h87 d kd gd X87 e87 E87 VD
    have ge_d_h0 : h0.size ≤ d := Nat.le_trans (C85 : Ext h0 h84).1 (Nat.le_of_eq gd)
    have ge_d_h : h.size ≤ d := Nat.le_trans (C86 : Ext h h84).1 (Nat.le_of_eq gd)
    have ge_d_h84 : h84.size ≤ d := Nat.le_trans (Ext.rfl' : Ext h84 h84).1 (Nat.le_of_eq gd)
    have C88 : Ext h0 h87 := Ext.trs C85 E87
    have C89 : Ext h h87 := Ext.trs C86 E87
    have C90 : Ext h84 h87 := Ext.trs Ext.rfl' E87
    have gd0 : n0 ≤ d := Nat.le_trans Z0 ge_d_h0
    refine w_dup X87.here hx (hb hby d_method_4_116) rfl (pc' := 117) rfl ?_
    refine w_iconst X87.here hx (hb hby d_method_4_117) (z := 0) rfl (pc' := 118) rfl ?_
    refine w_aloadN X87.here hx (hb hby d_method_4_118) rfl rfl (pc' := 119) rfl ?_
    refine w_iconst X87.here hx (hb hby d_method_4_119) (z := 0) rfl (pc' := 120) rfl ?_
    refine w_caload X87 hx D0.zw e87 (V.ext C89) ⟨by decide, by decide⟩ (v := (.int e0')) rfl (hb hby d_method_4_120) (pc' := 121) rfl ?_
    refine w_castore X87 hx D0.zw e87 VD ⟨by decide, by decide⟩ 0 rfl (Nat.le_of_ble_eq_true rfl) (hb hby d_method_4_121) (pc' := 122) rfl ?_
    intro T91 h91 X91 e91 W91 VD
    have C92 : Ext h0 h91 := Ext.wr C88 W91 ge_d_h0
    have C93 : Ext h h91 := Ext.wr C89 W91 ge_d_h
    have C94 : Ext h84 h91 := Ext.wr C90 W91 ge_d_h84
    have N91 := Fr.snoc X91 N0 gd0
    refine w_dup X91.here hx (hb hby d_method_4_122) rfl (pc' := 123) rfl ?_
    refine w_iconst X91.here hx (hb hby d_method_4_123) (z := 1) rfl (pc' := 124) rfl ?_
    refine w_aloadN X91.here hx (hb hby d_method_4_124) rfl rfl (pc' := 125) rfl ?_
    refine w_iconst X91.here hx (hb hby d_method_4_125) (z := 1) rfl (pc' := 126) rfl ?_
    refine w_caload X91 hx D0.zw e91 (V.ext C93) ⟨by decide, by decide⟩ (v := (.int e1')) rfl (hb hby d_method_4_126) (pc' := 127) rfl ?_
    refine w_castore X91 hx D0.zw e91 VD ⟨by decide, by decide⟩ 1 rfl (Nat.le_of_ble_eq_true rfl) (hb hby d_method_4_127) (pc' := 128) rfl ?_
    intro T95 h95 X95 e95 W95 VD
    have C96 : Ext h0 h95 := Ext.wr C92 W95 ge_d_h0
    have C97 : Ext h h95 := Ext.wr C93 W95 ge_d_h
    have C98 : Ext h84 h95 := Ext.wr C94 W95 ge_d_h84
    have N95 := Fr.snoc X95 N91 gd0
    refine w_dup X95.here hx (hb hby d_method_4_128) rfl (pc' := 129) rfl ?_
    refine w_iconst X95.here hx (hb hby d_method_4_129) (z := 2) rfl (pc' := 130) rfl ?_
    refine w_aloadN X95.here hx (hb hby d_method_4_130) rfl rfl (pc' := 131) rfl ?_
    refine w_iconst X95.here hx (hb hby d_method_4_131) (z := 2) rfl (pc' := 132) rfl ?_
    refine w_caload X95 hx D0.zw e95 (V.ext C97) ⟨by decide, by decide⟩ (v := (.int e2')) rfl (hb hby d_method_4_132) (pc' := 133) rfl ?_
    refine w_castore X95 hx D0.zw e95 VD ⟨by decide, by decide⟩ 2 rfl (Nat.le_of_ble_eq_true rfl) (hb hby d_method_4_133) (pc' := 134) rfl ?_
    intro T99 h99 X99 e99 W99 VD
    have C100 : Ext h0 h99 := Ext.wr C96 W99 ge_d_h0
    have C101 : Ext h h99 := Ext.wr C97 W99 ge_d_h
    have C102 : Ext h84 h99 := Ext.wr C98 W99 ge_d_h84
    have N99 := Fr.snoc X99 N95 gd0
    have VD : Arv Z h99 d kd .char (Int32.ofNat 3) ([e0', e1', e2'].map Value.int) (.int 0) := by have q := VD; rw [nar_c (hb16 e0' (by simp)), nar_c (hb16 e1' (by simp)), nar_c (hb16 e2' (by simp))] at q; exact q
    refine w_special X99 hx D0.zw (y := (⟨"java/lang/String", "<init>", "([C)V"⟩ : MethodName)) rfl D0.ow (hw _ (List.mem_of_getElem? (i := 16) rfl)) (hw _ (List.mem_of_getElem? (i := 17) rfl)) (hw _ (List.mem_of_getElem? (i := 18) rfl)) (by decide) (backC (W := 1) (rmI1 l Z a0 hw x d kd 3 z [e0', e1', e2'] _ _ _ h99 n0 (Nat.le_trans Z0 C100.1) gx0 (Su.ext C100) VD rfl (by decide) (by decide) hb16 (A84.ext C102) (FV.ext C102) (FC.ext C102)) D0.zw (hw _ (List.mem_of_getElem? (i := 18) rfl)) (hw _ (List.mem_of_getElem? (i := 15) rfl)) (by decide) (by decide)) e99 (by rw [hml]; rfl) (argsL := [(.ref d)]) (st := [(.ref x)]) pd_13 rfl rfl rfl (Nat.le_of_ble_eq_true rfl) (hb hby d_method_4_134) (by decide) (by decide) (pc' := 137) rfl ?_
    intro T103 v103 L103 X103 Q103
    obtain ⟨rfl, Nn, Kn, GX⟩ := Q103
    show Go _ _ _ _ T103 (mkF m 137 #[.val (.int c0), .val (.int c1), .val (.int (Int32.ofNat n)), .val (.ref u), .val (.int (3 : Int32))] [(.ref x)])
    have En : Ext h0 T103.heap := Ext.kp C100 Kn (allS ge_x_h0 all0)
    have N1 := Fr.app N99 Nn
    have Dn := (D0.ext C101).keep Kn (sfS (Safe.null (D0.ext C101).2.1.alike (A84.ext C102) (FV.ext C102)) sf0)
    exact endRW X103 hx Dn rfl hlk rfl hret rfl (hb hby d_method_4_137) (by decide) (by decide) (⟨x, rfl, N1, En, GX⟩)
  · show Go _ _ _ _ T (mkF m 35 #[.val (.int c0), .val (.int c1), .val (.int (Int32.ofNat n)), .val (.ref u), .val (.int (4 : Int32))] [])
    refine w_iload X0.here hx (hb hby d_method_4_35) rfl (pc' := 37) rfl ?_
    refine w_ifYes X0.here hx (hb hby d_method_4_37) (feq (show ¬ ((4 : Int32) = (0 : Int32)) from by decide)).2 (pc' := 51) (by decide) (by decide) ?_
    refine w_iload X0.here hx (hb hby d_method_4_51) rfl (pc' := 53) rfl ?_
    refine w_iconst X0.here hx (hb hby d_method_4_53) (z := 1) rfl (pc' := 54) rfl ?_
    refine w_icmpYes X0.here hx (hb hby d_method_4_54) (feq (show ¬ ((4 : Int32) = (1 : Int32)) from by decide)).2 (pc' := 74) (by decide) (by decide) ?_
    refine w_iload X0.here hx (hb hby d_method_4_74) rfl (pc' := 76) rfl ?_
    refine w_iconst X0.here hx (hb hby d_method_4_76) (z := 2) rfl (pc' := 77) rfl ?_
    refine w_icmpYes X0.here hx (hb hby d_method_4_77) (feq (show ¬ ((4 : Int32) = (2 : Int32)) from by decide)).2 (pc' := 103) (by decide) (by decide) ?_
    refine w_iload X0.here hx (hb hby d_method_4_103) rfl (pc' := 105) rfl ?_
    refine w_iconst X0.here hx (hb hby d_method_4_105) (z := 3) rfl (pc' := 106) rfl ?_
    refine w_icmpYes X0.here hx (hb hby d_method_4_106) (feq (show ¬ ((4 : Int32) = (3 : Int32)) from by decide)).2 (pc' := 138) (by decide) (by decide) ?_
    refine w_new X0 hx D0.zw D0.ow (hw _ (List.mem_of_getElem? (i := 13) rfl)) (hw _ (List.mem_of_getElem? (i := 14) rfl)) (hw _ (List.mem_of_getElem? (i := 15) rfl)) e0 (hb hby d_method_4_138) (by decide) (by decide) (pc' := 141) rfl ?_
    intro T104 h104 x gx X104 e104 E104 A104 D104 U104
    have ge_x_h0 : h0.size ≤ x := Nat.le_trans (E0 : Ext h0 h).1 (Nat.le_of_eq gx)
    have ge_x_h : h.size ≤ x := Nat.le_trans (Ext.rfl' : Ext h h).1 (Nat.le_of_eq gx)
    have C105 : Ext h0 h104 := Ext.trs E0 E104
    have C106 : Ext h h104 := Ext.trs Ext.rfl' E104
    have gx0 : n0 ≤ x := Nat.le_trans Z0 ge_x_h0
    have FV : Fld Z h104 x "java/lang/String" "value" "[B" .null := D104 (Or.inr (hw _ (List.mem_of_getElem? (i := 28) rfl))) (ty := (.array .byte)) (by decide)
    have FC : Fld Z h104 x "java/lang/String" "coder" "B" (.int (0 : Int32)) := D104 (Or.inr (hw _ (List.mem_of_getElem? (i := 29) rfl))) (ty := .byte) (by decide)
    refine w_dup X104.here hx (hb hby d_method_4_141) rfl (pc' := 142) rfl ?_
    refine w_iconst X104.here hx (hb hby d_method_4_142) (z := 4) rfl (pc' := 143) rfl ?_
    refine w_newarray X104 hx D0.zw (ty := .char) (dv := (.int 0)) rfl rfl (hw _ (List.mem_of_getElem? (i := 12) rfl)) e104 (n := (4 : Int32)) (hb hby d_method_4_143) (by decide) (cap := 4) (by decide) (by decide) (by decide) (by decide) (pc' := 145) rfl ?_
    intro T107 h107 d kd gd X107 e107 E107 VD
    have ge_d_h0 : h0.size ≤ d := Nat.le_trans (C105 : Ext h0 h104).1 (Nat.le_of_eq gd)
    have ge_d_h : h.size ≤ d := Nat.le_trans (C106 : Ext h h104).1 (Nat.le_of_eq gd)
    have ge_d_h104 : h104.size ≤ d := Nat.le_trans (Ext.rfl' : Ext h104 h104).1 (Nat.le_of_eq gd)
    have C108 : Ext h0 h107 := Ext.trs C105 E107
    have C109 : Ext h h107 := Ext.trs C106 E107
    have C110 : Ext h104 h107 := Ext.trs Ext.rfl' E107
    have gd0 : n0 ≤ d := Nat.le_trans Z0 ge_d_h0
    refine w_dup X107.here hx (hb hby d_method_4_145) rfl (pc' := 146) rfl ?_
    refine w_iconst X107.here hx (hb hby d_method_4_146) (z := 0) rfl (pc' := 147) rfl ?_
    refine w_aloadN X107.here hx (hb hby d_method_4_147) rfl rfl (pc' := 148) rfl ?_
    refine w_iconst X107.here hx (hb hby d_method_4_148) (z := 0) rfl (pc' := 149) rfl ?_
    refine w_caload X107 hx D0.zw e107 (V.ext C109) ⟨by decide, by decide⟩ (v := (.int e0')) rfl (hb hby d_method_4_149) (pc' := 150) rfl ?_
    refine w_castore X107 hx D0.zw e107 VD ⟨by decide, by decide⟩ 0 rfl (Nat.le_of_ble_eq_true rfl) (hb hby d_method_4_150) (pc' := 151) rfl ?_
    intro T111 h111 X111 e111 W111 VD
    have C112 : Ext h0 h111 := Ext.wr C108 W111 ge_d_h0
    have C113 : Ext h h111 := Ext.wr C109 W111 ge_d_h
    have C114 : Ext h104 h111 := Ext.wr C110 W111 ge_d_h104
    have N111 := Fr.snoc X111 N0 gd0
    refine w_dup X111.here hx (hb hby d_method_4_151) rfl (pc' := 152) rfl ?_
    refine w_iconst X111.here hx (hb hby d_method_4_152) (z := 1) rfl (pc' := 153) rfl ?_
    refine w_aloadN X111.here hx (hb hby d_method_4_153) rfl rfl (pc' := 154) rfl ?_
    refine w_iconst X111.here hx (hb hby d_method_4_154) (z := 1) rfl (pc' := 155) rfl ?_
    refine w_caload X111 hx D0.zw e111 (V.ext C113) ⟨by decide, by decide⟩ (v := (.int e1')) rfl (hb hby d_method_4_155) (pc' := 156) rfl ?_
    refine w_castore X111 hx D0.zw e111 VD ⟨by decide, by decide⟩ 1 rfl (Nat.le_of_ble_eq_true rfl) (hb hby d_method_4_156) (pc' := 157) rfl ?_
    intro T115 h115 X115 e115 W115 VD
    have C116 : Ext h0 h115 := Ext.wr C112 W115 ge_d_h0
    have C117 : Ext h h115 := Ext.wr C113 W115 ge_d_h
    have C118 : Ext h104 h115 := Ext.wr C114 W115 ge_d_h104
    have N115 := Fr.snoc X115 N111 gd0
    refine w_dup X115.here hx (hb hby d_method_4_157) rfl (pc' := 158) rfl ?_
    refine w_iconst X115.here hx (hb hby d_method_4_158) (z := 2) rfl (pc' := 159) rfl ?_
    refine w_aloadN X115.here hx (hb hby d_method_4_159) rfl rfl (pc' := 160) rfl ?_
    refine w_iconst X115.here hx (hb hby d_method_4_160) (z := 2) rfl (pc' := 161) rfl ?_
    refine w_caload X115 hx D0.zw e115 (V.ext C117) ⟨by decide, by decide⟩ (v := (.int e2')) rfl (hb hby d_method_4_161) (pc' := 162) rfl ?_
    refine w_castore X115 hx D0.zw e115 VD ⟨by decide, by decide⟩ 2 rfl (Nat.le_of_ble_eq_true rfl) (hb hby d_method_4_162) (pc' := 163) rfl ?_
    intro T119 h119 X119 e119 W119 VD
    have C120 : Ext h0 h119 := Ext.wr C116 W119 ge_d_h0
    have C121 : Ext h h119 := Ext.wr C117 W119 ge_d_h
    have C122 : Ext h104 h119 := Ext.wr C118 W119 ge_d_h104
    have N119 := Fr.snoc X119 N115 gd0
    refine w_dup X119.here hx (hb hby d_method_4_163) rfl (pc' := 164) rfl ?_
    refine w_iconst X119.here hx (hb hby d_method_4_164) (z := 3) rfl (pc' := 165) rfl ?_
    refine w_aloadN X119.here hx (hb hby d_method_4_165) rfl rfl (pc' := 166) rfl ?_
    refine w_iconst X119.here hx (hb hby d_method_4_166) (z := 3) rfl (pc' := 167) rfl ?_
    refine w_caload X119 hx D0.zw e119 (V.ext C121) ⟨by decide, by decide⟩ (v := (.int e3')) rfl (hb hby d_method_4_167) (pc' := 168) rfl ?_
    refine w_castore X119 hx D0.zw e119 VD ⟨by decide, by decide⟩ 3 rfl (Nat.le_of_ble_eq_true rfl) (hb hby d_method_4_168) (pc' := 169) rfl ?_
    intro T123 h123 X123 e123 W123 VD
    have C124 : Ext h0 h123 := Ext.wr C120 W123 ge_d_h0
    have C125 : Ext h h123 := Ext.wr C121 W123 ge_d_h
    have C126 : Ext h104 h123 := Ext.wr C122 W123 ge_d_h104
    have N123 := Fr.snoc X123 N119 gd0
    have VD : Arv Z h123 d kd .char (Int32.ofNat 4) ([e0', e1', e2', e3'].map Value.int) (.int 0) := by have q := VD; rw [nar_c (hb16 e0' (by simp)), nar_c (hb16 e1' (by simp)), nar_c (hb16 e2' (by simp)), nar_c (hb16 e3' (by simp))] at q; exact q
    refine w_special X123 hx D0.zw (y := (⟨"java/lang/String", "<init>", "([C)V"⟩ : MethodName)) rfl D0.ow (hw _ (List.mem_of_getElem? (i := 16) rfl)) (hw _ (List.mem_of_getElem? (i := 17) rfl)) (hw _ (List.mem_of_getElem? (i := 18) rfl)) (by decide) (backC (W := 1) (rmI1 l Z a0 hw x d kd 4 z [e0', e1', e2', e3'] _ _ _ h123 n0 (Nat.le_trans Z0 C124.1) gx0 (Su.ext C124) VD rfl (by decide) (by decide) hb16 (A104.ext C126) (FV.ext C126) (FC.ext C126)) D0.zw (hw _ (List.mem_of_getElem? (i := 18) rfl)) (hw _ (List.mem_of_getElem? (i := 15) rfl)) (by decide) (by decide)) e123 (by rw [hml]; rfl) (argsL := [(.ref d)]) (st := [(.ref x)]) pd_13 rfl rfl rfl (Nat.le_of_ble_eq_true rfl) (hb hby d_method_4_169) (by decide) (by decide) (pc' := 172) rfl ?_
    intro T127 v127 L127 X127 Q127
    obtain ⟨rfl, Nn, Kn, GX⟩ := Q127
    show Go _ _ _ _ T127 (mkF m 172 #[.val (.int c0), .val (.int c1), .val (.int (Int32.ofNat n)), .val (.ref u), .val (.int (4 : Int32))] [(.ref x)])
    have En : Ext h0 T127.heap := Ext.kp C124 Kn (allS ge_x_h0 all0)
    have N1 := Fr.app N123 Nn
    have Dn := (D0.ext C125).keep Kn (sfS (Safe.null (D0.ext C125).2.1.alike (A104.ext C126) (FV.ext C126)) sf0)
    exact endRW X127 hx Dn rfl hlk rfl hret rfl (hb hby d_method_4_172) (by decide) (by decide) (⟨x, rfl, N1, En, GX⟩)
  · simp at hle <;> omega

def encL (c0 c1 : Int32) (n : Nat) : List Int32 := (if 1 ≤ n then uni c0 else []) ++ (if 2 ≤ n then uni c1 else [])
theorem encL_len (c0 c1 : Int32) (n : Nat) : (encL c0 c1 n).length ≤ 4 := by
  have h0 := uni_len c0; have h1 := uni_len c1
  unfold encL; split <;> split <;> simp <;> omega
theorem encL_rng {c0 c1 : Int32} (h0 : okC c0) (h1 : okC c1) (n : Nat) : ∀ u ∈ encL c0 c1 n, ¬ u < 0 ∧ ¬ (65535 : Int32) < u := by
  intro u hu
  unfold encL at hu
  rcases List.mem_append.mp hu with q | q
  · split at q
    · exact uni_rng h0 u q
    · simp at q
  · split at q
    · exact uni_rng h1 u q
    · simp at q

theorem d_method_4_0 : decode method_4_code 0 = .ok (.iconst 4, 1) := by decide +kernel
theorem d_method_4_1 : decode method_4_code 1 = .ok (.newarray .char, 2) := by decide +kernel
theorem d_method_4_3 : decode method_4_code 3 = .ok (.astore_n 3, 1) := by decide +kernel
theorem d_method_4_4 : decode method_4_code 4 = .ok (.iconst 0, 1) := by decide +kernel
theorem d_method_4_5 : decode method_4_code 5 = .ok (.istore 4, 2) := by decide +kernel
theorem d_method_4_7 : decode method_4_code 7 = .ok (.iload_n 2, 1) := by decide +kernel
theorem d_method_4_8 : decode method_4_code 8 = .ok (.iconst 1, 1) := by decide +kernel
theorem d_method_4_9 : decode method_4_code 9 = .ok (.if_icmp .lt 12, 3) := by decide +kernel
theorem d_method_4_21 : decode method_4_code 21 = .ok (.iload_n 2, 1) := by decide +kernel
theorem d_method_4_22 : decode method_4_code 22 = .ok (.iconst 2, 1) := by decide +kernel
theorem d_method_4_23 : decode method_4_code 23 = .ok (.if_icmp .lt 12, 3) := by decide +kernel
theorem d_method_4_12 : decode method_4_code 12 = .ok (.aload_n 3, 1) := by decide +kernel
theorem d_method_4_13 : decode method_4_code 13 = .ok (.iload 4, 2) := by decide +kernel
theorem d_method_4_15 : decode method_4_code 15 = .ok (.iload_n 0, 1) := by decide +kernel
theorem pd_14 : parseMethodDescriptor "([CII)I" = some ⟨[(.array .char), .int, .int], some .int⟩ := by decide +kernel
theorem d_method_4_16 : decode method_4_code 16 = .ok (.invokestatic 13, 3) := by decide +kernel
theorem d_method_4_19 : decode method_4_code 19 = .ok (.istore 4, 2) := by decide +kernel
theorem d_method_4_26 : decode method_4_code 26 = .ok (.aload_n 3, 1) := by decide +kernel
theorem d_method_4_27 : decode method_4_code 27 = .ok (.iload 4, 2) := by decide +kernel
theorem d_method_4_29 : decode method_4_code 29 = .ok (.iload_n 1, 1) := by decide +kernel
theorem d_method_4_30 : decode method_4_code 30 = .ok (.invokestatic 13, 3) := by decide +kernel
theorem d_method_4_33 : decode method_4_code 33 = .ok (.istore 4, 2) := by decide +kernel
set_option maxRecDepth 65536 in
set_option maxHeartbeats 40000000 in
theorem rmEnc (l : Launch) (Z : State) (a0 : Array Value) (hw : ∀ d ∈ tables_1, d.before a0 Z = true) (hEL : EW Z a0 [("java/lang/String", 7)]) (c0 c1 z : Int32) (n : Nat) (h0 : Heap) (n0 : Nat) (Z0 : n0 ≤ h0.size) (hn : n ≤ 2) (hc0 : okC c0) (hc1 : okC c1) (Su : SU Z h0 z) :
    CtW l (⟨"com/example/strict_censor/strictcensor/core/TermCompareCodePointsPinLaw", "enc", "(III)Ljava/lang/String;"⟩ : MethodName) method_4_code 5 (some (.object "java/lang/String")) ({ frames := 6, cells := 5, slots := 24, locals := 88 } : Room) Z [("java/lang/String", 7)] #[(.int c0), (.int c1), (.int (Int32.ofNat n))] h0 (fun v h L => ∃ x, v = some (.ref x) ∧ Fr n0 L ∧ Ext h0 h ∧ StrOf Z h x (encL c0 c1 n)) := by
  refine ct_ofW (Q := fun v h L => ∃ x, v = some (.ref x) ∧ Fr n0 L ∧ Ext h0 h ∧ StrOf Z h x (encL c0 c1 n)) (plainFor_of_name pn_4) hEL ?_
  intro p e s m below meth c s₁ X0 hx hby hml hret hnm hlk D0 hs0 e0
  have N0 := Fr.nil n0
  rw [show entryFrame m #[(.int c0), (.int c1), (.int (Int32.ofNat n))] 5 = mkF m 0 #[.val (.int c0), .val (.int c1), .val (.int (Int32.ofNat n)), .unset, .unset] [] from by first | (simp [entryFrame, mkF, argsToLocals, Value.category]; done) | rfl]
  refine w_iconst X0.here hx (hb hby d_method_4_0) (z := 4) rfl (pc' := 1) rfl ?_
  refine w_newarray X0 hx D0.zw (ty := .char) (dv := (.int 0)) rfl rfl (hw _ (List.mem_of_getElem? (i := 12) rfl)) e0 (n := (4 : Int32)) (hb hby d_method_4_1) (by decide) (cap := 4) (by decide) (by decide) (by decide) (by decide) (pc' := 3) rfl ?_
  intro T128 h128 u ku gu X128 e128 E128 V
  have ge_u_h0 : h0.size ≤ u := Nat.le_trans (Ext.rfl' : Ext h0 h0).1 (Nat.le_of_eq gu)
  have C129 : Ext h0 h128 := Ext.trs Ext.rfl' E128
  have gu : n0 ≤ u := Nat.le_trans Z0 ge_u_h0
  have V : Arv Z h128 u ku .char (Int32.ofNat 4) (padC []) (.int 0) := V
  refine w_astoreN X128.here hx (hb hby d_method_4_3) rfl (l' := #[.val (.int c0), .val (.int c1), .val (.int (Int32.ofNat n)), .val (.ref u), .unset]) rfl (pc' := 4) rfl ?_
  refine w_iconst X128.here hx (hb hby d_method_4_4) (z := 0) rfl (pc' := 5) rfl ?_
  refine w_istore X128.here hx (hb hby d_method_4_5) (l' := #[.val (.int c0), .val (.int c1), .val (.int (Int32.ofNat n)), .val (.ref u), .val (.int (0 : Int32))]) rfl (pc' := 7) rfl ?_
  refine w_iloadN X128.here hx (hb hby d_method_4_7) rfl (pc' := 8) rfl ?_
  refine w_iconst X128.here hx (hb hby d_method_4_8) (z := 1) rfl (pc' := 9) rfl ?_
  have hn3 : n = 0 ∨ n = 1 ∨ n = 2 := by omega
  rcases hn3 with rfl | rfl | rfl
  · show Go _ _ _ _ T128 (mkF m 9 #[.val (.int c0), .val (.int c1), .val (.int (0 : Int32)), .val (.ref u), .val (.int (0 : Int32))] [(.int (1 : Int32)), (.int (0 : Int32))])
    refine w_icmpYes X128.here hx (hb hby d_method_4_9) (tlt (show (0 : Int32) < (1 : Int32) from by decide)).1 (pc' := 21) (by decide) (by decide) ?_
    refine w_iloadN X128.here hx (hb hby d_method_4_21) rfl (pc' := 22) rfl ?_
    refine w_iconst X128.here hx (hb hby d_method_4_22) (z := 2) rfl (pc' := 23) rfl ?_
    refine w_icmpYes X128.here hx (hb hby d_method_4_23) (tlt (show (0 : Int32) < (2 : Int32) from by decide)).1 (pc' := 35) (by decide) (by decide) ?_
    exact tailE (P := fun _ => True) (R := room_1) (cells := 0) (slots := 0) Z a0 hw hx hby hml hEL hret hlk c0 c1 z u ku 0 n0 (encL c0 c1 0) h0 _ Z0 (encL_len _ _ _) (encL_rng hc0 hc1 0) X128 e128 N0 C129 (D0.ext C129) V Su
  · show Go _ _ _ _ T128 (mkF m 9 #[.val (.int c0), .val (.int c1), .val (.int (1 : Int32)), .val (.ref u), .val (.int (0 : Int32))] [(.int (1 : Int32)), (.int (1 : Int32))])
    refine w_icmpNo X128.here hx (hb hby d_method_4_9) (flt (show ¬ ((1 : Int32) < (1 : Int32)) from by decide)).1 (pc' := 12) rfl ?_
    refine w_aloadN X128.here hx (hb hby d_method_4_12) rfl rfl (pc' := 13) rfl ?_
    refine w_iload X128.here hx (hb hby d_method_4_13) rfl (pc' := 15) rfl ?_
    refine w_iloadN X128.here hx (hb hby d_method_4_15) rfl (pc' := 16) rfl ?_
    refine w_static X128 hx D0.zw (y := (⟨"com/example/strict_censor/strictcensor/core/TermCompareCodePointsPinLaw", "put", "([CII)I"⟩ : MethodName)) D0.ow (hw _ (List.mem_of_getElem? (i := 53) rfl)) (hw _ (List.mem_of_getElem? (i := 54) rfl)) (hw _ (List.mem_of_getElem? (i := 2) rfl)) (hw _ (List.mem_of_getElem? (i := 55) rfl)) (by decide) (backC (W := 0) (rmPutC l Z a0 hw u ku (0) c0 ([]) h128 n0 gu hc0 V rfl (by have := uni_len c0; simp; omega)) D0.zw (hw _ (List.mem_of_getElem? (i := 55) rfl)) (hw _ (List.mem_of_getElem? (i := 2) rfl)) (by decide) (by decide)) e128 (by rw [hml]; rfl) (argsL := [(.ref u), (.int (0 : Int32)), (.int c0)]) (st := []) pd_14 rfl rfl rfl (Nat.le_of_ble_eq_true rfl) (hb hby d_method_4_16) (by decide) (by decide) (pc' := 19) rfl ?_
    intro T130 v130 L130 X130 Q130
    obtain ⟨rfl, Np, Kp, Vp⟩ := Q130
    show Go _ _ _ _ T130 (mkF m 19 #[.val (.int c0), .val (.int c1), .val (.int (1 : Int32)), .val (.ref u), .val (.int (0 : Int32))] [(.int (Int32.ofNat (0 + (uni c0).length)))])
    have Ep : Ext h0 T130.heap := Ext.kp C129 Kp (allS ge_u_h0 all0)
    refine w_istore X130.here hx (hb hby d_method_4_19) (l' := #[.val (.int c0), .val (.int c1), .val (.int (1 : Int32)), .val (.ref u), .val (.int (Int32.ofNat (0 + (uni c0).length)))]) rfl (pc' := 21) rfl ?_
    refine w_iloadN X130.here hx (hb hby d_method_4_21) rfl (pc' := 22) rfl ?_
    refine w_iconst X130.here hx (hb hby d_method_4_22) (z := 2) rfl (pc' := 23) rfl ?_
    refine w_icmpYes X130.here hx (hb hby d_method_4_23) (tlt (show (1 : Int32) < (2 : Int32) from by decide)).1 (pc' := 35) (by decide) (by decide) ?_
    have el : encL c0 c1 1 = [] ++ uni c0 := by simp [encL]
    rw [← el] at Vp
    rw [show 0 + (uni c0).length = (encL c0 c1 1).length from by rw [el]; simp]
    exact tailE (P := fun _ => True) (R := room_1) (cells := 0) (slots := 0) Z a0 hw hx hby hml hEL hret hlk c0 c1 z u ku 1 n0 (encL c0 c1 1) h0 _ Z0 (encL_len _ _ _) (encL_rng hc0 hc1 1) X130 rfl (Fr.app N0 Np) Ep (D0.ext Ep) Vp Su
  · show Go _ _ _ _ T128 (mkF m 9 #[.val (.int c0), .val (.int c1), .val (.int (2 : Int32)), .val (.ref u), .val (.int (0 : Int32))] [(.int (1 : Int32)), (.int (2 : Int32))])
    refine w_icmpNo X128.here hx (hb hby d_method_4_9) (flt (show ¬ ((2 : Int32) < (1 : Int32)) from by decide)).1 (pc' := 12) rfl ?_
    refine w_aloadN X128.here hx (hb hby d_method_4_12) rfl rfl (pc' := 13) rfl ?_
    refine w_iload X128.here hx (hb hby d_method_4_13) rfl (pc' := 15) rfl ?_
    refine w_iloadN X128.here hx (hb hby d_method_4_15) rfl (pc' := 16) rfl ?_
    refine w_static X128 hx D0.zw (y := (⟨"com/example/strict_censor/strictcensor/core/TermCompareCodePointsPinLaw", "put", "([CII)I"⟩ : MethodName)) D0.ow (hw _ (List.mem_of_getElem? (i := 53) rfl)) (hw _ (List.mem_of_getElem? (i := 54) rfl)) (hw _ (List.mem_of_getElem? (i := 2) rfl)) (hw _ (List.mem_of_getElem? (i := 55) rfl)) (by decide) (backC (W := 0) (rmPutC l Z a0 hw u ku (0) c0 ([]) h128 n0 gu hc0 V rfl (by have := uni_len c0; simp; omega)) D0.zw (hw _ (List.mem_of_getElem? (i := 55) rfl)) (hw _ (List.mem_of_getElem? (i := 2) rfl)) (by decide) (by decide)) e128 (by rw [hml]; rfl) (argsL := [(.ref u), (.int (0 : Int32)), (.int c0)]) (st := []) pd_14 rfl rfl rfl (Nat.le_of_ble_eq_true rfl) (hb hby d_method_4_16) (by decide) (by decide) (pc' := 19) rfl ?_
    intro T131 v131 L131 X131 Q131
    obtain ⟨rfl, Np, Kp, Vp⟩ := Q131
    show Go _ _ _ _ T131 (mkF m 19 #[.val (.int c0), .val (.int c1), .val (.int (2 : Int32)), .val (.ref u), .val (.int (0 : Int32))] [(.int (Int32.ofNat (0 + (uni c0).length)))])
    have Ep : Ext h0 T131.heap := Ext.kp C129 Kp (allS ge_u_h0 all0)
    refine w_istore X131.here hx (hb hby d_method_4_19) (l' := #[.val (.int c0), .val (.int c1), .val (.int (2 : Int32)), .val (.ref u), .val (.int (Int32.ofNat (0 + (uni c0).length)))]) rfl (pc' := 21) rfl ?_
    refine w_iloadN X131.here hx (hb hby d_method_4_21) rfl (pc' := 22) rfl ?_
    refine w_iconst X131.here hx (hb hby d_method_4_22) (z := 2) rfl (pc' := 23) rfl ?_
    refine w_icmpNo X131.here hx (hb hby d_method_4_23) (flt (show ¬ ((2 : Int32) < (2 : Int32)) from by decide)).1 (pc' := 26) rfl ?_
    refine w_aloadN X131.here hx (hb hby d_method_4_26) rfl rfl (pc' := 27) rfl ?_
    refine w_iload X131.here hx (hb hby d_method_4_27) rfl (pc' := 29) rfl ?_
    refine w_iloadN X131.here hx (hb hby d_method_4_29) rfl (pc' := 30) rfl ?_
    refine w_static X131 hx D0.zw (y := (⟨"com/example/strict_censor/strictcensor/core/TermCompareCodePointsPinLaw", "put", "([CII)I"⟩ : MethodName)) D0.ow (hw _ (List.mem_of_getElem? (i := 53) rfl)) (hw _ (List.mem_of_getElem? (i := 54) rfl)) (hw _ (List.mem_of_getElem? (i := 2) rfl)) (hw _ (List.mem_of_getElem? (i := 55) rfl)) (by decide) (backC (W := 0) (rmPutC l Z a0 hw u ku (0 + (uni c0).length) c1 ([] ++ uni c0) T131.heap n0 gu hc1 Vp (by simp) (by have := uni_len c0; have := uni_len c1; omega)) D0.zw (hw _ (List.mem_of_getElem? (i := 55) rfl)) (hw _ (List.mem_of_getElem? (i := 2) rfl)) (by decide) (by decide)) rfl (by rw [hml]; rfl) (argsL := [(.ref u), (.int (Int32.ofNat (0 + (uni c0).length))), (.int c1)]) (st := []) pd_14 rfl rfl rfl (Nat.le_of_ble_eq_true rfl) (hb hby d_method_4_30) (by decide) (by decide) (pc' := 33) rfl ?_
    intro T132 v132 L132 X132 Q132
    obtain ⟨rfl, Nq, Kq, Vq⟩ := Q132
    show Go _ _ _ _ T132 (mkF m 33 #[.val (.int c0), .val (.int c1), .val (.int (2 : Int32)), .val (.ref u), .val (.int (Int32.ofNat (0 + (uni c0).length)))] [(.int (Int32.ofNat (0 + (uni c0).length + (uni c1).length)))])
    have Eq : Ext h0 T132.heap := Ext.kp Ep Kq (allS ge_u_h0 all0)
    refine w_istore X132.here hx (hb hby d_method_4_33) (l' := #[.val (.int c0), .val (.int c1), .val (.int (2 : Int32)), .val (.ref u), .val (.int (Int32.ofNat (0 + (uni c0).length + (uni c1).length)))]) rfl (pc' := 35) rfl ?_
    have el : encL c0 c1 2 = ([] ++ uni c0) ++ uni c1 := by simp [encL]
    rw [← el] at Vq
    rw [show 0 + (uni c0).length + (uni c1).length = (encL c0 c1 2).length from by rw [el]; simp]
    exact tailE (P := fun _ => True) (R := room_1) (cells := 0) (slots := 0) Z a0 hw hx hby hml hEL hret hlk c0 c1 z u ku 2 n0 (encL c0 c1 2) h0 _ Z0 (encL_len _ _ _) (encL_rng hc0 hc1 2) X132 rfl (Fr.app (Fr.app N0 Np) Nq) Eq (D0.ext Eq) Vq Su
theorem d_jdk_29m_69_0 : decode jdk_29_method_69_code 0 = .ok (.iload_n 0, 1) := by decide +kernel
theorem d_jdk_29m_69_1 : decode jdk_29_method_69_code 1 = .ok (.iload_n 1, 1) := by decide +kernel
theorem d_jdk_29m_69_2 : decode jdk_29_method_69_code 2 = .ok (.if_icmp .gt 7, 3) := by decide +kernel
theorem d_jdk_29m_69_9 : decode jdk_29_method_69_code 9 = .ok (.iload_n 1, 1) := by decide +kernel
theorem d_jdk_29m_69_10 : decode jdk_29_method_69_code 10 = .ok (.ireturn, 1) := by decide +kernel
theorem d_jdk_29m_69_5 : decode jdk_29_method_69_code 5 = .ok (.iload_n 0, 1) := by decide +kernel
theorem d_jdk_29m_69_6 : decode jdk_29_method_69_code 6 = .ok (.goto 4, 3) := by decide +kernel
set_option maxRecDepth 65536 in
set_option maxHeartbeats 40000000 in
theorem rmMin (l : Launch) (Z : State) (a0 : Array Value) (hw : ∀ d ∈ tables_1, d.before a0 Z = true) (a b : Nat) (h0 : Heap) (n0 : Nat) (ha : a ≤ 4000) (hb' : b ≤ 4000) :
    Ct l (⟨"java/lang/Math", "min", "(II)I"⟩ : MethodName) jdk_29_method_69_code 2 (some .int) ({ frames := 0, cells := 0, slots := 0, locals := 0 } : Room) Z #[(.int (Int32.ofNat a)), (.int (Int32.ofNat b))] h0 (fun v h L => v = some (.int (Int32.ofNat (min a b))) ∧ Fr n0 L ∧ h = h0) := by
  refine ct_of (Q := fun v h L => v = some (.int (Int32.ofNat (min a b))) ∧ Fr n0 L ∧ h = h0) (Jvm.Free.JP.mathPlain rfl (by decide +kernel)) ?_
  intro p e s m below meth c s₁ X0 hx hby hml hret hnm hlk hown hZ hs0 e0
  have N0 := Fr.nil n0
  rw [show entryFrame m #[(.int (Int32.ofNat a)), (.int (Int32.ofNat b))] 2 = mkF m 0 #[.val (.int (Int32.ofNat a)), .val (.int (Int32.ofNat b))] [] from by first | (simp [entryFrame, mkF, argsToLocals, Value.category]; done) | rfl]
  refine w_iloadN X0.here hx (hb hby d_jdk_29m_69_0) rfl (pc' := 1) rfl ?_
  refine w_iloadN X0.here hx (hb hby d_jdk_29m_69_1) rfl (pc' := 2) rfl ?_
  by_cases h : b < a
  · refine w_icmpYes X0.here hx (hb hby d_jdk_29m_69_2) (tlt (show (Int32.ofNat b) < (Int32.ofNat a) from n_lt h (by omega))).2.2.1 (pc' := 9) (by decide) (by decide) ?_
    refine w_iloadN X0.here hx (hb hby d_jdk_29m_69_9) rfl (pc' := 10) rfl ?_
    exact endI X0 hx hlk hret (hb hby d_jdk_29m_69_10) (by decide) (by decide) (by rw [e0]; exact ⟨by rw [Nat.min_eq_right (by omega)], N0, rfl⟩)
  · refine w_icmpNo X0.here hx (hb hby d_jdk_29m_69_2) (flt (show ¬ ((Int32.ofNat b) < (Int32.ofNat a)) from n_nlt (by omega) (by omega))).2.2.1 (pc' := 5) rfl ?_
    refine w_iloadN X0.here hx (hb hby d_jdk_29m_69_5) rfl (pc' := 6) rfl ?_
    refine w_goto X0.here hx (hb hby d_jdk_29m_69_6) (pc' := 10) (by decide) (by decide) ?_
    exact endI X0 hx hlk hret (hb hby d_jdk_29m_69_10) (by decide) (by decide) (by rw [e0]; exact ⟨by rw [Nat.min_eq_left (by omega)], N0, rfl⟩)
theorem d_jdk_89m_16_0 : decode jdk_89_method_16_code 0 = .ok (.iload_n 0, 1) := by decide +kernel
theorem d_jdk_89m_16_1 : decode jdk_89_method_16_code 1 = .ok (.ldc 75, 2) := by decide +kernel
theorem d_jdk_89m_16_3 : decode jdk_89_method_16_code 3 = .ok (.if_icmp .lt 13, 3) := by decide +kernel
theorem d_jdk_89m_16_16 : decode jdk_89_method_16_code 16 = .ok (.iconst 0, 1) := by decide +kernel
theorem d_jdk_89m_16_17 : decode jdk_89_method_16_code 17 = .ok (.ireturn, 1) := by decide +kernel
theorem d_jdk_89m_16_6 : decode jdk_89_method_16_code 6 = .ok (.iload_n 0, 1) := by decide +kernel
theorem d_jdk_89m_16_7 : decode jdk_89_method_16_code 7 = .ok (.ldc 77, 2) := by decide +kernel
theorem d_jdk_89m_16_9 : decode jdk_89_method_16_code 9 = .ok (.if_icmp .ge 7, 3) := by decide +kernel
theorem d_jdk_89m_16_12 : decode jdk_89_method_16_code 12 = .ok (.iconst 1, 1) := by decide +kernel
theorem d_jdk_89m_16_13 : decode jdk_89_method_16_code 13 = .ok (.goto 4, 3) := by decide +kernel
theorem pn_5 : plainName "java/lang/Character" = true := by first | (simp [plainName, overriddenIn]; done) | decide +kernel
set_option maxRecDepth 65536 in
set_option maxHeartbeats 40000000 in
theorem rmSur (l : Launch) (Z : State) (a0 : Array Value) (hw : ∀ d ∈ tables_1, d.before a0 Z = true) (ch : Int32) (h0 : Heap) (n0 : Nat) :
    Ct l (⟨"java/lang/Character", "isSurrogate", "(C)Z"⟩ : MethodName) jdk_89_method_16_code 1 (some .boolean) ({ frames := 0, cells := 0, slots := 0, locals := 0 } : Room) Z #[(.int ch)] h0 (fun v h L => v = some (.int (if ¬ ch < (55296 : Int32) ∧ ch < (57344 : Int32) then 1 else 0)) ∧ Fr n0 L ∧ h = h0) := by
  refine ct_of (Q := fun v h L => v = some (.int (if ¬ ch < (55296 : Int32) ∧ ch < (57344 : Int32) then 1 else 0)) ∧ Fr n0 L ∧ h = h0) (plainFor_of_name pn_5) ?_
  intro p e s m below meth c s₁ X0 hx hby hml hret hnm hlk hown hZ hs0 e0
  have N0 := Fr.nil n0
  rw [show entryFrame m #[(.int ch)] 1 = mkF m 0 #[.val (.int ch)] [] from by first | (simp [entryFrame, mkF, argsToLocals, Value.category]; done) | rfl]
  refine w_iloadN X0.here hx (hb hby d_jdk_89m_16_0) rfl (pc' := 1) rfl ?_
  refine w_ldcI X0 hx hZ hown (hw _ (List.mem_of_getElem? (i := 125) rfl)) (hb hby d_jdk_89m_16_1) (pc' := 3) rfl ?_
  by_cases h1 : ch < (55296 : Int32)
  · refine w_icmpYes X0.here hx (hb hby d_jdk_89m_16_3) (tlt (show ch < (55296 : Int32) from h1)).1 (pc' := 16) (by decide) (by decide) ?_
    refine w_iconst X0.here hx (hb hby d_jdk_89m_16_16) (z := 0) rfl (pc' := 17) rfl ?_
    exact endZ X0 hx hlk hret (by simp) (hb hby d_jdk_89m_16_17) (show nar .boolean (0 : Int32) = (0 : Int32) from rfl) (by decide) (by decide) (by rw [e0]; exact ⟨by simp [h1], N0, rfl⟩)
  · refine w_icmpNo X0.here hx (hb hby d_jdk_89m_16_3) (flt (show ¬ (ch < (55296 : Int32)) from h1)).1 (pc' := 6) rfl ?_
    refine w_iloadN X0.here hx (hb hby d_jdk_89m_16_6) rfl (pc' := 7) rfl ?_
    refine w_ldcI X0 hx hZ hown (hw _ (List.mem_of_getElem? (i := 126) rfl)) (hb hby d_jdk_89m_16_7) (pc' := 9) rfl ?_
    by_cases h2 : ch < (57344 : Int32)
    · refine w_icmpNo X0.here hx (hb hby d_jdk_89m_16_9) (tlt (show ch < (57344 : Int32) from h2)).2.1 (pc' := 12) rfl ?_
      refine w_iconst X0.here hx (hb hby d_jdk_89m_16_12) (z := 1) rfl (pc' := 13) rfl ?_
      refine w_goto X0.here hx (hb hby d_jdk_89m_16_13) (pc' := 17) (by decide) (by decide) ?_
      exact endZ X0 hx hlk hret (by simp) (hb hby d_jdk_89m_16_17) (show nar .boolean (1 : Int32) = (1 : Int32) from rfl) (by decide) (by decide) (by rw [e0]; exact ⟨by simp [h1, h2], N0, rfl⟩)
    · refine w_icmpYes X0.here hx (hb hby d_jdk_89m_16_9) (flt (show ¬ (ch < (57344 : Int32)) from h2)).2.1 (pc' := 16) (by decide) (by decide) ?_
      refine w_iconst X0.here hx (hb hby d_jdk_89m_16_16) (z := 0) rfl (pc' := 17) rfl ?_
      exact endZ X0 hx hlk hret (by simp) (hb hby d_jdk_89m_16_17) (show nar .boolean (0 : Int32) = (0 : Int32) from rfl) (by decide) (by decide) (by rw [e0]; exact ⟨by simp [h1, h2], N0, rfl⟩)

def rank (u : Int32) : Int32 := if ¬ u < 55296 ∧ u < 57344 then u + 8192 else if u < 57344 then u else u - 2048
def cmpD (D : Int32) : List Int32 → List Int32 → Int32
  | x :: xs, y :: ys => if x = y then cmpD D xs ys else rank x - rank y
  | _, _ => D
theorem getD_cons {cs : List Int32} {i : Nat} (h : i < cs.length) : cs.drop i = cs.getD i 0 :: cs.drop (i + 1) := by
  rw [List.drop_eq_getElem_cons h]; simp [List.getD_eq_getElem?_getD, h]
theorem cmp_eq {D : Int32} {a b : List Int32} {i : Nat} (ha : i < a.length) (hb : i < b.length) (h : a.getD i 0 = b.getD i 0) : cmpD D (a.drop i) (b.drop i) = cmpD D (a.drop (i + 1)) (b.drop (i + 1)) := by
  rw [getD_cons ha, getD_cons hb, cmpD, if_pos h]
theorem cmp_ne {D : Int32} {a b : List Int32} {i : Nat} (ha : i < a.length) (hb : i < b.length) (h : ¬ a.getD i 0 = b.getD i 0) : cmpD D (a.drop i) (b.drop i) = rank (a.getD i 0) - rank (b.getD i 0) := by
  rw [getD_cons ha, getD_cons hb, cmpD, if_neg h]
theorem cmp_end {D : Int32} {a b : List Int32} {i : Nat} (h : min a.length b.length ≤ i) : cmpD D (a.drop i) (b.drop i) = D := by
  rcases Nat.le_total a.length b.length with q | q
  · rw [List.drop_eq_nil_of_le (as := a) (by omega)]; cases b.drop i <;> rfl
  · rw [List.drop_eq_nil_of_le (as := b) (by omega)]; cases a.drop i <;> rfl

theorem d_prog_41m_20_0 : decode prog_41_method_20_code 0 = .ok (.iload_n 0, 1) := by decide +kernel
theorem pd_15 : parseMethodDescriptor "(C)Z" = some ⟨[.char], some .boolean⟩ := by decide +kernel
theorem d_prog_41m_20_1 : decode prog_41_method_20_code 1 = .ok (.invokestatic 229, 3) := by decide +kernel
theorem d_prog_41m_20_4 : decode prog_41_method_20_code 4 = .ok (.ifCond .eq 9, 3) := by decide +kernel
theorem d_prog_41m_20_7 : decode prog_41_method_20_code 7 = .ok (.iload_n 0, 1) := by decide +kernel
theorem d_prog_41m_20_8 : decode prog_41_method_20_code 8 = .ok (.sipush 8192, 3) := by decide +kernel
theorem d_prog_41m_20_11 : decode prog_41_method_20_code 11 = .ok (.iadd, 1) := by decide +kernel
theorem d_prog_41m_20_12 : decode prog_41_method_20_code 12 = .ok (.ireturn, 1) := by decide +kernel
theorem d_prog_41m_20_13 : decode prog_41_method_20_code 13 = .ok (.iload_n 0, 1) := by decide +kernel
theorem d_prog_41m_20_14 : decode prog_41_method_20_code 14 = .ok (.ldc 233, 2) := by decide +kernel
theorem d_prog_41m_20_16 : decode prog_41_method_20_code 16 = .ok (.if_icmp .lt 9, 3) := by decide +kernel
theorem d_prog_41m_20_25 : decode prog_41_method_20_code 25 = .ok (.iload_n 0, 1) := by decide +kernel
theorem d_prog_41m_20_26 : decode prog_41_method_20_code 26 = .ok (.ireturn, 1) := by decide +kernel
theorem d_prog_41m_20_19 : decode prog_41_method_20_code 19 = .ok (.iload_n 0, 1) := by decide +kernel
theorem d_prog_41m_20_20 : decode prog_41_method_20_code 20 = .ok (.sipush 2048, 3) := by decide +kernel
theorem d_prog_41m_20_23 : decode prog_41_method_20_code 23 = .ok (.isub, 1) := by decide +kernel
theorem d_prog_41m_20_24 : decode prog_41_method_20_code 24 = .ok (.ireturn, 1) := by decide +kernel
theorem pn_6 : plainName "com/example/strict_censor/strictcensor/core/Term" = true := by first | (simp [plainName, overriddenIn]; done) | decide +kernel
set_option maxRecDepth 65536 in
set_option maxHeartbeats 40000000 in
theorem rmRank (l : Launch) (Z : State) (a0 : Array Value) (hw : ∀ d ∈ tables_1, d.before a0 Z = true) (u : Int32) (h0 : Heap) (n0 : Nat) :
    Ct l (⟨"com/example/strict_censor/strictcensor/core/Term", "codePointRank", "(C)I"⟩ : MethodName) prog_41_method_20_code 1 (some .int) ({ frames := 1, cells := 0, slots := 0, locals := 12 } : Room) Z #[(.int u)] h0 (fun v h L => v = some (.int (rank u)) ∧ Fr n0 L ∧ h = h0) := by
  refine ct_of (Q := fun v h L => v = some (.int (rank u)) ∧ Fr n0 L ∧ h = h0) (plainFor_of_name pn_6) ?_
  intro p e s m below meth c s₁ X0 hx hby hml hret hnm hlk hown hZ hs0 e0
  have N0 := Fr.nil n0
  rw [show entryFrame m #[(.int u)] 1 = mkF m 0 #[.val (.int u)] [] from by first | (simp [entryFrame, mkF, argsToLocals, Value.category]; done) | rfl]
  refine w_iloadN X0.here hx (hb hby d_prog_41m_20_0) rfl (pc' := 1) rfl ?_
  refine w_static X0 hx hZ (y := (⟨"java/lang/Character", "isSurrogate", "(C)Z"⟩ : MethodName)) hown (hw _ (List.mem_of_getElem? (i := 121) rfl)) (hw _ (List.mem_of_getElem? (i := 122) rfl)) (hw _ (List.mem_of_getElem? (i := 123) rfl)) (hw _ (List.mem_of_getElem? (i := 124) rfl)) (by decide) (backC (W := 0) (rmSur l Z a0 hw u h0 n0) hZ (hw _ (List.mem_of_getElem? (i := 124) rfl)) (hw _ (List.mem_of_getElem? (i := 123) rfl)) (by decide) (by decide)) e0 (by rw [hml]; rfl) (argsL := [(.int u)]) (st := []) pd_15 rfl rfl rfl (Nat.le_of_ble_eq_true rfl) (hb hby d_prog_41m_20_1) (by decide) (by decide) (pc' := 4) rfl ?_
  intro T133 v133 L133 X133 Q133
  obtain ⟨rfl, N1, hh⟩ := Q133
  show Go _ _ _ _ T133 (mkF m 4 #[.val (.int u)] [(.int (if ¬ u < (55296 : Int32) ∧ u < (57344 : Int32) then 1 else 0))])
  by_cases q : ¬ u < (55296 : Int32) ∧ u < (57344 : Int32)
  · rw [if_pos q]
    show Go _ _ _ _ T133 (mkF m 4 #[.val (.int u)] [(.int (1 : Int32))])
    refine w_ifNo X133.here hx (hb hby d_prog_41m_20_4) (feq (show ¬ ((1 : Int32) = (0 : Int32)) from by decide)).1 (pc' := 7) rfl ?_
    refine w_iloadN X133.here hx (hb hby d_prog_41m_20_7) rfl (pc' := 8) rfl ?_
    refine w_sipush X133.here hx (hb hby d_prog_41m_20_8) (z := 8192) rfl (pc' := 11) rfl ?_
    refine w_iadd X133.here hx (hb hby d_prog_41m_20_11) (pc' := 12) rfl ?_
    exact endI X133 hx hlk hret (hb hby d_prog_41m_20_12) (by decide) (by decide) (by rw [hh]; exact ⟨by rw [rank, if_pos q], Fr.app N0 N1, rfl⟩)
  · rw [if_neg q]
    show Go _ _ _ _ T133 (mkF m 4 #[.val (.int u)] [(.int (0 : Int32))])
    refine w_ifYes X133.here hx (hb hby d_prog_41m_20_4) (teq (show (0 : Int32) = (0 : Int32) from by decide)).1 (pc' := 13) (by decide) (by decide) ?_
    refine w_iloadN X133.here hx (hb hby d_prog_41m_20_13) rfl (pc' := 14) rfl ?_
    refine w_ldcI X133 hx hZ hown (hw _ (List.mem_of_getElem? (i := 127) rfl)) (hb hby d_prog_41m_20_14) (pc' := 16) rfl ?_
    by_cases q2 : u < (57344 : Int32)
    · refine w_icmpYes X133.here hx (hb hby d_prog_41m_20_16) (tlt (show u < (57344 : Int32) from q2)).1 (pc' := 25) (by decide) (by decide) ?_
      refine w_iloadN X133.here hx (hb hby d_prog_41m_20_25) rfl (pc' := 26) rfl ?_
      exact endI X133 hx hlk hret (hb hby d_prog_41m_20_26) (by decide) (by decide) (by rw [hh]; exact ⟨by rw [rank, if_neg q, if_pos q2], Fr.app N0 N1, rfl⟩)
    · refine w_icmpNo X133.here hx (hb hby d_prog_41m_20_16) (flt (show ¬ (u < (57344 : Int32)) from q2)).1 (pc' := 19) rfl ?_
      refine w_iloadN X133.here hx (hb hby d_prog_41m_20_19) rfl (pc' := 20) rfl ?_
      refine w_sipush X133.here hx (hb hby d_prog_41m_20_20) (z := 2048) rfl (pc' := 23) rfl ?_
      refine w_isub X133.here hx (hb hby d_prog_41m_20_23) (pc' := 24) rfl ?_
      exact endI X133 hx hlk hret (hb hby d_prog_41m_20_24) (by decide) (by decide) (by rw [hh]; exact ⟨by rw [rank, if_neg q, if_neg q2], Fr.app N0 N1, rfl⟩)
theorem d_prog_41m_19_14 : decode prog_41_method_19_code 14 = .ok (.iload_n 3, 1) := by decide +kernel
theorem d_prog_41m_19_15 : decode prog_41_method_19_code 15 = .ok (.iload_n 2, 1) := by decide +kernel
theorem d_prog_41m_19_16 : decode prog_41_method_19_code 16 = .ok (.if_icmp .ge 42, 3) := by decide +kernel
theorem d_prog_41m_19_19 : decode prog_41_method_19_code 19 = .ok (.aload_n 0, 1) := by decide +kernel
theorem d_prog_41m_19_20 : decode prog_41_method_19_code 20 = .ok (.iload_n 3, 1) := by decide +kernel
theorem pd_16 : parseMethodDescriptor "(I)C" = some ⟨[.int], some .char⟩ := by decide +kernel
theorem d_prog_41m_19_21 : decode prog_41_method_19_code 21 = .ok (.invokevirtual 32, 3) := by decide +kernel
theorem d_prog_41m_19_24 : decode prog_41_method_19_code 24 = .ok (.istore 4, 2) := by decide +kernel
theorem d_prog_41m_19_26 : decode prog_41_method_19_code 26 = .ok (.aload_n 1, 1) := by decide +kernel
theorem d_prog_41m_19_27 : decode prog_41_method_19_code 27 = .ok (.iload_n 3, 1) := by decide +kernel
theorem d_prog_41m_19_28 : decode prog_41_method_19_code 28 = .ok (.invokevirtual 32, 3) := by decide +kernel
theorem d_prog_41m_19_31 : decode prog_41_method_19_code 31 = .ok (.istore 5, 2) := by decide +kernel
theorem d_prog_41m_19_33 : decode prog_41_method_19_code 33 = .ok (.iload 4, 2) := by decide +kernel
theorem d_prog_41m_19_35 : decode prog_41_method_19_code 35 = .ok (.iload 5, 2) := by decide +kernel
theorem d_prog_41m_19_37 : decode prog_41_method_19_code 37 = .ok (.if_icmp .eq 15, 3) := by decide +kernel
theorem d_prog_41m_19_52 : decode prog_41_method_19_code 52 = .ok (.iinc 3 1, 3) := by decide +kernel
theorem d_prog_41m_19_55 : decode prog_41_method_19_code 55 = .ok (.goto (-41), 3) := by decide +kernel
theorem d_prog_41m_19_40 : decode prog_41_method_19_code 40 = .ok (.iload 4, 2) := by decide +kernel
theorem pd_17 : parseMethodDescriptor "(C)I" = some ⟨[.char], some .int⟩ := by decide +kernel
theorem d_prog_41m_19_42 : decode prog_41_method_19_code 42 = .ok (.invokestatic 225, 3) := by decide +kernel
theorem d_prog_41m_19_45 : decode prog_41_method_19_code 45 = .ok (.iload 5, 2) := by decide +kernel
theorem d_prog_41m_19_47 : decode prog_41_method_19_code 47 = .ok (.invokestatic 225, 3) := by decide +kernel
theorem d_prog_41m_19_50 : decode prog_41_method_19_code 50 = .ok (.isub, 1) := by decide +kernel
set_option maxRecDepth 65536 in
set_option maxHeartbeats 40000000 in
theorem lpCmp {p : Program} {l : Launch} {e : Env} {R : Room} {s : State} {m : MethodId} {args : Array Value} {below : List Frame} {meth : Method} {c : Code} {cells slots : Nat} {P : State → Prop} (Z : State) (a0 : Array Value) (hw : ∀ d ∈ tables_1, d.before a0 Z = true) (hx : p.tables.exec = Jvm.exec) (hby : c.code = prog_41_method_19_code) (hml : c.maxLocals = 6) (hown : s.vm.findClass "com/example/strict_censor/strictcensor/core/Term" = some m.cls) (hZ : Z.Warmed39 s.vm) (a b : Addr) (as bs : List Int32) (z r : Int32) (h0 : Heap) (n0 : Nat) (Su : SU Z h0 z) (GA : StrOf Z h0 a as) (GB : StrOf Z h0 b bs) (hla : as.length ≤ 4000) (hlb : bs.length ≤ 4000) (fm : Value) (hfm : fm.isRef = true) (Fm : Sta Z h0 "jdk/internal/util/Preconditions" "SIOOBE_FORMATTER" "Ljava/util/function/BiFunction;" fm) (out : ∀ (i : Nat) (s4 s5 : Slot) (T : State) (locs : List Loc) (X0 : Stand p l e ({ frames := 5, cells := 0, slots := 0, locals := 66 } : Room) s m args below meth c T locs 0 0) (e0 : T.heap = h0) (N0 : Fr n0 locs), Go p.tables e below P T (mkF m 51 #[.val (.ref a), .val (.ref b), .val (.int (Int32.ofNat (min as.length bs.length))), .val (.int (Int32.ofNat i)), s4, s5] [(.int r)])) (fin : ∀ (i : Nat) (s4 s5 : Slot) (T : State) (locs : List Loc) (X0 : Stand p l e ({ frames := 5, cells := 0, slots := 0, locals := 66 } : Room) s m args below meth c T locs 0 0) (e0 : T.heap = h0) (N0 : Fr n0 locs), r = Int32.ofNat as.length - Int32.ofNat bs.length → Go p.tables e below P T (mkF m 58 #[.val (.ref a), .val (.ref b), .val (.int (Int32.ofNat (min as.length bs.length))), .val (.int (Int32.ofNat i)), s4, s5] [])) :
    ∀ (k i : Nat), min as.length bs.length < i + k ∧ i ≤ min as.length bs.length → ∀ (s4 s5 : Slot) (hs4 : One s4) (hs5 : One s5) (T : State) (locs : List Loc) (X0 : Stand p l e ({ frames := 5, cells := 0, slots := 0, locals := 66 } : Room) s m args below meth c T locs 0 0) (e0 : T.heap = h0) (N0 : Fr n0 locs) (hR : cmpD (Int32.ofNat as.length - Int32.ofNat bs.length) (as.drop i) (bs.drop i) = r), Go p.tables e below P T (mkF m 14 #[.val (.ref a), .val (.ref b), .val (.int (Int32.ofNat (min as.length bs.length))), .val (.int (Int32.ofNat i)), s4, s5] []) := by
  intro k
  induction k with
  | zero =>
    intro i hik
    exact absurd hik (by omega)
  | succ k ih =>
    intro i hik s4 s5 hs4 hs5 T locs X0 e0 N0 hR
    refine w_iloadN X0.here hx (hb hby d_prog_41m_19_14) rfl (pc' := 15) rfl ?_
    refine w_iloadN X0.here hx (hb hby d_prog_41m_19_15) rfl (pc' := 16) rfl ?_
    by_cases hi : i < min as.length bs.length
    · have ha : i < as.length := Nat.lt_of_lt_of_le hi (Nat.min_le_left _ _)
      have hb1 : i < bs.length := Nat.lt_of_lt_of_le hi (Nat.min_le_right _ _)
      refine w_icmpNo X0.here hx (hb hby d_prog_41m_19_16) (tlt (show (Int32.ofNat i) < (Int32.ofNat (min as.length bs.length)) from n_lt hi (by omega))).2.1 (pc' := 19) rfl ?_
      refine w_aloadN X0.here hx (hb hby d_prog_41m_19_19) rfl rfl (pc' := 20) rfl ?_
      refine w_iloadN X0.here hx (hb hby d_prog_41m_19_20) rfl (pc' := 21) rfl ?_
      refine w_virtual X0 hx hZ (y := (⟨"java/lang/String", "charAt", "(I)C"⟩ : MethodName)) (z := (⟨"java/lang/String", "charAt", "(I)C"⟩ : MethodName)) hown (hw _ (List.mem_of_getElem? (i := 86) rfl)) (hw _ (List.mem_of_getElem? (i := 87) rfl)) (notFace_of_selects (args := #[]) (mvT hZ (hw _ (List.mem_of_getElem? (i := 89) rfl)))) (hw _ (List.mem_of_getElem? (i := 89) rfl)) (hw _ (List.mem_of_getElem? (i := 88) rfl)) (by decide) (backC (W := 0) (rmChA l Z a0 hw a as i z h0 n0 Su GA ha fm hfm Fm) hZ (hw _ (List.mem_of_getElem? (i := 90) rfl)) (hw _ (List.mem_of_getElem? (i := 15) rfl)) (by decide) (by decide)) e0 GA.exa (by rw [hml]; rfl) (argsL := [(.int (Int32.ofNat i))]) (st := []) pd_16 rfl rfl rfl (Nat.le_of_ble_eq_true rfl) (hb hby d_prog_41m_19_21) (by decide) (by decide) (pc' := 24) rfl ?_
      intro T134 v134 L134 X134 Q134
      obtain ⟨rfl, N1, hh1⟩ := Q134
      show Go _ _ _ _ T134 (mkF m 24 #[.val (.ref a), .val (.ref b), .val (.int (Int32.ofNat (min as.length bs.length))), .val (.int (Int32.ofNat i)), s4, s5] [(.int (as.getD i 0))])
      refine w_istore X134.here hx (hb hby d_prog_41m_19_24) (l' := #[.val (.ref a), .val (.ref b), .val (.int (Int32.ofNat (min as.length bs.length))), .val (.int (Int32.ofNat i)), .val (.int (as.getD i 0)), s5]) (XS.store1 rfl hs4 rfl) (pc' := 26) rfl ?_
      refine w_aloadN X134.here hx (hb hby d_prog_41m_19_26) rfl rfl (pc' := 27) rfl ?_
      refine w_iloadN X134.here hx (hb hby d_prog_41m_19_27) rfl (pc' := 28) rfl ?_
      refine w_virtual X134 hx hZ (y := (⟨"java/lang/String", "charAt", "(I)C"⟩ : MethodName)) (z := (⟨"java/lang/String", "charAt", "(I)C"⟩ : MethodName)) hown (hw _ (List.mem_of_getElem? (i := 86) rfl)) (hw _ (List.mem_of_getElem? (i := 87) rfl)) (notFace_of_selects (args := #[]) (mvT hZ (hw _ (List.mem_of_getElem? (i := 89) rfl)))) (hw _ (List.mem_of_getElem? (i := 89) rfl)) (hw _ (List.mem_of_getElem? (i := 88) rfl)) (by decide) (backC (W := 0) (rmChA l Z a0 hw b bs i z h0 n0 Su GB hb1 fm hfm Fm) hZ (hw _ (List.mem_of_getElem? (i := 90) rfl)) (hw _ (List.mem_of_getElem? (i := 15) rfl)) (by decide) (by decide)) hh1 GB.exa (by rw [hml]; rfl) (argsL := [(.int (Int32.ofNat i))]) (st := []) pd_16 rfl rfl rfl (Nat.le_of_ble_eq_true rfl) (hb hby d_prog_41m_19_28) (by decide) (by decide) (pc' := 31) rfl ?_
      intro T135 v135 L135 X135 Q135
      obtain ⟨rfl, N2, hh2⟩ := Q135
      show Go _ _ _ _ T135 (mkF m 31 #[.val (.ref a), .val (.ref b), .val (.int (Int32.ofNat (min as.length bs.length))), .val (.int (Int32.ofNat i)), .val (.int (as.getD i 0)), s5] [(.int (bs.getD i 0))])
      have N3 := Fr.app (Fr.app N0 N1) N2
      refine w_istore X135.here hx (hb hby d_prog_41m_19_31) (l' := #[.val (.ref a), .val (.ref b), .val (.int (Int32.ofNat (min as.length bs.length))), .val (.int (Int32.ofNat i)), .val (.int (as.getD i 0)), .val (.int (bs.getD i 0))]) (XS.store1 rfl hs5 rfl) (pc' := 33) rfl ?_
      refine w_iload X135.here hx (hb hby d_prog_41m_19_33) rfl (pc' := 35) rfl ?_
      refine w_iload X135.here hx (hb hby d_prog_41m_19_35) rfl (pc' := 37) rfl ?_
      by_cases he : as.getD i 0 = bs.getD i 0
      · refine w_icmpYes X135.here hx (hb hby d_prog_41m_19_37) (teq (show (as.getD i 0) = (bs.getD i 0) from he)).1 (pc' := 52) (by decide) (by decide) ?_
        refine w_iinc X135.here hx (hb hby d_prog_41m_19_52) rfl (z := 1) rfl (l' := #[.val (.ref a), .val (.ref b), .val (.int (Int32.ofNat (min as.length bs.length))), .val (.int ((Int32.ofNat i) + (1 : Int32))), .val (.int (as.getD i 0)), .val (.int (bs.getD i 0))]) rfl (pc' := 55) rfl ?_
        refine w_goto X135.here hx (hb hby d_prog_41m_19_55) (pc' := 14) (by decide) (by decide) ?_
        rw [n_succ]
        exact ih (i + 1) (by omega) _ _ (One.val rfl) (One.val rfl) _ _ X135 hh2 N3 (by rw [← hR, cmp_eq ha hb1 he])
      · refine w_icmpNo X135.here hx (hb hby d_prog_41m_19_37) (feq (show ¬ ((as.getD i 0) = (bs.getD i 0)) from he)).1 (pc' := 40) rfl ?_
        refine w_iload X135.here hx (hb hby d_prog_41m_19_40) rfl (pc' := 42) rfl ?_
        refine w_static X135 hx hZ (y := (⟨"com/example/strict_censor/strictcensor/core/Term", "codePointRank", "(C)I"⟩ : MethodName)) hown (hw _ (List.mem_of_getElem? (i := 118) rfl)) (hw _ (List.mem_of_getElem? (i := 119) rfl)) (hw _ (List.mem_of_getElem? (i := 36) rfl)) (hw _ (List.mem_of_getElem? (i := 120) rfl)) (by decide) (backC (W := 0) (rmRank l Z a0 hw (as.getD i 0) h0 n0) hZ (hw _ (List.mem_of_getElem? (i := 120) rfl)) (hw _ (List.mem_of_getElem? (i := 36) rfl)) (by decide) (by decide)) hh2 (by rw [hml]; rfl) (argsL := [(.int (as.getD i 0))]) (st := []) pd_17 rfl rfl rfl (Nat.le_of_ble_eq_true rfl) (hb hby d_prog_41m_19_42) (by decide) (by decide) (pc' := 45) rfl ?_
        intro T136 v136 L136 X136 Q136
        obtain ⟨rfl, N4, hh3⟩ := Q136
        show Go _ _ _ _ T136 (mkF m 45 #[.val (.ref a), .val (.ref b), .val (.int (Int32.ofNat (min as.length bs.length))), .val (.int (Int32.ofNat i)), .val (.int (as.getD i 0)), .val (.int (bs.getD i 0))] [(.int (rank (as.getD i 0)))])
        refine w_iload X136.here hx (hb hby d_prog_41m_19_45) rfl (pc' := 47) rfl ?_
        refine w_static X136 hx hZ (y := (⟨"com/example/strict_censor/strictcensor/core/Term", "codePointRank", "(C)I"⟩ : MethodName)) hown (hw _ (List.mem_of_getElem? (i := 118) rfl)) (hw _ (List.mem_of_getElem? (i := 119) rfl)) (hw _ (List.mem_of_getElem? (i := 36) rfl)) (hw _ (List.mem_of_getElem? (i := 120) rfl)) (by decide) (backC (W := 1) (rmRank l Z a0 hw (bs.getD i 0) h0 n0) hZ (hw _ (List.mem_of_getElem? (i := 120) rfl)) (hw _ (List.mem_of_getElem? (i := 36) rfl)) (by decide) (by decide)) hh3 (by rw [hml]; rfl) (argsL := [(.int (bs.getD i 0))]) (st := [(.int (rank (as.getD i 0)))]) pd_17 rfl rfl rfl (Nat.le_of_ble_eq_true rfl) (hb hby d_prog_41m_19_47) (by decide) (by decide) (pc' := 50) rfl ?_
        intro T137 v137 L137 X137 Q137
        obtain ⟨rfl, N5, hh4⟩ := Q137
        show Go _ _ _ _ T137 (mkF m 50 #[.val (.ref a), .val (.ref b), .val (.int (Int32.ofNat (min as.length bs.length))), .val (.int (Int32.ofNat i)), .val (.int (as.getD i 0)), .val (.int (bs.getD i 0))] [(.int (rank (bs.getD i 0))), (.int (rank (as.getD i 0)))])
        refine w_isub X137.here hx (hb hby d_prog_41m_19_50) (pc' := 51) rfl ?_
        rw [show rank (as.getD i 0) - rank (bs.getD i 0) = r from by rw [← hR, cmp_ne ha hb1 he]]
        exact out _ _ _ _ _ X137 hh4 (Fr.app (Fr.app N3 N4) N5)
    · refine w_icmpYes X0.here hx (hb hby d_prog_41m_19_16) (flt (show ¬ ((Int32.ofNat i) < (Int32.ofNat (min as.length bs.length))) from n_nlt (by omega) (by omega))).2.1 (pc' := 58) (by decide) (by decide) ?_
      exact fin _ _ _ _ _ X0 e0 N0 (by rw [← hR, cmp_end (by omega)])
theorem d_prog_41m_19_0 : decode prog_41_method_19_code 0 = .ok (.aload_n 0, 1) := by decide +kernel
theorem pd_18 : parseMethodDescriptor "()I" = some ⟨[], some .int⟩ := by decide +kernel
theorem d_prog_41m_19_1 : decode prog_41_method_19_code 1 = .ok (.invokevirtual 26, 3) := by decide +kernel
theorem d_prog_41m_19_4 : decode prog_41_method_19_code 4 = .ok (.aload_n 1, 1) := by decide +kernel
theorem d_prog_41m_19_5 : decode prog_41_method_19_code 5 = .ok (.invokevirtual 26, 3) := by decide +kernel
theorem pd_19 : parseMethodDescriptor "(II)I" = some ⟨[.int, .int], some .int⟩ := by decide +kernel
theorem d_prog_41m_19_8 : decode prog_41_method_19_code 8 = .ok (.invokestatic 219, 3) := by decide +kernel
theorem d_prog_41m_19_11 : decode prog_41_method_19_code 11 = .ok (.istore_n 2, 1) := by decide +kernel
theorem d_prog_41m_19_12 : decode prog_41_method_19_code 12 = .ok (.iconst 0, 1) := by decide +kernel
theorem d_prog_41m_19_13 : decode prog_41_method_19_code 13 = .ok (.istore_n 3, 1) := by decide +kernel
theorem d_prog_41m_19_51 : decode prog_41_method_19_code 51 = .ok (.ireturn, 1) := by decide +kernel
theorem d_prog_41m_19_58 : decode prog_41_method_19_code 58 = .ok (.aload_n 0, 1) := by decide +kernel
theorem d_prog_41m_19_59 : decode prog_41_method_19_code 59 = .ok (.invokevirtual 26, 3) := by decide +kernel
theorem d_prog_41m_19_62 : decode prog_41_method_19_code 62 = .ok (.aload_n 1, 1) := by decide +kernel
theorem d_prog_41m_19_63 : decode prog_41_method_19_code 63 = .ok (.invokevirtual 26, 3) := by decide +kernel
theorem d_prog_41m_19_66 : decode prog_41_method_19_code 66 = .ok (.isub, 1) := by decide +kernel
theorem d_prog_41m_19_67 : decode prog_41_method_19_code 67 = .ok (.ireturn, 1) := by decide +kernel
set_option maxRecDepth 65536 in
set_option maxHeartbeats 40000000 in
theorem rmCmp (l : Launch) (Z : State) (a0 : Array Value) (hw : ∀ d ∈ tables_1, d.before a0 Z = true) (a b : Addr) (as bs : List Int32) (z : Int32) (h0 : Heap) (n0 : Nat) (Su : SU Z h0 z) (GA : StrOf Z h0 a as) (GB : StrOf Z h0 b bs) (fm : Value) (hfm : fm.isRef = true) (Fm : Sta Z h0 "jdk/internal/util/Preconditions" "SIOOBE_FORMATTER" "Ljava/util/function/BiFunction;" fm) :
    Ct l (⟨"com/example/strict_censor/strictcensor/core/Term", "compareCodePoints", "(Ljava/lang/String;Ljava/lang/String;)I"⟩ : MethodName) prog_41_method_19_code 6 (some .int) ({ frames := 5, cells := 0, slots := 0, locals := 66 } : Room) Z #[(.ref a), (.ref b)] h0 (fun v h L => v = some (.int (cmpD (Int32.ofNat as.length - Int32.ofNat bs.length) as bs)) ∧ Fr n0 L ∧ h = h0) := by
  refine ct_of (Q := fun v h L => v = some (.int (cmpD (Int32.ofNat as.length - Int32.ofNat bs.length) as bs)) ∧ Fr n0 L ∧ h = h0) (plainFor_of_name pn_6) ?_
  intro p e s m below meth c s₁ X0 hx hby hml hret hnm hlk hown hZ hs0 e0
  have N0 := Fr.nil n0
  rw [show entryFrame m #[(.ref a), (.ref b)] 6 = mkF m 0 #[.val (.ref a), .val (.ref b), .unset, .unset, .unset, .unset] [] from by first | (simp [entryFrame, mkF, argsToLocals, Value.category]; done) | rfl]
  have GA' := GA
  obtain ⟨-, -, -, -, -, -, -, -, -, -, -, hla⟩ := GA'
  have GB' := GB
  obtain ⟨-, -, -, -, -, -, -, -, -, -, -, hlb⟩ := GB'
  refine w_aloadN X0.here hx (hb hby d_prog_41m_19_0) rfl rfl (pc' := 1) rfl ?_
  refine w_virtual X0 hx hZ (y := (⟨"java/lang/String", "length", "()I"⟩ : MethodName)) (z := (⟨"java/lang/String", "length", "()I"⟩ : MethodName)) hown (hw _ (List.mem_of_getElem? (i := 38) rfl)) (hw _ (List.mem_of_getElem? (i := 39) rfl)) (notFace_of_selects (args := #[]) (mvT hZ (hw _ (List.mem_of_getElem? (i := 41) rfl)))) (hw _ (List.mem_of_getElem? (i := 41) rfl)) (hw _ (List.mem_of_getElem? (i := 40) rfl)) (by decide) (Q := QLen as _) (k_len (W := 0) hZ (fun d hd => hw d (own_wLen d hd)) (hw _ (List.mem_of_getElem? (i := 14) rfl)) GA Su.1 Su.2.1 (by decide) (by decide)) e0 GA.exa (by rw [hml]; rfl) (argsL := []) (st := []) pd_18 rfl rfl rfl (Nat.le_of_ble_eq_true rfl) (hb hby d_prog_41m_19_1) (by decide) (by decide) (pc' := 4) rfl ?_
  intro T138 v138 L138 X138 Q138
  obtain ⟨rfl, rfl, hh⟩ := Q138
  show Go _ _ _ _ T138 (mkF m 4 #[.val (.ref a), .val (.ref b), .unset, .unset, .unset, .unset] [(.int (Int32.ofNat as.length))])
  rw [List.append_nil] at X138
  refine w_aloadN X138.here hx (hb hby d_prog_41m_19_4) rfl rfl (pc' := 5) rfl ?_
  refine w_virtual X138 hx hZ (y := (⟨"java/lang/String", "length", "()I"⟩ : MethodName)) (z := (⟨"java/lang/String", "length", "()I"⟩ : MethodName)) hown (hw _ (List.mem_of_getElem? (i := 38) rfl)) (hw _ (List.mem_of_getElem? (i := 39) rfl)) (notFace_of_selects (args := #[]) (mvT hZ (hw _ (List.mem_of_getElem? (i := 41) rfl)))) (hw _ (List.mem_of_getElem? (i := 41) rfl)) (hw _ (List.mem_of_getElem? (i := 40) rfl)) (by decide) (Q := QLen bs _) (k_len (W := 1) hZ (fun d hd => hw d (own_wLen d hd)) (hw _ (List.mem_of_getElem? (i := 14) rfl)) GB Su.1 Su.2.1 (by decide) (by decide)) hh GB.exa (by rw [hml]; rfl) (argsL := []) (st := [(.int (Int32.ofNat as.length))]) pd_18 rfl rfl rfl (Nat.le_of_ble_eq_true rfl) (hb hby d_prog_41m_19_5) (by decide) (by decide) (pc' := 8) rfl ?_
  intro T139 v139 L139 X139 Q139
  obtain ⟨rfl, rfl, hh⟩ := Q139
  show Go _ _ _ _ T139 (mkF m 8 #[.val (.ref a), .val (.ref b), .unset, .unset, .unset, .unset] [(.int (Int32.ofNat bs.length)), (.int (Int32.ofNat as.length))])
  rw [List.append_nil] at X139
  refine w_static X139 hx hZ (y := (⟨"java/lang/Math", "min", "(II)I"⟩ : MethodName)) hown (hw _ (List.mem_of_getElem? (i := 49) rfl)) (hw _ (List.mem_of_getElem? (i := 50) rfl)) (hw _ (List.mem_of_getElem? (i := 51) rfl)) (hw _ (List.mem_of_getElem? (i := 52) rfl)) (by decide) (backC (W := 0) (rmMin l Z a0 hw as.length bs.length h0 n0 hla hlb) hZ (hw _ (List.mem_of_getElem? (i := 52) rfl)) (hw _ (List.mem_of_getElem? (i := 51) rfl)) (by decide) (by decide)) hh (by rw [hml]; rfl) (argsL := [(.int (Int32.ofNat as.length)), (.int (Int32.ofNat bs.length))]) (st := []) pd_19 rfl rfl rfl (Nat.le_of_ble_eq_true rfl) (hb hby d_prog_41m_19_8) (by decide) (by decide) (pc' := 11) rfl ?_
  intro T140 v140 L140 X140 Q140
  obtain ⟨rfl, N1, hhm⟩ := Q140
  show Go _ _ _ _ T140 (mkF m 11 #[.val (.ref a), .val (.ref b), .unset, .unset, .unset, .unset] [(.int (Int32.ofNat (min as.length bs.length)))])
  refine w_istoreN X140.here hx (hb hby d_prog_41m_19_11) (l' := #[.val (.ref a), .val (.ref b), .val (.int (Int32.ofNat (min as.length bs.length))), .unset, .unset, .unset]) rfl (pc' := 12) rfl ?_
  refine w_iconst X140.here hx (hb hby d_prog_41m_19_12) (z := 0) rfl (pc' := 13) rfl ?_
  refine w_istoreN X140.here hx (hb hby d_prog_41m_19_13) (l' := #[.val (.ref a), .val (.ref b), .val (.int (Int32.ofNat (min as.length bs.length))), .val (.int (0 : Int32)), .unset, .unset]) rfl (pc' := 14) rfl ?_
  refine lpCmp (R := ({ frames := 0, cells := 0, slots := 0, locals := 0 } : Room)) (cells := 0) (slots := 0) Z a0 hw hx hby hml hown hZ a b as bs z (cmpD (Int32.ofNat as.length - Int32.ofNat bs.length) as bs) h0 n0 Su GA GB hla hlb fm hfm Fm ?_ ?_ (min as.length bs.length + 1) 0 (by omega) _ _ One.u One.u _ _ X140 hhm (Fr.app N0 N1) rfl
  · intro i s4 s5 T locs X e1 N2
    exact endI X hx hlk hret (hb hby d_prog_41m_19_51) (by decide) (by decide) (by rw [e1]; exact ⟨rfl, N2, rfl⟩)
  · intro i s4 s5 T locs X e1 N2 hr
    refine w_aloadN X.here hx (hb hby d_prog_41m_19_58) rfl rfl (pc' := 59) rfl ?_
    refine w_virtual X hx hZ (y := (⟨"java/lang/String", "length", "()I"⟩ : MethodName)) (z := (⟨"java/lang/String", "length", "()I"⟩ : MethodName)) hown (hw _ (List.mem_of_getElem? (i := 38) rfl)) (hw _ (List.mem_of_getElem? (i := 39) rfl)) (notFace_of_selects (args := #[]) (mvT hZ (hw _ (List.mem_of_getElem? (i := 41) rfl)))) (hw _ (List.mem_of_getElem? (i := 41) rfl)) (hw _ (List.mem_of_getElem? (i := 40) rfl)) (by decide) (Q := QLen as _) (k_len (W := 0) hZ (fun d hd => hw d (own_wLen d hd)) (hw _ (List.mem_of_getElem? (i := 14) rfl)) GA Su.1 Su.2.1 (by decide) (by decide)) e1 GA.exa (by rw [hml]; rfl) (argsL := []) (st := []) pd_18 rfl rfl rfl (Nat.le_of_ble_eq_true rfl) (hb hby d_prog_41m_19_59) (by decide) (by decide) (pc' := 62) rfl ?_
    intro T141 v141 L141 X141 Q141
    obtain ⟨rfl, rfl, hh⟩ := Q141
    show Go _ _ _ _ T141 (mkF m 62 #[.val (.ref a), .val (.ref b), .val (.int (Int32.ofNat (min as.length bs.length))), .val (.int (Int32.ofNat i)), s4, s5] [(.int (Int32.ofNat as.length))])
    rw [List.append_nil] at X141
    refine w_aloadN X141.here hx (hb hby d_prog_41m_19_62) rfl rfl (pc' := 63) rfl ?_
    refine w_virtual X141 hx hZ (y := (⟨"java/lang/String", "length", "()I"⟩ : MethodName)) (z := (⟨"java/lang/String", "length", "()I"⟩ : MethodName)) hown (hw _ (List.mem_of_getElem? (i := 38) rfl)) (hw _ (List.mem_of_getElem? (i := 39) rfl)) (notFace_of_selects (args := #[]) (mvT hZ (hw _ (List.mem_of_getElem? (i := 41) rfl)))) (hw _ (List.mem_of_getElem? (i := 41) rfl)) (hw _ (List.mem_of_getElem? (i := 40) rfl)) (by decide) (Q := QLen bs _) (k_len (W := 1) hZ (fun d hd => hw d (own_wLen d hd)) (hw _ (List.mem_of_getElem? (i := 14) rfl)) GB Su.1 Su.2.1 (by decide) (by decide)) hh GB.exa (by rw [hml]; rfl) (argsL := []) (st := [(.int (Int32.ofNat as.length))]) pd_18 rfl rfl rfl (Nat.le_of_ble_eq_true rfl) (hb hby d_prog_41m_19_63) (by decide) (by decide) (pc' := 66) rfl ?_
    intro T142 v142 L142 X142 Q142
    obtain ⟨rfl, rfl, hh⟩ := Q142
    show Go _ _ _ _ T142 (mkF m 66 #[.val (.ref a), .val (.ref b), .val (.int (Int32.ofNat (min as.length bs.length))), .val (.int (Int32.ofNat i)), s4, s5] [(.int (Int32.ofNat bs.length)), (.int (Int32.ofNat as.length))])
    rw [List.append_nil] at X142
    refine w_isub X142.here hx (hb hby d_prog_41m_19_66) (pc' := 67) rfl ?_
    exact endI X142 hx hlk hret (hb hby d_prog_41m_19_67) (by decide) (by decide) (by rw [hh]; exact ⟨by rw [hr], N2, rfl⟩)

def sgn (r : Int32) : Int32 := if r < 0 then -1 else if 0 < r then 1 else 0
theorem sgn_neg {r : Int32} (h : r.toInt < 0) : sgn r = -1 := by rw [sgn, if_pos (by rw [Int32.lt_iff_toInt_lt, k_0]; exact h)]
theorem sgn_pos {r : Int32} (h : 0 < r.toInt) : sgn r = 1 := by rw [sgn, if_neg (by rw [Int32.lt_iff_toInt_lt, k_0]; omega), if_pos (by rw [Int32.lt_iff_toInt_lt, k_0]; exact h)]
theorem sgn_zero {r : Int32} (h : r.toInt = 0) : sgn r = 0 := by rw [sgn, if_neg (by rw [Int32.lt_iff_toInt_lt, k_0]; omega), if_neg (by rw [Int32.lt_iff_toInt_lt, k_0]; omega)]
theorem rank_int {u : Int32} (h0 : 0 ≤ u.toInt) (h1 : u.toInt < 65536) : (55296 ≤ u.toInt ∧ u.toInt < 57344 → (rank u).toInt = u.toInt + 8192) ∧ (u.toInt < 55296 → (rank u).toInt = u.toInt) ∧ (57344 ≤ u.toInt → (rank u).toInt = u.toInt - 2048) := by
  refine ⟨fun h => ?_, fun h => ?_, fun h => ?_⟩
  · rw [rank, if_pos (by simp only [Int32.lt_iff_toInt_lt, k_55296, k_57344]; omega), add_s (by rw [k_8192]; omega), k_8192]
  · rw [rank, if_neg (by simp only [Int32.lt_iff_toInt_lt, k_55296, k_57344]; omega), if_pos (by rw [Int32.lt_iff_toInt_lt, k_57344]; omega)]
  · rw [rank, if_neg (by simp only [Int32.lt_iff_toInt_lt, k_55296, k_57344]; omega), if_neg (by rw [Int32.lt_iff_toInt_lt, k_57344]; omega), sub_s (by rw [k_2048]; omega), k_2048]
theorem rank_sub {u v : Int32} (h0 : 0 ≤ u.toInt) (h1 : u.toInt < 65536) (g0 : 0 ≤ v.toInt) (g1 : v.toInt < 65536) : (rank u - rank v).toInt = (rank u).toInt - (rank v).toInt := by
  have a := rank_int h0 h1; have b := rank_int g0 g1
  exact sub_s (by omega)
theorem sgn_lt {c d r : Int32} (hne : c ≠ d) (h : c.toInt < d.toInt → r.toInt < 0) (h' : d.toInt < c.toInt → 0 < r.toInt) : sgn r = if c < d then -1 else 1 := by
  have hn : c.toInt ≠ d.toInt := fun q => hne (Int32.toInt_inj.mp q)
  by_cases q : c.toInt < d.toInt
  · rw [if_pos (Int32.lt_iff_toInt_lt.mpr q), sgn_neg (h q)]
  · rw [if_neg (by rw [Int32.lt_iff_toInt_lt]; exact q), sgn_pos (h' (by omega))]
theorem cmp_app (D : Int32) (L X Y : List Int32) : cmpD D (L ++ X) (L ++ Y) = cmpD D X Y := by
  induction L with
  | nil => rfl
  | cons c r ih => rw [List.cons_append, List.cons_append, cmpD, if_pos rfl, ih]
theorem cmp_uni {c d : Int32} (hc : okC c) (hd : okC d) (hne : c ≠ d) (D : Int32) (X Y : List Int32) : sgn (cmpD D (uni c ++ X) (uni d ++ Y)) = if c < d then -1 else 1 := by
  by_cases h1 : c < 65536 <;> by_cases h2 : d < 65536
  · obtain ⟨e1, r1⟩ := uni_s hc h1; obtain ⟨e2, r2⟩ := uni_s hd h2
    rw [e1, e2]; simp only [List.cons_append, List.nil_append]; rw [cmpD, if_neg hne]
    have a := rank_int r1.1 r1.2; have b := rank_int r2.1 r2.2
    have hs := rank_sub r1.1 r1.2 r2.1 r2.2
    unfold okC at hc hd
    exact sgn_lt hne (fun q => by rw [hs]; omega) (fun q => by rw [hs]; omega)
  · obtain ⟨e1, r1⟩ := uni_s hc h1; obtain ⟨e2, q1, q2, q3⟩ := uni_p hd h2
    generalize hu : (55296 : Int32) + ((d - 65536).toUInt32 >>> ((10 : Int32) &&& 31).toUInt32).toInt32 = u at e2 q1
    have hn : c ≠ u := fun q => by have := congrArg Int32.toInt q; unfold okC at hc; omega
    rw [e1, e2]; simp only [List.cons_append, List.nil_append]; rw [cmpD, if_neg hn]
    have a := rank_int r1.1 r1.2; have b := rank_int (u := u) (by omega) (by omega)
    have hs := rank_sub r1.1 r1.2 (v := u) (by omega) (by omega)
    unfold okC at hc hd
    exact sgn_lt hne (fun q => by rw [hs]; omega) (fun q => by rw [hs]; omega)
  · obtain ⟨e1, r1⟩ := uni_s hd h2; obtain ⟨e2, q1, q2, q3⟩ := uni_p hc h1
    generalize hu : (55296 : Int32) + ((c - 65536).toUInt32 >>> ((10 : Int32) &&& 31).toUInt32).toInt32 = u at e2 q1
    have hn : u ≠ d := fun q => by have := congrArg Int32.toInt q; unfold okC at hd; omega
    rw [e1, e2]; simp only [List.cons_append, List.nil_append]; rw [cmpD, if_neg hn]
    have a := rank_int r1.1 r1.2; have b := rank_int (u := u) (by omega) (by omega)
    have hs := rank_sub (u := u) (by omega) (by omega) r1.1 r1.2
    unfold okC at hc hd
    exact sgn_lt hne (fun q => by rw [hs]; omega) (fun q => by rw [hs]; omega)
  · obtain ⟨e1, p1, p2, p3⟩ := uni_p hc h1; obtain ⟨e2, q1, q2, q3⟩ := uni_p hd h2
    generalize hu : (55296 : Int32) + ((d - 65536).toUInt32 >>> ((10 : Int32) &&& 31).toUInt32).toInt32 = u at e2 q1
    generalize hv : (56320 : Int32) + ((d - 65536) &&& 1023) = v at e2 q2
    generalize hu' : (55296 : Int32) + ((c - 65536).toUInt32 >>> ((10 : Int32) &&& 31).toUInt32).toInt32 = u' at e1 p1
    generalize hv' : (56320 : Int32) + ((c - 65536) &&& 1023) = v' at e1 p2
    have hcd : c.toInt ≠ d.toInt := fun q => hne (Int32.toInt_inj.mp q)
    rw [e1, e2, List.cons_append, List.cons_append, List.cons_append, List.cons_append, cmpD]
    have a := rank_int (u := u') (by omega) (by omega); have b := rank_int (u := u) (by omega) (by omega)
    have a2 := rank_int (u := v') (by omega) (by omega); have b2 := rank_int (u := v) (by omega) (by omega)
    have hs := rank_sub (u := u') (v := u) (by omega) (by omega) (by omega) (by omega)
    have hs2 := rank_sub (u := v') (v := v) (by omega) (by omega) (by omega) (by omega)
    by_cases hq : u' = u
    · have hv2 : v' ≠ v := fun q => by have t1 := congrArg Int32.toInt q; have t2 := congrArg Int32.toInt hq; omega
      have t2 := congrArg Int32.toInt hq
      rw [if_pos hq, cmpD, if_neg hv2]
      exact sgn_lt hne (fun q => by rw [hs2]; omega) (fun q => by rw [hs2]; omega)
    · have t2 : u'.toInt ≠ u.toInt := fun q => hq (Int32.toInt_inj.mp q)
      rw [if_neg hq]
      exact sgn_lt hne (fun q => by rw [hs]; omega) (fun q => by rw [hs]; omega)
def refF (na nb : Nat) (a0 a1 b0 b1 : Int32) : Int32 := if 1 ≤ na ∧ 1 ≤ nb ∧ ¬ a0 = b0 then (if a0 < b0 then -1 else 1) else if 2 ≤ na ∧ 2 ≤ nb ∧ ¬ a1 = b1 then (if a1 < b1 then -1 else 1) else if na < nb then -1 else if nb < na then 1 else 0
theorem dif_int {a b : Nat} (ha : a ≤ 4) (hb : b ≤ 4) : (Int32.ofNat a - Int32.ofNat b).toInt = (a : Int) - b := by
  rw [sub_s (by rw [n_toInt (by omega), n_toInt (by omega)]; omega), n_toInt (by omega), n_toInt (by omega)]
theorem law_pure {a0 a1 b0 b1 : Int32} (ha0 : okC a0) (ha1 : okC a1) (hb0 : okC b0) (hb1 : okC b1) {na nb : Nat} (hna : na ≤ 2) (hnb : nb ≤ 2) :
    sgn (cmpD (Int32.ofNat (encL a0 a1 na).length - Int32.ofNat (encL b0 b1 nb).length) (encL a0 a1 na) (encL b0 b1 nb)) = refF na nb a0 a1 b0 b1 := by
  have hD := dif_int (encL_len a0 a1 na) (encL_len b0 b1 nb)
  generalize hDe : Int32.ofNat (encL a0 a1 na).length - Int32.ofNat (encL b0 b1 nb).length = D at hD ⊢
  have la0 := uni_len a0; have la1 := uni_len a1; have lb0 := uni_len b0; have lb1 := uni_len b1
  by_cases h1 : 1 ≤ na <;> by_cases h2 : 1 ≤ nb
  · have ea : encL a0 a1 na = uni a0 ++ (if 2 ≤ na then uni a1 else []) := by rw [encL, if_pos h1]
    have eb : encL b0 b1 nb = uni b0 ++ (if 2 ≤ nb then uni b1 else []) := by rw [encL, if_pos h2]
    rw [ea, eb] at hD ⊢
    by_cases q0 : a0 = b0
    · subst q0
      have n0 : ¬ (1 ≤ na ∧ 1 ≤ nb ∧ ¬ a0 = a0) := fun t => t.2.2 rfl
      rw [cmp_app, refF, if_neg n0]
      by_cases g1 : 2 ≤ na <;> by_cases g2 : 2 ≤ nb
      · rw [if_pos g1, if_pos g2] at hD ⊢
        by_cases q1 : a1 = b1
        · subst q1
          have e2 := cmp_app D (uni a1) [] []
          rw [List.append_nil] at e2
          have n1 : ¬ (2 ≤ na ∧ 2 ≤ nb ∧ ¬ a1 = a1) := fun t => t.2.2 rfl
          rw [e2, if_neg n1, if_neg (by omega : ¬ na < nb), if_neg (by omega : ¬ nb < na)]
          exact sgn_zero (by show D.toInt = 0; rw [hD]; omega)
        · have e2 := cmp_uni ha1 hb1 q1 D [] []
          rw [List.append_nil, List.append_nil] at e2
          rw [e2, if_pos (⟨g1, g2, q1⟩ : 2 ≤ na ∧ 2 ≤ nb ∧ ¬ a1 = b1)]
      · rw [if_pos g1, if_neg g2] at hD ⊢
        have n1 : ¬ (2 ≤ na ∧ 2 ≤ nb ∧ ¬ a1 = b1) := fun t => g2 t.2.1
        rw [if_neg n1, if_neg (by omega : ¬ na < nb), if_pos (by omega : nb < na)]
        have : cmpD D (uni a1) [] = D := by cases uni a1 <;> rfl
        rw [this]; simp only [List.length_append, List.length_nil] at hD; exact sgn_pos (by omega)
      · rw [if_neg g1, if_pos g2] at hD ⊢
        have n1 : ¬ (2 ≤ na ∧ 2 ≤ nb ∧ ¬ a1 = b1) := fun t => g1 t.1
        rw [if_neg n1, if_pos (by omega : na < nb)]
        have : cmpD D [] (uni b1) = D := rfl
        rw [this]; simp only [List.length_append, List.length_nil] at hD; exact sgn_neg (by omega)
      · rw [if_neg g1, if_neg g2] at hD ⊢
        have n1 : ¬ (2 ≤ na ∧ 2 ≤ nb ∧ ¬ a1 = b1) := fun t => g1 t.1
        rw [if_neg n1, if_neg (by omega : ¬ na < nb), if_neg (by omega : ¬ nb < na)]
        exact sgn_zero (by show D.toInt = 0; rw [hD]; omega)
    · rw [cmp_uni ha0 hb0 q0, refF, if_pos (⟨h1, h2, q0⟩ : 1 ≤ na ∧ 1 ≤ nb ∧ ¬ a0 = b0)]
  · have eb : encL b0 b1 nb = [] := by rw [encL, if_neg h2, if_neg (by omega)]; rfl
    have ea : 0 < (encL a0 a1 na).length := by rw [encL, if_pos h1]; simp; omega
    rw [eb] at hD ⊢
    have : cmpD D (encL a0 a1 na) [] = D := by cases encL a0 a1 na <;> rfl
    rw [this, refF, if_neg (fun t => h2 t.2.1), if_neg (by omega), if_neg (by omega), if_pos (by omega)]
    simp only [List.length_nil] at hD; exact sgn_pos (by omega)
  · have ea : encL a0 a1 na = [] := by rw [encL, if_neg h1, if_neg (by omega)]; rfl
    have eb : 0 < (encL b0 b1 nb).length := by rw [encL, if_pos h2]; simp; omega
    rw [ea] at hD ⊢
    have : cmpD D [] (encL b0 b1 nb) = D := rfl
    rw [this, refF, if_neg (fun t => h1 t.1), if_neg (by omega), if_pos (by omega)]
    simp only [List.length_nil] at hD; exact sgn_neg (by omega)
  · have ea : encL a0 a1 na = [] := by rw [encL, if_neg h1, if_neg (by omega)]; rfl
    have eb : encL b0 b1 nb = [] := by rw [encL, if_neg h2, if_neg (by omega)]; rfl
    rw [ea, eb] at hD ⊢
    have : cmpD D [] [] = D := rfl
    rw [this, refF, if_neg (fun t => h1 t.1), if_neg (by omega), if_neg (by omega), if_neg (by omega)]
    exact sgn_zero (by simp at hD; exact hD)
theorem own_rem3 (x : Int32) : ∃ n : Nat, n ≤ 2 ∧ (x &&& 3) % 3 = Int32.ofNat n := by
  have h1 := c_and x 3 (by decide)
  have h2 := (c_irem (x &&& 3) 3 3 (by decide)).1 h1.1
  refine ⟨((x &&& 3) % 3).toInt.toNat, by omega, Int32.toInt_inj.mp ?_⟩
  rw [n_toInt (by omega)]; omega

set_option maxRecDepth 65536 in
set_option maxHeartbeats 40000000 in
theorem tailC {p : Program} {l : Launch} {e : Env} {R : Room} {s : State} {m : MethodId} {args : Array Value} {below : List Frame} {meth : Method} {c : Code} {cells slots : Nat} {P : State → Prop} (Z : State) (a0 : Array Value) (hw : ∀ d ∈ tables_1, d.before a0 Z = true) (hx : p.tables.exec = Jvm.exec) (hby : c.code = code) (hml : c.maxLocals = 16) {vm0 : Vm} {T : State} {locs : List Loc} (hret : meth.sig.returnType = some .boolean) (hlk : meth.locks = false) (p0 p1 p2 p3 p4 a0' a1' b0' b1' r sg : Int32) (a b : Addr) (na nb n0 : Nat) (h : Heap) (hna : na ≤ 2) (hnb : nb ≤ 2) (hsg : sg = refF na nb a0' a1' b0' b1') (hc1 : cells ≤ 32) (hc2 : slots ≤ 1216) (X0 : Stand p l e room_1 (s.setVm vm0) m args below meth c T locs cells slots) (e0 : T.heap = h) (N0 : Fr n0 locs) (D0 : Wd Z a0 [("java/lang/String", 7)] s "com/example/strict_censor/strictcensor/core/TermCompareCodePointsPinLaw" m.cls vm0 h) :
    Go p.tables e below (EndW Z [("java/lang/String", 7)] s below (fun v h L => v = some (.int 1) ∧ Fr n0 L) room_1.cells room_1.slots) T (mkF m 120 #[.val (.int p0), .val (.int p1), .val (.int p2), .val (.int p3), .val (.int p4), .val (.int a0'), .val (.int a1'), .val (.int b0'), .val (.int b1'), .val (.int (Int32.ofNat na)), .val (.int (Int32.ofNat nb)), .val (.ref a), .val (.ref b), .val (.int r), .val (.int sg), .unset] []) := by
  refine w_iload X0.here hx (hb hby at_120) rfl (pc' := 122) rfl ?_
  refine w_iconst X0.here hx (hb hby at_122) (z := 1) rfl (pc' := 123) rfl ?_
  by_cases h1 : 1 ≤ na
  · refine w_icmpNo X0.here hx (hb hby at_123) (flt (show ¬ ((Int32.ofNat na) < (1 : Int32)) from n_nlt (n := 1) h1 (by omega))).1 (pc' := 126) rfl ?_
    refine w_iload X0.here hx (hb hby at_126) rfl (pc' := 128) rfl ?_
    refine w_iconst X0.here hx (hb hby at_128) (z := 1) rfl (pc' := 129) rfl ?_
    by_cases h2 : 1 ≤ nb
    · refine w_icmpNo X0.here hx (hb hby at_129) (flt (show ¬ ((Int32.ofNat nb) < (1 : Int32)) from n_nlt (n := 1) h2 (by omega))).1 (pc' := 132) rfl ?_
      refine w_iload X0.here hx (hb hby at_132) rfl (pc' := 134) rfl ?_
      refine w_iload X0.here hx (hb hby at_134) rfl (pc' := 136) rfl ?_
      by_cases h3 : a0' = b0'
      · refine w_icmpYes X0.here hx (hb hby at_136) (teq (show a0' = b0' from h3)).1 (pc' := 156) (by decide) (by decide) ?_
        refine w_iload X0.here hx (hb hby at_156) rfl (pc' := 158) rfl ?_
        refine w_iconst X0.here hx (hb hby at_158) (z := 2) rfl (pc' := 159) rfl ?_
        by_cases g1 : 2 ≤ na
        · refine w_icmpNo X0.here hx (hb hby at_159) (flt (show ¬ ((Int32.ofNat na) < (2 : Int32)) from n_nlt (n := 2) g1 (by omega))).1 (pc' := 162) rfl ?_
          refine w_iload X0.here hx (hb hby at_162) rfl (pc' := 164) rfl ?_
          refine w_iconst X0.here hx (hb hby at_164) (z := 2) rfl (pc' := 165) rfl ?_
          by_cases g2 : 2 ≤ nb
          · refine w_icmpNo X0.here hx (hb hby at_165) (flt (show ¬ ((Int32.ofNat nb) < (2 : Int32)) from n_nlt (n := 2) g2 (by omega))).1 (pc' := 168) rfl ?_
            refine w_iload X0.here hx (hb hby at_168) rfl (pc' := 170) rfl ?_
            refine w_iload X0.here hx (hb hby at_170) rfl (pc' := 172) rfl ?_
            by_cases g3 : a1' = b1'
            · refine w_icmpYes X0.here hx (hb hby at_172) (teq (show a1' = b1' from g3)).1 (pc' := 192) (by decide) (by decide) ?_
              refine w_iload X0.here hx (hb hby at_192) rfl (pc' := 194) rfl ?_
              refine w_iload X0.here hx (hb hby at_194) rfl (pc' := 196) rfl ?_
              by_cases q3 : na < nb
              · refine w_icmpNo X0.here hx (hb hby at_196) (tlt (show (Int32.ofNat na) < (Int32.ofNat nb) from n_lt q3 (by omega))).2.1 (pc' := 199) rfl ?_
                refine w_iconst X0.here hx (hb hby at_199) (z := (-1)) rfl (pc' := 200) rfl ?_
                refine w_goto X0.here hx (hb hby at_200) (pc' := 215) (by decide) (by decide) ?_
                refine w_istore X0.here hx (hb hby at_215) (l' := #[.val (.int p0), .val (.int p1), .val (.int p2), .val (.int p3), .val (.int p4), .val (.int a0'), .val (.int a1'), .val (.int b0'), .val (.int b1'), .val (.int (Int32.ofNat na)), .val (.int (Int32.ofNat nb)), .val (.ref a), .val (.ref b), .val (.int r), .val (.int sg), .val (.int (-1 : Int32))]) rfl (pc' := 217) rfl ?_
                refine w_iload X0.here hx (hb hby at_217) rfl (pc' := 219) rfl ?_
                refine w_iload X0.here hx (hb hby at_219) rfl (pc' := 221) rfl ?_
                have hs : sg = (-1 : Int32) := by rw [hsg, refF, if_neg (fun t => t.2.2 h3), if_neg (fun t => t.2.2 g3), if_pos q3]
                refine w_icmpNo X0.here hx (hb hby at_221) (teq (show sg = (-1 : Int32) from hs)).2 (pc' := 224) rfl ?_
                refine w_iconst X0.here hx (hb hby at_224) (z := 1) rfl (pc' := 225) rfl ?_
                refine w_goto X0.here hx (hb hby at_225) (pc' := 229) (by decide) (by decide) ?_
                exact endZW X0 hx D0 e0 hlk hret (by simp) (hb hby at_229) (show nar .boolean 1 = 1 from rfl) hc1 hc2 ⟨rfl, N0⟩
              · refine w_icmpYes X0.here hx (hb hby at_196) (flt (show ¬ ((Int32.ofNat na) < (Int32.ofNat nb)) from n_nlt (by omega) (by omega))).2.1 (pc' := 203) (by decide) (by decide) ?_
                refine w_iload X0.here hx (hb hby at_203) rfl (pc' := 205) rfl ?_
                refine w_iload X0.here hx (hb hby at_205) rfl (pc' := 207) rfl ?_
                by_cases q4 : nb < na
                · refine w_icmpNo X0.here hx (hb hby at_207) (tlt (show (Int32.ofNat nb) < (Int32.ofNat na) from n_lt q4 (by omega))).2.2.2 (pc' := 210) rfl ?_
                  refine w_iconst X0.here hx (hb hby at_210) (z := 1) rfl (pc' := 211) rfl ?_
                  refine w_goto X0.here hx (hb hby at_211) (pc' := 215) (by decide) (by decide) ?_
                  refine w_istore X0.here hx (hb hby at_215) (l' := #[.val (.int p0), .val (.int p1), .val (.int p2), .val (.int p3), .val (.int p4), .val (.int a0'), .val (.int a1'), .val (.int b0'), .val (.int b1'), .val (.int (Int32.ofNat na)), .val (.int (Int32.ofNat nb)), .val (.ref a), .val (.ref b), .val (.int r), .val (.int sg), .val (.int (1 : Int32))]) rfl (pc' := 217) rfl ?_
                  refine w_iload X0.here hx (hb hby at_217) rfl (pc' := 219) rfl ?_
                  refine w_iload X0.here hx (hb hby at_219) rfl (pc' := 221) rfl ?_
                  have hs : sg = (1 : Int32) := by rw [hsg, refF, if_neg (fun t => t.2.2 h3), if_neg (fun t => t.2.2 g3), if_neg q3, if_pos q4]
                  refine w_icmpNo X0.here hx (hb hby at_221) (teq (show sg = (1 : Int32) from hs)).2 (pc' := 224) rfl ?_
                  refine w_iconst X0.here hx (hb hby at_224) (z := 1) rfl (pc' := 225) rfl ?_
                  refine w_goto X0.here hx (hb hby at_225) (pc' := 229) (by decide) (by decide) ?_
                  exact endZW X0 hx D0 e0 hlk hret (by simp) (hb hby at_229) (show nar .boolean 1 = 1 from rfl) hc1 hc2 ⟨rfl, N0⟩
                · refine w_icmpYes X0.here hx (hb hby at_207) (flt (show ¬ ((Int32.ofNat nb) < (Int32.ofNat na)) from n_nlt (by omega) (by omega))).2.2.2 (pc' := 214) (by decide) (by decide) ?_
                  refine w_iconst X0.here hx (hb hby at_214) (z := 0) rfl (pc' := 215) rfl ?_
                  refine w_istore X0.here hx (hb hby at_215) (l' := #[.val (.int p0), .val (.int p1), .val (.int p2), .val (.int p3), .val (.int p4), .val (.int a0'), .val (.int a1'), .val (.int b0'), .val (.int b1'), .val (.int (Int32.ofNat na)), .val (.int (Int32.ofNat nb)), .val (.ref a), .val (.ref b), .val (.int r), .val (.int sg), .val (.int (0 : Int32))]) rfl (pc' := 217) rfl ?_
                  refine w_iload X0.here hx (hb hby at_217) rfl (pc' := 219) rfl ?_
                  refine w_iload X0.here hx (hb hby at_219) rfl (pc' := 221) rfl ?_
                  have hs : sg = (0 : Int32) := by rw [hsg, refF, if_neg (fun t => t.2.2 h3), if_neg (fun t => t.2.2 g3), if_neg q3, if_neg q4]
                  refine w_icmpNo X0.here hx (hb hby at_221) (teq (show sg = (0 : Int32) from hs)).2 (pc' := 224) rfl ?_
                  refine w_iconst X0.here hx (hb hby at_224) (z := 1) rfl (pc' := 225) rfl ?_
                  refine w_goto X0.here hx (hb hby at_225) (pc' := 229) (by decide) (by decide) ?_
                  exact endZW X0 hx D0 e0 hlk hret (by simp) (hb hby at_229) (show nar .boolean 1 = 1 from rfl) hc1 hc2 ⟨rfl, N0⟩
            · refine w_icmpNo X0.here hx (hb hby at_172) (feq (show ¬ (a1' = b1') from g3)).1 (pc' := 175) rfl ?_
              refine w_iload X0.here hx (hb hby at_175) rfl (pc' := 177) rfl ?_
              refine w_iload X0.here hx (hb hby at_177) rfl (pc' := 179) rfl ?_
              by_cases ql : a1' < b1'
              · refine w_icmpNo X0.here hx (hb hby at_179) (tlt (show a1' < b1' from ql)).2.1 (pc' := 182) rfl ?_
                refine w_iconst X0.here hx (hb hby at_182) (z := (-1)) rfl (pc' := 183) rfl ?_
                refine w_goto X0.here hx (hb hby at_183) (pc' := 187) (by decide) (by decide) ?_
                refine w_istore X0.here hx (hb hby at_187) (l' := #[.val (.int p0), .val (.int p1), .val (.int p2), .val (.int p3), .val (.int p4), .val (.int a0'), .val (.int a1'), .val (.int b0'), .val (.int b1'), .val (.int (Int32.ofNat na)), .val (.int (Int32.ofNat nb)), .val (.ref a), .val (.ref b), .val (.int r), .val (.int sg), .val (.int (-1 : Int32))]) rfl (pc' := 189) rfl ?_
                refine w_goto X0.here hx (hb hby at_189) (pc' := 217) (by decide) (by decide) ?_
                refine w_iload X0.here hx (hb hby at_217) rfl (pc' := 219) rfl ?_
                refine w_iload X0.here hx (hb hby at_219) rfl (pc' := 221) rfl ?_
                have hs : sg = (-1 : Int32) := by rw [hsg, refF, if_neg (fun t => t.2.2 h3), if_pos ⟨g1, g2, g3⟩, if_pos ql]
                refine w_icmpNo X0.here hx (hb hby at_221) (teq (show sg = (-1 : Int32) from hs)).2 (pc' := 224) rfl ?_
                refine w_iconst X0.here hx (hb hby at_224) (z := 1) rfl (pc' := 225) rfl ?_
                refine w_goto X0.here hx (hb hby at_225) (pc' := 229) (by decide) (by decide) ?_
                exact endZW X0 hx D0 e0 hlk hret (by simp) (hb hby at_229) (show nar .boolean 1 = 1 from rfl) hc1 hc2 ⟨rfl, N0⟩
              · refine w_icmpYes X0.here hx (hb hby at_179) (flt (show ¬ (a1' < b1') from ql)).2.1 (pc' := 186) (by decide) (by decide) ?_
                refine w_iconst X0.here hx (hb hby at_186) (z := 1) rfl (pc' := 187) rfl ?_
                refine w_istore X0.here hx (hb hby at_187) (l' := #[.val (.int p0), .val (.int p1), .val (.int p2), .val (.int p3), .val (.int p4), .val (.int a0'), .val (.int a1'), .val (.int b0'), .val (.int b1'), .val (.int (Int32.ofNat na)), .val (.int (Int32.ofNat nb)), .val (.ref a), .val (.ref b), .val (.int r), .val (.int sg), .val (.int (1 : Int32))]) rfl (pc' := 189) rfl ?_
                refine w_goto X0.here hx (hb hby at_189) (pc' := 217) (by decide) (by decide) ?_
                refine w_iload X0.here hx (hb hby at_217) rfl (pc' := 219) rfl ?_
                refine w_iload X0.here hx (hb hby at_219) rfl (pc' := 221) rfl ?_
                have hs : sg = (1 : Int32) := by rw [hsg, refF, if_neg (fun t => t.2.2 h3), if_pos ⟨g1, g2, g3⟩, if_neg ql]
                refine w_icmpNo X0.here hx (hb hby at_221) (teq (show sg = (1 : Int32) from hs)).2 (pc' := 224) rfl ?_
                refine w_iconst X0.here hx (hb hby at_224) (z := 1) rfl (pc' := 225) rfl ?_
                refine w_goto X0.here hx (hb hby at_225) (pc' := 229) (by decide) (by decide) ?_
                exact endZW X0 hx D0 e0 hlk hret (by simp) (hb hby at_229) (show nar .boolean 1 = 1 from rfl) hc1 hc2 ⟨rfl, N0⟩
          · refine w_icmpYes X0.here hx (hb hby at_165) (tlt (show (Int32.ofNat nb) < (2 : Int32) from n_lt (n := 2) (by omega) (by omega))).1 (pc' := 192) (by decide) (by decide) ?_
            refine w_iload X0.here hx (hb hby at_192) rfl (pc' := 194) rfl ?_
            refine w_iload X0.here hx (hb hby at_194) rfl (pc' := 196) rfl ?_
            by_cases q3 : na < nb
            · refine w_icmpNo X0.here hx (hb hby at_196) (tlt (show (Int32.ofNat na) < (Int32.ofNat nb) from n_lt q3 (by omega))).2.1 (pc' := 199) rfl ?_
              refine w_iconst X0.here hx (hb hby at_199) (z := (-1)) rfl (pc' := 200) rfl ?_
              refine w_goto X0.here hx (hb hby at_200) (pc' := 215) (by decide) (by decide) ?_
              refine w_istore X0.here hx (hb hby at_215) (l' := #[.val (.int p0), .val (.int p1), .val (.int p2), .val (.int p3), .val (.int p4), .val (.int a0'), .val (.int a1'), .val (.int b0'), .val (.int b1'), .val (.int (Int32.ofNat na)), .val (.int (Int32.ofNat nb)), .val (.ref a), .val (.ref b), .val (.int r), .val (.int sg), .val (.int (-1 : Int32))]) rfl (pc' := 217) rfl ?_
              refine w_iload X0.here hx (hb hby at_217) rfl (pc' := 219) rfl ?_
              refine w_iload X0.here hx (hb hby at_219) rfl (pc' := 221) rfl ?_
              have hs : sg = (-1 : Int32) := by rw [hsg, refF, if_neg (fun t => t.2.2 h3), if_neg (fun t => g2 t.2.1), if_pos q3]
              refine w_icmpNo X0.here hx (hb hby at_221) (teq (show sg = (-1 : Int32) from hs)).2 (pc' := 224) rfl ?_
              refine w_iconst X0.here hx (hb hby at_224) (z := 1) rfl (pc' := 225) rfl ?_
              refine w_goto X0.here hx (hb hby at_225) (pc' := 229) (by decide) (by decide) ?_
              exact endZW X0 hx D0 e0 hlk hret (by simp) (hb hby at_229) (show nar .boolean 1 = 1 from rfl) hc1 hc2 ⟨rfl, N0⟩
            · refine w_icmpYes X0.here hx (hb hby at_196) (flt (show ¬ ((Int32.ofNat na) < (Int32.ofNat nb)) from n_nlt (by omega) (by omega))).2.1 (pc' := 203) (by decide) (by decide) ?_
              refine w_iload X0.here hx (hb hby at_203) rfl (pc' := 205) rfl ?_
              refine w_iload X0.here hx (hb hby at_205) rfl (pc' := 207) rfl ?_
              by_cases q4 : nb < na
              · refine w_icmpNo X0.here hx (hb hby at_207) (tlt (show (Int32.ofNat nb) < (Int32.ofNat na) from n_lt q4 (by omega))).2.2.2 (pc' := 210) rfl ?_
                refine w_iconst X0.here hx (hb hby at_210) (z := 1) rfl (pc' := 211) rfl ?_
                refine w_goto X0.here hx (hb hby at_211) (pc' := 215) (by decide) (by decide) ?_
                refine w_istore X0.here hx (hb hby at_215) (l' := #[.val (.int p0), .val (.int p1), .val (.int p2), .val (.int p3), .val (.int p4), .val (.int a0'), .val (.int a1'), .val (.int b0'), .val (.int b1'), .val (.int (Int32.ofNat na)), .val (.int (Int32.ofNat nb)), .val (.ref a), .val (.ref b), .val (.int r), .val (.int sg), .val (.int (1 : Int32))]) rfl (pc' := 217) rfl ?_
                refine w_iload X0.here hx (hb hby at_217) rfl (pc' := 219) rfl ?_
                refine w_iload X0.here hx (hb hby at_219) rfl (pc' := 221) rfl ?_
                have hs : sg = (1 : Int32) := by rw [hsg, refF, if_neg (fun t => t.2.2 h3), if_neg (fun t => g2 t.2.1), if_neg q3, if_pos q4]
                refine w_icmpNo X0.here hx (hb hby at_221) (teq (show sg = (1 : Int32) from hs)).2 (pc' := 224) rfl ?_
                refine w_iconst X0.here hx (hb hby at_224) (z := 1) rfl (pc' := 225) rfl ?_
                refine w_goto X0.here hx (hb hby at_225) (pc' := 229) (by decide) (by decide) ?_
                exact endZW X0 hx D0 e0 hlk hret (by simp) (hb hby at_229) (show nar .boolean 1 = 1 from rfl) hc1 hc2 ⟨rfl, N0⟩
              · refine w_icmpYes X0.here hx (hb hby at_207) (flt (show ¬ ((Int32.ofNat nb) < (Int32.ofNat na)) from n_nlt (by omega) (by omega))).2.2.2 (pc' := 214) (by decide) (by decide) ?_
                refine w_iconst X0.here hx (hb hby at_214) (z := 0) rfl (pc' := 215) rfl ?_
                refine w_istore X0.here hx (hb hby at_215) (l' := #[.val (.int p0), .val (.int p1), .val (.int p2), .val (.int p3), .val (.int p4), .val (.int a0'), .val (.int a1'), .val (.int b0'), .val (.int b1'), .val (.int (Int32.ofNat na)), .val (.int (Int32.ofNat nb)), .val (.ref a), .val (.ref b), .val (.int r), .val (.int sg), .val (.int (0 : Int32))]) rfl (pc' := 217) rfl ?_
                refine w_iload X0.here hx (hb hby at_217) rfl (pc' := 219) rfl ?_
                refine w_iload X0.here hx (hb hby at_219) rfl (pc' := 221) rfl ?_
                have hs : sg = (0 : Int32) := by rw [hsg, refF, if_neg (fun t => t.2.2 h3), if_neg (fun t => g2 t.2.1), if_neg q3, if_neg q4]
                refine w_icmpNo X0.here hx (hb hby at_221) (teq (show sg = (0 : Int32) from hs)).2 (pc' := 224) rfl ?_
                refine w_iconst X0.here hx (hb hby at_224) (z := 1) rfl (pc' := 225) rfl ?_
                refine w_goto X0.here hx (hb hby at_225) (pc' := 229) (by decide) (by decide) ?_
                exact endZW X0 hx D0 e0 hlk hret (by simp) (hb hby at_229) (show nar .boolean 1 = 1 from rfl) hc1 hc2 ⟨rfl, N0⟩
        · refine w_icmpYes X0.here hx (hb hby at_159) (tlt (show (Int32.ofNat na) < (2 : Int32) from n_lt (n := 2) (by omega) (by omega))).1 (pc' := 192) (by decide) (by decide) ?_
          refine w_iload X0.here hx (hb hby at_192) rfl (pc' := 194) rfl ?_
          refine w_iload X0.here hx (hb hby at_194) rfl (pc' := 196) rfl ?_
          by_cases q3 : na < nb
          · refine w_icmpNo X0.here hx (hb hby at_196) (tlt (show (Int32.ofNat na) < (Int32.ofNat nb) from n_lt q3 (by omega))).2.1 (pc' := 199) rfl ?_
            refine w_iconst X0.here hx (hb hby at_199) (z := (-1)) rfl (pc' := 200) rfl ?_
            refine w_goto X0.here hx (hb hby at_200) (pc' := 215) (by decide) (by decide) ?_
            refine w_istore X0.here hx (hb hby at_215) (l' := #[.val (.int p0), .val (.int p1), .val (.int p2), .val (.int p3), .val (.int p4), .val (.int a0'), .val (.int a1'), .val (.int b0'), .val (.int b1'), .val (.int (Int32.ofNat na)), .val (.int (Int32.ofNat nb)), .val (.ref a), .val (.ref b), .val (.int r), .val (.int sg), .val (.int (-1 : Int32))]) rfl (pc' := 217) rfl ?_
            refine w_iload X0.here hx (hb hby at_217) rfl (pc' := 219) rfl ?_
            refine w_iload X0.here hx (hb hby at_219) rfl (pc' := 221) rfl ?_
            have hs : sg = (-1 : Int32) := by rw [hsg, refF, if_neg (fun t => t.2.2 h3), if_neg (fun t => g1 t.1), if_pos q3]
            refine w_icmpNo X0.here hx (hb hby at_221) (teq (show sg = (-1 : Int32) from hs)).2 (pc' := 224) rfl ?_
            refine w_iconst X0.here hx (hb hby at_224) (z := 1) rfl (pc' := 225) rfl ?_
            refine w_goto X0.here hx (hb hby at_225) (pc' := 229) (by decide) (by decide) ?_
            exact endZW X0 hx D0 e0 hlk hret (by simp) (hb hby at_229) (show nar .boolean 1 = 1 from rfl) hc1 hc2 ⟨rfl, N0⟩
          · refine w_icmpYes X0.here hx (hb hby at_196) (flt (show ¬ ((Int32.ofNat na) < (Int32.ofNat nb)) from n_nlt (by omega) (by omega))).2.1 (pc' := 203) (by decide) (by decide) ?_
            refine w_iload X0.here hx (hb hby at_203) rfl (pc' := 205) rfl ?_
            refine w_iload X0.here hx (hb hby at_205) rfl (pc' := 207) rfl ?_
            by_cases q4 : nb < na
            · refine w_icmpNo X0.here hx (hb hby at_207) (tlt (show (Int32.ofNat nb) < (Int32.ofNat na) from n_lt q4 (by omega))).2.2.2 (pc' := 210) rfl ?_
              refine w_iconst X0.here hx (hb hby at_210) (z := 1) rfl (pc' := 211) rfl ?_
              refine w_goto X0.here hx (hb hby at_211) (pc' := 215) (by decide) (by decide) ?_
              refine w_istore X0.here hx (hb hby at_215) (l' := #[.val (.int p0), .val (.int p1), .val (.int p2), .val (.int p3), .val (.int p4), .val (.int a0'), .val (.int a1'), .val (.int b0'), .val (.int b1'), .val (.int (Int32.ofNat na)), .val (.int (Int32.ofNat nb)), .val (.ref a), .val (.ref b), .val (.int r), .val (.int sg), .val (.int (1 : Int32))]) rfl (pc' := 217) rfl ?_
              refine w_iload X0.here hx (hb hby at_217) rfl (pc' := 219) rfl ?_
              refine w_iload X0.here hx (hb hby at_219) rfl (pc' := 221) rfl ?_
              have hs : sg = (1 : Int32) := by rw [hsg, refF, if_neg (fun t => t.2.2 h3), if_neg (fun t => g1 t.1), if_neg q3, if_pos q4]
              refine w_icmpNo X0.here hx (hb hby at_221) (teq (show sg = (1 : Int32) from hs)).2 (pc' := 224) rfl ?_
              refine w_iconst X0.here hx (hb hby at_224) (z := 1) rfl (pc' := 225) rfl ?_
              refine w_goto X0.here hx (hb hby at_225) (pc' := 229) (by decide) (by decide) ?_
              exact endZW X0 hx D0 e0 hlk hret (by simp) (hb hby at_229) (show nar .boolean 1 = 1 from rfl) hc1 hc2 ⟨rfl, N0⟩
            · refine w_icmpYes X0.here hx (hb hby at_207) (flt (show ¬ ((Int32.ofNat nb) < (Int32.ofNat na)) from n_nlt (by omega) (by omega))).2.2.2 (pc' := 214) (by decide) (by decide) ?_
              refine w_iconst X0.here hx (hb hby at_214) (z := 0) rfl (pc' := 215) rfl ?_
              refine w_istore X0.here hx (hb hby at_215) (l' := #[.val (.int p0), .val (.int p1), .val (.int p2), .val (.int p3), .val (.int p4), .val (.int a0'), .val (.int a1'), .val (.int b0'), .val (.int b1'), .val (.int (Int32.ofNat na)), .val (.int (Int32.ofNat nb)), .val (.ref a), .val (.ref b), .val (.int r), .val (.int sg), .val (.int (0 : Int32))]) rfl (pc' := 217) rfl ?_
              refine w_iload X0.here hx (hb hby at_217) rfl (pc' := 219) rfl ?_
              refine w_iload X0.here hx (hb hby at_219) rfl (pc' := 221) rfl ?_
              have hs : sg = (0 : Int32) := by rw [hsg, refF, if_neg (fun t => t.2.2 h3), if_neg (fun t => g1 t.1), if_neg q3, if_neg q4]
              refine w_icmpNo X0.here hx (hb hby at_221) (teq (show sg = (0 : Int32) from hs)).2 (pc' := 224) rfl ?_
              refine w_iconst X0.here hx (hb hby at_224) (z := 1) rfl (pc' := 225) rfl ?_
              refine w_goto X0.here hx (hb hby at_225) (pc' := 229) (by decide) (by decide) ?_
              exact endZW X0 hx D0 e0 hlk hret (by simp) (hb hby at_229) (show nar .boolean 1 = 1 from rfl) hc1 hc2 ⟨rfl, N0⟩
      · refine w_icmpNo X0.here hx (hb hby at_136) (feq (show ¬ (a0' = b0') from h3)).1 (pc' := 139) rfl ?_
        refine w_iload X0.here hx (hb hby at_139) rfl (pc' := 141) rfl ?_
        refine w_iload X0.here hx (hb hby at_141) rfl (pc' := 143) rfl ?_
        by_cases ql : a0' < b0'
        · refine w_icmpNo X0.here hx (hb hby at_143) (tlt (show a0' < b0' from ql)).2.1 (pc' := 146) rfl ?_
          refine w_iconst X0.here hx (hb hby at_146) (z := (-1)) rfl (pc' := 147) rfl ?_
          refine w_goto X0.here hx (hb hby at_147) (pc' := 151) (by decide) (by decide) ?_
          refine w_istore X0.here hx (hb hby at_151) (l' := #[.val (.int p0), .val (.int p1), .val (.int p2), .val (.int p3), .val (.int p4), .val (.int a0'), .val (.int a1'), .val (.int b0'), .val (.int b1'), .val (.int (Int32.ofNat na)), .val (.int (Int32.ofNat nb)), .val (.ref a), .val (.ref b), .val (.int r), .val (.int sg), .val (.int (-1 : Int32))]) rfl (pc' := 153) rfl ?_
          refine w_goto X0.here hx (hb hby at_153) (pc' := 217) (by decide) (by decide) ?_
          refine w_iload X0.here hx (hb hby at_217) rfl (pc' := 219) rfl ?_
          refine w_iload X0.here hx (hb hby at_219) rfl (pc' := 221) rfl ?_
          have hs : sg = (-1 : Int32) := by rw [hsg, refF, if_pos ⟨h1, h2, h3⟩, if_pos ql]
          refine w_icmpNo X0.here hx (hb hby at_221) (teq (show sg = (-1 : Int32) from hs)).2 (pc' := 224) rfl ?_
          refine w_iconst X0.here hx (hb hby at_224) (z := 1) rfl (pc' := 225) rfl ?_
          refine w_goto X0.here hx (hb hby at_225) (pc' := 229) (by decide) (by decide) ?_
          exact endZW X0 hx D0 e0 hlk hret (by simp) (hb hby at_229) (show nar .boolean 1 = 1 from rfl) hc1 hc2 ⟨rfl, N0⟩
        · refine w_icmpYes X0.here hx (hb hby at_143) (flt (show ¬ (a0' < b0') from ql)).2.1 (pc' := 150) (by decide) (by decide) ?_
          refine w_iconst X0.here hx (hb hby at_150) (z := 1) rfl (pc' := 151) rfl ?_
          refine w_istore X0.here hx (hb hby at_151) (l' := #[.val (.int p0), .val (.int p1), .val (.int p2), .val (.int p3), .val (.int p4), .val (.int a0'), .val (.int a1'), .val (.int b0'), .val (.int b1'), .val (.int (Int32.ofNat na)), .val (.int (Int32.ofNat nb)), .val (.ref a), .val (.ref b), .val (.int r), .val (.int sg), .val (.int (1 : Int32))]) rfl (pc' := 153) rfl ?_
          refine w_goto X0.here hx (hb hby at_153) (pc' := 217) (by decide) (by decide) ?_
          refine w_iload X0.here hx (hb hby at_217) rfl (pc' := 219) rfl ?_
          refine w_iload X0.here hx (hb hby at_219) rfl (pc' := 221) rfl ?_
          have hs : sg = (1 : Int32) := by rw [hsg, refF, if_pos ⟨h1, h2, h3⟩, if_neg ql]
          refine w_icmpNo X0.here hx (hb hby at_221) (teq (show sg = (1 : Int32) from hs)).2 (pc' := 224) rfl ?_
          refine w_iconst X0.here hx (hb hby at_224) (z := 1) rfl (pc' := 225) rfl ?_
          refine w_goto X0.here hx (hb hby at_225) (pc' := 229) (by decide) (by decide) ?_
          exact endZW X0 hx D0 e0 hlk hret (by simp) (hb hby at_229) (show nar .boolean 1 = 1 from rfl) hc1 hc2 ⟨rfl, N0⟩
    · refine w_icmpYes X0.here hx (hb hby at_129) (tlt (show (Int32.ofNat nb) < (1 : Int32) from n_lt (n := 1) (by omega) (by omega))).1 (pc' := 156) (by decide) (by decide) ?_
      refine w_iload X0.here hx (hb hby at_156) rfl (pc' := 158) rfl ?_
      refine w_iconst X0.here hx (hb hby at_158) (z := 2) rfl (pc' := 159) rfl ?_
      by_cases g1 : 2 ≤ na
      · refine w_icmpNo X0.here hx (hb hby at_159) (flt (show ¬ ((Int32.ofNat na) < (2 : Int32)) from n_nlt (n := 2) g1 (by omega))).1 (pc' := 162) rfl ?_
        refine w_iload X0.here hx (hb hby at_162) rfl (pc' := 164) rfl ?_
        refine w_iconst X0.here hx (hb hby at_164) (z := 2) rfl (pc' := 165) rfl ?_
        by_cases g2 : 2 ≤ nb
        · refine w_icmpNo X0.here hx (hb hby at_165) (flt (show ¬ ((Int32.ofNat nb) < (2 : Int32)) from n_nlt (n := 2) g2 (by omega))).1 (pc' := 168) rfl ?_
          refine w_iload X0.here hx (hb hby at_168) rfl (pc' := 170) rfl ?_
          refine w_iload X0.here hx (hb hby at_170) rfl (pc' := 172) rfl ?_
          by_cases g3 : a1' = b1'
          · refine w_icmpYes X0.here hx (hb hby at_172) (teq (show a1' = b1' from g3)).1 (pc' := 192) (by decide) (by decide) ?_
            refine w_iload X0.here hx (hb hby at_192) rfl (pc' := 194) rfl ?_
            refine w_iload X0.here hx (hb hby at_194) rfl (pc' := 196) rfl ?_
            by_cases q3 : na < nb
            · refine w_icmpNo X0.here hx (hb hby at_196) (tlt (show (Int32.ofNat na) < (Int32.ofNat nb) from n_lt q3 (by omega))).2.1 (pc' := 199) rfl ?_
              refine w_iconst X0.here hx (hb hby at_199) (z := (-1)) rfl (pc' := 200) rfl ?_
              refine w_goto X0.here hx (hb hby at_200) (pc' := 215) (by decide) (by decide) ?_
              refine w_istore X0.here hx (hb hby at_215) (l' := #[.val (.int p0), .val (.int p1), .val (.int p2), .val (.int p3), .val (.int p4), .val (.int a0'), .val (.int a1'), .val (.int b0'), .val (.int b1'), .val (.int (Int32.ofNat na)), .val (.int (Int32.ofNat nb)), .val (.ref a), .val (.ref b), .val (.int r), .val (.int sg), .val (.int (-1 : Int32))]) rfl (pc' := 217) rfl ?_
              refine w_iload X0.here hx (hb hby at_217) rfl (pc' := 219) rfl ?_
              refine w_iload X0.here hx (hb hby at_219) rfl (pc' := 221) rfl ?_
              have hs : sg = (-1 : Int32) := by rw [hsg, refF, if_neg (fun t => h2 t.2.1), if_neg (fun t => t.2.2 g3), if_pos q3]
              refine w_icmpNo X0.here hx (hb hby at_221) (teq (show sg = (-1 : Int32) from hs)).2 (pc' := 224) rfl ?_
              refine w_iconst X0.here hx (hb hby at_224) (z := 1) rfl (pc' := 225) rfl ?_
              refine w_goto X0.here hx (hb hby at_225) (pc' := 229) (by decide) (by decide) ?_
              exact endZW X0 hx D0 e0 hlk hret (by simp) (hb hby at_229) (show nar .boolean 1 = 1 from rfl) hc1 hc2 ⟨rfl, N0⟩
            · refine w_icmpYes X0.here hx (hb hby at_196) (flt (show ¬ ((Int32.ofNat na) < (Int32.ofNat nb)) from n_nlt (by omega) (by omega))).2.1 (pc' := 203) (by decide) (by decide) ?_
              refine w_iload X0.here hx (hb hby at_203) rfl (pc' := 205) rfl ?_
              refine w_iload X0.here hx (hb hby at_205) rfl (pc' := 207) rfl ?_
              by_cases q4 : nb < na
              · refine w_icmpNo X0.here hx (hb hby at_207) (tlt (show (Int32.ofNat nb) < (Int32.ofNat na) from n_lt q4 (by omega))).2.2.2 (pc' := 210) rfl ?_
                refine w_iconst X0.here hx (hb hby at_210) (z := 1) rfl (pc' := 211) rfl ?_
                refine w_goto X0.here hx (hb hby at_211) (pc' := 215) (by decide) (by decide) ?_
                refine w_istore X0.here hx (hb hby at_215) (l' := #[.val (.int p0), .val (.int p1), .val (.int p2), .val (.int p3), .val (.int p4), .val (.int a0'), .val (.int a1'), .val (.int b0'), .val (.int b1'), .val (.int (Int32.ofNat na)), .val (.int (Int32.ofNat nb)), .val (.ref a), .val (.ref b), .val (.int r), .val (.int sg), .val (.int (1 : Int32))]) rfl (pc' := 217) rfl ?_
                refine w_iload X0.here hx (hb hby at_217) rfl (pc' := 219) rfl ?_
                refine w_iload X0.here hx (hb hby at_219) rfl (pc' := 221) rfl ?_
                have hs : sg = (1 : Int32) := by rw [hsg, refF, if_neg (fun t => h2 t.2.1), if_neg (fun t => t.2.2 g3), if_neg q3, if_pos q4]
                refine w_icmpNo X0.here hx (hb hby at_221) (teq (show sg = (1 : Int32) from hs)).2 (pc' := 224) rfl ?_
                refine w_iconst X0.here hx (hb hby at_224) (z := 1) rfl (pc' := 225) rfl ?_
                refine w_goto X0.here hx (hb hby at_225) (pc' := 229) (by decide) (by decide) ?_
                exact endZW X0 hx D0 e0 hlk hret (by simp) (hb hby at_229) (show nar .boolean 1 = 1 from rfl) hc1 hc2 ⟨rfl, N0⟩
              · refine w_icmpYes X0.here hx (hb hby at_207) (flt (show ¬ ((Int32.ofNat nb) < (Int32.ofNat na)) from n_nlt (by omega) (by omega))).2.2.2 (pc' := 214) (by decide) (by decide) ?_
                refine w_iconst X0.here hx (hb hby at_214) (z := 0) rfl (pc' := 215) rfl ?_
                refine w_istore X0.here hx (hb hby at_215) (l' := #[.val (.int p0), .val (.int p1), .val (.int p2), .val (.int p3), .val (.int p4), .val (.int a0'), .val (.int a1'), .val (.int b0'), .val (.int b1'), .val (.int (Int32.ofNat na)), .val (.int (Int32.ofNat nb)), .val (.ref a), .val (.ref b), .val (.int r), .val (.int sg), .val (.int (0 : Int32))]) rfl (pc' := 217) rfl ?_
                refine w_iload X0.here hx (hb hby at_217) rfl (pc' := 219) rfl ?_
                refine w_iload X0.here hx (hb hby at_219) rfl (pc' := 221) rfl ?_
                have hs : sg = (0 : Int32) := by rw [hsg, refF, if_neg (fun t => h2 t.2.1), if_neg (fun t => t.2.2 g3), if_neg q3, if_neg q4]
                refine w_icmpNo X0.here hx (hb hby at_221) (teq (show sg = (0 : Int32) from hs)).2 (pc' := 224) rfl ?_
                refine w_iconst X0.here hx (hb hby at_224) (z := 1) rfl (pc' := 225) rfl ?_
                refine w_goto X0.here hx (hb hby at_225) (pc' := 229) (by decide) (by decide) ?_
                exact endZW X0 hx D0 e0 hlk hret (by simp) (hb hby at_229) (show nar .boolean 1 = 1 from rfl) hc1 hc2 ⟨rfl, N0⟩
          · refine w_icmpNo X0.here hx (hb hby at_172) (feq (show ¬ (a1' = b1') from g3)).1 (pc' := 175) rfl ?_
            refine w_iload X0.here hx (hb hby at_175) rfl (pc' := 177) rfl ?_
            refine w_iload X0.here hx (hb hby at_177) rfl (pc' := 179) rfl ?_
            by_cases ql : a1' < b1'
            · refine w_icmpNo X0.here hx (hb hby at_179) (tlt (show a1' < b1' from ql)).2.1 (pc' := 182) rfl ?_
              refine w_iconst X0.here hx (hb hby at_182) (z := (-1)) rfl (pc' := 183) rfl ?_
              refine w_goto X0.here hx (hb hby at_183) (pc' := 187) (by decide) (by decide) ?_
              refine w_istore X0.here hx (hb hby at_187) (l' := #[.val (.int p0), .val (.int p1), .val (.int p2), .val (.int p3), .val (.int p4), .val (.int a0'), .val (.int a1'), .val (.int b0'), .val (.int b1'), .val (.int (Int32.ofNat na)), .val (.int (Int32.ofNat nb)), .val (.ref a), .val (.ref b), .val (.int r), .val (.int sg), .val (.int (-1 : Int32))]) rfl (pc' := 189) rfl ?_
              refine w_goto X0.here hx (hb hby at_189) (pc' := 217) (by decide) (by decide) ?_
              refine w_iload X0.here hx (hb hby at_217) rfl (pc' := 219) rfl ?_
              refine w_iload X0.here hx (hb hby at_219) rfl (pc' := 221) rfl ?_
              have hs : sg = (-1 : Int32) := by rw [hsg, refF, if_neg (fun t => h2 t.2.1), if_pos ⟨g1, g2, g3⟩, if_pos ql]
              refine w_icmpNo X0.here hx (hb hby at_221) (teq (show sg = (-1 : Int32) from hs)).2 (pc' := 224) rfl ?_
              refine w_iconst X0.here hx (hb hby at_224) (z := 1) rfl (pc' := 225) rfl ?_
              refine w_goto X0.here hx (hb hby at_225) (pc' := 229) (by decide) (by decide) ?_
              exact endZW X0 hx D0 e0 hlk hret (by simp) (hb hby at_229) (show nar .boolean 1 = 1 from rfl) hc1 hc2 ⟨rfl, N0⟩
            · refine w_icmpYes X0.here hx (hb hby at_179) (flt (show ¬ (a1' < b1') from ql)).2.1 (pc' := 186) (by decide) (by decide) ?_
              refine w_iconst X0.here hx (hb hby at_186) (z := 1) rfl (pc' := 187) rfl ?_
              refine w_istore X0.here hx (hb hby at_187) (l' := #[.val (.int p0), .val (.int p1), .val (.int p2), .val (.int p3), .val (.int p4), .val (.int a0'), .val (.int a1'), .val (.int b0'), .val (.int b1'), .val (.int (Int32.ofNat na)), .val (.int (Int32.ofNat nb)), .val (.ref a), .val (.ref b), .val (.int r), .val (.int sg), .val (.int (1 : Int32))]) rfl (pc' := 189) rfl ?_
              refine w_goto X0.here hx (hb hby at_189) (pc' := 217) (by decide) (by decide) ?_
              refine w_iload X0.here hx (hb hby at_217) rfl (pc' := 219) rfl ?_
              refine w_iload X0.here hx (hb hby at_219) rfl (pc' := 221) rfl ?_
              have hs : sg = (1 : Int32) := by rw [hsg, refF, if_neg (fun t => h2 t.2.1), if_pos ⟨g1, g2, g3⟩, if_neg ql]
              refine w_icmpNo X0.here hx (hb hby at_221) (teq (show sg = (1 : Int32) from hs)).2 (pc' := 224) rfl ?_
              refine w_iconst X0.here hx (hb hby at_224) (z := 1) rfl (pc' := 225) rfl ?_
              refine w_goto X0.here hx (hb hby at_225) (pc' := 229) (by decide) (by decide) ?_
              exact endZW X0 hx D0 e0 hlk hret (by simp) (hb hby at_229) (show nar .boolean 1 = 1 from rfl) hc1 hc2 ⟨rfl, N0⟩
        · refine w_icmpYes X0.here hx (hb hby at_165) (tlt (show (Int32.ofNat nb) < (2 : Int32) from n_lt (n := 2) (by omega) (by omega))).1 (pc' := 192) (by decide) (by decide) ?_
          refine w_iload X0.here hx (hb hby at_192) rfl (pc' := 194) rfl ?_
          refine w_iload X0.here hx (hb hby at_194) rfl (pc' := 196) rfl ?_
          by_cases q3 : na < nb
          · refine w_icmpNo X0.here hx (hb hby at_196) (tlt (show (Int32.ofNat na) < (Int32.ofNat nb) from n_lt q3 (by omega))).2.1 (pc' := 199) rfl ?_
            refine w_iconst X0.here hx (hb hby at_199) (z := (-1)) rfl (pc' := 200) rfl ?_
            refine w_goto X0.here hx (hb hby at_200) (pc' := 215) (by decide) (by decide) ?_
            refine w_istore X0.here hx (hb hby at_215) (l' := #[.val (.int p0), .val (.int p1), .val (.int p2), .val (.int p3), .val (.int p4), .val (.int a0'), .val (.int a1'), .val (.int b0'), .val (.int b1'), .val (.int (Int32.ofNat na)), .val (.int (Int32.ofNat nb)), .val (.ref a), .val (.ref b), .val (.int r), .val (.int sg), .val (.int (-1 : Int32))]) rfl (pc' := 217) rfl ?_
            refine w_iload X0.here hx (hb hby at_217) rfl (pc' := 219) rfl ?_
            refine w_iload X0.here hx (hb hby at_219) rfl (pc' := 221) rfl ?_
            have hs : sg = (-1 : Int32) := by rw [hsg, refF, if_neg (fun t => h2 t.2.1), if_neg (fun t => g2 t.2.1), if_pos q3]
            refine w_icmpNo X0.here hx (hb hby at_221) (teq (show sg = (-1 : Int32) from hs)).2 (pc' := 224) rfl ?_
            refine w_iconst X0.here hx (hb hby at_224) (z := 1) rfl (pc' := 225) rfl ?_
            refine w_goto X0.here hx (hb hby at_225) (pc' := 229) (by decide) (by decide) ?_
            exact endZW X0 hx D0 e0 hlk hret (by simp) (hb hby at_229) (show nar .boolean 1 = 1 from rfl) hc1 hc2 ⟨rfl, N0⟩
          · refine w_icmpYes X0.here hx (hb hby at_196) (flt (show ¬ ((Int32.ofNat na) < (Int32.ofNat nb)) from n_nlt (by omega) (by omega))).2.1 (pc' := 203) (by decide) (by decide) ?_
            refine w_iload X0.here hx (hb hby at_203) rfl (pc' := 205) rfl ?_
            refine w_iload X0.here hx (hb hby at_205) rfl (pc' := 207) rfl ?_
            by_cases q4 : nb < na
            · refine w_icmpNo X0.here hx (hb hby at_207) (tlt (show (Int32.ofNat nb) < (Int32.ofNat na) from n_lt q4 (by omega))).2.2.2 (pc' := 210) rfl ?_
              refine w_iconst X0.here hx (hb hby at_210) (z := 1) rfl (pc' := 211) rfl ?_
              refine w_goto X0.here hx (hb hby at_211) (pc' := 215) (by decide) (by decide) ?_
              refine w_istore X0.here hx (hb hby at_215) (l' := #[.val (.int p0), .val (.int p1), .val (.int p2), .val (.int p3), .val (.int p4), .val (.int a0'), .val (.int a1'), .val (.int b0'), .val (.int b1'), .val (.int (Int32.ofNat na)), .val (.int (Int32.ofNat nb)), .val (.ref a), .val (.ref b), .val (.int r), .val (.int sg), .val (.int (1 : Int32))]) rfl (pc' := 217) rfl ?_
              refine w_iload X0.here hx (hb hby at_217) rfl (pc' := 219) rfl ?_
              refine w_iload X0.here hx (hb hby at_219) rfl (pc' := 221) rfl ?_
              have hs : sg = (1 : Int32) := by rw [hsg, refF, if_neg (fun t => h2 t.2.1), if_neg (fun t => g2 t.2.1), if_neg q3, if_pos q4]
              refine w_icmpNo X0.here hx (hb hby at_221) (teq (show sg = (1 : Int32) from hs)).2 (pc' := 224) rfl ?_
              refine w_iconst X0.here hx (hb hby at_224) (z := 1) rfl (pc' := 225) rfl ?_
              refine w_goto X0.here hx (hb hby at_225) (pc' := 229) (by decide) (by decide) ?_
              exact endZW X0 hx D0 e0 hlk hret (by simp) (hb hby at_229) (show nar .boolean 1 = 1 from rfl) hc1 hc2 ⟨rfl, N0⟩
            · refine w_icmpYes X0.here hx (hb hby at_207) (flt (show ¬ ((Int32.ofNat nb) < (Int32.ofNat na)) from n_nlt (by omega) (by omega))).2.2.2 (pc' := 214) (by decide) (by decide) ?_
              refine w_iconst X0.here hx (hb hby at_214) (z := 0) rfl (pc' := 215) rfl ?_
              refine w_istore X0.here hx (hb hby at_215) (l' := #[.val (.int p0), .val (.int p1), .val (.int p2), .val (.int p3), .val (.int p4), .val (.int a0'), .val (.int a1'), .val (.int b0'), .val (.int b1'), .val (.int (Int32.ofNat na)), .val (.int (Int32.ofNat nb)), .val (.ref a), .val (.ref b), .val (.int r), .val (.int sg), .val (.int (0 : Int32))]) rfl (pc' := 217) rfl ?_
              refine w_iload X0.here hx (hb hby at_217) rfl (pc' := 219) rfl ?_
              refine w_iload X0.here hx (hb hby at_219) rfl (pc' := 221) rfl ?_
              have hs : sg = (0 : Int32) := by rw [hsg, refF, if_neg (fun t => h2 t.2.1), if_neg (fun t => g2 t.2.1), if_neg q3, if_neg q4]
              refine w_icmpNo X0.here hx (hb hby at_221) (teq (show sg = (0 : Int32) from hs)).2 (pc' := 224) rfl ?_
              refine w_iconst X0.here hx (hb hby at_224) (z := 1) rfl (pc' := 225) rfl ?_
              refine w_goto X0.here hx (hb hby at_225) (pc' := 229) (by decide) (by decide) ?_
              exact endZW X0 hx D0 e0 hlk hret (by simp) (hb hby at_229) (show nar .boolean 1 = 1 from rfl) hc1 hc2 ⟨rfl, N0⟩
      · refine w_icmpYes X0.here hx (hb hby at_159) (tlt (show (Int32.ofNat na) < (2 : Int32) from n_lt (n := 2) (by omega) (by omega))).1 (pc' := 192) (by decide) (by decide) ?_
        refine w_iload X0.here hx (hb hby at_192) rfl (pc' := 194) rfl ?_
        refine w_iload X0.here hx (hb hby at_194) rfl (pc' := 196) rfl ?_
        by_cases q3 : na < nb
        · refine w_icmpNo X0.here hx (hb hby at_196) (tlt (show (Int32.ofNat na) < (Int32.ofNat nb) from n_lt q3 (by omega))).2.1 (pc' := 199) rfl ?_
          refine w_iconst X0.here hx (hb hby at_199) (z := (-1)) rfl (pc' := 200) rfl ?_
          refine w_goto X0.here hx (hb hby at_200) (pc' := 215) (by decide) (by decide) ?_
          refine w_istore X0.here hx (hb hby at_215) (l' := #[.val (.int p0), .val (.int p1), .val (.int p2), .val (.int p3), .val (.int p4), .val (.int a0'), .val (.int a1'), .val (.int b0'), .val (.int b1'), .val (.int (Int32.ofNat na)), .val (.int (Int32.ofNat nb)), .val (.ref a), .val (.ref b), .val (.int r), .val (.int sg), .val (.int (-1 : Int32))]) rfl (pc' := 217) rfl ?_
          refine w_iload X0.here hx (hb hby at_217) rfl (pc' := 219) rfl ?_
          refine w_iload X0.here hx (hb hby at_219) rfl (pc' := 221) rfl ?_
          have hs : sg = (-1 : Int32) := by rw [hsg, refF, if_neg (fun t => h2 t.2.1), if_neg (fun t => g1 t.1), if_pos q3]
          refine w_icmpNo X0.here hx (hb hby at_221) (teq (show sg = (-1 : Int32) from hs)).2 (pc' := 224) rfl ?_
          refine w_iconst X0.here hx (hb hby at_224) (z := 1) rfl (pc' := 225) rfl ?_
          refine w_goto X0.here hx (hb hby at_225) (pc' := 229) (by decide) (by decide) ?_
          exact endZW X0 hx D0 e0 hlk hret (by simp) (hb hby at_229) (show nar .boolean 1 = 1 from rfl) hc1 hc2 ⟨rfl, N0⟩
        · refine w_icmpYes X0.here hx (hb hby at_196) (flt (show ¬ ((Int32.ofNat na) < (Int32.ofNat nb)) from n_nlt (by omega) (by omega))).2.1 (pc' := 203) (by decide) (by decide) ?_
          refine w_iload X0.here hx (hb hby at_203) rfl (pc' := 205) rfl ?_
          refine w_iload X0.here hx (hb hby at_205) rfl (pc' := 207) rfl ?_
          by_cases q4 : nb < na
          · refine w_icmpNo X0.here hx (hb hby at_207) (tlt (show (Int32.ofNat nb) < (Int32.ofNat na) from n_lt q4 (by omega))).2.2.2 (pc' := 210) rfl ?_
            refine w_iconst X0.here hx (hb hby at_210) (z := 1) rfl (pc' := 211) rfl ?_
            refine w_goto X0.here hx (hb hby at_211) (pc' := 215) (by decide) (by decide) ?_
            refine w_istore X0.here hx (hb hby at_215) (l' := #[.val (.int p0), .val (.int p1), .val (.int p2), .val (.int p3), .val (.int p4), .val (.int a0'), .val (.int a1'), .val (.int b0'), .val (.int b1'), .val (.int (Int32.ofNat na)), .val (.int (Int32.ofNat nb)), .val (.ref a), .val (.ref b), .val (.int r), .val (.int sg), .val (.int (1 : Int32))]) rfl (pc' := 217) rfl ?_
            refine w_iload X0.here hx (hb hby at_217) rfl (pc' := 219) rfl ?_
            refine w_iload X0.here hx (hb hby at_219) rfl (pc' := 221) rfl ?_
            have hs : sg = (1 : Int32) := by rw [hsg, refF, if_neg (fun t => h2 t.2.1), if_neg (fun t => g1 t.1), if_neg q3, if_pos q4]
            refine w_icmpNo X0.here hx (hb hby at_221) (teq (show sg = (1 : Int32) from hs)).2 (pc' := 224) rfl ?_
            refine w_iconst X0.here hx (hb hby at_224) (z := 1) rfl (pc' := 225) rfl ?_
            refine w_goto X0.here hx (hb hby at_225) (pc' := 229) (by decide) (by decide) ?_
            exact endZW X0 hx D0 e0 hlk hret (by simp) (hb hby at_229) (show nar .boolean 1 = 1 from rfl) hc1 hc2 ⟨rfl, N0⟩
          · refine w_icmpYes X0.here hx (hb hby at_207) (flt (show ¬ ((Int32.ofNat nb) < (Int32.ofNat na)) from n_nlt (by omega) (by omega))).2.2.2 (pc' := 214) (by decide) (by decide) ?_
            refine w_iconst X0.here hx (hb hby at_214) (z := 0) rfl (pc' := 215) rfl ?_
            refine w_istore X0.here hx (hb hby at_215) (l' := #[.val (.int p0), .val (.int p1), .val (.int p2), .val (.int p3), .val (.int p4), .val (.int a0'), .val (.int a1'), .val (.int b0'), .val (.int b1'), .val (.int (Int32.ofNat na)), .val (.int (Int32.ofNat nb)), .val (.ref a), .val (.ref b), .val (.int r), .val (.int sg), .val (.int (0 : Int32))]) rfl (pc' := 217) rfl ?_
            refine w_iload X0.here hx (hb hby at_217) rfl (pc' := 219) rfl ?_
            refine w_iload X0.here hx (hb hby at_219) rfl (pc' := 221) rfl ?_
            have hs : sg = (0 : Int32) := by rw [hsg, refF, if_neg (fun t => h2 t.2.1), if_neg (fun t => g1 t.1), if_neg q3, if_neg q4]
            refine w_icmpNo X0.here hx (hb hby at_221) (teq (show sg = (0 : Int32) from hs)).2 (pc' := 224) rfl ?_
            refine w_iconst X0.here hx (hb hby at_224) (z := 1) rfl (pc' := 225) rfl ?_
            refine w_goto X0.here hx (hb hby at_225) (pc' := 229) (by decide) (by decide) ?_
            exact endZW X0 hx D0 e0 hlk hret (by simp) (hb hby at_229) (show nar .boolean 1 = 1 from rfl) hc1 hc2 ⟨rfl, N0⟩
  · refine w_icmpYes X0.here hx (hb hby at_123) (tlt (show (Int32.ofNat na) < (1 : Int32) from n_lt (n := 1) (by omega) (by omega))).1 (pc' := 156) (by decide) (by decide) ?_
    refine w_iload X0.here hx (hb hby at_156) rfl (pc' := 158) rfl ?_
    refine w_iconst X0.here hx (hb hby at_158) (z := 2) rfl (pc' := 159) rfl ?_
    by_cases g1 : 2 ≤ na
    · refine w_icmpNo X0.here hx (hb hby at_159) (flt (show ¬ ((Int32.ofNat na) < (2 : Int32)) from n_nlt (n := 2) g1 (by omega))).1 (pc' := 162) rfl ?_
      refine w_iload X0.here hx (hb hby at_162) rfl (pc' := 164) rfl ?_
      refine w_iconst X0.here hx (hb hby at_164) (z := 2) rfl (pc' := 165) rfl ?_
      by_cases g2 : 2 ≤ nb
      · refine w_icmpNo X0.here hx (hb hby at_165) (flt (show ¬ ((Int32.ofNat nb) < (2 : Int32)) from n_nlt (n := 2) g2 (by omega))).1 (pc' := 168) rfl ?_
        refine w_iload X0.here hx (hb hby at_168) rfl (pc' := 170) rfl ?_
        refine w_iload X0.here hx (hb hby at_170) rfl (pc' := 172) rfl ?_
        by_cases g3 : a1' = b1'
        · refine w_icmpYes X0.here hx (hb hby at_172) (teq (show a1' = b1' from g3)).1 (pc' := 192) (by decide) (by decide) ?_
          refine w_iload X0.here hx (hb hby at_192) rfl (pc' := 194) rfl ?_
          refine w_iload X0.here hx (hb hby at_194) rfl (pc' := 196) rfl ?_
          by_cases q3 : na < nb
          · refine w_icmpNo X0.here hx (hb hby at_196) (tlt (show (Int32.ofNat na) < (Int32.ofNat nb) from n_lt q3 (by omega))).2.1 (pc' := 199) rfl ?_
            refine w_iconst X0.here hx (hb hby at_199) (z := (-1)) rfl (pc' := 200) rfl ?_
            refine w_goto X0.here hx (hb hby at_200) (pc' := 215) (by decide) (by decide) ?_
            refine w_istore X0.here hx (hb hby at_215) (l' := #[.val (.int p0), .val (.int p1), .val (.int p2), .val (.int p3), .val (.int p4), .val (.int a0'), .val (.int a1'), .val (.int b0'), .val (.int b1'), .val (.int (Int32.ofNat na)), .val (.int (Int32.ofNat nb)), .val (.ref a), .val (.ref b), .val (.int r), .val (.int sg), .val (.int (-1 : Int32))]) rfl (pc' := 217) rfl ?_
            refine w_iload X0.here hx (hb hby at_217) rfl (pc' := 219) rfl ?_
            refine w_iload X0.here hx (hb hby at_219) rfl (pc' := 221) rfl ?_
            have hs : sg = (-1 : Int32) := by rw [hsg, refF, if_neg (fun t => h1 t.1), if_neg (fun t => t.2.2 g3), if_pos q3]
            refine w_icmpNo X0.here hx (hb hby at_221) (teq (show sg = (-1 : Int32) from hs)).2 (pc' := 224) rfl ?_
            refine w_iconst X0.here hx (hb hby at_224) (z := 1) rfl (pc' := 225) rfl ?_
            refine w_goto X0.here hx (hb hby at_225) (pc' := 229) (by decide) (by decide) ?_
            exact endZW X0 hx D0 e0 hlk hret (by simp) (hb hby at_229) (show nar .boolean 1 = 1 from rfl) hc1 hc2 ⟨rfl, N0⟩
          · refine w_icmpYes X0.here hx (hb hby at_196) (flt (show ¬ ((Int32.ofNat na) < (Int32.ofNat nb)) from n_nlt (by omega) (by omega))).2.1 (pc' := 203) (by decide) (by decide) ?_
            refine w_iload X0.here hx (hb hby at_203) rfl (pc' := 205) rfl ?_
            refine w_iload X0.here hx (hb hby at_205) rfl (pc' := 207) rfl ?_
            by_cases q4 : nb < na
            · refine w_icmpNo X0.here hx (hb hby at_207) (tlt (show (Int32.ofNat nb) < (Int32.ofNat na) from n_lt q4 (by omega))).2.2.2 (pc' := 210) rfl ?_
              refine w_iconst X0.here hx (hb hby at_210) (z := 1) rfl (pc' := 211) rfl ?_
              refine w_goto X0.here hx (hb hby at_211) (pc' := 215) (by decide) (by decide) ?_
              refine w_istore X0.here hx (hb hby at_215) (l' := #[.val (.int p0), .val (.int p1), .val (.int p2), .val (.int p3), .val (.int p4), .val (.int a0'), .val (.int a1'), .val (.int b0'), .val (.int b1'), .val (.int (Int32.ofNat na)), .val (.int (Int32.ofNat nb)), .val (.ref a), .val (.ref b), .val (.int r), .val (.int sg), .val (.int (1 : Int32))]) rfl (pc' := 217) rfl ?_
              refine w_iload X0.here hx (hb hby at_217) rfl (pc' := 219) rfl ?_
              refine w_iload X0.here hx (hb hby at_219) rfl (pc' := 221) rfl ?_
              have hs : sg = (1 : Int32) := by rw [hsg, refF, if_neg (fun t => h1 t.1), if_neg (fun t => t.2.2 g3), if_neg q3, if_pos q4]
              refine w_icmpNo X0.here hx (hb hby at_221) (teq (show sg = (1 : Int32) from hs)).2 (pc' := 224) rfl ?_
              refine w_iconst X0.here hx (hb hby at_224) (z := 1) rfl (pc' := 225) rfl ?_
              refine w_goto X0.here hx (hb hby at_225) (pc' := 229) (by decide) (by decide) ?_
              exact endZW X0 hx D0 e0 hlk hret (by simp) (hb hby at_229) (show nar .boolean 1 = 1 from rfl) hc1 hc2 ⟨rfl, N0⟩
            · refine w_icmpYes X0.here hx (hb hby at_207) (flt (show ¬ ((Int32.ofNat nb) < (Int32.ofNat na)) from n_nlt (by omega) (by omega))).2.2.2 (pc' := 214) (by decide) (by decide) ?_
              refine w_iconst X0.here hx (hb hby at_214) (z := 0) rfl (pc' := 215) rfl ?_
              refine w_istore X0.here hx (hb hby at_215) (l' := #[.val (.int p0), .val (.int p1), .val (.int p2), .val (.int p3), .val (.int p4), .val (.int a0'), .val (.int a1'), .val (.int b0'), .val (.int b1'), .val (.int (Int32.ofNat na)), .val (.int (Int32.ofNat nb)), .val (.ref a), .val (.ref b), .val (.int r), .val (.int sg), .val (.int (0 : Int32))]) rfl (pc' := 217) rfl ?_
              refine w_iload X0.here hx (hb hby at_217) rfl (pc' := 219) rfl ?_
              refine w_iload X0.here hx (hb hby at_219) rfl (pc' := 221) rfl ?_
              have hs : sg = (0 : Int32) := by rw [hsg, refF, if_neg (fun t => h1 t.1), if_neg (fun t => t.2.2 g3), if_neg q3, if_neg q4]
              refine w_icmpNo X0.here hx (hb hby at_221) (teq (show sg = (0 : Int32) from hs)).2 (pc' := 224) rfl ?_
              refine w_iconst X0.here hx (hb hby at_224) (z := 1) rfl (pc' := 225) rfl ?_
              refine w_goto X0.here hx (hb hby at_225) (pc' := 229) (by decide) (by decide) ?_
              exact endZW X0 hx D0 e0 hlk hret (by simp) (hb hby at_229) (show nar .boolean 1 = 1 from rfl) hc1 hc2 ⟨rfl, N0⟩
        · refine w_icmpNo X0.here hx (hb hby at_172) (feq (show ¬ (a1' = b1') from g3)).1 (pc' := 175) rfl ?_
          refine w_iload X0.here hx (hb hby at_175) rfl (pc' := 177) rfl ?_
          refine w_iload X0.here hx (hb hby at_177) rfl (pc' := 179) rfl ?_
          by_cases ql : a1' < b1'
          · refine w_icmpNo X0.here hx (hb hby at_179) (tlt (show a1' < b1' from ql)).2.1 (pc' := 182) rfl ?_
            refine w_iconst X0.here hx (hb hby at_182) (z := (-1)) rfl (pc' := 183) rfl ?_
            refine w_goto X0.here hx (hb hby at_183) (pc' := 187) (by decide) (by decide) ?_
            refine w_istore X0.here hx (hb hby at_187) (l' := #[.val (.int p0), .val (.int p1), .val (.int p2), .val (.int p3), .val (.int p4), .val (.int a0'), .val (.int a1'), .val (.int b0'), .val (.int b1'), .val (.int (Int32.ofNat na)), .val (.int (Int32.ofNat nb)), .val (.ref a), .val (.ref b), .val (.int r), .val (.int sg), .val (.int (-1 : Int32))]) rfl (pc' := 189) rfl ?_
            refine w_goto X0.here hx (hb hby at_189) (pc' := 217) (by decide) (by decide) ?_
            refine w_iload X0.here hx (hb hby at_217) rfl (pc' := 219) rfl ?_
            refine w_iload X0.here hx (hb hby at_219) rfl (pc' := 221) rfl ?_
            have hs : sg = (-1 : Int32) := by rw [hsg, refF, if_neg (fun t => h1 t.1), if_pos ⟨g1, g2, g3⟩, if_pos ql]
            refine w_icmpNo X0.here hx (hb hby at_221) (teq (show sg = (-1 : Int32) from hs)).2 (pc' := 224) rfl ?_
            refine w_iconst X0.here hx (hb hby at_224) (z := 1) rfl (pc' := 225) rfl ?_
            refine w_goto X0.here hx (hb hby at_225) (pc' := 229) (by decide) (by decide) ?_
            exact endZW X0 hx D0 e0 hlk hret (by simp) (hb hby at_229) (show nar .boolean 1 = 1 from rfl) hc1 hc2 ⟨rfl, N0⟩
          · refine w_icmpYes X0.here hx (hb hby at_179) (flt (show ¬ (a1' < b1') from ql)).2.1 (pc' := 186) (by decide) (by decide) ?_
            refine w_iconst X0.here hx (hb hby at_186) (z := 1) rfl (pc' := 187) rfl ?_
            refine w_istore X0.here hx (hb hby at_187) (l' := #[.val (.int p0), .val (.int p1), .val (.int p2), .val (.int p3), .val (.int p4), .val (.int a0'), .val (.int a1'), .val (.int b0'), .val (.int b1'), .val (.int (Int32.ofNat na)), .val (.int (Int32.ofNat nb)), .val (.ref a), .val (.ref b), .val (.int r), .val (.int sg), .val (.int (1 : Int32))]) rfl (pc' := 189) rfl ?_
            refine w_goto X0.here hx (hb hby at_189) (pc' := 217) (by decide) (by decide) ?_
            refine w_iload X0.here hx (hb hby at_217) rfl (pc' := 219) rfl ?_
            refine w_iload X0.here hx (hb hby at_219) rfl (pc' := 221) rfl ?_
            have hs : sg = (1 : Int32) := by rw [hsg, refF, if_neg (fun t => h1 t.1), if_pos ⟨g1, g2, g3⟩, if_neg ql]
            refine w_icmpNo X0.here hx (hb hby at_221) (teq (show sg = (1 : Int32) from hs)).2 (pc' := 224) rfl ?_
            refine w_iconst X0.here hx (hb hby at_224) (z := 1) rfl (pc' := 225) rfl ?_
            refine w_goto X0.here hx (hb hby at_225) (pc' := 229) (by decide) (by decide) ?_
            exact endZW X0 hx D0 e0 hlk hret (by simp) (hb hby at_229) (show nar .boolean 1 = 1 from rfl) hc1 hc2 ⟨rfl, N0⟩
      · refine w_icmpYes X0.here hx (hb hby at_165) (tlt (show (Int32.ofNat nb) < (2 : Int32) from n_lt (n := 2) (by omega) (by omega))).1 (pc' := 192) (by decide) (by decide) ?_
        refine w_iload X0.here hx (hb hby at_192) rfl (pc' := 194) rfl ?_
        refine w_iload X0.here hx (hb hby at_194) rfl (pc' := 196) rfl ?_
        by_cases q3 : na < nb
        · refine w_icmpNo X0.here hx (hb hby at_196) (tlt (show (Int32.ofNat na) < (Int32.ofNat nb) from n_lt q3 (by omega))).2.1 (pc' := 199) rfl ?_
          refine w_iconst X0.here hx (hb hby at_199) (z := (-1)) rfl (pc' := 200) rfl ?_
          refine w_goto X0.here hx (hb hby at_200) (pc' := 215) (by decide) (by decide) ?_
          refine w_istore X0.here hx (hb hby at_215) (l' := #[.val (.int p0), .val (.int p1), .val (.int p2), .val (.int p3), .val (.int p4), .val (.int a0'), .val (.int a1'), .val (.int b0'), .val (.int b1'), .val (.int (Int32.ofNat na)), .val (.int (Int32.ofNat nb)), .val (.ref a), .val (.ref b), .val (.int r), .val (.int sg), .val (.int (-1 : Int32))]) rfl (pc' := 217) rfl ?_
          refine w_iload X0.here hx (hb hby at_217) rfl (pc' := 219) rfl ?_
          refine w_iload X0.here hx (hb hby at_219) rfl (pc' := 221) rfl ?_
          have hs : sg = (-1 : Int32) := by rw [hsg, refF, if_neg (fun t => h1 t.1), if_neg (fun t => g2 t.2.1), if_pos q3]
          refine w_icmpNo X0.here hx (hb hby at_221) (teq (show sg = (-1 : Int32) from hs)).2 (pc' := 224) rfl ?_
          refine w_iconst X0.here hx (hb hby at_224) (z := 1) rfl (pc' := 225) rfl ?_
          refine w_goto X0.here hx (hb hby at_225) (pc' := 229) (by decide) (by decide) ?_
          exact endZW X0 hx D0 e0 hlk hret (by simp) (hb hby at_229) (show nar .boolean 1 = 1 from rfl) hc1 hc2 ⟨rfl, N0⟩
        · refine w_icmpYes X0.here hx (hb hby at_196) (flt (show ¬ ((Int32.ofNat na) < (Int32.ofNat nb)) from n_nlt (by omega) (by omega))).2.1 (pc' := 203) (by decide) (by decide) ?_
          refine w_iload X0.here hx (hb hby at_203) rfl (pc' := 205) rfl ?_
          refine w_iload X0.here hx (hb hby at_205) rfl (pc' := 207) rfl ?_
          by_cases q4 : nb < na
          · refine w_icmpNo X0.here hx (hb hby at_207) (tlt (show (Int32.ofNat nb) < (Int32.ofNat na) from n_lt q4 (by omega))).2.2.2 (pc' := 210) rfl ?_
            refine w_iconst X0.here hx (hb hby at_210) (z := 1) rfl (pc' := 211) rfl ?_
            refine w_goto X0.here hx (hb hby at_211) (pc' := 215) (by decide) (by decide) ?_
            refine w_istore X0.here hx (hb hby at_215) (l' := #[.val (.int p0), .val (.int p1), .val (.int p2), .val (.int p3), .val (.int p4), .val (.int a0'), .val (.int a1'), .val (.int b0'), .val (.int b1'), .val (.int (Int32.ofNat na)), .val (.int (Int32.ofNat nb)), .val (.ref a), .val (.ref b), .val (.int r), .val (.int sg), .val (.int (1 : Int32))]) rfl (pc' := 217) rfl ?_
            refine w_iload X0.here hx (hb hby at_217) rfl (pc' := 219) rfl ?_
            refine w_iload X0.here hx (hb hby at_219) rfl (pc' := 221) rfl ?_
            have hs : sg = (1 : Int32) := by rw [hsg, refF, if_neg (fun t => h1 t.1), if_neg (fun t => g2 t.2.1), if_neg q3, if_pos q4]
            refine w_icmpNo X0.here hx (hb hby at_221) (teq (show sg = (1 : Int32) from hs)).2 (pc' := 224) rfl ?_
            refine w_iconst X0.here hx (hb hby at_224) (z := 1) rfl (pc' := 225) rfl ?_
            refine w_goto X0.here hx (hb hby at_225) (pc' := 229) (by decide) (by decide) ?_
            exact endZW X0 hx D0 e0 hlk hret (by simp) (hb hby at_229) (show nar .boolean 1 = 1 from rfl) hc1 hc2 ⟨rfl, N0⟩
          · refine w_icmpYes X0.here hx (hb hby at_207) (flt (show ¬ ((Int32.ofNat nb) < (Int32.ofNat na)) from n_nlt (by omega) (by omega))).2.2.2 (pc' := 214) (by decide) (by decide) ?_
            refine w_iconst X0.here hx (hb hby at_214) (z := 0) rfl (pc' := 215) rfl ?_
            refine w_istore X0.here hx (hb hby at_215) (l' := #[.val (.int p0), .val (.int p1), .val (.int p2), .val (.int p3), .val (.int p4), .val (.int a0'), .val (.int a1'), .val (.int b0'), .val (.int b1'), .val (.int (Int32.ofNat na)), .val (.int (Int32.ofNat nb)), .val (.ref a), .val (.ref b), .val (.int r), .val (.int sg), .val (.int (0 : Int32))]) rfl (pc' := 217) rfl ?_
            refine w_iload X0.here hx (hb hby at_217) rfl (pc' := 219) rfl ?_
            refine w_iload X0.here hx (hb hby at_219) rfl (pc' := 221) rfl ?_
            have hs : sg = (0 : Int32) := by rw [hsg, refF, if_neg (fun t => h1 t.1), if_neg (fun t => g2 t.2.1), if_neg q3, if_neg q4]
            refine w_icmpNo X0.here hx (hb hby at_221) (teq (show sg = (0 : Int32) from hs)).2 (pc' := 224) rfl ?_
            refine w_iconst X0.here hx (hb hby at_224) (z := 1) rfl (pc' := 225) rfl ?_
            refine w_goto X0.here hx (hb hby at_225) (pc' := 229) (by decide) (by decide) ?_
            exact endZW X0 hx D0 e0 hlk hret (by simp) (hb hby at_229) (show nar .boolean 1 = 1 from rfl) hc1 hc2 ⟨rfl, N0⟩
    · refine w_icmpYes X0.here hx (hb hby at_159) (tlt (show (Int32.ofNat na) < (2 : Int32) from n_lt (n := 2) (by omega) (by omega))).1 (pc' := 192) (by decide) (by decide) ?_
      refine w_iload X0.here hx (hb hby at_192) rfl (pc' := 194) rfl ?_
      refine w_iload X0.here hx (hb hby at_194) rfl (pc' := 196) rfl ?_
      by_cases q3 : na < nb
      · refine w_icmpNo X0.here hx (hb hby at_196) (tlt (show (Int32.ofNat na) < (Int32.ofNat nb) from n_lt q3 (by omega))).2.1 (pc' := 199) rfl ?_
        refine w_iconst X0.here hx (hb hby at_199) (z := (-1)) rfl (pc' := 200) rfl ?_
        refine w_goto X0.here hx (hb hby at_200) (pc' := 215) (by decide) (by decide) ?_
        refine w_istore X0.here hx (hb hby at_215) (l' := #[.val (.int p0), .val (.int p1), .val (.int p2), .val (.int p3), .val (.int p4), .val (.int a0'), .val (.int a1'), .val (.int b0'), .val (.int b1'), .val (.int (Int32.ofNat na)), .val (.int (Int32.ofNat nb)), .val (.ref a), .val (.ref b), .val (.int r), .val (.int sg), .val (.int (-1 : Int32))]) rfl (pc' := 217) rfl ?_
        refine w_iload X0.here hx (hb hby at_217) rfl (pc' := 219) rfl ?_
        refine w_iload X0.here hx (hb hby at_219) rfl (pc' := 221) rfl ?_
        have hs : sg = (-1 : Int32) := by rw [hsg, refF, if_neg (fun t => h1 t.1), if_neg (fun t => g1 t.1), if_pos q3]
        refine w_icmpNo X0.here hx (hb hby at_221) (teq (show sg = (-1 : Int32) from hs)).2 (pc' := 224) rfl ?_
        refine w_iconst X0.here hx (hb hby at_224) (z := 1) rfl (pc' := 225) rfl ?_
        refine w_goto X0.here hx (hb hby at_225) (pc' := 229) (by decide) (by decide) ?_
        exact endZW X0 hx D0 e0 hlk hret (by simp) (hb hby at_229) (show nar .boolean 1 = 1 from rfl) hc1 hc2 ⟨rfl, N0⟩
      · refine w_icmpYes X0.here hx (hb hby at_196) (flt (show ¬ ((Int32.ofNat na) < (Int32.ofNat nb)) from n_nlt (by omega) (by omega))).2.1 (pc' := 203) (by decide) (by decide) ?_
        refine w_iload X0.here hx (hb hby at_203) rfl (pc' := 205) rfl ?_
        refine w_iload X0.here hx (hb hby at_205) rfl (pc' := 207) rfl ?_
        by_cases q4 : nb < na
        · refine w_icmpNo X0.here hx (hb hby at_207) (tlt (show (Int32.ofNat nb) < (Int32.ofNat na) from n_lt q4 (by omega))).2.2.2 (pc' := 210) rfl ?_
          refine w_iconst X0.here hx (hb hby at_210) (z := 1) rfl (pc' := 211) rfl ?_
          refine w_goto X0.here hx (hb hby at_211) (pc' := 215) (by decide) (by decide) ?_
          refine w_istore X0.here hx (hb hby at_215) (l' := #[.val (.int p0), .val (.int p1), .val (.int p2), .val (.int p3), .val (.int p4), .val (.int a0'), .val (.int a1'), .val (.int b0'), .val (.int b1'), .val (.int (Int32.ofNat na)), .val (.int (Int32.ofNat nb)), .val (.ref a), .val (.ref b), .val (.int r), .val (.int sg), .val (.int (1 : Int32))]) rfl (pc' := 217) rfl ?_
          refine w_iload X0.here hx (hb hby at_217) rfl (pc' := 219) rfl ?_
          refine w_iload X0.here hx (hb hby at_219) rfl (pc' := 221) rfl ?_
          have hs : sg = (1 : Int32) := by rw [hsg, refF, if_neg (fun t => h1 t.1), if_neg (fun t => g1 t.1), if_neg q3, if_pos q4]
          refine w_icmpNo X0.here hx (hb hby at_221) (teq (show sg = (1 : Int32) from hs)).2 (pc' := 224) rfl ?_
          refine w_iconst X0.here hx (hb hby at_224) (z := 1) rfl (pc' := 225) rfl ?_
          refine w_goto X0.here hx (hb hby at_225) (pc' := 229) (by decide) (by decide) ?_
          exact endZW X0 hx D0 e0 hlk hret (by simp) (hb hby at_229) (show nar .boolean 1 = 1 from rfl) hc1 hc2 ⟨rfl, N0⟩
        · refine w_icmpYes X0.here hx (hb hby at_207) (flt (show ¬ ((Int32.ofNat nb) < (Int32.ofNat na)) from n_nlt (by omega) (by omega))).2.2.2 (pc' := 214) (by decide) (by decide) ?_
          refine w_iconst X0.here hx (hb hby at_214) (z := 0) rfl (pc' := 215) rfl ?_
          refine w_istore X0.here hx (hb hby at_215) (l' := #[.val (.int p0), .val (.int p1), .val (.int p2), .val (.int p3), .val (.int p4), .val (.int a0'), .val (.int a1'), .val (.int b0'), .val (.int b1'), .val (.int (Int32.ofNat na)), .val (.int (Int32.ofNat nb)), .val (.ref a), .val (.ref b), .val (.int r), .val (.int sg), .val (.int (0 : Int32))]) rfl (pc' := 217) rfl ?_
          refine w_iload X0.here hx (hb hby at_217) rfl (pc' := 219) rfl ?_
          refine w_iload X0.here hx (hb hby at_219) rfl (pc' := 221) rfl ?_
          have hs : sg = (0 : Int32) := by rw [hsg, refF, if_neg (fun t => h1 t.1), if_neg (fun t => g1 t.1), if_neg q3, if_neg q4]
          refine w_icmpNo X0.here hx (hb hby at_221) (teq (show sg = (0 : Int32) from hs)).2 (pc' := 224) rfl ?_
          refine w_iconst X0.here hx (hb hby at_224) (z := 1) rfl (pc' := 225) rfl ?_
          refine w_goto X0.here hx (hb hby at_225) (pc' := 229) (by decide) (by decide) ?_
          exact endZW X0 hx D0 e0 hlk hret (by simp) (hb hby at_229) (show nar .boolean 1 = 1 from rfl) hc1 hc2 ⟨rfl, N0⟩
theorem pd_20 : parseMethodDescriptor "(III)Ljava/lang/String;" = some ⟨[.int, .int, .int], some (.object "java/lang/String")⟩ := by decide +kernel
theorem pd_21 : parseMethodDescriptor "(Ljava/lang/String;Ljava/lang/String;)I" = some ⟨[(.object "java/lang/String"), (.object "java/lang/String")], some .int⟩ := by decide +kernel
set_option maxRecDepth 65536 in
set_option maxHeartbeats 40000000 in
theorem tailA {p : Program} {l : Launch} {e : Env} {R : Room} {s : State} {m : MethodId} {args : Array Value} {below : List Frame} {meth : Method} {c : Code} {cells slots : Nat} {P : State → Prop} (Z : State) (a0 : Array Value) (hw : ∀ d ∈ tables_1, d.before a0 Z = true) (hx : p.tables.exec = Jvm.exec) (hby : c.code = code) (hml : c.maxLocals = 16) {vm0 : Vm} {T : State} {locs : List Loc} (hEL : EW Z a0 [("java/lang/String", 7)]) (hret : meth.sig.returnType = some .boolean) (hlk : meth.locks = false) (p0 p1 p2 p3 p4 a0' a1' b0' b1' z : Int32) (n0 : Nat) (h0 : Heap) (Z0 : n0 ≤ h0.size) (ha0 : okC a0') (ha1 : okC a1') (hb0 : okC b0') (hb1 : okC b1') (X0 : Stand p l e room_1 (s.setVm vm0) m args below meth c T locs 0 0) (e0 : T.heap = h0) (N0 : Fr n0 locs) (D0 : Wd Z a0 [("java/lang/String", 7)] s "com/example/strict_censor/strictcensor/core/TermCompareCodePointsPinLaw" m.cls vm0 h0) (Su : SU Z h0 z) (fm : Value) (hfm : fm.isRef = true) (Fm : Sta Z h0 "jdk/internal/util/Preconditions" "SIOOBE_FORMATTER" "Ljava/util/function/BiFunction;" fm) :
    Go p.tables e below (EndW Z [("java/lang/String", 7)] s below (fun v h L => v = some (.int 1) ∧ Fr n0 L) room_1.cells room_1.slots) T (mkF m 48 #[.val (.int p0), .val (.int p1), .val (.int p2), .val (.int p3), .val (.int p4), .val (.int a0'), .val (.int a1'), .val (.int b0'), .val (.int b1'), .unset, .unset, .unset, .unset, .unset, .unset, .unset] []) := by
  refine w_iload X0.here hx (hb hby at_48) rfl (pc' := 50) rfl ?_
  refine w_iconst X0.here hx (hb hby at_50) (z := 2) rfl (pc' := 51) rfl ?_
  refine w_iushr X0.here hx (hb hby at_51) (pc' := 52) rfl ?_
  refine w_iconst X0.here hx (hb hby at_52) (z := 3) rfl (pc' := 53) rfl ?_
  refine w_iand X0.here hx (hb hby at_53) (pc' := 54) rfl ?_
  refine w_iconst X0.here hx (hb hby at_54) (z := 3) rfl (pc' := 55) rfl ?_
  refine w_irem X0.here hx (hb hby at_55) (by decide) (pc' := 56) rfl ?_
  obtain ⟨na, hna, ena⟩ := own_rem3 (p4.toUInt32 >>> ((2 : Int32) &&& 31).toUInt32).toInt32
  rw [ena]
  show Go _ _ _ _ T (mkF m 56 #[.val (.int p0), .val (.int p1), .val (.int p2), .val (.int p3), .val (.int p4), .val (.int a0'), .val (.int a1'), .val (.int b0'), .val (.int b1'), .unset, .unset, .unset, .unset, .unset, .unset, .unset] [(.int (Int32.ofNat na))])
  refine w_istore X0.here hx (hb hby at_56) (l' := #[.val (.int p0), .val (.int p1), .val (.int p2), .val (.int p3), .val (.int p4), .val (.int a0'), .val (.int a1'), .val (.int b0'), .val (.int b1'), .val (.int (Int32.ofNat na)), .unset, .unset, .unset, .unset, .unset, .unset]) rfl (pc' := 58) rfl ?_
  refine w_iload X0.here hx (hb hby at_58) rfl (pc' := 60) rfl ?_
  refine w_iconst X0.here hx (hb hby at_60) (z := 4) rfl (pc' := 61) rfl ?_
  refine w_iushr X0.here hx (hb hby at_61) (pc' := 62) rfl ?_
  refine w_iconst X0.here hx (hb hby at_62) (z := 3) rfl (pc' := 63) rfl ?_
  refine w_iand X0.here hx (hb hby at_63) (pc' := 64) rfl ?_
  refine w_iconst X0.here hx (hb hby at_64) (z := 3) rfl (pc' := 65) rfl ?_
  refine w_irem X0.here hx (hb hby at_65) (by decide) (pc' := 66) rfl ?_
  obtain ⟨nb, hnb, enb⟩ := own_rem3 (p4.toUInt32 >>> ((4 : Int32) &&& 31).toUInt32).toInt32
  rw [enb]
  show Go _ _ _ _ T (mkF m 66 #[.val (.int p0), .val (.int p1), .val (.int p2), .val (.int p3), .val (.int p4), .val (.int a0'), .val (.int a1'), .val (.int b0'), .val (.int b1'), .val (.int (Int32.ofNat na)), .unset, .unset, .unset, .unset, .unset, .unset] [(.int (Int32.ofNat nb))])
  refine w_istore X0.here hx (hb hby at_66) (l' := #[.val (.int p0), .val (.int p1), .val (.int p2), .val (.int p3), .val (.int p4), .val (.int a0'), .val (.int a1'), .val (.int b0'), .val (.int b1'), .val (.int (Int32.ofNat na)), .val (.int (Int32.ofNat nb)), .unset, .unset, .unset, .unset, .unset]) rfl (pc' := 68) rfl ?_
  refine w_iload X0.here hx (hb hby at_68) rfl (pc' := 70) rfl ?_
  refine w_iload X0.here hx (hb hby at_70) rfl (pc' := 72) rfl ?_
  refine w_iload X0.here hx (hb hby at_72) rfl (pc' := 74) rfl ?_
  refine w_staticW X0 hx D0 (y := (⟨"com/example/strict_censor/strictcensor/core/TermCompareCodePointsPinLaw", "enc", "(III)Ljava/lang/String;"⟩ : MethodName)) (hw _ (List.mem_of_getElem? (i := 9) rfl)) (hw _ (List.mem_of_getElem? (i := 10) rfl)) (hw _ (List.mem_of_getElem? (i := 2) rfl)) (hw _ (List.mem_of_getElem? (i := 11) rfl)) (by decide) (backCW (W := 0) (rmEnc l Z a0 hw hEL a0' a1' z na h0 n0 Z0 hna ha0 ha1 Su) D0 (hw _ (List.mem_of_getElem? (i := 11) rfl)) (hw _ (List.mem_of_getElem? (i := 2) rfl)) (by decide) (by decide)) e0 (by rw [hml]; rfl) (argsL := [(.int a0'), (.int a1'), (.int (Int32.ofNat na))]) (st := []) pd_20 rfl rfl rfl (Nat.le_of_ble_eq_true rfl) (hb hby at_74) (by decide) (by decide) (pc' := 77) rfl ?_
  intro T143 v143 L143 X143 D143 CH143 Q143
  obtain ⟨a, rfl, N1, E1, GA⟩ := Q143
  show Go _ _ _ _ T143 (mkF m 77 #[.val (.int p0), .val (.int p1), .val (.int p2), .val (.int p3), .val (.int p4), .val (.int a0'), .val (.int a1'), .val (.int b0'), .val (.int b1'), .val (.int (Int32.ofNat na)), .val (.int (Int32.ofNat nb)), .unset, .unset, .unset, .unset, .unset] [(.ref a)])
  refine w_astore X143.here hx (hb hby at_77) rfl (l' := #[.val (.int p0), .val (.int p1), .val (.int p2), .val (.int p3), .val (.int p4), .val (.int a0'), .val (.int a1'), .val (.int b0'), .val (.int b1'), .val (.int (Int32.ofNat na)), .val (.int (Int32.ofNat nb)), .val (.ref a), .unset, .unset, .unset, .unset]) rfl (pc' := 79) rfl ?_
  refine w_iload X143.here hx (hb hby at_79) rfl (pc' := 81) rfl ?_
  refine w_iload X143.here hx (hb hby at_81) rfl (pc' := 83) rfl ?_
  refine w_iload X143.here hx (hb hby at_83) rfl (pc' := 85) rfl ?_
  refine w_staticW X143 hx D143 (y := (⟨"com/example/strict_censor/strictcensor/core/TermCompareCodePointsPinLaw", "enc", "(III)Ljava/lang/String;"⟩ : MethodName)) (hw _ (List.mem_of_getElem? (i := 9) rfl)) (hw _ (List.mem_of_getElem? (i := 10) rfl)) (hw _ (List.mem_of_getElem? (i := 2) rfl)) (hw _ (List.mem_of_getElem? (i := 11) rfl)) (by decide) (backCW (W := 0) (rmEnc l Z a0 hw hEL b0' b1' z nb T143.heap n0 (Nat.le_trans Z0 E1.1) hnb hb0 hb1 (Su.ext E1)) D143 (hw _ (List.mem_of_getElem? (i := 11) rfl)) (hw _ (List.mem_of_getElem? (i := 2) rfl)) (by decide) (by decide)) rfl (by rw [hml]; rfl) (argsL := [(.int b0'), (.int b1'), (.int (Int32.ofNat nb))]) (st := []) pd_20 rfl rfl rfl (Nat.le_of_ble_eq_true rfl) (hb hby at_85) (by decide) (by decide) (pc' := 88) rfl ?_
  intro T144 v144 L144 X144 D144 CH144 Q144
  obtain ⟨b, rfl, N2, E2, GB⟩ := Q144
  show Go _ _ _ _ T144 (mkF m 88 #[.val (.int p0), .val (.int p1), .val (.int p2), .val (.int p3), .val (.int p4), .val (.int a0'), .val (.int a1'), .val (.int b0'), .val (.int b1'), .val (.int (Int32.ofNat na)), .val (.int (Int32.ofNat nb)), .val (.ref a), .unset, .unset, .unset, .unset] [(.ref b)])
  have E3 := Ext.trs E1 E2
  refine w_astore X144.here hx (hb hby at_88) rfl (l' := #[.val (.int p0), .val (.int p1), .val (.int p2), .val (.int p3), .val (.int p4), .val (.int a0'), .val (.int a1'), .val (.int b0'), .val (.int b1'), .val (.int (Int32.ofNat na)), .val (.int (Int32.ofNat nb)), .val (.ref a), .val (.ref b), .unset, .unset, .unset]) rfl (pc' := 90) rfl ?_
  refine w_aload X144.here hx (hb hby at_90) rfl rfl (pc' := 92) rfl ?_
  refine w_aload X144.here hx (hb hby at_92) rfl rfl (pc' := 94) rfl ?_
  refine w_static X144 hx D144.zw (y := (⟨"com/example/strict_censor/strictcensor/core/Term", "compareCodePoints", "(Ljava/lang/String;Ljava/lang/String;)I"⟩ : MethodName)) D144.ow (hw _ (List.mem_of_getElem? (i := 34) rfl)) (hw _ (List.mem_of_getElem? (i := 35) rfl)) (hw _ (List.mem_of_getElem? (i := 36) rfl)) (hw _ (List.mem_of_getElem? (i := 37) rfl)) (by decide) (backC (W := 0) (rmCmp l Z a0 hw a b _ _ z T144.heap n0 (Su.ext E3) (GA.ext E2) GB fm hfm (Fm.ext E3)) D144.zw (hw _ (List.mem_of_getElem? (i := 37) rfl)) (hw _ (List.mem_of_getElem? (i := 36) rfl)) (by decide) (by decide)) rfl (by rw [hml]; rfl) (argsL := [(.ref a), (.ref b)]) (st := []) pd_21 rfl rfl rfl (Nat.le_of_ble_eq_true rfl) (hb hby at_94) (by decide) (by decide) (pc' := 97) rfl ?_
  intro T145 v145 L145 X145 Q145
  obtain ⟨rfl, N3, hh3⟩ := Q145
  show Go _ _ _ _ T145 (mkF m 97 #[.val (.int p0), .val (.int p1), .val (.int p2), .val (.int p3), .val (.int p4), .val (.int a0'), .val (.int a1'), .val (.int b0'), .val (.int b1'), .val (.int (Int32.ofNat na)), .val (.int (Int32.ofNat nb)), .val (.ref a), .val (.ref b), .unset, .unset, .unset] [(.int (cmpD (Int32.ofNat (encL a0' a1' na).length - Int32.ofNat (encL b0' b1' nb).length) (encL a0' a1' na) (encL b0' b1' nb)))])
  have hp := law_pure ha0 ha1 hb0 hb1 hna hnb
  obtain ⟨r, hr⟩ : ∃ r : Int32, r = cmpD (Int32.ofNat (encL a0' a1' na).length - Int32.ofNat (encL b0' b1' nb).length) (encL a0' a1' na) (encL b0' b1' nb) := ⟨_, rfl⟩
  rw [← hr] at hp
  rw [← hr]
  show Go _ _ _ _ T145 (mkF m 97 #[.val (.int p0), .val (.int p1), .val (.int p2), .val (.int p3), .val (.int p4), .val (.int a0'), .val (.int a1'), .val (.int b0'), .val (.int b1'), .val (.int (Int32.ofNat na)), .val (.int (Int32.ofNat nb)), .val (.ref a), .val (.ref b), .unset, .unset, .unset] [(.int r)])
  have N4 := Fr.app (Fr.app (Fr.app N0 N1) N2) N3
  refine w_istore X145.here hx (hb hby at_97) (l' := #[.val (.int p0), .val (.int p1), .val (.int p2), .val (.int p3), .val (.int p4), .val (.int a0'), .val (.int a1'), .val (.int b0'), .val (.int b1'), .val (.int (Int32.ofNat na)), .val (.int (Int32.ofNat nb)), .val (.ref a), .val (.ref b), .val (.int r), .unset, .unset]) rfl (pc' := 99) rfl ?_
  refine w_iload X145.here hx (hb hby at_99) rfl (pc' := 101) rfl ?_
  by_cases q1 : r < (0 : Int32)
  · refine w_ifNo X145.here hx (hb hby at_101) (tlt (show r < (0 : Int32) from q1)).2.1 (pc' := 104) rfl ?_
    refine w_iconst X145.here hx (hb hby at_104) (z := (-1)) rfl (pc' := 105) rfl ?_
    refine w_goto X145.here hx (hb hby at_105) (pc' := 118) (by decide) (by decide) ?_
    refine w_istore X145.here hx (hb hby at_118) (l' := #[.val (.int p0), .val (.int p1), .val (.int p2), .val (.int p3), .val (.int p4), .val (.int a0'), .val (.int a1'), .val (.int b0'), .val (.int b1'), .val (.int (Int32.ofNat na)), .val (.int (Int32.ofNat nb)), .val (.ref a), .val (.ref b), .val (.int r), .val (.int (-1 : Int32)), .unset]) rfl (pc' := 120) rfl ?_
    exact tailC (P := fun _ => True) (R := room_1) Z a0 hw hx hby hml hret hlk p0 p1 p2 p3 p4 a0' a1' b0' b1' r (-1) a b na nb n0 _ hna hnb (by rw [← hp, sgn, if_pos q1]) (by decide) (by decide) X145 hh3 N4 D144
  · refine w_ifYes X145.here hx (hb hby at_101) (flt (show ¬ (r < (0 : Int32)) from q1)).2.1 (pc' := 108) (by decide) (by decide) ?_
    refine w_iload X145.here hx (hb hby at_108) rfl (pc' := 110) rfl ?_
    by_cases q2 : (0 : Int32) < r
    · refine w_ifNo X145.here hx (hb hby at_110) (tlt (show (0 : Int32) < r from q2)).2.2.2 (pc' := 113) rfl ?_
      refine w_iconst X145.here hx (hb hby at_113) (z := 1) rfl (pc' := 114) rfl ?_
      refine w_goto X145.here hx (hb hby at_114) (pc' := 118) (by decide) (by decide) ?_
      refine w_istore X145.here hx (hb hby at_118) (l' := #[.val (.int p0), .val (.int p1), .val (.int p2), .val (.int p3), .val (.int p4), .val (.int a0'), .val (.int a1'), .val (.int b0'), .val (.int b1'), .val (.int (Int32.ofNat na)), .val (.int (Int32.ofNat nb)), .val (.ref a), .val (.ref b), .val (.int r), .val (.int (1 : Int32)), .unset]) rfl (pc' := 120) rfl ?_
      exact tailC (P := fun _ => True) (R := room_1) Z a0 hw hx hby hml hret hlk p0 p1 p2 p3 p4 a0' a1' b0' b1' r (1) a b na nb n0 _ hna hnb (by rw [← hp, sgn, if_neg q1, if_pos q2]) (by decide) (by decide) X145 hh3 N4 D144
    · refine w_ifYes X145.here hx (hb hby at_110) (flt (show ¬ ((0 : Int32) < r) from q2)).2.2.2 (pc' := 117) (by decide) (by decide) ?_
      refine w_iconst X145.here hx (hb hby at_117) (z := 0) rfl (pc' := 118) rfl ?_
      refine w_istore X145.here hx (hb hby at_118) (l' := #[.val (.int p0), .val (.int p1), .val (.int p2), .val (.int p3), .val (.int p4), .val (.int a0'), .val (.int a1'), .val (.int b0'), .val (.int b1'), .val (.int (Int32.ofNat na)), .val (.int (Int32.ofNat nb)), .val (.ref a), .val (.ref b), .val (.int r), .val (.int (0 : Int32)), .unset]) rfl (pc' := 120) rfl ?_
      exact tailC (P := fun _ => True) (R := room_1) Z a0 hw hx hby hml hret hlk p0 p1 p2 p3 p4 a0' a1' b0' b1' r (0) a b na nb n0 _ hna hnb (by rw [← hp, sgn, if_neg q1, if_neg q2]) (by decide) (by decide) X145 hh3 N4 D144
set_option maxRecDepth 65536 in
set_option maxHeartbeats 40000000 in
theorem rm0 (l : Launch) (Z : State) (a0 : Array Value) (hw : ∀ d ∈ tables_1, d.before a0 Z = true) (hEL : EW Z a0 [("java/lang/String", 7)]) (ws : List Jvm.Cond) (p0 p1 p2 p3 p4 z : Int32) (h0 : Heap) (n0 : Nat) (Z0 : n0 ≤ h0.size) (Su : SU Z h0 z) (fm : Value) (hfm : fm.isRef = true) (Fm : Sta Z h0 "jdk/internal/util/Preconditions" "SIOOBE_FORMATTER" "Ljava/util/function/BiFunction;" fm) :
    MetFree l x (head1 (Jvm.Cond.code x code maxLocals ret :: ws) room_1) (fun a U => a = #[(.int p0), (.int p1), (.int p2), (.int p3), (.int p4)] ∧ Z.Warmed39 U.vm ∧ U.heap = h0 ∧ CHv Z [("java/lang/String", 7)] U.vm h0) (fun _ _ _ _ _ => True) (fun _ U o U' => ∃ v L, o = .returned v ∧ (fun v h L => v = some (.int 1) ∧ Fr n0 L) v U'.heap L ∧ CHr Z [("java/lang/String", 7)] U.vm U.heap U'.vm U'.heap ∧ ReturnedEndW U o U' L room_1.cells room_1.slots) := by
  refine ct_ofW (Q := fun v h L => v = some (.int 1) ∧ Fr n0 L) (plainFor_of_name pn_4) hEL ?_
  intro p e s m below meth c s₁ X0 hx hby hml hret hnm hlk D0 hs0 e0
  have N0 := Fr.nil n0
  rw [show entryFrame m #[(.int p0), (.int p1), (.int p2), (.int p3), (.int p4)] maxLocals = mkF m 0 #[.val (.int p0), .val (.int p1), .val (.int p2), .val (.int p3), .val (.int p4), .unset, .unset, .unset, .unset, .unset, .unset, .unset, .unset, .unset, .unset, .unset] [] from by first | (simp [entryFrame, mkF, argsToLocals, Value.category, maxLocals]; done) | rfl]
  refine w_iloadN X0.here hx (hb hby at_0) rfl (pc' := 1) rfl ?_
  refine w_static X0 hx D0.zw (y := (⟨"com/example/strict_censor/strictcensor/core/TermCompareCodePointsPinLaw", "cp", "(I)I"⟩ : MethodName)) D0.ow (hw _ (List.mem_of_getElem? (i := 0) rfl)) (hw _ (List.mem_of_getElem? (i := 1) rfl)) (hw _ (List.mem_of_getElem? (i := 2) rfl)) (hw _ (List.mem_of_getElem? (i := 3) rfl)) (by decide) (backC (W := 0) (rmCp l Z a0 hw p0 h0 n0) D0.zw (hw _ (List.mem_of_getElem? (i := 3) rfl)) (hw _ (List.mem_of_getElem? (i := 2) rfl)) (by decide) (by decide)) e0 (by rw [hml]; rfl) (argsL := [(.int p0)]) (st := []) pd_0 rfl rfl rfl (Nat.le_of_ble_eq_true rfl) (hb hby at_1) (by decide) (by decide) (pc' := 4) rfl ?_
  intro T146 v146 L146 X146 Q146
  obtain ⟨ca0, rfl, N_ca0, h_ca0, hh_ca0⟩ := Q146
  show Go _ _ _ _ T146 (mkF m 4 #[.val (.int p0), .val (.int p1), .val (.int p2), .val (.int p3), .val (.int p4), .unset, .unset, .unset, .unset, .unset, .unset, .unset, .unset, .unset, .unset, .unset] [(.int ca0)])
  refine w_istore X146.here hx (hb hby at_4) (l' := #[.val (.int p0), .val (.int p1), .val (.int p2), .val (.int p3), .val (.int p4), .val (.int ca0), .unset, .unset, .unset, .unset, .unset, .unset, .unset, .unset, .unset, .unset]) rfl (pc' := 6) rfl ?_
  refine w_iloadN X146.here hx (hb hby at_6) rfl (pc' := 7) rfl ?_
  refine w_static X146 hx D0.zw (y := (⟨"com/example/strict_censor/strictcensor/core/TermCompareCodePointsPinLaw", "cp", "(I)I"⟩ : MethodName)) D0.ow (hw _ (List.mem_of_getElem? (i := 0) rfl)) (hw _ (List.mem_of_getElem? (i := 1) rfl)) (hw _ (List.mem_of_getElem? (i := 2) rfl)) (hw _ (List.mem_of_getElem? (i := 3) rfl)) (by decide) (backC (W := 0) (rmCp l Z a0 hw p1 h0 n0) D0.zw (hw _ (List.mem_of_getElem? (i := 3) rfl)) (hw _ (List.mem_of_getElem? (i := 2) rfl)) (by decide) (by decide)) hh_ca0 (by rw [hml]; rfl) (argsL := [(.int p1)]) (st := []) pd_0 rfl rfl rfl (Nat.le_of_ble_eq_true rfl) (hb hby at_7) (by decide) (by decide) (pc' := 10) rfl ?_
  intro T147 v147 L147 X147 Q147
  obtain ⟨ca1, rfl, N_ca1, h_ca1, hh_ca1⟩ := Q147
  show Go _ _ _ _ T147 (mkF m 10 #[.val (.int p0), .val (.int p1), .val (.int p2), .val (.int p3), .val (.int p4), .val (.int ca0), .unset, .unset, .unset, .unset, .unset, .unset, .unset, .unset, .unset, .unset] [(.int ca1)])
  refine w_istore X147.here hx (hb hby at_10) (l' := #[.val (.int p0), .val (.int p1), .val (.int p2), .val (.int p3), .val (.int p4), .val (.int ca0), .val (.int ca1), .unset, .unset, .unset, .unset, .unset, .unset, .unset, .unset, .unset]) rfl (pc' := 12) rfl ?_
  refine w_iload X147.here hx (hb hby at_12) rfl (pc' := 14) rfl ?_
  refine w_iconst X147.here hx (hb hby at_14) (z := 1) rfl (pc' := 15) rfl ?_
  refine w_iand X147.here hx (hb hby at_15) (pc' := 16) rfl ?_
  by_cases k1 : (p4 &&& (1 : Int32)) = (0 : Int32)
  · refine w_ifYes X147.here hx (hb hby at_16) (teq (show (p4 &&& (1 : Int32)) = (0 : Int32) from k1)).1 (pc' := 24) (by decide) (by decide) ?_
    refine w_iloadN X147.here hx (hb hby at_24) rfl (pc' := 25) rfl ?_
    refine w_static X147 hx D0.zw (y := (⟨"com/example/strict_censor/strictcensor/core/TermCompareCodePointsPinLaw", "cp", "(I)I"⟩ : MethodName)) D0.ow (hw _ (List.mem_of_getElem? (i := 0) rfl)) (hw _ (List.mem_of_getElem? (i := 1) rfl)) (hw _ (List.mem_of_getElem? (i := 2) rfl)) (hw _ (List.mem_of_getElem? (i := 3) rfl)) (by decide) (backC (W := 0) (rmCp l Z a0 hw p2 h0 n0) D0.zw (hw _ (List.mem_of_getElem? (i := 3) rfl)) (hw _ (List.mem_of_getElem? (i := 2) rfl)) (by decide) (by decide)) hh_ca1 (by rw [hml]; rfl) (argsL := [(.int p2)]) (st := []) pd_0 rfl rfl rfl (Nat.le_of_ble_eq_true rfl) (hb hby at_25) (by decide) (by decide) (pc' := 28) rfl ?_
    intro T148 v148 L148 X148 Q148
    obtain ⟨cb0, rfl, N_cb0, h_cb0, hh_cb0⟩ := Q148
    show Go _ _ _ _ T148 (mkF m 28 #[.val (.int p0), .val (.int p1), .val (.int p2), .val (.int p3), .val (.int p4), .val (.int ca0), .val (.int ca1), .unset, .unset, .unset, .unset, .unset, .unset, .unset, .unset, .unset] [(.int cb0)])
    refine w_istore X148.here hx (hb hby at_28) (l' := #[.val (.int p0), .val (.int p1), .val (.int p2), .val (.int p3), .val (.int p4), .val (.int ca0), .val (.int ca1), .val (.int cb0), .unset, .unset, .unset, .unset, .unset, .unset, .unset, .unset]) rfl (pc' := 30) rfl ?_
    refine w_iload X148.here hx (hb hby at_30) rfl (pc' := 32) rfl ?_
    refine w_iconst X148.here hx (hb hby at_32) (z := 2) rfl (pc' := 33) rfl ?_
    refine w_iand X148.here hx (hb hby at_33) (pc' := 34) rfl ?_
    by_cases k2 : (p4 &&& (2 : Int32)) = (0 : Int32)
    · refine w_ifYes X148.here hx (hb hby at_34) (teq (show (p4 &&& (2 : Int32)) = (0 : Int32) from k2)).1 (pc' := 42) (by decide) (by decide) ?_
      refine w_iloadN X148.here hx (hb hby at_42) rfl (pc' := 43) rfl ?_
      refine w_static X148 hx D0.zw (y := (⟨"com/example/strict_censor/strictcensor/core/TermCompareCodePointsPinLaw", "cp", "(I)I"⟩ : MethodName)) D0.ow (hw _ (List.mem_of_getElem? (i := 0) rfl)) (hw _ (List.mem_of_getElem? (i := 1) rfl)) (hw _ (List.mem_of_getElem? (i := 2) rfl)) (hw _ (List.mem_of_getElem? (i := 3) rfl)) (by decide) (backC (W := 0) (rmCp l Z a0 hw p3 h0 n0) D0.zw (hw _ (List.mem_of_getElem? (i := 3) rfl)) (hw _ (List.mem_of_getElem? (i := 2) rfl)) (by decide) (by decide)) hh_cb0 (by rw [hml]; rfl) (argsL := [(.int p3)]) (st := []) pd_0 rfl rfl rfl (Nat.le_of_ble_eq_true rfl) (hb hby at_43) (by decide) (by decide) (pc' := 46) rfl ?_
      intro T149 v149 L149 X149 Q149
      obtain ⟨cb1, rfl, N_cb1, h_cb1, hh_cb1⟩ := Q149
      show Go _ _ _ _ T149 (mkF m 46 #[.val (.int p0), .val (.int p1), .val (.int p2), .val (.int p3), .val (.int p4), .val (.int ca0), .val (.int ca1), .val (.int cb0), .unset, .unset, .unset, .unset, .unset, .unset, .unset, .unset] [(.int cb1)])
      refine w_istore X149.here hx (hb hby at_46) (l' := #[.val (.int p0), .val (.int p1), .val (.int p2), .val (.int p3), .val (.int p4), .val (.int ca0), .val (.int ca1), .val (.int cb0), .val (.int cb1), .unset, .unset, .unset, .unset, .unset, .unset, .unset]) rfl (pc' := 48) rfl ?_
      exact tailA (P := fun _ => True) (R := room_1) (cells := 0) (slots := 0) Z a0 hw hx hby hml hEL hret hlk p0 p1 p2 p3 p4 ca0 ca1 cb0 cb1 z n0 h0 Z0 h_ca0 h_ca1 h_cb0 h_cb1 X149 hh_cb1 (Fr.app (Fr.app (Fr.app (Fr.app N0 N_ca0) N_ca1) N_cb0) N_cb1) D0 Su fm hfm Fm
    · refine w_ifNo X148.here hx (hb hby at_34) (feq (show ¬ ((p4 &&& (2 : Int32)) = (0 : Int32)) from k2)).1 (pc' := 37) rfl ?_
      refine w_iload X148.here hx (hb hby at_37) rfl (pc' := 39) rfl ?_
      refine w_goto X148.here hx (hb hby at_39) (pc' := 46) (by decide) (by decide) ?_
      refine w_istore X148.here hx (hb hby at_46) (l' := #[.val (.int p0), .val (.int p1), .val (.int p2), .val (.int p3), .val (.int p4), .val (.int ca0), .val (.int ca1), .val (.int cb0), .val (.int ca1), .unset, .unset, .unset, .unset, .unset, .unset, .unset]) rfl (pc' := 48) rfl ?_
      exact tailA (P := fun _ => True) (R := room_1) (cells := 0) (slots := 0) Z a0 hw hx hby hml hEL hret hlk p0 p1 p2 p3 p4 ca0 ca1 cb0 ca1 z n0 h0 Z0 h_ca0 h_ca1 h_cb0 h_ca1 X148 hh_cb0 (Fr.app (Fr.app (Fr.app N0 N_ca0) N_ca1) N_cb0) D0 Su fm hfm Fm
  · refine w_ifNo X147.here hx (hb hby at_16) (feq (show ¬ ((p4 &&& (1 : Int32)) = (0 : Int32)) from k1)).1 (pc' := 19) rfl ?_
    refine w_iload X147.here hx (hb hby at_19) rfl (pc' := 21) rfl ?_
    refine w_goto X147.here hx (hb hby at_21) (pc' := 28) (by decide) (by decide) ?_
    refine w_istore X147.here hx (hb hby at_28) (l' := #[.val (.int p0), .val (.int p1), .val (.int p2), .val (.int p3), .val (.int p4), .val (.int ca0), .val (.int ca1), .val (.int ca0), .unset, .unset, .unset, .unset, .unset, .unset, .unset, .unset]) rfl (pc' := 30) rfl ?_
    refine w_iload X147.here hx (hb hby at_30) rfl (pc' := 32) rfl ?_
    refine w_iconst X147.here hx (hb hby at_32) (z := 2) rfl (pc' := 33) rfl ?_
    refine w_iand X147.here hx (hb hby at_33) (pc' := 34) rfl ?_
    by_cases k2 : (p4 &&& (2 : Int32)) = (0 : Int32)
    · refine w_ifYes X147.here hx (hb hby at_34) (teq (show (p4 &&& (2 : Int32)) = (0 : Int32) from k2)).1 (pc' := 42) (by decide) (by decide) ?_
      refine w_iloadN X147.here hx (hb hby at_42) rfl (pc' := 43) rfl ?_
      refine w_static X147 hx D0.zw (y := (⟨"com/example/strict_censor/strictcensor/core/TermCompareCodePointsPinLaw", "cp", "(I)I"⟩ : MethodName)) D0.ow (hw _ (List.mem_of_getElem? (i := 0) rfl)) (hw _ (List.mem_of_getElem? (i := 1) rfl)) (hw _ (List.mem_of_getElem? (i := 2) rfl)) (hw _ (List.mem_of_getElem? (i := 3) rfl)) (by decide) (backC (W := 0) (rmCp l Z a0 hw p3 h0 n0) D0.zw (hw _ (List.mem_of_getElem? (i := 3) rfl)) (hw _ (List.mem_of_getElem? (i := 2) rfl)) (by decide) (by decide)) hh_ca1 (by rw [hml]; rfl) (argsL := [(.int p3)]) (st := []) pd_0 rfl rfl rfl (Nat.le_of_ble_eq_true rfl) (hb hby at_43) (by decide) (by decide) (pc' := 46) rfl ?_
      intro T150 v150 L150 X150 Q150
      obtain ⟨cb1, rfl, N_cb1, h_cb1, hh_cb1⟩ := Q150
      show Go _ _ _ _ T150 (mkF m 46 #[.val (.int p0), .val (.int p1), .val (.int p2), .val (.int p3), .val (.int p4), .val (.int ca0), .val (.int ca1), .val (.int ca0), .unset, .unset, .unset, .unset, .unset, .unset, .unset, .unset] [(.int cb1)])
      refine w_istore X150.here hx (hb hby at_46) (l' := #[.val (.int p0), .val (.int p1), .val (.int p2), .val (.int p3), .val (.int p4), .val (.int ca0), .val (.int ca1), .val (.int ca0), .val (.int cb1), .unset, .unset, .unset, .unset, .unset, .unset, .unset]) rfl (pc' := 48) rfl ?_
      exact tailA (P := fun _ => True) (R := room_1) (cells := 0) (slots := 0) Z a0 hw hx hby hml hEL hret hlk p0 p1 p2 p3 p4 ca0 ca1 ca0 cb1 z n0 h0 Z0 h_ca0 h_ca1 h_ca0 h_cb1 X150 hh_cb1 (Fr.app (Fr.app (Fr.app N0 N_ca0) N_ca1) N_cb1) D0 Su fm hfm Fm
    · refine w_ifNo X147.here hx (hb hby at_34) (feq (show ¬ ((p4 &&& (2 : Int32)) = (0 : Int32)) from k2)).1 (pc' := 37) rfl ?_
      refine w_iload X147.here hx (hb hby at_37) rfl (pc' := 39) rfl ?_
      refine w_goto X147.here hx (hb hby at_39) (pc' := 46) (by decide) (by decide) ?_
      refine w_istore X147.here hx (hb hby at_46) (l' := #[.val (.int p0), .val (.int p1), .val (.int p2), .val (.int p3), .val (.int p4), .val (.int ca0), .val (.int ca1), .val (.int ca0), .val (.int ca1), .unset, .unset, .unset, .unset, .unset, .unset, .unset]) rfl (pc' := 48) rfl ?_
      exact tailA (P := fun _ => True) (R := room_1) (cells := 0) (slots := 0) Z a0 hw hx hby hml hEL hret hlk p0 p1 p2 p3 p4 ca0 ca1 ca0 ca1 z n0 h0 Z0 h_ca0 h_ca1 h_ca0 h_ca1 X147 hh_ca1 (Fr.app (Fr.app N0 N_ca0) N_ca1) D0 Su fm hfm Fm
set_option maxRecDepth 65536 in
set_option maxHeartbeats 40000000 in
theorem comes_1 {Post : Tables → Env → Array Value → State → Outcome → State → Prop} (hpost : ∀ tb e args s v u, (limb_1_1.after args s (.returned v) u = true ∧ limb_1_2.after args s (.returned v) u = true ∧ True) → ReturnedEndW s (.returned v) u (Jvm.fieldLocs frame_1_writes args s ++ Jvm.arrayLocs frame_1_arrays args s ++ Jvm.staticLocs frame_1_statics s) 32 1216 → Post tb e args s (.returned v) u) :
    ArmFor flags0 classFile x code maxLocals ret World_1 tables_1 room_1 Calls_1 rest_1 Pre_1 Post := by
  intro l hfl _ _ p e ha hc hk s m args below hf hA hF happ hP
  obtain ⟨hcalls, hrest, hpre⟩ := hP
  obtain ⟨-, -, -, hnamed, -, -, -, hat⟩ := (Spec.applies_iff hf).mp happ
  obtain ⟨hg, hn⟩ := and_e (Cond.before_iff.mp (show (Jvm.Cond.and given_1 narrow_1).before args s = true from hpre))
  obtain ⟨hg0, hgr0⟩ := and_e hg
  obtain ⟨hg1, hgr1⟩ := and_e hgr0
  obtain ⟨hg2, hgr2⟩ := and_e hgr1
  obtain ⟨hg3, hgr3⟩ := and_e hgr2
  obtain ⟨hg4, hgr4⟩ := and_e hgr3
  obtain ⟨w0, w1, w2, w3, w4, rfl⟩ : ∃ w0 w1 w2 w3 w4 : Value, args = #[w0, w1, w2, w3, w4] := by
    have hs : args.size = 5 := by simpa [Cond.value, given_1] using hg0
    obtain ⟨L⟩ := args
    match L, hs with
    | [w0, w1, w2, w3, w4], _ => exact ⟨w0, w1, w2, w3, w4, rfl⟩
  have hw := fun d (hd : d ∈ tables_1) => atoms_spec (ws := Jvm.Cond.code x code maxLocals ret :: tables_1) hat d (List.mem_cons_of_mem _ hd)
  have hfit : Fit s := fun {y c} hc i hi => by
    obtain ⟨ha, rfl⟩ := Array.getElem?_eq_some_iff.mp hc
    have q := List.all_eq_true.mp ((Array.all_eq_true_iff_forall_mem.mp hF) _ (Array.getElem_mem ha)) i (List.mem_range.mpr hi)
    simpa [Array.getElem?_eq_getElem hi] using q
  obtain ⟨hsets, hown0⟩ := atoms_of _ (rest_1_c_eq ▸ (show rest_1_c.before _ s = true from hrest))
  obtain ⟨i0, ei0⟩ := is_v hg1
  obtain rfl : w0 = (.int i0) := Option.some.inj ei0
  obtain ⟨i1, ei1⟩ := is_v hg2
  obtain rfl : w1 = (.int i1) := Option.some.inj ei1
  obtain ⟨i2, ei2⟩ := is_v hg3
  obtain rfl : w2 = (.int i2) := Option.some.inj ei2
  obtain ⟨i3, ei3⟩ := is_v hg4
  obtain rfl : w3 = (.int i3) := Option.some.inj ei3
  obtain ⟨i4, ei4⟩ := is_v hgr4
  obtain rfl : w4 = (.int i4) := Option.some.inj ei4
  obtain ⟨z, SU0⟩ := SU.start (hsets _ (List.mem_of_getElem? (i := 0) rfl)) (hsets _ (List.mem_of_getElem? (i := 1) rfl)) (hsets _ (List.mem_of_getElem? (i := 2) rfl)) (hsets _ (List.mem_of_getElem? (i := 11) rfl)) (hsets _ (List.mem_of_getElem? (i := 12) rfl)) (hsets _ (List.mem_of_getElem? (i := 14) rfl)) (hsets _ (List.mem_of_getElem? (i := 15) rfl)) (hsets _ (List.mem_of_getElem? (i := 17) rfl)) (hsets _ (List.mem_of_getElem? (i := 18) rfl))
  obtain ⟨fm, efm, hfm⟩ := isR_v (Cond.before_iff.mp (hsets _ (List.mem_of_getElem? (i := 8) rfl)))
  have Fm := Sta.start efm (Or.inl (hsets _ (List.mem_of_getElem? (i := 7) rfl)))
  have hEL : EW s _ [("java/lang/String", 7)] := EW.cons (hw _ (List.mem_of_getElem? (i := 26) rfl)) (by decide) EW.nil
  have CH0 : CHv s [("java/lang/String", 7)] s.vm s.heap := CHv.start hEL (fun q hq => hcalls.1 q hq) (hsets _ (List.mem_of_getElem? (i := 2) rfl)) (hw _ (List.mem_of_getElem? (i := 27) rfl)) (hw _ (List.mem_of_getElem? (i := 14) rfl))
  obtain ⟨n, o, h1, h2, h3, _, L, rfl, ⟨rfl, N⟩, -, hq⟩ := rm0 l s _ hw hEL tables_1 i0 i1 i2 i3 i4 z s.heap s.heap.size (Nat.le_refl _) SU0 fm hfm Fm p e ha hc hk s m _ below hf ((Spec.applies_iff_loose hf).mp happ).1 ⟨rfl, State.Warmed39.refl s, rfl, CH0⟩ trivial
  refine ⟨n, _, h1, h2, h3, hpost _ _ _ _ _ _ ⟨Cond.after_iff.mpr rfl, Cond.after_iff.mpr (eq_i res_at (Term.int_eval (1)) rfl), trivial⟩ ⟨hq.1, hq.2.1, hq.2.2.1, (hq.2.2.2.sift fun y hy => Or.inr (N y hy)).mono (by decide) (by decide)⟩⟩
theorem main_1_1 : Claimed_1_1 := comes_1 fun _ _ _ _ _ _ h hF => ⟨h.1, hF⟩
theorem main_1_2 : Claimed_1_2 := comes_1 fun _ _ _ _ _ _ h hF => ⟨h.2.1, hF⟩
end Jvm.Pilot.@@N@@
namespace Jvm.Pilot.@@N@@
open Jvm Jvm.ClassFile Sem Op Lib Jvm.Free Jvm.Stand Jvm.Pilot.@@N@@.Jvm.D
/-! MADE BY PROGRAM (witnessworld.py) out of the Statement's table words and the real class files: 23 classes; the members and pool entries that the words name. The judged class is class 1, her method 4. -/
namespace start1
open Jvm.ClassFile
def u (s : String) : CpInfo := .utf8 (stringToUtf16 s)
/-- a pool by its gaps: so many unusable entries, then the entry; so many at the end -/
def gap : Nat → List CpInfo → List CpInfo
  | 0, r => r
  | n + 1, r => .unusable :: gap n r
def poolList (es : List (Nat × CpInfo)) (last : Nat) : List CpInfo := es.foldr (fun e r => gap e.1 (e.2 :: r)) (gap last [])
def pool (es : List (Nat × CpInfo)) (last : Nat) : Array CpInfo := ⟨poolList es last⟩
def fileOf (pool : Array CpInfo) (this : Nat) (attrs : Array Attribute := #[]) (ms : Array MethodInfo := #[]) (fl : Nat := 33) (sup : Nat := 0) (ifs : Array Nat := #[]) (fds : Array FieldInfo := #[]) : ClassFile where
  minorVersion := 0
  majorVersion := 65
  constantPool := pool
  accessFlags := fl
  thisClass := this
  superClass := sup
  interfaces := ifs
  fields := fds
  methods := ms
  attributes := attrs
def plain (name : String) (sup : Option ClassId) : Class where
  name := name
  kind := .ordinary
  loader := none
  accessFlags := 33
  super := sup
  interfaces := #[]
  cf := none
  fields := #[]
  methods := #[]
  instanceTypes := #[]
  staticTypes := #[]
  resolved := #[]
  callSites := []
  init := .initialized
  statics := none
  mirror := none

def pool0 : Array CpInfo := pool [(5, u "<init>"), (0, u "()V"), (1, .class_ 10), (1, u "java/lang/Object")] 113

def k0c0 : Code := { maxStack := 0, maxLocals := 1, code := object_method_1_code, exceptionTable := #[], attributes := #[] }
def k0m0 : Method := { name := "<init>", desc := "()V", sig := { parameters := [], returnType := none }, accessFlags := 1, code := some k0c0 }
/-- java/lang/Object -/
def k0 : Class := { plain "java/lang/Object" none with
  accessFlags := 33
  interfaces := #[]
  cf := some (fileOf pool0 8 #[] #[{ accessFlags := 1, nameIndex := 5, descriptorIndex := 6, attributes := #[] }] 33 0 #[] #[])
  fields := #[]
  methods := #[k0m0]
  instanceTypes := #[]
  staticTypes := #[]
  resolved := Array.replicate 124 none
  statics := none }

def pool1 : Array CpInfo := pool [(2, .class_ 4), (1, u "java/lang/Object"), (0, u "<init>"), (0, u "()V"), (0, .integer 55296), (0, .integer 57344), (0, .integer 65536), (0, .integer 1048576), (0, .integer 1112064), (0, .integer 56320), (0, .methodref 14 15), (0, .class_ 16), (0, .nameAndType 17 18), (0, u "com/example/strict_censor/strictcensor/core/TermCompareCodePointsPinLaw"), (0, u "put"), (0, u "([CII)I"), (0, .class_ 20), (0, u "java/lang/String"), (0, .methodref 19 22), (0, .nameAndType 5 23), (0, u "([C)V"), (0, .methodref 14 25), (0, .nameAndType 26 27), (0, u "cp"), (0, u "(I)I"), (0, .methodref 14 29), (0, .nameAndType 30 31), (0, u "enc"), (0, u "(III)Ljava/lang/String;"), (0, .methodref 33 34), (0, .class_ 35), (0, .nameAndType 36 37), (0, u "com/example/strict_censor/strictcensor/core/Term"), (0, u "compareCodePoints"), (0, u "(Ljava/lang/String;Ljava/lang/String;)I"), (5, u "law"), (0, u "(IIIII)Z")] 2

def k1m0 : Method := { name := "<init>", desc := "()V", sig := { parameters := [], returnType := none }, accessFlags := 1, code := none }
def k1c1 : Code := { maxStack := 3, maxLocals := 4, code := method_2_code, exceptionTable := #[], attributes := #[] }
def k1m1 : Method := { name := "cp", desc := "(I)I", sig := { parameters := [.int], returnType := some .int }, accessFlags := 10, code := some k1c1 }
def k1c2 : Code := { maxStack := 5, maxLocals := 4, code := method_3_code, exceptionTable := #[], attributes := #[] }
def k1m2 : Method := { name := "put", desc := "([CII)I", sig := { parameters := [(.array .char), .int, .int], returnType := some .int }, accessFlags := 10, code := some k1c2 }
def k1c3 : Code := { maxStack := 7, maxLocals := 5, code := method_4_code, exceptionTable := #[], attributes := #[] }
def k1m3 : Method := { name := "enc", desc := "(III)Ljava/lang/String;", sig := { parameters := [.int, .int, .int], returnType := some (.object "java/lang/String") }, accessFlags := 10, code := some k1c3 }
def k1c4 : Code := { maxStack := 3, maxLocals := 16, code := code, exceptionTable := #[], attributes := #[] }
def k1m4 : Method := { name := "law", desc := "(IIIII)Z", sig := { parameters := [.int, .int, .int, .int, .int], returnType := some .boolean }, accessFlags := 9, code := some k1c4 }
/-- com/example/strict_censor/strictcensor/core/TermCompareCodePointsPinLaw -/
def k1 : Class := { plain "com/example/strict_censor/strictcensor/core/TermCompareCodePointsPinLaw" (some 0) with
  accessFlags := 49
  interfaces := #[]
  cf := some (fileOf pool1 14 #[] #[{ accessFlags := 1, nameIndex := 5, descriptorIndex := 6, attributes := #[] }, { accessFlags := 10, nameIndex := 26, descriptorIndex := 27, attributes := #[] }, { accessFlags := 10, nameIndex := 17, descriptorIndex := 18, attributes := #[] }, { accessFlags := 10, nameIndex := 30, descriptorIndex := 31, attributes := #[] }, { accessFlags := 9, nameIndex := 43, descriptorIndex := 44, attributes := #[] }] 49 2 #[] #[])
  fields := #[]
  methods := #[k1m0, k1m1, k1m2, k1m3, k1m4]
  instanceTypes := #[]
  staticTypes := #[]
  resolved := Array.replicate 47 none
  statics := none }

def pool2 : Array CpInfo := pool [(1, .class_ 2), (0, u "java/io/Serializable"), (0, .class_ 4), (0, u "java/lang/Object")] 2

/-- java/io/Serializable -/
def k2 : Class := { plain "java/io/Serializable" (some 0) with
  accessFlags := 1537
  interfaces := #[]
  cf := some (fileOf pool2 1 #[] #[] 1537 3 #[] #[])
  fields := #[]
  methods := #[]
  instanceTypes := #[]
  staticTypes := #[]
  resolved := Array.replicate 7 none
  statics := none }

def pool3 : Array CpInfo := pool [(1, .class_ 2), (0, u "java/lang/Comparable"), (0, .class_ 4), (0, u "java/lang/Object")] 7

/-- java/lang/Comparable -/
def k3 : Class := { plain "java/lang/Comparable" (some 0) with
  accessFlags := 1537
  interfaces := #[]
  cf := some (fileOf pool3 1 #[] #[] 1537 3 #[] #[])
  fields := #[]
  methods := #[]
  instanceTypes := #[]
  staticTypes := #[]
  resolved := Array.replicate 12 none
  statics := none }

def pool4 : Array CpInfo := pool [(2, .class_ 4), (1, u "java/lang/CharSequence"), (42, .class_ 48), (0, u "java/lang/CharSequence$1CodePointIterator"), (10, .class_ 60), (0, u "java/lang/CharSequence$1CharIterator"), (5, .class_ 67), (0, u "java/lang/Object")] 63

/-- java/lang/CharSequence -/
def k4 : Class := { plain "java/lang/CharSequence" (some 0) with
  accessFlags := 1537
  interfaces := #[]
  cf := some (fileOf pool4 2 #[.nestMembers #[47, 59]] #[] 1537 66 #[] #[])
  fields := #[]
  methods := #[]
  instanceTypes := #[]
  staticTypes := #[]
  resolved := Array.replicate 131 none
  statics := none }

def pool5 : Array CpInfo := pool [(1, .class_ 2), (0, u "java/lang/constant/Constable"), (0, .class_ 4), (0, u "java/lang/Object")] 6

/-- java/lang/constant/Constable -/
def k5 : Class := { plain "java/lang/constant/Constable" (some 0) with
  accessFlags := 1537
  interfaces := #[]
  cf := some (fileOf pool5 1 #[] #[] 1537 3 #[] #[])
  fields := #[]
  methods := #[]
  instanceTypes := #[]
  staticTypes := #[]
  resolved := Array.replicate 11 none
  statics := none }

def pool6 : Array CpInfo := pool [(1, .class_ 2), (0, u "java/lang/constant/ConstantDesc"), (0, .class_ 4), (0, u "java/lang/Object")] 32

/-- java/lang/constant/ConstantDesc -/
def k6 : Class := { plain "java/lang/constant/ConstantDesc" (some 0) with
  accessFlags := 1537
  interfaces := #[]
  cf := some (fileOf pool6 1 #[] #[] 1537 3 #[] #[])
  fields := #[]
  methods := #[]
  instanceTypes := #[]
  staticTypes := #[]
  resolved := Array.replicate 37 none
  statics := none }

def pool7 : Array CpInfo := pool [(1, .methodref 2 3), (0, .class_ 4), (0, .nameAndType 5 6), (0, u "java/lang/Object"), (0, u "<init>"), (0, u "()V"), (0, .string 8), (0, u ""), (0, .fieldref 10 11), (0, .class_ 12), (0, .nameAndType 13 14), (0, u "java/lang/String"), (0, u "value"), (0, u "[B"), (0, .fieldref 10 16), (0, .nameAndType 17 18), (0, u "coder"), (0, u "B"), (2, u "hash"), (0, u "I"), (2, u "hashIsZero"), (0, u "Z"), (0, .methodref 10 28), (0, .nameAndType 5 29), (0, u "([CIILjava/lang/Void;)V"), (8, .fieldref 10 39), (0, .nameAndType 40 26), (0, u "COMPACT_STRINGS"), (1, .class_ 44), (1, u "java/lang/StringUTF16"), (0, u "compress"), (1, .methodref 42 48), (0, .nameAndType 49 50), (0, u "coderFromArrayLen"), (0, u "([BI)B"), (56, .class_ 109), (1, u "java/lang/StringLatin1"), (32, u "()Z"), (34, .methodref 42 178), (0, .nameAndType 45 179), (0, u "([CII)[B"), (154, u "()I"), (0, .methodref 10 336), (0, .nameAndType 17 337), (0, u "()B"), (25, u "([BI)C"), (27, u "(II)V"), (35, u "(I)C"), (64, .methodref 10 493), (0, .nameAndType 494 142), (0, u "isLatin1"), (0, .methodref 107 496), (0, .nameAndType 497 363), (0, u "charAt"), (0, .methodref 42 496), (2, u "checkIndex"), (5, u "length"), (67, .class_ 576), (0, u "java/lang/CharSequence"), (22, u "CASE_INSENSITIVE_ORDER"), (0, u "Ljava/util/Comparator;"), (409, u "([C)V"), (42, .fieldref 1054 1055), (0, .class_ 1056), (0, .nameAndType 1057 1058), (0, u "jdk/internal/util/Preconditions"), (0, u "SIOOBE_FORMATTER"), (0, u "Ljava/util/function/BiFunction;"), (0, .methodref 1054 1060), (0, .nameAndType 501 1061), (0, u "(IILjava/util/function/BiFunction;)I"), (39, u "serialPersistentFields"), (0, u "[Ljava/io/ObjectStreamField;"), (0, .class_ 1104), (0, u "java/lang/String$CaseInsensitiveComparator"), (1, .class_ 1107), (0, u "java/io/Serializable"), (0, .class_ 1109), (0, u "java/lang/Comparable"), (0, .class_ 1111), (0, u "java/lang/constant/Constable"), (0, .class_ 1113), (0, u "java/lang/constant/ConstantDesc"), (2, u "serialVersionUID"), (0, u "J"), (3, u "REPL"), (0, u "C"), (2, u "LATIN1"), (1, u "UTF16")] 323

def k7m0 : Method := { name := "<init>", desc := "()V", sig := { parameters := [], returnType := none }, accessFlags := 1, code := none }
def k7c1 : Code := { maxStack := 5, maxLocals := 2, code := jdk_42_method_3_code, exceptionTable := #[], attributes := #[] }
def k7m1 : Method := { name := "<init>", desc := "([C)V", sig := { parameters := [(.array .char)], returnType := none }, accessFlags := 1, code := some k7c1 }
def k7c2 : Code := { maxStack := 2, maxLocals := 1, code := jdk_42_method_54_code, exceptionTable := #[], attributes := #[] }
def k7m2 : Method := { name := "length", desc := "()I", sig := { parameters := [], returnType := some .int }, accessFlags := 1, code := some k7c2 }
def k7c3 : Code := { maxStack := 2, maxLocals := 2, code := jdk_42_method_56_code, exceptionTable := #[], attributes := #[] }
def k7m3 : Method := { name := "charAt", desc := "(I)C", sig := { parameters := [.int], returnType := some .char }, accessFlags := 1, code := some k7c3 }
def k7c4 : Code := { maxStack := 4, maxLocals := 6, code := jdk_42_method_149_code, exceptionTable := #[], attributes := #[] }
def k7m4 : Method := { name := "<init>", desc := "([CIILjava/lang/Void;)V", sig := { parameters := [(.array .char), .int, .int, (.object "java/lang/Void")], returnType := none }, accessFlags := 2, code := some k7c4 }
def k7c5 : Code := { maxStack := 1, maxLocals := 1, code := jdk_42_method_152_code, exceptionTable := #[], attributes := #[] }
def k7m5 : Method := { name := "coder", desc := "()B", sig := { parameters := [], returnType := some .byte }, accessFlags := 0, code := some k7c5 }
def k7c6 : Code := { maxStack := 1, maxLocals := 1, code := jdk_42_method_154_code, exceptionTable := #[], attributes := #[] }
def k7m6 : Method := { name := "isLatin1", desc := "()Z", sig := { parameters := [], returnType := some .boolean }, accessFlags := 0, code := some k7c6 }
def k7c7 : Code := { maxStack := 3, maxLocals := 2, code := jdk_42_method_155_code, exceptionTable := #[], attributes := #[] }
def k7m7 : Method := { name := "checkIndex", desc := "(II)V", sig := { parameters := [.int, .int], returnType := none }, accessFlags := 8, code := some k7c7 }
/-- java/lang/String -/
def k7 : Class := { plain "java/lang/String" (some 0) with
  accessFlags := 49
  interfaces := #[2, 3, 4, 5, 6]
  cf := some (fileOf pool7 10 #[.nestMembers #[1103]] #[{ accessFlags := 1, nameIndex := 5, descriptorIndex := 6, attributes := #[] }, { accessFlags := 1, nameIndex := 5, descriptorIndex := 1010, attributes := #[] }, { accessFlags := 1, nameIndex := 507, descriptorIndex := 334, attributes := #[] }, { accessFlags := 1, nameIndex := 497, descriptorIndex := 427, attributes := #[] }, { accessFlags := 2, nameIndex := 5, descriptorIndex := 29, attributes := #[] }, { accessFlags := 0, nameIndex := 17, descriptorIndex := 337, attributes := #[] }, { accessFlags := 0, nameIndex := 494, descriptorIndex := 142, attributes := #[] }, { accessFlags := 8, nameIndex := 501, descriptorIndex := 391, attributes := #[] }] 49 2 #[1106, 1108, 575, 1110, 1112] #[{ accessFlags := 18, nameIndex := 13, descriptorIndex := 14, attributes := #[] }, { accessFlags := 18, nameIndex := 17, descriptorIndex := 18, attributes := #[] }, { accessFlags := 2, nameIndex := 21, descriptorIndex := 22, attributes := #[] }, { accessFlags := 2, nameIndex := 25, descriptorIndex := 26, attributes := #[] }, { accessFlags := 26, nameIndex := 1116, descriptorIndex := 1117, attributes := #[] }, { accessFlags := 24, nameIndex := 40, descriptorIndex := 26, attributes := #[] }, { accessFlags := 26, nameIndex := 1101, descriptorIndex := 1102, attributes := #[] }, { accessFlags := 26, nameIndex := 1121, descriptorIndex := 1122, attributes := #[] }, { accessFlags := 25, nameIndex := 599, descriptorIndex := 600, attributes := #[] }, { accessFlags := 24, nameIndex := 1125, descriptorIndex := 18, attributes := #[] }, { accessFlags := 24, nameIndex := 1127, descriptorIndex := 18, attributes := #[] }])
  fields := #[{ name := "value", type := (.array .byte), accessFlags := 18, slot := 0, constantValue := 0 }, { name := "coder", type := .byte, accessFlags := 18, slot := 1, constantValue := 0 }, { name := "hash", type := .int, accessFlags := 2, slot := 2, constantValue := 0 }, { name := "hashIsZero", type := .boolean, accessFlags := 2, slot := 3, constantValue := 0 }, { name := "serialVersionUID", type := .long, accessFlags := 26, slot := 0, constantValue := 0 }, { name := "COMPACT_STRINGS", type := .boolean, accessFlags := 24, slot := 1, constantValue := 0 }, { name := "serialPersistentFields", type := (.array (.object "java/io/ObjectStreamField")), accessFlags := 26, slot := 2, constantValue := 0 }, { name := "REPL", type := .char, accessFlags := 26, slot := 3, constantValue := 0 }, { name := "CASE_INSENSITIVE_ORDER", type := (.object "java/util/Comparator"), accessFlags := 25, slot := 4, constantValue := 0 }, { name := "LATIN1", type := .byte, accessFlags := 24, slot := 5, constantValue := 0 }, { name := "UTF16", type := .byte, accessFlags := 24, slot := 6, constantValue := 0 }]
  methods := #[k7m0, k7m1, k7m2, k7m3, k7m4, k7m5, k7m6, k7m7]
  instanceTypes := #[(.array .byte), .byte, .int, .boolean]
  staticTypes := #[.long, .boolean, (.array (.object "java/io/ObjectStreamField")), .char, (.object "java/util/Comparator"), .byte, .byte]
  resolved := Array.replicate 1451 none
  statics := some 0 }

def pool8 : Array CpInfo := pool [(1, .class_ 2), (0, u "com/example/strict_censor/strictcensor/core/VarOrTerm"), (0, .class_ 4), (0, u "java/lang/Object")] 7

/-- com/example/strict_censor/strictcensor/core/VarOrTerm -/
def k8 : Class := { plain "com/example/strict_censor/strictcensor/core/VarOrTerm" (some 0) with
  accessFlags := 1537
  interfaces := #[]
  cf := some (fileOf pool8 1 #[] #[] 1537 3 #[] #[])
  fields := #[]
  methods := #[]
  instanceTypes := #[]
  staticTypes := #[]
  resolved := Array.replicate 12 none
  statics := none }

def pool9 : Array CpInfo := pool [(2, .class_ 4), (1, u "java/lang/Object"), (3, .class_ 10), (1, u "com/example/strict_censor/strictcensor/core/Term"), (0, u "kind"), (0, u "Lcom/example/strict_censor/strictcensor/core/Term$Kind;"), (2, u "value"), (0, u "Ljava/lang/String;"), (2, u "datatype"), (2, u "language"), (2, u "ntriples"), (0, .methodref 27 28), (0, .class_ 29), (0, .nameAndType 30 31), (0, u "java/lang/String"), (0, u "length"), (0, u "()I"), (0, .methodref 27 33), (0, .nameAndType 34 35), (0, u "charAt"), (0, u "(I)C"), (0, .class_ 37), (0, u "java/lang/Character"), (3, u "belowSurrogates"), (0, u "Z"), (5, u "hash"), (0, u "I"), (1, .class_ 53), (1, u "com/example/strict_censor/strictcensor/core/Term$Kind"), (11, u "copy"), (4, u "copyOfLiteral"), (146, u "compareCodePoints"), (0, u "(Ljava/lang/String;Ljava/lang/String;)I"), (0, .methodref 220 221), (0, .class_ 222), (0, .nameAndType 223 224), (0, u "java/lang/Math"), (0, u "min"), (0, u "(II)I"), (0, .methodref 8 226), (0, .nameAndType 227 228), (0, u "codePointRank"), (0, u "(C)I"), (0, .methodref 36 230), (0, .nameAndType 231 232), (0, u "isSurrogate"), (0, u "(C)Z"), (0, .integer 57344), (65, .class_ 300), (0, u "java/lang/Comparable"), (0, .class_ 302), (0, u "com/example/strict_censor/strictcensor/core/VarOrTerm"), (0, u "XSD_STRING"), (1, u "RDF_LANG_STRING")] 64

def k9c0 : Code := { maxStack := 2, maxLocals := 6, code := prog_41_method_19_code, exceptionTable := #[], attributes := #[] }
def k9m0 : Method := { name := "compareCodePoints", desc := "(Ljava/lang/String;Ljava/lang/String;)I", sig := { parameters := [(.object "java/lang/String"), (.object "java/lang/String")], returnType := some .int }, accessFlags := 9, code := some k9c0 }
def k9c1 : Code := { maxStack := 2, maxLocals := 1, code := prog_41_method_20_code, exceptionTable := #[], attributes := #[] }
def k9m1 : Method := { name := "codePointRank", desc := "(C)I", sig := { parameters := [.char], returnType := some .int }, accessFlags := 10, code := some k9c1 }
/-- com/example/strict_censor/strictcensor/core/Term -/
def k9 : Class := { plain "com/example/strict_censor/strictcensor/core/Term" (some 0) with
  accessFlags := 49
  interfaces := #[3, 8]
  cf := some (fileOf pool9 8 #[.nestMembers #[51]] #[{ accessFlags := 9, nameIndex := 217, descriptorIndex := 218, attributes := #[] }, { accessFlags := 10, nameIndex := 227, descriptorIndex := 228, attributes := #[] }] 49 2 #[299, 301] #[{ accessFlags := 25, nameIndex := 303, descriptorIndex := 16, attributes := #[] }, { accessFlags := 25, nameIndex := 305, descriptorIndex := 16, attributes := #[] }, { accessFlags := 18, nameIndex := 11, descriptorIndex := 12, attributes := #[] }, { accessFlags := 18, nameIndex := 15, descriptorIndex := 16, attributes := #[] }, { accessFlags := 18, nameIndex := 19, descriptorIndex := 16, attributes := #[] }, { accessFlags := 18, nameIndex := 22, descriptorIndex := 16, attributes := #[] }, { accessFlags := 18, nameIndex := 25, descriptorIndex := 16, attributes := #[] }, { accessFlags := 18, nameIndex := 41, descriptorIndex := 42, attributes := #[] }, { accessFlags := 18, nameIndex := 48, descriptorIndex := 49, attributes := #[] }, { accessFlags := 18, nameIndex := 65, descriptorIndex := 42, attributes := #[] }, { accessFlags := 18, nameIndex := 70, descriptorIndex := 42, attributes := #[] }])
  fields := #[{ name := "XSD_STRING", type := (.object "java/lang/String"), accessFlags := 25, slot := 0, constantValue := 0 }, { name := "RDF_LANG_STRING", type := (.object "java/lang/String"), accessFlags := 25, slot := 1, constantValue := 0 }, { name := "kind", type := (.object "com/example/strict_censor/strictcensor/core/Term$Kind"), accessFlags := 18, slot := 0, constantValue := 0 }, { name := "value", type := (.object "java/lang/String"), accessFlags := 18, slot := 1, constantValue := 0 }, { name := "datatype", type := (.object "java/lang/String"), accessFlags := 18, slot := 2, constantValue := 0 }, { name := "language", type := (.object "java/lang/String"), accessFlags := 18, slot := 3, constantValue := 0 }, { name := "ntriples", type := (.object "java/lang/String"), accessFlags := 18, slot := 4, constantValue := 0 }, { name := "belowSurrogates", type := .boolean, accessFlags := 18, slot := 5, constantValue := 0 }, { name := "hash", type := .int, accessFlags := 18, slot := 6, constantValue := 0 }, { name := "copy", type := .boolean, accessFlags := 18, slot := 7, constantValue := 0 }, { name := "copyOfLiteral", type := .boolean, accessFlags := 18, slot := 8, constantValue := 0 }]
  methods := #[k9m0, k9m1]
  instanceTypes := #[(.object "com/example/strict_censor/strictcensor/core/Term$Kind"), (.object "java/lang/String"), (.object "java/lang/String"), (.object "java/lang/String"), (.object "java/lang/String"), .boolean, .int, .boolean, .boolean]
  staticTypes := #[(.object "java/lang/String"), (.object "java/lang/String")]
  resolved := Array.replicate 370 none
  statics := none }

def pool10 : Array CpInfo := pool [(1, .class_ 2), (0, u "java/lang/Math"), (1, .class_ 6), (1, u "java/lang/Object"), (0, u "<init>"), (0, u "()V"), (89, .class_ 100), (1, u "java/lang/Math$RandomNumberGeneratorHolder"), (71, u "negativeZeroFloatBits"), (0, u "J"), (2, u "negativeZeroDoubleBits"), (24, u "min"), (43, u "$assertionsDisabled"), (0, u "Z"), (88, u "(II)I"), (2, u "twoToTheDoubleScaleDown"), (0, u "D"), (4, u "twoToTheDoubleScaleUp"), (9, u "E"), (3, u "PI"), (2, u "TAU"), (2, u "DEGREES_TO_RADIANS"), (0, u "RADIANS_TO_DEGREES")] 94

def k10m0 : Method := { name := "<init>", desc := "()V", sig := { parameters := [], returnType := none }, accessFlags := 2, code := none }
def k10c1 : Code := { maxStack := 2, maxLocals := 2, code := jdk_29_method_69_code, exceptionTable := #[], attributes := #[] }
def k10m1 : Method := { name := "min", desc := "(II)I", sig := { parameters := [.int, .int], returnType := some .int }, accessFlags := 9, code := some k10c1 }
/-- java/lang/Math -/
def k10 : Class := { plain "java/lang/Math" (some 0) with
  accessFlags := 49
  interfaces := #[]
  cf := some (fileOf pool10 1 #[.nestMembers #[98]] #[{ accessFlags := 2, nameIndex := 7, descriptorIndex := 8, attributes := #[] }, { accessFlags := 9, nameIndex := 201, descriptorIndex := 335, attributes := #[] }] 49 4 #[] #[{ accessFlags := 25, nameIndex := 354, descriptorIndex := 339, attributes := #[] }, { accessFlags := 25, nameIndex := 358, descriptorIndex := 339, attributes := #[] }, { accessFlags := 25, nameIndex := 361, descriptorIndex := 339, attributes := #[] }, { accessFlags := 26, nameIndex := 364, descriptorIndex := 339, attributes := #[] }, { accessFlags := 26, nameIndex := 365, descriptorIndex := 339, attributes := #[] }, { accessFlags := 26, nameIndex := 172, descriptorIndex := 173, attributes := #[] }, { accessFlags := 26, nameIndex := 176, descriptorIndex := 173, attributes := #[] }, { accessFlags := 8, nameIndex := 344, descriptorIndex := 339, attributes := #[] }, { accessFlags := 8, nameIndex := 338, descriptorIndex := 339, attributes := #[] }, { accessFlags := 4120, nameIndex := 245, descriptorIndex := 246, attributes := #[] }])
  fields := #[{ name := "E", type := .double, accessFlags := 25, slot := 0, constantValue := 0 }, { name := "PI", type := .double, accessFlags := 25, slot := 1, constantValue := 0 }, { name := "TAU", type := .double, accessFlags := 25, slot := 2, constantValue := 0 }, { name := "DEGREES_TO_RADIANS", type := .double, accessFlags := 26, slot := 3, constantValue := 0 }, { name := "RADIANS_TO_DEGREES", type := .double, accessFlags := 26, slot := 4, constantValue := 0 }, { name := "negativeZeroFloatBits", type := .long, accessFlags := 26, slot := 5, constantValue := 0 }, { name := "negativeZeroDoubleBits", type := .long, accessFlags := 26, slot := 6, constantValue := 0 }, { name := "twoToTheDoubleScaleUp", type := .double, accessFlags := 8, slot := 7, constantValue := 0 }, { name := "twoToTheDoubleScaleDown", type := .double, accessFlags := 8, slot := 8, constantValue := 0 }, { name := "$assertionsDisabled", type := .boolean, accessFlags := 4120, slot := 9, constantValue := 0 }]
  methods := #[k10m0, k10m1]
  instanceTypes := #[]
  staticTypes := #[.double, .double, .double, .double, .double, .long, .long, .double, .double, .boolean]
  resolved := Array.replicate 460 none
  statics := none }

def pool11 : Array CpInfo := pool [(3, .class_ 4), (0, u "java/lang/String"), (1, .class_ 8), (1, u "java/lang/Object"), (0, u "<init>"), (0, u "()V"), (0, .methodref 12 13), (0, .class_ 14), (0, .nameAndType 15 16), (0, u "java/lang/StringUTF16"), (0, u "newBytesLength"), (0, u "(I)I"), (3, .integer 1073741823), (23, .fieldref 12 45), (0, .nameAndType 46 47), (0, u "$assertionsDisabled"), (0, u "Z"), (0, .methodref 12 49), (0, .nameAndType 50 51), (0, u "length"), (0, u "([B)I"), (7, .fieldref 12 60), (0, .nameAndType 61 62), (0, u "HI_BYTE_SHIFT"), (0, u "I"), (0, .fieldref 12 64), (0, .nameAndType 65 62), (0, u "LO_BYTE_SHIFT"), (1, .methodref 12 68), (0, .nameAndType 69 70), (0, u "checkIndex"), (0, u "(I[B)V"), (0, .methodref 12 72), (0, .nameAndType 73 74), (0, u "getChar"), (0, u "([BI)C"), (32, .methodref 12 108), (0, .nameAndType 109 110), (0, u "newBytesFor"), (0, u "(I)[B"), (0, .methodref 12 112), (0, .nameAndType 113 114), (0, u "putChar"), (0, u "([BII)V"), (0, .methodref 12 116), (0, .nameAndType 117 118), (0, u "compress"), (0, u "([CI[BII)I"), (0, .methodref 12 120), (0, .nameAndType 121 122), (0, u "toBytes"), (0, u "([CII)[B"), (138, u "coderFromArrayLen"), (0, u "([BI)B"), (106, .class_ 371), (1, u "java/lang/StringUTF16$LinesSpliterator"), (20, u "charAt"), (21, .methodref 3 415), (0, .nameAndType 69 416), (0, u "(II)V"), (13, u "MAX_LENGTH"), (196, .class_ 628), (0, u "java/lang/StringUTF16$CodePointsSpliterator"), (0, .class_ 630), (0, u "java/lang/StringUTF16$CharsSpliterator")] 4

def k11m0 : Method := { name := "<init>", desc := "()V", sig := { parameters := [], returnType := none }, accessFlags := 0, code := none }
def k11c1 : Code := { maxStack := 1, maxLocals := 1, code := jdk_52_method_2_code, exceptionTable := #[], attributes := #[] }
def k11m1 : Method := { name := "newBytesFor", desc := "(I)[B", sig := { parameters := [.int], returnType := some (.array .byte) }, accessFlags := 9, code := some k11c1 }
def k11c2 : Code := { maxStack := 4, maxLocals := 1, code := jdk_52_method_3_code, exceptionTable := #[], attributes := #[] }
def k11m2 : Method := { name := "newBytesLength", desc := "(I)I", sig := { parameters := [.int], returnType := some .int }, accessFlags := 9, code := some k11c2 }
def k11c3 : Code := { maxStack := 4, maxLocals := 3, code := jdk_52_method_4_code, exceptionTable := #[], attributes := #[] }
def k11m3 : Method := { name := "putChar", desc := "([BII)V", sig := { parameters := [(.array .byte), .int, .int], returnType := none }, accessFlags := 8, code := some k11c3 }
def k11c4 : Code := { maxStack := 3, maxLocals := 2, code := jdk_52_method_5_code, exceptionTable := #[], attributes := #[] }
def k11m4 : Method := { name := "getChar", desc := "([BI)C", sig := { parameters := [(.array .byte), .int], returnType := some .char }, accessFlags := 8, code := some k11c4 }
def k11c5 : Code := { maxStack := 2, maxLocals := 1, code := jdk_52_method_6_code, exceptionTable := #[], attributes := #[] }
def k11m5 : Method := { name := "length", desc := "([B)I", sig := { parameters := [(.array .byte)], returnType := some .int }, accessFlags := 9, code := some k11c5 }
def k11c6 : Code := { maxStack := 4, maxLocals := 5, code := jdk_52_method_14_code, exceptionTable := #[], attributes := #[] }
def k11m6 : Method := { name := "toBytes", desc := "([CII)[B", sig := { parameters := [(.array .char), .int, .int], returnType := some (.array .byte) }, accessFlags := 9, code := some k11c6 }
def k11c7 : Code := { maxStack := 2, maxLocals := 2, code := jdk_52_method_15_code, exceptionTable := #[], attributes := #[] }
def k11m7 : Method := { name := "coderFromArrayLen", desc := "([BI)B", sig := { parameters := [(.array .byte), .int], returnType := some .byte }, accessFlags := 8, code := some k11c7 }
def k11c8 : Code := { maxStack := 5, maxLocals := 6, code := jdk_52_method_16_code, exceptionTable := #[], attributes := #[] }
def k11m8 : Method := { name := "compress", desc := "([CII)[B", sig := { parameters := [(.array .char), .int, .int], returnType := some (.array .byte) }, accessFlags := 9, code := some k11c8 }
def k11c9 : Code := { maxStack := 3, maxLocals := 7, code := jdk_52_method_21_code, exceptionTable := #[], attributes := #[] }
def k11m9 : Method := { name := "compress", desc := "([CI[BII)I", sig := { parameters := [(.array .char), .int, (.array .byte), .int, .int], returnType := some .int }, accessFlags := 9, code := some k11c9 }
def k11c10 : Code := { maxStack := 2, maxLocals := 2, code := jdk_52_method_83_code, exceptionTable := #[], attributes := #[] }
def k11m10 : Method := { name := "charAt", desc := "([BI)C", sig := { parameters := [(.array .byte), .int], returnType := some .char }, accessFlags := 9, code := some k11c10 }
def k11c11 : Code := { maxStack := 2, maxLocals := 2, code := jdk_52_method_91_code, exceptionTable := #[], attributes := #[] }
def k11m11 : Method := { name := "checkIndex", desc := "(I[B)V", sig := { parameters := [.int, (.array .byte)], returnType := none }, accessFlags := 9, code := some k11c11 }
/-- java/lang/StringUTF16 -/
def k11 : Class := { plain "java/lang/StringUTF16" (some 0) with
  accessFlags := 48
  interfaces := #[]
  cf := some (fileOf pool11 12 #[.nestMembers #[627, 629, 369]] #[{ accessFlags := 0, nameIndex := 9, descriptorIndex := 10, attributes := #[] }, { accessFlags := 9, nameIndex := 109, descriptorIndex := 110, attributes := #[] }, { accessFlags := 9, nameIndex := 15, descriptorIndex := 16, attributes := #[] }, { accessFlags := 8, nameIndex := 113, descriptorIndex := 114, attributes := #[] }, { accessFlags := 8, nameIndex := 73, descriptorIndex := 74, attributes := #[] }, { accessFlags := 9, nameIndex := 50, descriptorIndex := 51, attributes := #[] }, { accessFlags := 9, nameIndex := 121, descriptorIndex := 122, attributes := #[] }, { accessFlags := 8, nameIndex := 261, descriptorIndex := 262, attributes := #[] }, { accessFlags := 9, nameIndex := 117, descriptorIndex := 122, attributes := #[] }, { accessFlags := 9, nameIndex := 117, descriptorIndex := 118, attributes := #[] }, { accessFlags := 9, nameIndex := 392, descriptorIndex := 74, attributes := #[] }, { accessFlags := 9, nameIndex := 69, descriptorIndex := 70, attributes := #[] }] 48 6 #[] #[{ accessFlags := 26, nameIndex := 61, descriptorIndex := 62, attributes := #[] }, { accessFlags := 26, nameIndex := 65, descriptorIndex := 62, attributes := #[] }, { accessFlags := 24, nameIndex := 430, descriptorIndex := 62, attributes := #[] }, { accessFlags := 4120, nameIndex := 46, descriptorIndex := 47, attributes := #[] }])
  fields := #[{ name := "HI_BYTE_SHIFT", type := .int, accessFlags := 26, slot := 0, constantValue := 0 }, { name := "LO_BYTE_SHIFT", type := .int, accessFlags := 26, slot := 1, constantValue := 0 }, { name := "MAX_LENGTH", type := .int, accessFlags := 24, slot := 2, constantValue := 0 }, { name := "$assertionsDisabled", type := .boolean, accessFlags := 4120, slot := 3, constantValue := 0 }]
  methods := #[k11m0, k11m1, k11m2, k11m3, k11m4, k11m5, k11m6, k11m7, k11m8, k11m9, k11m10, k11m11]
  instanceTypes := #[]
  staticTypes := #[.int, .int, .int, .boolean]
  resolved := Array.replicate 635 none
  statics := some 1 }

def pool12 : Array CpInfo := pool [(2, .class_ 4), (1, u "java/lang/Object"), (0, u "<init>"), (0, u "()V"), (17, .class_ 26), (1, u "jdk/internal/util/Preconditions"), (6, u "checkIndex"), (21, .class_ 56), (0, u "jdk/internal/util/Preconditions$4"), (57, .class_ 115), (0, u "jdk/internal/util/Preconditions$1"), (7, u "SIOOBE_FORMATTER"), (0, u "Ljava/util/function/BiFunction;"), (0, .class_ 126), (0, u "jdk/internal/util/Preconditions$2"), (3, u "AIOOBE_FORMATTER"), (0, .class_ 132), (0, u "jdk/internal/util/Preconditions$3"), (3, u "IOOBE_FORMATTER"), (41, u "(IILjava/util/function/BiFunction;)I")] 15

def k12m0 : Method := { name := "<init>", desc := "()V", sig := { parameters := [], returnType := none }, accessFlags := 1, code := none }
def k12c1 : Code := { maxStack := 3, maxLocals := 3, code := jdk_41_method_11_code, exceptionTable := #[], attributes := #[] }
def k12m1 : Method := { name := "checkIndex", desc := "(IILjava/util/function/BiFunction;)I", sig := { parameters := [.int, .int, (.object "java/util/function/BiFunction")], returnType := some .int }, accessFlags := 9, code := some k12c1 }
/-- jdk/internal/util/Preconditions -/
def k12 : Class := { plain "jdk/internal/util/Preconditions" (some 0) with
  accessFlags := 33
  interfaces := #[]
  cf := some (fileOf pool12 24 #[.nestMembers #[55, 131, 125, 114]] #[{ accessFlags := 1, nameIndex := 5, descriptorIndex := 6, attributes := #[] }, { accessFlags := 9, nameIndex := 33, descriptorIndex := 178, attributes := #[] }] 33 2 #[] #[{ accessFlags := 25, nameIndex := 123, descriptorIndex := 124, attributes := #[] }, { accessFlags := 25, nameIndex := 130, descriptorIndex := 124, attributes := #[] }, { accessFlags := 25, nameIndex := 136, descriptorIndex := 124, attributes := #[] }])
  fields := #[{ name := "SIOOBE_FORMATTER", type := (.object "java/util/function/BiFunction"), accessFlags := 25, slot := 0, constantValue := 0 }, { name := "AIOOBE_FORMATTER", type := (.object "java/util/function/BiFunction"), accessFlags := 25, slot := 1, constantValue := 0 }, { name := "IOOBE_FORMATTER", type := (.object "java/util/function/BiFunction"), accessFlags := 25, slot := 2, constantValue := 0 }]
  methods := #[k12m0, k12m1]
  instanceTypes := #[]
  staticTypes := #[(.object "java/util/function/BiFunction"), (.object "java/util/function/BiFunction"), (.object "java/util/function/BiFunction")]
  resolved := Array.replicate 194 none
  statics := some 2 }

def pool13 : Array CpInfo := pool [(1, .class_ 2), (0, u "java/lang/String"), (1, .class_ 6), (1, u "java/lang/Object"), (0, u "<init>"), (0, u "()V"), (0, .methodref 1 10), (0, .nameAndType 11 12), (0, u "checkIndex"), (0, u "(II)V"), (1, .class_ 16), (1, u "java/lang/StringLatin1"), (36, u "([BI)C"), (67, u "$assertionsDisabled"), (0, u "Z"), (98, .class_ 223), (1, u "java/lang/StringLatin1$LinesSpliterator"), (28, u "charAt"), (137, .class_ 391), (0, u "java/lang/StringLatin1$CharsSpliterator")] 3

def k13m0 : Method := { name := "<init>", desc := "()V", sig := { parameters := [], returnType := none }, accessFlags := 0, code := none }
def k13c1 : Code := { maxStack := 2, maxLocals := 2, code := jdk_43_method_2_code, exceptionTable := #[], attributes := #[] }
def k13m1 : Method := { name := "charAt", desc := "([BI)C", sig := { parameters := [(.array .byte), .int], returnType := some .char }, accessFlags := 9, code := some k13c1 }
/-- java/lang/StringLatin1 -/
def k13 : Class := { plain "java/lang/StringLatin1" (some 0) with
  accessFlags := 48
  interfaces := #[]
  cf := some (fileOf pool13 14 #[.nestMembers #[390, 221]] #[{ accessFlags := 0, nameIndex := 7, descriptorIndex := 8, attributes := #[] }, { accessFlags := 9, nameIndex := 252, descriptorIndex := 53, attributes := #[] }] 48 4 #[] #[{ accessFlags := 4120, nameIndex := 121, descriptorIndex := 122, attributes := #[] }])
  fields := #[{ name := "$assertionsDisabled", type := .boolean, accessFlags := 4120, slot := 0, constantValue := 0 }]
  methods := #[k13m0, k13m1]
  instanceTypes := #[]
  staticTypes := #[.boolean]
  resolved := Array.replicate 395 none
  statics := none }

def pool14 : Array CpInfo := pool [(1, .class_ 2), (0, u "java/lang/Character"), (18, u "value"), (0, u "C"), (19, .class_ 44), (1, u "java/lang/Object"), (3, .class_ 50), (1, u "java/lang/Character$CharacterCache"), (24, .integer 55296), (1, .integer 57344), (3, u "(C)Z"), (202, u "$assertionsDisabled"), (0, u "Z"), (21, .class_ 309), (1, u "java/lang/Character$UnicodeBlock"), (73, u "TYPE"), (0, u "Ljava/lang/Class;"), (0, .class_ 386), (0, u "java/io/Serializable"), (0, .class_ 388), (0, u "java/lang/Comparable"), (0, .class_ 390), (0, u "java/lang/constant/Constable"), (0, u "MIN_RADIX"), (0, u "I"), (2, u "MAX_RADIX"), (1, u "MIN_VALUE"), (1, u "MAX_VALUE"), (3, u "UNASSIGNED"), (0, u "B"), (0, u "UPPERCASE_LETTER"), (1, u "LOWERCASE_LETTER"), (0, u "TITLECASE_LETTER"), (1, u "MODIFIER_LETTER"), (1, u "OTHER_LETTER"), (1, u "NON_SPACING_MARK"), (1, u "ENCLOSING_MARK"), (1, u "COMBINING_SPACING_MARK"), (1, u "DECIMAL_DIGIT_NUMBER"), (1, u "LETTER_NUMBER"), (1, u "OTHER_NUMBER"), (1, u "SPACE_SEPARATOR"), (1, u "LINE_SEPARATOR"), (1, u "PARAGRAPH_SEPARATOR"), (1, u "CONTROL"), (1, u "FORMAT"), (1, u "PRIVATE_USE"), (1, u "SURROGATE"), (1, u "DASH_PUNCTUATION"), (1, u "START_PUNCTUATION"), (1, u "END_PUNCTUATION"), (1, u "CONNECTOR_PUNCTUATION"), (1, u "OTHER_PUNCTUATION"), (1, u "MATH_SYMBOL"), (1, u "CURRENCY_SYMBOL"), (1, u "MODIFIER_SYMBOL"), (1, u "OTHER_SYMBOL"), (1, u "INITIAL_QUOTE_PUNCTUATION"), (1, u "FINAL_QUOTE_PUNCTUATION"), (1, u "ERROR"), (1, u "DIRECTIONALITY_UNDEFINED"), (0, u "DIRECTIONALITY_LEFT_TO_RIGHT"), (0, u "DIRECTIONALITY_RIGHT_TO_LEFT"), (0, u "DIRECTIONALITY_RIGHT_TO_LEFT_ARABIC"), (0, u "DIRECTIONALITY_EUROPEAN_NUMBER"), (0, u "DIRECTIONALITY_EUROPEAN_NUMBER_SEPARATOR"), (0, u "DIRECTIONALITY_EUROPEAN_NUMBER_TERMINATOR"), (0, u "DIRECTIONALITY_ARABIC_NUMBER"), (0, u "DIRECTIONALITY_COMMON_NUMBER_SEPARATOR"), (0, u "DIRECTIONALITY_NONSPACING_MARK"), (0, u "DIRECTIONALITY_BOUNDARY_NEUTRAL"), (0, u "DIRECTIONALITY_PARAGRAPH_SEPARATOR"), (0, u "DIRECTIONALITY_SEGMENT_SEPARATOR"), (0, u "DIRECTIONALITY_WHITESPACE"), (0, u "DIRECTIONALITY_OTHER_NEUTRALS"), (0, u "DIRECTIONALITY_LEFT_TO_RIGHT_EMBEDDING"), (0, u "DIRECTIONALITY_LEFT_TO_RIGHT_OVERRIDE"), (0, u "DIRECTIONALITY_RIGHT_TO_LEFT_EMBEDDING"), (0, u "DIRECTIONALITY_RIGHT_TO_LEFT_OVERRIDE"), (1, u "DIRECTIONALITY_POP_DIRECTIONAL_FORMAT"), (0, u "DIRECTIONALITY_LEFT_TO_RIGHT_ISOLATE"), (0, u "DIRECTIONALITY_RIGHT_TO_LEFT_ISOLATE"), (0, u "DIRECTIONALITY_FIRST_STRONG_ISOLATE"), (0, u "DIRECTIONALITY_POP_DIRECTIONAL_ISOLATE"), (0, u "MIN_HIGH_SURROGATE"), (0, u "MAX_HIGH_SURROGATE"), (1, u "MIN_LOW_SURROGATE"), (0, u "MAX_LOW_SURROGATE"), (1, u "MIN_SURROGATE"), (0, u "MAX_SURROGATE"), (0, u "MIN_SUPPLEMENTARY_CODE_POINT"), (0, u "MIN_CODE_POINT"), (0, u "MAX_CODE_POINT"), (1, u "serialVersionUID"), (0, u "J"), (2, u "SIZE"), (0, u "BYTES"), (24, u "isSurrogate"), (63, .class_ 596), (0, u "java/lang/Character$UnicodeScript"), (0, .class_ 598), (0, u "java/lang/Character$Subset")] 5

def k14c0 : Code := { maxStack := 2, maxLocals := 1, code := jdk_89_method_16_code, exceptionTable := #[], attributes := #[] }
def k14m0 : Method := { name := "isSurrogate", desc := "(C)Z", sig := { parameters := [.char], returnType := some .boolean }, accessFlags := 9, code := some k14c0 }
/-- java/lang/Character -/
def k14 : Class := { plain "java/lang/Character" (some 0) with
  accessFlags := 49
  interfaces := #[2, 3, 5]
  cf := some (fileOf pool14 1 #[.nestMembers #[48, 595, 307, 597]] #[{ accessFlags := 9, nameIndex := 531, descriptorIndex := 81, attributes := #[] }] 49 42 #[385, 387, 389] #[{ accessFlags := 25, nameIndex := 391, descriptorIndex := 392, attributes := #[] }, { accessFlags := 25, nameIndex := 395, descriptorIndex := 392, attributes := #[] }, { accessFlags := 25, nameIndex := 397, descriptorIndex := 22, attributes := #[] }, { accessFlags := 25, nameIndex := 399, descriptorIndex := 22, attributes := #[] }, { accessFlags := 25, nameIndex := 383, descriptorIndex := 384, attributes := #[] }, { accessFlags := 25, nameIndex := 403, descriptorIndex := 404, attributes := #[] }, { accessFlags := 25, nameIndex := 405, descriptorIndex := 404, attributes := #[] }, { accessFlags := 25, nameIndex := 407, descriptorIndex := 404, attributes := #[] }, { accessFlags := 25, nameIndex := 408, descriptorIndex := 404, attributes := #[] }, { accessFlags := 25, nameIndex := 410, descriptorIndex := 404, attributes := #[] }, { accessFlags := 25, nameIndex := 412, descriptorIndex := 404, attributes := #[] }, { accessFlags := 25, nameIndex := 414, descriptorIndex := 404, attributes := #[] }, { accessFlags := 25, nameIndex := 416, descriptorIndex := 404, attributes := #[] }, { accessFlags := 25, nameIndex := 418, descriptorIndex := 404, attributes := #[] }, { accessFlags := 25, nameIndex := 420, descriptorIndex := 404, attributes := #[] }, { accessFlags := 25, nameIndex := 422, descriptorIndex := 404, attributes := #[] }, { accessFlags := 25, nameIndex := 424, descriptorIndex := 404, attributes := #[] }, { accessFlags := 25, nameIndex := 426, descriptorIndex := 404, attributes := #[] }, { accessFlags := 25, nameIndex := 428, descriptorIndex := 404, attributes := #[] }, { accessFlags := 25, nameIndex := 430, descriptorIndex := 404, attributes := #[] }, { accessFlags := 25, nameIndex := 432, descriptorIndex := 404, attributes := #[] }, { accessFlags := 25, nameIndex := 434, descriptorIndex := 404, attributes := #[] }, { accessFlags := 25, nameIndex := 436, descriptorIndex := 404, attributes := #[] }, { accessFlags := 25, nameIndex := 438, descriptorIndex := 404, attributes := #[] }, { accessFlags := 25, nameIndex := 440, descriptorIndex := 404, attributes := #[] }, { accessFlags := 25, nameIndex := 442, descriptorIndex := 404, attributes := #[] }, { accessFlags := 25, nameIndex := 444, descriptorIndex := 404, attributes := #[] }, { accessFlags := 25, nameIndex := 446, descriptorIndex := 404, attributes := #[] }, { accessFlags := 25, nameIndex := 448, descriptorIndex := 404, attributes := #[] }, { accessFlags := 25, nameIndex := 450, descriptorIndex := 404, attributes := #[] }, { accessFlags := 25, nameIndex := 452, descriptorIndex := 404, attributes := #[] }, { accessFlags := 25, nameIndex := 454, descriptorIndex := 404, attributes := #[] }, { accessFlags := 25, nameIndex := 456, descriptorIndex := 404, attributes := #[] }, { accessFlags := 25, nameIndex := 458, descriptorIndex := 404, attributes := #[] }, { accessFlags := 25, nameIndex := 460, descriptorIndex := 404, attributes := #[] }, { accessFlags := 24, nameIndex := 462, descriptorIndex := 392, attributes := #[] }, { accessFlags := 25, nameIndex := 464, descriptorIndex := 404, attributes := #[] }, { accessFlags := 25, nameIndex := 465, descriptorIndex := 404, attributes := #[] }, { accessFlags := 25, nameIndex := 466, descriptorIndex := 404, attributes := #[] }, { accessFlags := 25, nameIndex := 467, descriptorIndex := 404, attributes := #[] }, { accessFlags := 25, nameIndex := 468, descriptorIndex := 404, attributes := #[] }, { accessFlags := 25, nameIndex := 469, descriptorIndex := 404, attributes := #[] }, { accessFlags := 25, nameIndex := 470, descriptorIndex := 404, attributes := #[] }, { accessFlags := 25, nameIndex := 471, descriptorIndex := 404, attributes := #[] }, { accessFlags := 25, nameIndex := 472, descriptorIndex := 404, attributes := #[] }, { accessFlags := 25, nameIndex := 473, descriptorIndex := 404, attributes := #[] }, { accessFlags := 25, nameIndex := 474, descriptorIndex := 404, attributes := #[] }, { accessFlags := 25, nameIndex := 475, descriptorIndex := 404, attributes := #[] }, { accessFlags := 25, nameIndex := 476, descriptorIndex := 404, attributes := #[] }, { accessFlags := 25, nameIndex := 477, descriptorIndex := 404, attributes := #[] }, { accessFlags := 25, nameIndex := 478, descriptorIndex := 404, attributes := #[] }, { accessFlags := 25, nameIndex := 479, descriptorIndex := 404, attributes := #[] }, { accessFlags := 25, nameIndex := 480, descriptorIndex := 404, attributes := #[] }, { accessFlags := 25, nameIndex := 481, descriptorIndex := 404, attributes := #[] }, { accessFlags := 25, nameIndex := 482, descriptorIndex := 404, attributes := #[] }, { accessFlags := 25, nameIndex := 484, descriptorIndex := 404, attributes := #[] }, { accessFlags := 25, nameIndex := 485, descriptorIndex := 404, attributes := #[] }, { accessFlags := 25, nameIndex := 486, descriptorIndex := 404, attributes := #[] }, { accessFlags := 25, nameIndex := 487, descriptorIndex := 404, attributes := #[] }, { accessFlags := 25, nameIndex := 488, descriptorIndex := 404, attributes := #[] }, { accessFlags := 25, nameIndex := 489, descriptorIndex := 22, attributes := #[] }, { accessFlags := 25, nameIndex := 490, descriptorIndex := 22, attributes := #[] }, { accessFlags := 25, nameIndex := 492, descriptorIndex := 22, attributes := #[] }, { accessFlags := 25, nameIndex := 493, descriptorIndex := 22, attributes := #[] }, { accessFlags := 25, nameIndex := 495, descriptorIndex := 22, attributes := #[] }, { accessFlags := 25, nameIndex := 496, descriptorIndex := 22, attributes := #[] }, { accessFlags := 25, nameIndex := 497, descriptorIndex := 392, attributes := #[] }, { accessFlags := 25, nameIndex := 498, descriptorIndex := 392, attributes := #[] }, { accessFlags := 25, nameIndex := 499, descriptorIndex := 392, attributes := #[] }, { accessFlags := 18, nameIndex := 21, descriptorIndex := 22, attributes := #[] }, { accessFlags := 26, nameIndex := 501, descriptorIndex := 502, attributes := #[] }, { accessFlags := 25, nameIndex := 505, descriptorIndex := 392, attributes := #[] }, { accessFlags := 25, nameIndex := 506, descriptorIndex := 392, attributes := #[] }, { accessFlags := 4120, nameIndex := 284, descriptorIndex := 285, attributes := #[] }])
  fields := #[{ name := "MIN_RADIX", type := .int, accessFlags := 25, slot := 0, constantValue := 0 }, { name := "MAX_RADIX", type := .int, accessFlags := 25, slot := 1, constantValue := 0 }, { name := "MIN_VALUE", type := .char, accessFlags := 25, slot := 2, constantValue := 0 }, { name := "MAX_VALUE", type := .char, accessFlags := 25, slot := 3, constantValue := 0 }, { name := "TYPE", type := (.object "java/lang/Class"), accessFlags := 25, slot := 4, constantValue := 0 }, { name := "UNASSIGNED", type := .byte, accessFlags := 25, slot := 5, constantValue := 0 }, { name := "UPPERCASE_LETTER", type := .byte, accessFlags := 25, slot := 6, constantValue := 0 }, { name := "LOWERCASE_LETTER", type := .byte, accessFlags := 25, slot := 7, constantValue := 0 }, { name := "TITLECASE_LETTER", type := .byte, accessFlags := 25, slot := 8, constantValue := 0 }, { name := "MODIFIER_LETTER", type := .byte, accessFlags := 25, slot := 9, constantValue := 0 }, { name := "OTHER_LETTER", type := .byte, accessFlags := 25, slot := 10, constantValue := 0 }, { name := "NON_SPACING_MARK", type := .byte, accessFlags := 25, slot := 11, constantValue := 0 }, { name := "ENCLOSING_MARK", type := .byte, accessFlags := 25, slot := 12, constantValue := 0 }, { name := "COMBINING_SPACING_MARK", type := .byte, accessFlags := 25, slot := 13, constantValue := 0 }, { name := "DECIMAL_DIGIT_NUMBER", type := .byte, accessFlags := 25, slot := 14, constantValue := 0 }, { name := "LETTER_NUMBER", type := .byte, accessFlags := 25, slot := 15, constantValue := 0 }, { name := "OTHER_NUMBER", type := .byte, accessFlags := 25, slot := 16, constantValue := 0 }, { name := "SPACE_SEPARATOR", type := .byte, accessFlags := 25, slot := 17, constantValue := 0 }, { name := "LINE_SEPARATOR", type := .byte, accessFlags := 25, slot := 18, constantValue := 0 }, { name := "PARAGRAPH_SEPARATOR", type := .byte, accessFlags := 25, slot := 19, constantValue := 0 }, { name := "CONTROL", type := .byte, accessFlags := 25, slot := 20, constantValue := 0 }, { name := "FORMAT", type := .byte, accessFlags := 25, slot := 21, constantValue := 0 }, { name := "PRIVATE_USE", type := .byte, accessFlags := 25, slot := 22, constantValue := 0 }, { name := "SURROGATE", type := .byte, accessFlags := 25, slot := 23, constantValue := 0 }, { name := "DASH_PUNCTUATION", type := .byte, accessFlags := 25, slot := 24, constantValue := 0 }, { name := "START_PUNCTUATION", type := .byte, accessFlags := 25, slot := 25, constantValue := 0 }, { name := "END_PUNCTUATION", type := .byte, accessFlags := 25, slot := 26, constantValue := 0 }, { name := "CONNECTOR_PUNCTUATION", type := .byte, accessFlags := 25, slot := 27, constantValue := 0 }, { name := "OTHER_PUNCTUATION", type := .byte, accessFlags := 25, slot := 28, constantValue := 0 }, { name := "MATH_SYMBOL", type := .byte, accessFlags := 25, slot := 29, constantValue := 0 }, { name := "CURRENCY_SYMBOL", type := .byte, accessFlags := 25, slot := 30, constantValue := 0 }, { name := "MODIFIER_SYMBOL", type := .byte, accessFlags := 25, slot := 31, constantValue := 0 }, { name := "OTHER_SYMBOL", type := .byte, accessFlags := 25, slot := 32, constantValue := 0 }, { name := "INITIAL_QUOTE_PUNCTUATION", type := .byte, accessFlags := 25, slot := 33, constantValue := 0 }, { name := "FINAL_QUOTE_PUNCTUATION", type := .byte, accessFlags := 25, slot := 34, constantValue := 0 }, { name := "ERROR", type := .int, accessFlags := 24, slot := 35, constantValue := 0 }, { name := "DIRECTIONALITY_UNDEFINED", type := .byte, accessFlags := 25, slot := 36, constantValue := 0 }, { name := "DIRECTIONALITY_LEFT_TO_RIGHT", type := .byte, accessFlags := 25, slot := 37, constantValue := 0 }, { name := "DIRECTIONALITY_RIGHT_TO_LEFT", type := .byte, accessFlags := 25, slot := 38, constantValue := 0 }, { name := "DIRECTIONALITY_RIGHT_TO_LEFT_ARABIC", type := .byte, accessFlags := 25, slot := 39, constantValue := 0 }, { name := "DIRECTIONALITY_EUROPEAN_NUMBER", type := .byte, accessFlags := 25, slot := 40, constantValue := 0 }, { name := "DIRECTIONALITY_EUROPEAN_NUMBER_SEPARATOR", type := .byte, accessFlags := 25, slot := 41, constantValue := 0 }, { name := "DIRECTIONALITY_EUROPEAN_NUMBER_TERMINATOR", type := .byte, accessFlags := 25, slot := 42, constantValue := 0 }, { name := "DIRECTIONALITY_ARABIC_NUMBER", type := .byte, accessFlags := 25, slot := 43, constantValue := 0 }, { name := "DIRECTIONALITY_COMMON_NUMBER_SEPARATOR", type := .byte, accessFlags := 25, slot := 44, constantValue := 0 }, { name := "DIRECTIONALITY_NONSPACING_MARK", type := .byte, accessFlags := 25, slot := 45, constantValue := 0 }, { name := "DIRECTIONALITY_BOUNDARY_NEUTRAL", type := .byte, accessFlags := 25, slot := 46, constantValue := 0 }, { name := "DIRECTIONALITY_PARAGRAPH_SEPARATOR", type := .byte, accessFlags := 25, slot := 47, constantValue := 0 }, { name := "DIRECTIONALITY_SEGMENT_SEPARATOR", type := .byte, accessFlags := 25, slot := 48, constantValue := 0 }, { name := "DIRECTIONALITY_WHITESPACE", type := .byte, accessFlags := 25, slot := 49, constantValue := 0 }, { name := "DIRECTIONALITY_OTHER_NEUTRALS", type := .byte, accessFlags := 25, slot := 50, constantValue := 0 }, { name := "DIRECTIONALITY_LEFT_TO_RIGHT_EMBEDDING", type := .byte, accessFlags := 25, slot := 51, constantValue := 0 }, { name := "DIRECTIONALITY_LEFT_TO_RIGHT_OVERRIDE", type := .byte, accessFlags := 25, slot := 52, constantValue := 0 }, { name := "DIRECTIONALITY_RIGHT_TO_LEFT_EMBEDDING", type := .byte, accessFlags := 25, slot := 53, constantValue := 0 }, { name := "DIRECTIONALITY_RIGHT_TO_LEFT_OVERRIDE", type := .byte, accessFlags := 25, slot := 54, constantValue := 0 }, { name := "DIRECTIONALITY_POP_DIRECTIONAL_FORMAT", type := .byte, accessFlags := 25, slot := 55, constantValue := 0 }, { name := "DIRECTIONALITY_LEFT_TO_RIGHT_ISOLATE", type := .byte, accessFlags := 25, slot := 56, constantValue := 0 }, { name := "DIRECTIONALITY_RIGHT_TO_LEFT_ISOLATE", type := .byte, accessFlags := 25, slot := 57, constantValue := 0 }, { name := "DIRECTIONALITY_FIRST_STRONG_ISOLATE", type := .byte, accessFlags := 25, slot := 58, constantValue := 0 }, { name := "DIRECTIONALITY_POP_DIRECTIONAL_ISOLATE", type := .byte, accessFlags := 25, slot := 59, constantValue := 0 }, { name := "MIN_HIGH_SURROGATE", type := .char, accessFlags := 25, slot := 60, constantValue := 0 }, { name := "MAX_HIGH_SURROGATE", type := .char, accessFlags := 25, slot := 61, constantValue := 0 }, { name := "MIN_LOW_SURROGATE", type := .char, accessFlags := 25, slot := 62, constantValue := 0 }, { name := "MAX_LOW_SURROGATE", type := .char, accessFlags := 25, slot := 63, constantValue := 0 }, { name := "MIN_SURROGATE", type := .char, accessFlags := 25, slot := 64, constantValue := 0 }, { name := "MAX_SURROGATE", type := .char, accessFlags := 25, slot := 65, constantValue := 0 }, { name := "MIN_SUPPLEMENTARY_CODE_POINT", type := .int, accessFlags := 25, slot := 66, constantValue := 0 }, { name := "MIN_CODE_POINT", type := .int, accessFlags := 25, slot := 67, constantValue := 0 }, { name := "MAX_CODE_POINT", type := .int, accessFlags := 25, slot := 68, constantValue := 0 }, { name := "value", type := .char, accessFlags := 18, slot := 0, constantValue := 0 }, { name := "serialVersionUID", type := .long, accessFlags := 26, slot := 69, constantValue := 0 }, { name := "SIZE", type := .int, accessFlags := 25, slot := 70, constantValue := 0 }, { name := "BYTES", type := .int, accessFlags := 25, slot := 71, constantValue := 0 }, { name := "$assertionsDisabled", type := .boolean, accessFlags := 4120, slot := 72, constantValue := 0 }]
  methods := #[k14m0]
  instanceTypes := #[.char]
  staticTypes := #[.int, .int, .char, .char, (.object "java/lang/Class"), .byte, .byte, .byte, .byte, .byte, .byte, .byte, .byte, .byte, .byte, .byte, .byte, .byte, .byte, .byte, .byte, .byte, .byte, .byte, .byte, .byte, .byte, .byte, .byte, .byte, .byte, .byte, .byte, .byte, .byte, .int, .byte, .byte, .byte, .byte, .byte, .byte, .byte, .byte, .byte, .byte, .byte, .byte, .byte, .byte, .byte, .byte, .byte, .byte, .byte, .byte, .byte, .byte, .byte, .byte, .char, .char, .char, .char, .char, .char, .int, .int, .int, .long, .int, .int, .boolean]
  resolved := Array.replicate 604 none
  statics := none }

def pool15 : Array CpInfo := pool [(9, u "<init>"), (6, .class_ 18), (1, u "java/lang/Object"), (0, u "()V"), (1, .class_ 23), (1, u "jdk/internal/util/ArraysSupport"), (0, u "LOG2_ARRAY_LONG_INDEX_SCALE"), (0, u "I"), (2, u "U"), (0, u "Ljdk/internal/misc/Unsafe;"), (8, u "BIG_ENDIAN"), (0, u "Z"), (8, u "LOG2_BYTE_BIT_SIZE"), (4, u "LOG2_ARRAY_INT_INDEX_SCALE"), (54, u "JLA"), (0, u "Ljdk/internal/access/JavaLangAccess;"), (11, u "LOG2_ARRAY_BOOLEAN_INDEX_SCALE"), (9, u "LOG2_ARRAY_BYTE_INDEX_SCALE"), (5, u "LOG2_ARRAY_CHAR_INDEX_SCALE"), (5, u "LOG2_ARRAY_SHORT_INDEX_SCALE"), (18, u "LOG2_ARRAY_FLOAT_INDEX_SCALE"), (24, u "LOG2_ARRAY_DOUBLE_INDEX_SCALE"), (89, u "T_BOOLEAN"), (2, u "T_CHAR"), (1, u "T_FLOAT"), (1, u "T_DOUBLE"), (1, u "T_BYTE"), (1, u "T_SHORT"), (1, u "T_INT"), (1, u "T_LONG"), (1, u "SOFT_MAX_ARRAY_LENGTH")] 83

def k15m0 : Method := { name := "<init>", desc := "()V", sig := { parameters := [], returnType := none }, accessFlags := 2, code := none }
/-- jdk/internal/util/ArraysSupport -/
def k15 : Class := { plain "jdk/internal/util/ArraysSupport" (some 0) with
  accessFlags := 33
  interfaces := #[]
  cf := some (fileOf pool15 21 #[] #[{ accessFlags := 2, nameIndex := 9, descriptorIndex := 19, attributes := #[] }] 33 16 #[] #[{ accessFlags := 24, nameIndex := 28, descriptorIndex := 29, attributes := #[] }, { accessFlags := 26, nameIndex := 38, descriptorIndex := 39, attributes := #[] }, { accessFlags := 25, nameIndex := 121, descriptorIndex := 25, attributes := #[] }, { accessFlags := 25, nameIndex := 131, descriptorIndex := 25, attributes := #[] }, { accessFlags := 25, nameIndex := 137, descriptorIndex := 25, attributes := #[] }, { accessFlags := 25, nameIndex := 143, descriptorIndex := 25, attributes := #[] }, { accessFlags := 25, nameIndex := 53, descriptorIndex := 25, attributes := #[] }, { accessFlags := 25, nameIndex := 24, descriptorIndex := 25, attributes := #[] }, { accessFlags := 25, nameIndex := 162, descriptorIndex := 25, attributes := #[] }, { accessFlags := 25, nameIndex := 187, descriptorIndex := 25, attributes := #[] }, { accessFlags := 26, nameIndex := 48, descriptorIndex := 25, attributes := #[] }, { accessFlags := 25, nameIndex := 277, descriptorIndex := 25, attributes := #[] }, { accessFlags := 25, nameIndex := 280, descriptorIndex := 25, attributes := #[] }, { accessFlags := 25, nameIndex := 282, descriptorIndex := 25, attributes := #[] }, { accessFlags := 25, nameIndex := 284, descriptorIndex := 25, attributes := #[] }, { accessFlags := 25, nameIndex := 286, descriptorIndex := 25, attributes := #[] }, { accessFlags := 25, nameIndex := 288, descriptorIndex := 25, attributes := #[] }, { accessFlags := 25, nameIndex := 290, descriptorIndex := 25, attributes := #[] }, { accessFlags := 25, nameIndex := 292, descriptorIndex := 25, attributes := #[] }, { accessFlags := 26, nameIndex := 108, descriptorIndex := 109, attributes := #[] }, { accessFlags := 25, nameIndex := 294, descriptorIndex := 25, attributes := #[] }])
  fields := #[{ name := "U", type := (.object "jdk/internal/misc/Unsafe"), accessFlags := 24, slot := 0, constantValue := 0 }, { name := "BIG_ENDIAN", type := .boolean, accessFlags := 26, slot := 1, constantValue := 0 }, { name := "LOG2_ARRAY_BOOLEAN_INDEX_SCALE", type := .int, accessFlags := 25, slot := 2, constantValue := 0 }, { name := "LOG2_ARRAY_BYTE_INDEX_SCALE", type := .int, accessFlags := 25, slot := 3, constantValue := 0 }, { name := "LOG2_ARRAY_CHAR_INDEX_SCALE", type := .int, accessFlags := 25, slot := 4, constantValue := 0 }, { name := "LOG2_ARRAY_SHORT_INDEX_SCALE", type := .int, accessFlags := 25, slot := 5, constantValue := 0 }, { name := "LOG2_ARRAY_INT_INDEX_SCALE", type := .int, accessFlags := 25, slot := 6, constantValue := 0 }, { name := "LOG2_ARRAY_LONG_INDEX_SCALE", type := .int, accessFlags := 25, slot := 7, constantValue := 0 }, { name := "LOG2_ARRAY_FLOAT_INDEX_SCALE", type := .int, accessFlags := 25, slot := 8, constantValue := 0 }, { name := "LOG2_ARRAY_DOUBLE_INDEX_SCALE", type := .int, accessFlags := 25, slot := 9, constantValue := 0 }, { name := "LOG2_BYTE_BIT_SIZE", type := .int, accessFlags := 26, slot := 10, constantValue := 0 }, { name := "T_BOOLEAN", type := .int, accessFlags := 25, slot := 11, constantValue := 0 }, { name := "T_CHAR", type := .int, accessFlags := 25, slot := 12, constantValue := 0 }, { name := "T_FLOAT", type := .int, accessFlags := 25, slot := 13, constantValue := 0 }, { name := "T_DOUBLE", type := .int, accessFlags := 25, slot := 14, constantValue := 0 }, { name := "T_BYTE", type := .int, accessFlags := 25, slot := 15, constantValue := 0 }, { name := "T_SHORT", type := .int, accessFlags := 25, slot := 16, constantValue := 0 }, { name := "T_INT", type := .int, accessFlags := 25, slot := 17, constantValue := 0 }, { name := "T_LONG", type := .int, accessFlags := 25, slot := 18, constantValue := 0 }, { name := "JLA", type := (.object "jdk/internal/access/JavaLangAccess"), accessFlags := 26, slot := 19, constantValue := 0 }, { name := "SOFT_MAX_ARRAY_LENGTH", type := .int, accessFlags := 25, slot := 20, constantValue := 0 }]
  methods := #[k15m0]
  instanceTypes := #[]
  staticTypes := #[(.object "jdk/internal/misc/Unsafe"), .boolean, .int, .int, .int, .int, .int, .int, .int, .int, .int, .int, .int, .int, .int, .int, .int, .int, .int, (.object "jdk/internal/access/JavaLangAccess"), .int]
  resolved := Array.replicate 378 none
  statics := none }

def pool16 : Array CpInfo := pool [(1, u "java/lang/Cloneable"), (0, .class_ 1), (0, u "java/lang/Object"), (0, .class_ 3)] 3

/-- java/lang/Cloneable -/
def k16 : Class := { plain "java/lang/Cloneable" (some 0) with
  accessFlags := 1537
  interfaces := #[]
  cf := some (fileOf pool16 2 #[] #[] 1537 4 #[] #[])
  fields := #[]
  methods := #[]
  instanceTypes := #[]
  staticTypes := #[]
  resolved := Array.replicate 8 none
  statics := none }

/-- the primitive byte -/
def k17 : Class := { plain "byte" none with kind := .primitive 'B', accessFlags := 0x411 }
/-- [B -/
def k18 : Class := { plain "[B" (some 0) with kind := .array 17 .byte, interfaces := #[16, 2], accessFlags := 1041 }

/-- the primitive char -/
def k19 : Class := { plain "char" none with kind := .primitive 'C', accessFlags := 0x411 }
/-- [C -/
def k20 : Class := { plain "[C" (some 0) with kind := .array 19 .char, interfaces := #[16, 2], accessFlags := 1041 }

/-- the primitive int -/
def k21 : Class := { plain "int" none with kind := .primitive 'I', accessFlags := 0x411 }
/-- [I -/
def k22 : Class := { plain "[I" (some 0) with kind := .array 21 .int, interfaces := #[16, 2], accessFlags := 1041 }

def heap : Heap := #[{ cls := 7, slots := #[.long 0, .int 1, .null, .int 0, .null, .int 0, .int 0], vm := .statics 7 },
  { cls := 11, slots := #[.int 0, .int 8, .int 0, .int 1], vm := .statics 11 },
  { cls := 12, slots := #[.null, .null, .null], vm := .statics 12 }]
def classes : Array Class := #[k0, k1, k2, k3, k4, k5, k6, k7, k8, k9, k10, k11, k12, k13, k14, k15, k16, k17, k18, k19, k20, k21, k22]
def interned : List (Array UInt16 × Addr) := []
def slotsUsed : Nat := 14
def theMethod : MethodId := ⟨1, 4⟩
def args0 : Array Value := #[.int 5, .int 5, .int 5, .int 5, .int 5]
def aboutOver (below : List Frame) : State where
  vm := { classes := classes, interned := interned.toArray }
  heap := heap
  slotsUsed := slotsUsed
  threads := #[{ frames := .invoking theMethod args0 :: below }]
def below0 : List Frame := [.native { method := ⟨0, 0⟩, args := #[] }]
def about1 : State := aboutOver below0
def p0 : Program := .bare "" "" ""
def e0 : Env := launch0.env 0 0 0
theorem w_frames : about1.frames = Frame.invoking theMethod args0 :: below0 := rfl
set_option maxRecDepth 65536 in
theorem w_args : argsFit about1.vm theMethod args0 = true := by decide +kernel
set_option maxRecDepth 65536 in
theorem w_heap : heapFits about1 = true := by decide +kernel
set_option maxRecDepth 65536 in
theorem w_runnable : about1.curStatus? = some .runnable := by decide +kernel
set_option maxRecDepth 65536 in
theorem w_alone : about1.alone = true := by decide +kernel
set_option maxRecDepth 65536 in
theorem w_named : about1.methodNamed? x = some theMethod := by decide +kernel
set_option maxRecDepth 65536 in
theorem w_hears : about1.hears theMethod below0 = true := by decide +kernel
set_option maxRecDepth 65536 in
theorem w_ripe : about1.ripe theMethod args0 below0 = true := by decide +kernel
theorem w_running : about1.status = .running := rfl
set_option maxRecDepth 65536 in
theorem w_room : about1.hasRoom e0.platform room_1 = true :=
  launch0.hasRoom_least _ room_1 (by decide +kernel) (by decide +kernel) (by decide +kernel) (by decide +kernel) (by decide +kernel) (by decide +kernel)
theorem allAtoms_all (ts : List Jvm.Cond) (a : Array Jvm.Value) (st : Jvm.State) : (allAtoms ts).before a st = ts.all (fun c => c.before a st) := by
  induction ts with
  | nil => rfl
  | cons c t ih =>
    show (Jvm.Cond.and c (allAtoms t)).before a st = _
    rw [Jvm.Cond.before_and, ih, List.all_cons]
def words1 : List Jvm.Cond := Jvm.Cond.code x code maxLocals ret :: tables_1
/-- a 'code' word, met by the world's own term for the bytes: nothing is compared byte by byte -/
theorem code_word {y : MethodName} {bytes : ByteArray} {mx : Nat} {rt : Option FieldType} {a : Array Value} {s : State} {m : MethodId} {meth : Method} {c : Code} (h1 : s.methodNamed? y = some m) (h2 : s.vm.method? m = some meth) (h3 : meth.code = some c) (h4 : c.code = bytes)
    (h5 : (c.maxLocals == mx && c.exceptionTable.isEmpty && decide (c.maxStack ≤ mostOperands) && decide (meth.sig.returnType = rt) && !meth.locks && decide (parseMethodDescriptor y.desc = some meth.sig)) = true) : (Jvm.Cond.code y bytes mx rt).before a s = true := by
  simp only [Bool.and_eq_true, beq_iff_eq, Bool.not_eq_true', decide_eq_true_eq] at h5
  obtain ⟨⟨⟨⟨⟨g1, g2⟩, g3⟩, g4⟩, g5⟩, g6⟩ := h5
  simp [Cond.before, Cond.holds, Cond.value, h1, h2, h3, h4, g1, g2, g3, g4, g5, g6]
def isCode : Jvm.Cond → Bool
  | .code _ _ _ _ => true
  | _ => false
theorem all_split {L : List Jvm.Cond} {P : Jvm.Cond → Bool} (h1 : L.all (fun c => isCode c || P c) = true) (h2 : ∀ c ∈ L.filter isCode, P c = true) : L.all P = true := by
  refine List.all_eq_true.mpr fun c hc => ?_
  have h := List.all_eq_true.mp h1 c hc
  rcases Bool.eq_false_or_eq_true (isCode c) with hi | hi
  · exact h2 c (List.mem_filter.mpr ⟨hc, hi⟩)
  · simpa [hi] using h
set_option maxRecDepth 65536 in
theorem w_c0 : (Jvm.Cond.code x code maxLocals ret).before args0 about1 = true := code_word (m := ⟨1, 4⟩) (meth := k1m4) (c := k1c4) (by decide +kernel) rfl rfl rfl (by decide +kernel)
set_option maxRecDepth 65536 in
theorem w_c1 : (Jvm.Cond.code ({ cls := "com/example/strict_censor/strictcensor/core/TermCompareCodePointsPinLaw", name := "cp", desc := "(I)I" } : Jvm.MethodName) method_2_code (4 : Nat) (Option.some Jvm.ClassFile.FieldType.int)).before args0 about1 = true := code_word (m := ⟨1, 1⟩) (meth := k1m1) (c := k1c1) (by decide +kernel) rfl rfl rfl (by decide +kernel)
set_option maxRecDepth 65536 in
theorem w_c2 : (Jvm.Cond.code ({ cls := "com/example/strict_censor/strictcensor/core/TermCompareCodePointsPinLaw", name := "enc", desc := "(III)Ljava/lang/String;" } : Jvm.MethodName) method_4_code (5 : Nat) (Option.some (Jvm.ClassFile.FieldType.object "java/lang/String"))).before args0 about1 = true := code_word (m := ⟨1, 3⟩) (meth := k1m3) (c := k1c3) (by decide +kernel) rfl rfl rfl (by decide +kernel)
set_option maxRecDepth 65536 in
theorem w_c3 : (Jvm.Cond.code ({ cls := "java/lang/String", name := "<init>", desc := "([C)V" } : Jvm.MethodName) jdk_42_method_3_code (2 : Nat) (Option.none : Option Jvm.ClassFile.FieldType)).before args0 about1 = true := code_word (m := ⟨7, 1⟩) (meth := k7m1) (c := k7c1) (by decide +kernel) rfl rfl rfl (by decide +kernel)
set_option maxRecDepth 65536 in
theorem w_c4 : (Jvm.Cond.code ({ cls := "java/lang/String", name := "<init>", desc := "([CIILjava/lang/Void;)V" } : Jvm.MethodName) jdk_42_method_149_code (6 : Nat) (Option.none : Option Jvm.ClassFile.FieldType)).before args0 about1 = true := code_word (m := ⟨7, 4⟩) (meth := k7m4) (c := k7c4) (by decide +kernel) rfl rfl rfl (by decide +kernel)
set_option maxRecDepth 65536 in
theorem w_c5 : (Jvm.Cond.code ({ cls := "java/lang/Object", name := "<init>", desc := "()V" } : Jvm.MethodName) object_method_1_code (1 : Nat) (Option.none : Option Jvm.ClassFile.FieldType)).before args0 about1 = true := code_word (m := ⟨0, 0⟩) (meth := k0m0) (c := k0c0) (by decide +kernel) rfl rfl rfl (by decide +kernel)
set_option maxRecDepth 65536 in
theorem w_c6 : (Jvm.Cond.code ({ cls := "com/example/strict_censor/strictcensor/core/Term", name := "compareCodePoints", desc := "(Ljava/lang/String;Ljava/lang/String;)I" } : Jvm.MethodName) prog_41_method_19_code (6 : Nat) (Option.some Jvm.ClassFile.FieldType.int)).before args0 about1 = true := code_word (m := ⟨9, 0⟩) (meth := k9m0) (c := k9c0) (by decide +kernel) rfl rfl rfl (by decide +kernel)
set_option maxRecDepth 65536 in
theorem w_c7 : (Jvm.Cond.code ({ cls := "java/lang/String", name := "length", desc := "()I" } : Jvm.MethodName) jdk_42_method_54_code (1 : Nat) (Option.some Jvm.ClassFile.FieldType.int)).before args0 about1 = true := code_word (m := ⟨7, 2⟩) (meth := k7m2) (c := k7c2) (by decide +kernel) rfl rfl rfl (by decide +kernel)
set_option maxRecDepth 65536 in
theorem w_c8 : (Jvm.Cond.code ({ cls := "java/lang/String", name := "coder", desc := "()B" } : Jvm.MethodName) jdk_42_method_152_code (1 : Nat) (Option.some Jvm.ClassFile.FieldType.byte)).before args0 about1 = true := code_word (m := ⟨7, 5⟩) (meth := k7m5) (c := k7c5) (by decide +kernel) rfl rfl rfl (by decide +kernel)
set_option maxRecDepth 65536 in
theorem w_c9 : (Jvm.Cond.code ({ cls := "java/lang/Math", name := "min", desc := "(II)I" } : Jvm.MethodName) jdk_29_method_69_code (2 : Nat) (Option.some Jvm.ClassFile.FieldType.int)).before args0 about1 = true := code_word (m := ⟨10, 1⟩) (meth := k10m1) (c := k10c1) (by decide +kernel) rfl rfl rfl (by decide +kernel)
set_option maxRecDepth 65536 in
theorem w_c10 : (Jvm.Cond.code ({ cls := "com/example/strict_censor/strictcensor/core/TermCompareCodePointsPinLaw", name := "put", desc := "([CII)I" } : Jvm.MethodName) method_3_code (4 : Nat) (Option.some Jvm.ClassFile.FieldType.int)).before args0 about1 = true := code_word (m := ⟨1, 2⟩) (meth := k1m2) (c := k1c2) (by decide +kernel) rfl rfl rfl (by decide +kernel)
set_option maxRecDepth 65536 in
theorem w_c11 : (Jvm.Cond.code ({ cls := "java/lang/StringUTF16", name := "compress", desc := "([CII)[B" } : Jvm.MethodName) jdk_52_method_16_code (6 : Nat) (Option.some (Jvm.ClassFile.FieldType.array Jvm.ClassFile.FieldType.byte))).before args0 about1 = true := code_word (m := ⟨11, 8⟩) (meth := k11m8) (c := k11c8) (by decide +kernel) rfl rfl rfl (by decide +kernel)
set_option maxRecDepth 65536 in
theorem w_c12 : (Jvm.Cond.code ({ cls := "java/lang/StringUTF16", name := "compress", desc := "([CI[BII)I" } : Jvm.MethodName) jdk_52_method_21_code (7 : Nat) (Option.some Jvm.ClassFile.FieldType.int)).before args0 about1 = true := code_word (m := ⟨11, 9⟩) (meth := k11m9) (c := k11c9) (by decide +kernel) rfl rfl rfl (by decide +kernel)
set_option maxRecDepth 65536 in
theorem w_c13 : (Jvm.Cond.code ({ cls := "java/lang/StringUTF16", name := "coderFromArrayLen", desc := "([BI)B" } : Jvm.MethodName) jdk_52_method_15_code (2 : Nat) (Option.some Jvm.ClassFile.FieldType.byte)).before args0 about1 = true := code_word (m := ⟨11, 7⟩) (meth := k11m7) (c := k11c7) (by decide +kernel) rfl rfl rfl (by decide +kernel)
set_option maxRecDepth 65536 in
theorem w_c14 : (Jvm.Cond.code ({ cls := "java/lang/StringUTF16", name := "toBytes", desc := "([CII)[B" } : Jvm.MethodName) jdk_52_method_14_code (5 : Nat) (Option.some (Jvm.ClassFile.FieldType.array Jvm.ClassFile.FieldType.byte))).before args0 about1 = true := code_word (m := ⟨11, 6⟩) (meth := k11m6) (c := k11c6) (by decide +kernel) rfl rfl rfl (by decide +kernel)
set_option maxRecDepth 65536 in
theorem w_c15 : (Jvm.Cond.code ({ cls := "java/lang/StringUTF16", name := "newBytesFor", desc := "(I)[B" } : Jvm.MethodName) jdk_52_method_2_code (1 : Nat) (Option.some (Jvm.ClassFile.FieldType.array Jvm.ClassFile.FieldType.byte))).before args0 about1 = true := code_word (m := ⟨11, 1⟩) (meth := k11m1) (c := k11c1) (by decide +kernel) rfl rfl rfl (by decide +kernel)
set_option maxRecDepth 65536 in
theorem w_c16 : (Jvm.Cond.code ({ cls := "java/lang/StringUTF16", name := "newBytesLength", desc := "(I)I" } : Jvm.MethodName) jdk_52_method_3_code (1 : Nat) (Option.some Jvm.ClassFile.FieldType.int)).before args0 about1 = true := code_word (m := ⟨11, 2⟩) (meth := k11m2) (c := k11c2) (by decide +kernel) rfl rfl rfl (by decide +kernel)
set_option maxRecDepth 65536 in
theorem w_c17 : (Jvm.Cond.code ({ cls := "java/lang/StringUTF16", name := "putChar", desc := "([BII)V" } : Jvm.MethodName) jdk_52_method_4_code (3 : Nat) (Option.none : Option Jvm.ClassFile.FieldType)).before args0 about1 = true := code_word (m := ⟨11, 3⟩) (meth := k11m3) (c := k11c3) (by decide +kernel) rfl rfl rfl (by decide +kernel)
set_option maxRecDepth 65536 in
theorem w_c18 : (Jvm.Cond.code ({ cls := "java/lang/StringUTF16", name := "getChar", desc := "([BI)C" } : Jvm.MethodName) jdk_52_method_5_code (2 : Nat) (Option.some Jvm.ClassFile.FieldType.char)).before args0 about1 = true := code_word (m := ⟨11, 4⟩) (meth := k11m4) (c := k11c4) (by decide +kernel) rfl rfl rfl (by decide +kernel)
set_option maxRecDepth 65536 in
theorem w_c19 : (Jvm.Cond.code ({ cls := "java/lang/String", name := "charAt", desc := "(I)C" } : Jvm.MethodName) jdk_42_method_56_code (2 : Nat) (Option.some Jvm.ClassFile.FieldType.char)).before args0 about1 = true := code_word (m := ⟨7, 3⟩) (meth := k7m3) (c := k7c3) (by decide +kernel) rfl rfl rfl (by decide +kernel)
set_option maxRecDepth 65536 in
theorem w_c20 : (Jvm.Cond.code ({ cls := "java/lang/String", name := "isLatin1", desc := "()Z" } : Jvm.MethodName) jdk_42_method_154_code (1 : Nat) (Option.some Jvm.ClassFile.FieldType.boolean)).before args0 about1 = true := code_word (m := ⟨7, 6⟩) (meth := k7m6) (c := k7c6) (by decide +kernel) rfl rfl rfl (by decide +kernel)
set_option maxRecDepth 65536 in
theorem w_c21 : (Jvm.Cond.code ({ cls := "java/lang/StringUTF16", name := "charAt", desc := "([BI)C" } : Jvm.MethodName) jdk_52_method_83_code (2 : Nat) (Option.some Jvm.ClassFile.FieldType.char)).before args0 about1 = true := code_word (m := ⟨11, 10⟩) (meth := k11m10) (c := k11c10) (by decide +kernel) rfl rfl rfl (by decide +kernel)
set_option maxRecDepth 65536 in
theorem w_c22 : (Jvm.Cond.code ({ cls := "java/lang/StringUTF16", name := "checkIndex", desc := "(I[B)V" } : Jvm.MethodName) jdk_52_method_91_code (2 : Nat) (Option.none : Option Jvm.ClassFile.FieldType)).before args0 about1 = true := code_word (m := ⟨11, 11⟩) (meth := k11m11) (c := k11c11) (by decide +kernel) rfl rfl rfl (by decide +kernel)
set_option maxRecDepth 65536 in
theorem w_c23 : (Jvm.Cond.code ({ cls := "java/lang/StringUTF16", name := "length", desc := "([B)I" } : Jvm.MethodName) jdk_52_method_6_code (1 : Nat) (Option.some Jvm.ClassFile.FieldType.int)).before args0 about1 = true := code_word (m := ⟨11, 5⟩) (meth := k11m5) (c := k11c5) (by decide +kernel) rfl rfl rfl (by decide +kernel)
set_option maxRecDepth 65536 in
theorem w_c24 : (Jvm.Cond.code ({ cls := "java/lang/String", name := "checkIndex", desc := "(II)V" } : Jvm.MethodName) jdk_42_method_155_code (2 : Nat) (Option.none : Option Jvm.ClassFile.FieldType)).before args0 about1 = true := code_word (m := ⟨7, 7⟩) (meth := k7m7) (c := k7c7) (by decide +kernel) rfl rfl rfl (by decide +kernel)
set_option maxRecDepth 65536 in
theorem w_c25 : (Jvm.Cond.code ({ cls := "jdk/internal/util/Preconditions", name := "checkIndex", desc := "(IILjava/util/function/BiFunction;)I" } : Jvm.MethodName) jdk_41_method_11_code (3 : Nat) (Option.some Jvm.ClassFile.FieldType.int)).before args0 about1 = true := code_word (m := ⟨12, 1⟩) (meth := k12m1) (c := k12c1) (by decide +kernel) rfl rfl rfl (by decide +kernel)
set_option maxRecDepth 65536 in
theorem w_c26 : (Jvm.Cond.code ({ cls := "java/lang/StringLatin1", name := "charAt", desc := "([BI)C" } : Jvm.MethodName) jdk_43_method_2_code (2 : Nat) (Option.some Jvm.ClassFile.FieldType.char)).before args0 about1 = true := code_word (m := ⟨13, 1⟩) (meth := k13m1) (c := k13c1) (by decide +kernel) rfl rfl rfl (by decide +kernel)
set_option maxRecDepth 65536 in
theorem w_c27 : (Jvm.Cond.code ({ cls := "com/example/strict_censor/strictcensor/core/Term", name := "codePointRank", desc := "(C)I" } : Jvm.MethodName) prog_41_method_20_code (1 : Nat) (Option.some Jvm.ClassFile.FieldType.int)).before args0 about1 = true := code_word (m := ⟨9, 1⟩) (meth := k9m1) (c := k9c1) (by decide +kernel) rfl rfl rfl (by decide +kernel)
set_option maxRecDepth 65536 in
theorem w_c28 : (Jvm.Cond.code ({ cls := "java/lang/Character", name := "isSurrogate", desc := "(C)Z" } : Jvm.MethodName) jdk_89_method_16_code (1 : Nat) (Option.some Jvm.ClassFile.FieldType.boolean)).before args0 about1 = true := code_word (m := ⟨14, 0⟩) (meth := k14m0) (c := k14c0) (by decide +kernel) rfl rfl rfl (by decide +kernel)
def codes1 : List Jvm.Cond := [Jvm.Cond.code x code maxLocals ret, Jvm.Cond.code ({ cls := "com/example/strict_censor/strictcensor/core/TermCompareCodePointsPinLaw", name := "cp", desc := "(I)I" } : Jvm.MethodName) method_2_code (4 : Nat) (Option.some Jvm.ClassFile.FieldType.int), Jvm.Cond.code ({ cls := "com/example/strict_censor/strictcensor/core/TermCompareCodePointsPinLaw", name := "enc", desc := "(III)Ljava/lang/String;" } : Jvm.MethodName) method_4_code (5 : Nat) (Option.some (Jvm.ClassFile.FieldType.object "java/lang/String")), Jvm.Cond.code ({ cls := "java/lang/String", name := "<init>", desc := "([C)V" } : Jvm.MethodName) jdk_42_method_3_code (2 : Nat) (Option.none : Option Jvm.ClassFile.FieldType), Jvm.Cond.code ({ cls := "java/lang/String", name := "<init>", desc := "([CIILjava/lang/Void;)V" } : Jvm.MethodName) jdk_42_method_149_code (6 : Nat) (Option.none : Option Jvm.ClassFile.FieldType), Jvm.Cond.code ({ cls := "java/lang/Object", name := "<init>", desc := "()V" } : Jvm.MethodName) object_method_1_code (1 : Nat) (Option.none : Option Jvm.ClassFile.FieldType), Jvm.Cond.code ({ cls := "com/example/strict_censor/strictcensor/core/Term", name := "compareCodePoints", desc := "(Ljava/lang/String;Ljava/lang/String;)I" } : Jvm.MethodName) prog_41_method_19_code (6 : Nat) (Option.some Jvm.ClassFile.FieldType.int), Jvm.Cond.code ({ cls := "java/lang/String", name := "length", desc := "()I" } : Jvm.MethodName) jdk_42_method_54_code (1 : Nat) (Option.some Jvm.ClassFile.FieldType.int), Jvm.Cond.code ({ cls := "java/lang/String", name := "coder", desc := "()B" } : Jvm.MethodName) jdk_42_method_152_code (1 : Nat) (Option.some Jvm.ClassFile.FieldType.byte), Jvm.Cond.code ({ cls := "java/lang/Math", name := "min", desc := "(II)I" } : Jvm.MethodName) jdk_29_method_69_code (2 : Nat) (Option.some Jvm.ClassFile.FieldType.int), Jvm.Cond.code ({ cls := "com/example/strict_censor/strictcensor/core/TermCompareCodePointsPinLaw", name := "put", desc := "([CII)I" } : Jvm.MethodName) method_3_code (4 : Nat) (Option.some Jvm.ClassFile.FieldType.int), Jvm.Cond.code ({ cls := "java/lang/StringUTF16", name := "compress", desc := "([CII)[B" } : Jvm.MethodName) jdk_52_method_16_code (6 : Nat) (Option.some (Jvm.ClassFile.FieldType.array Jvm.ClassFile.FieldType.byte)), Jvm.Cond.code ({ cls := "java/lang/StringUTF16", name := "compress", desc := "([CI[BII)I" } : Jvm.MethodName) jdk_52_method_21_code (7 : Nat) (Option.some Jvm.ClassFile.FieldType.int), Jvm.Cond.code ({ cls := "java/lang/StringUTF16", name := "coderFromArrayLen", desc := "([BI)B" } : Jvm.MethodName) jdk_52_method_15_code (2 : Nat) (Option.some Jvm.ClassFile.FieldType.byte), Jvm.Cond.code ({ cls := "java/lang/StringUTF16", name := "toBytes", desc := "([CII)[B" } : Jvm.MethodName) jdk_52_method_14_code (5 : Nat) (Option.some (Jvm.ClassFile.FieldType.array Jvm.ClassFile.FieldType.byte)), Jvm.Cond.code ({ cls := "java/lang/StringUTF16", name := "newBytesFor", desc := "(I)[B" } : Jvm.MethodName) jdk_52_method_2_code (1 : Nat) (Option.some (Jvm.ClassFile.FieldType.array Jvm.ClassFile.FieldType.byte)), Jvm.Cond.code ({ cls := "java/lang/StringUTF16", name := "newBytesLength", desc := "(I)I" } : Jvm.MethodName) jdk_52_method_3_code (1 : Nat) (Option.some Jvm.ClassFile.FieldType.int), Jvm.Cond.code ({ cls := "java/lang/StringUTF16", name := "putChar", desc := "([BII)V" } : Jvm.MethodName) jdk_52_method_4_code (3 : Nat) (Option.none : Option Jvm.ClassFile.FieldType), Jvm.Cond.code ({ cls := "java/lang/StringUTF16", name := "getChar", desc := "([BI)C" } : Jvm.MethodName) jdk_52_method_5_code (2 : Nat) (Option.some Jvm.ClassFile.FieldType.char), Jvm.Cond.code ({ cls := "java/lang/String", name := "charAt", desc := "(I)C" } : Jvm.MethodName) jdk_42_method_56_code (2 : Nat) (Option.some Jvm.ClassFile.FieldType.char), Jvm.Cond.code ({ cls := "java/lang/String", name := "isLatin1", desc := "()Z" } : Jvm.MethodName) jdk_42_method_154_code (1 : Nat) (Option.some Jvm.ClassFile.FieldType.boolean), Jvm.Cond.code ({ cls := "java/lang/StringUTF16", name := "charAt", desc := "([BI)C" } : Jvm.MethodName) jdk_52_method_83_code (2 : Nat) (Option.some Jvm.ClassFile.FieldType.char), Jvm.Cond.code ({ cls := "java/lang/StringUTF16", name := "checkIndex", desc := "(I[B)V" } : Jvm.MethodName) jdk_52_method_91_code (2 : Nat) (Option.none : Option Jvm.ClassFile.FieldType), Jvm.Cond.code ({ cls := "java/lang/StringUTF16", name := "length", desc := "([B)I" } : Jvm.MethodName) jdk_52_method_6_code (1 : Nat) (Option.some Jvm.ClassFile.FieldType.int), Jvm.Cond.code ({ cls := "java/lang/String", name := "checkIndex", desc := "(II)V" } : Jvm.MethodName) jdk_42_method_155_code (2 : Nat) (Option.none : Option Jvm.ClassFile.FieldType), Jvm.Cond.code ({ cls := "jdk/internal/util/Preconditions", name := "checkIndex", desc := "(IILjava/util/function/BiFunction;)I" } : Jvm.MethodName) jdk_41_method_11_code (3 : Nat) (Option.some Jvm.ClassFile.FieldType.int), Jvm.Cond.code ({ cls := "java/lang/StringLatin1", name := "charAt", desc := "([BI)C" } : Jvm.MethodName) jdk_43_method_2_code (2 : Nat) (Option.some Jvm.ClassFile.FieldType.char), Jvm.Cond.code ({ cls := "com/example/strict_censor/strictcensor/core/Term", name := "codePointRank", desc := "(C)I" } : Jvm.MethodName) prog_41_method_20_code (1 : Nat) (Option.some Jvm.ClassFile.FieldType.int), Jvm.Cond.code ({ cls := "java/lang/Character", name := "isSurrogate", desc := "(C)Z" } : Jvm.MethodName) jdk_89_method_16_code (1 : Nat) (Option.some Jvm.ClassFile.FieldType.boolean)]
set_option maxRecDepth 65536 in
theorem codes_eq : words1.filter isCode = codes1 := rfl
theorem w_codes : ∀ c ∈ words1.filter isCode, c.before args0 about1 = true := by
  rw [codes_eq]
  intro c hc
  simp only [codes1, List.mem_cons, List.not_mem_nil, or_false] at hc
  rcases hc with rfl | rfl | rfl | rfl | rfl | rfl | rfl | rfl | rfl | rfl | rfl | rfl | rfl | rfl | rfl | rfl | rfl | rfl | rfl | rfl | rfl | rfl | rfl | rfl | rfl | rfl | rfl | rfl | rfl
  · exact w_c0
  · exact w_c1
  · exact w_c2
  · exact w_c3
  · exact w_c4
  · exact w_c5
  · exact w_c6
  · exact w_c7
  · exact w_c8
  · exact w_c9
  · exact w_c10
  · exact w_c11
  · exact w_c12
  · exact w_c13
  · exact w_c14
  · exact w_c15
  · exact w_c16
  · exact w_c17
  · exact w_c18
  · exact w_c19
  · exact w_c20
  · exact w_c21
  · exact w_c22
  · exact w_c23
  · exact w_c24
  · exact w_c25
  · exact w_c26
  · exact w_c27
  · exact w_c28
set_option maxRecDepth 65536 in
theorem w_t1 : (words1.take 24).all (fun c => isCode c || c.before args0 about1) = true := by decide +kernel
set_option maxRecDepth 65536 in
theorem w_t2 : ((words1.drop 24).take 24).all (fun c => isCode c || c.before args0 about1) = true := by decide +kernel
set_option maxRecDepth 65536 in
theorem w_t3 : (((words1.drop 24).drop 24).take 24).all (fun c => isCode c || c.before args0 about1) = true := by decide +kernel
set_option maxRecDepth 65536 in
theorem w_t4 : ((((words1.drop 24).drop 24).drop 24).take 24).all (fun c => isCode c || c.before args0 about1) = true := by decide +kernel
set_option maxRecDepth 65536 in
theorem w_t5 : (((((words1.drop 24).drop 24).drop 24).drop 24).take 24).all (fun c => isCode c || c.before args0 about1) = true := by decide +kernel
set_option maxRecDepth 65536 in
theorem w_t6 : (((((words1.drop 24).drop 24).drop 24).drop 24).drop 24).all (fun c => isCode c || c.before args0 about1) = true := by decide +kernel
theorem w_tables : (allAtoms (Jvm.Cond.code x code maxLocals ret :: tables_1)).before args0 about1 = true := by
  rw [allAtoms_all]
  show words1.all (fun c => c.before args0 about1) = true
  refine all_split ?_ w_codes
  rw [← List.take_append_drop 24 words1, List.all_append, w_t1, ← List.take_append_drop 24 (words1.drop 24), List.all_append, w_t2, ← List.take_append_drop 24 ((words1.drop 24).drop 24), List.all_append, w_t3, ← List.take_append_drop 24 (((words1.drop 24).drop 24).drop 24), List.all_append, w_t4, ← List.take_append_drop 24 ((((words1.drop 24).drop 24).drop 24).drop 24), List.all_append, w_t5, w_t6]
  rfl
set_option maxRecDepth 65536 in
theorem w_rest : rest_1_c.before args0 about1 = true := by decide +kernel
set_option maxRecDepth 65536 in
theorem w_case : (Jvm.Cond.and given_1 narrow_1).before args0 about1 = true := by decide +kernel
set_option maxRecDepth 65536 in
theorem w_consts : constsHeld consts_1 about1 := Jvm.Lit.constsHeldB_iff.mp (by decide +kernel)
theorem w_applies : (headSpec (Jvm.Cond.code x code maxLocals ret :: tables_1) room_1).applies x e0.platform about1 = true :=
  (Spec.applies_iff w_frames).mpr ⟨w_running, w_runnable, w_alone, w_named, w_hears, w_ripe, w_room, w_tables⟩
theorem atStart : AtStart classFile x code maxLocals ret World_1 tables_1 room_1 Calls_1 rest_1 Pre_1 launch0 p0 e0 about1 theMethod args0 below0 :=
  ⟨lists_1, trivial, launch0.admits_env _ _ _, launch0.least_env, fairChoices_fair.cas, fairChoices_fair.clock, w_frames, w_args, w_heap, w_applies, ⟨w_consts, trivial⟩, w_rest, w_case⟩
end start1
theorem witness_1 : WitnessClaimed_1 := ⟨start1.p0, start1.e0, start1.about1, start1.theMethod, start1.args0, start1.below0, start1.atStart⟩
end Jvm.Pilot.@@N@@
