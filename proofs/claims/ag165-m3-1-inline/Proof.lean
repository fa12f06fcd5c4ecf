import JvmDerived
import JvmDerived.Pilot.@@N@@Statement
import JvmDerived.Pilot.@@N@@Code
set_option linter.unusedVariables false
set_option linter.unusedSimpArgs false
namespace Jvm.RoadKit
open Sem ClassFile Op Lib Jvm.Stand Jvm.Free Jvm.LawKit
section New
variable {p : Program} {l : Launch} {e : Env} {R : Room} {s : State} {m : MethodId} {args : Array Value} {below : List Frame} {meth : Method} {c : Code} {T : State} {locs : List Loc} {cells slots : Nat}
theorem retI (X : Stand p l e R s m args below meth c T locs cells slots) (hx : p.tables.exec = Jvm.exec) {pc : Nat} {Ls : Array Slot} {z : Int32} {rest : List Value} (hret : meth.sig.returnType = some .int) (hd : decode c.code pc = .ok (.ireturn, 1)) {fs : List Frame}
    (hl : ∀ (f : JFrame) (acts : List Action), f.method = m → f.locked = none → f.entered = [] → (doReturn e (T.setTop f) acts (some (.int z))).1 = T.setFrames fs) : Steps p.tables e below (T.setTop (mkF m pc Ls (.int z :: rest))) (T.setFrames fs) := by
  have hm' : T.vm.method? m = some meth := X.method'
  have hn : narrow .int (.int z) = .int z := rfl
  show Steps p.tables e below (T.setTop { method := m, pc := pc, locals := Ls, stack := _ :: rest, locked := none }) _
  jvm_step X.here [X.here.top, hx, hd, hm', hret, hn]
  first | (intro acts; rw [hl _ acts rfl rfl rfl]) | rw [hl _ _ rfl rfl rfl]
  exact Steps.refl _
end New
end Jvm.RoadKit
/- laws to paste: Road.eqW, Road.codOf, Road.lenW, lo8_mask, pair_says, Road.wide_hi, narrow_ch, shr0 (cut by pick.py; bodies as the Statement names them) -/
namespace Jvm.Pilot.@@N@@
namespace StrChars
open Jvm Sem ClassFile Op Lib Jvm.Stand Jvm.Free.XT Jvm.Free.ALB Jvm.Free.JM Jvm.Free
open Jvm.Lib.Cold (StaticIs)
/-- a char array whose places are chars -/
def Ch (a : Addr) (A : Cell) (U : State) : Prop := Arr .char a A U ∧ Typed .char A
theorem Ch.mv {a : Addr} {A : Cell} {U U' : State} (h : Ch a A U) (hal : U.vm.Alike U'.vm) (hh : U'.heap = U.heap) : Ch a A U' := ⟨h.1.mv hal hh, h.2⟩
theorem Ch.keep {a : Addr} {A : Cell} {U U' : State} (h : Ch a A U) (hal : U.vm.Alike U'.vm) (hk : U'.heap[a]? = some A) : Ch a A U' := ⟨h.1.keep hal hk, h.2⟩
/-- what place i of a char[]'s cell holds -/
def cv (A : Cell) (i : Nat) : Int32 := match A.slots[i]? with | some (.int x) => x | _ => 0
theorem Ch.get {a : Addr} {A : Cell} {U : State} (h : Ch a A U) {i : Nat} (hi : i < A.slots.size) : A.slots[i]? = some (.int (cv A i)) := by
  have e := Array.getElem?_eq_getElem hi
  have f := h.2 i _ e
  unfold cv; rw [e]
  generalize A.slots[i] = v at f
  cases v <;> simp [fits] at f ⊢
/-- the byte that i2b leaves of a char -/
def lo8 (x : Int32) : Int32 := x.toInt8.toInt32
theorem fits_lo8 (y : Int32) : fits .byte (.int (lo8 y)) = true := by
  have h1 := y.toInt8.le_toInt
  have h2 := y.toInt8.toInt_lt
  simp only [lo8, fits, Bool.and_eq_true, decide_eq_true_eq, Int32.le_iff_toInt_le, Int8.toInt_toInt32, show (-128 : Int32).toInt = -128 from by decide, show (127 : Int32).toInt = 127 from by decide]
  omega
/-- A' is A but that each place j of lo .. hi - 1 holds f j -/
def Laid (A A' : Cell) (lo hi : Nat) (f : Nat → Value) : Prop := A'.cls = A.cls ∧ A'.vm = A.vm ∧ A'.slots.size = A.slots.size ∧ ∀ i, A'.slots[i]? = if lo ≤ i ∧ i < hi then some (f i) else A.slots[i]?
theorem Laid.zero (A : Cell) (lo : Nat) (f : Nat → Value) : Laid A A lo (lo + 0) f := ⟨rfl, rfl, rfl, fun i => by rw [if_neg (by omega)]⟩
theorem Laid.step {A Ak : Cell} {lo k : Nat} {f : Nat → Value} {v : Value} (h : Laid A Ak lo k f) (hlo : lo ≤ k) (hk : k < Ak.slots.size) (hv : v = f k) : Laid A (Ak.setSlot k v) lo (k + 1) f := by
  refine ⟨h.1, h.2.1, by simpa [Cell.setSlot] using h.2.2.1, fun i => ?_⟩
  by_cases e : k = i
  · subst e; rw [Cell.slots_setSlot_self v hk, if_pos (by omega), hv]
  · rw [Cell.slots_setSlot_ne v e, h.2.2.2 i]
    by_cases q : lo ≤ i ∧ i < k
    · rw [if_pos q, if_pos (by omega)]
    · rw [if_neg q, if_neg (by omega)]
def U16 : String := "java/lang/StringUTF16"
namespace Cmp5
def yN : MethodName := ⟨"java/lang/StringUTF16", "compress", "([CI[BII)I"⟩
abbrev yB : ByteArray := jdk_52_method_21_code
theorem d0 : decode yB 0 = .ok (.iconst 0, 1) := by decide +kernel
theorem d1 : decode yB 1 = .ok (.istore 5, 2) := by decide +kernel
theorem d3 : decode yB 3 = .ok (.iload 5, 2) := by decide +kernel
theorem d5 : decode yB 5 = .ok (.iload 4, 2) := by decide +kernel
theorem d7 : decode yB 7 = .ok (.if_icmp (.ge) 37, 3) := by decide +kernel
theorem d10 : decode yB 10 = .ok (.aload_n 0, 1) := by decide +kernel
theorem d11 : decode yB 11 = .ok (.iload_n 1, 1) := by decide +kernel
theorem d12 : decode yB 12 = .ok (.caload, 1) := by decide +kernel
theorem d13 : decode yB 13 = .ok (.istore 6, 2) := by decide +kernel
theorem d15 : decode yB 15 = .ok (.iload 6, 2) := by decide +kernel
theorem d17 : decode yB 17 = .ok (.sipush 255, 3) := by decide +kernel
theorem d20 : decode yB 20 = .ok (.if_icmp (.le) 6, 3) := by decide +kernel
theorem d26 : decode yB 26 = .ok (.aload_n 2, 1) := by decide +kernel
theorem d27 : decode yB 27 = .ok (.iload_n 3, 1) := by decide +kernel
theorem d28 : decode yB 28 = .ok (.iload 6, 2) := by decide +kernel
theorem d30 : decode yB 30 = .ok (.i2b, 1) := by decide +kernel
theorem d31 : decode yB 31 = .ok (.bastore, 1) := by decide +kernel
theorem d32 : decode yB 32 = .ok (.iinc 1 1, 3) := by decide +kernel
theorem d35 : decode yB 35 = .ok (.iinc 3 1, 3) := by decide +kernel
theorem d38 : decode yB 38 = .ok (.iinc 5 1, 3) := by decide +kernel
theorem d41 : decode yB 41 = .ok (.goto (-38), 3) := by decide +kernel
theorem d44 : decode yB 44 = .ok (.iload 4, 2) := by decide +kernel
theorem d46 : decode yB 46 = .ok (.ireturn, 1) := by decide +kernel
def site : List Cond := []
def tab : Cond := tabOf yN yB 7 (some .int) site
def P (b : Addr) (A : Cell) (d : Addr) (B : Cell) (o q len : Nat) (args : Array Value) (s : State) : Prop := args = #[.ref b, .int (Int32.ofNat o), .ref d, .int (Int32.ofNat q), .int (Int32.ofNat len)] ∧ Ch b A s ∧ Arr .byte d B s ∧ b ≠ d ∧ o + len ≤ A.slots.size ∧ q + len ≤ B.slots.size ∧ ∀ i, i < len → ¬ 255 < cv A (o + i)
def E (b : Addr) (A : Cell) (d : Addr) (B : Cell) (o q len : Nat) (r : Option Value) (s u : State) : Prop := r = some (.int (Int32.ofNat len)) ∧ ∃ B', Put d B' s u ∧ Laid B B' q (q + len) (fun j => Value.int (lo8 (cv A (o + (j - q)))))
/-- no char of the range above 255: len; the places written hold each char's low byte -/
theorem law (l : Launch) (b : Addr) (A : Cell) (d : Addr) (B : Cell) (o q len : Nat) : Law l yN 5 5 0 0 yB 7 (some .int) site (P b A d B o q len) (E b A d B o q len) (copyLocs d q len) 0 0 := by
  refine Law.of_walk (plainFor_of_name (by decide +kernel)) (by decide +kernel) (by decide +kernel) (by decide) (fun _ _ h => by rw [h.1]; rfl) (fun _ U U' hal hh h => ⟨h.1, h.2.1.mv hal hh, h.2.2.1.mv hal hh, h.2.2.2⟩) (fun r U U' V V' h1 hal h2 h => ⟨h.1, h.2.elim fun B' q => ⟨B', q.1.mv h1 h2, q.2⟩⟩) ?_
  intro p e s m args below meth c s₁ X0 hexec hbytes hml hret hlk hnm hown hh0 W hP
  obtain ⟨rfl, hA, hB, hne, l1, l2, hp⟩ := hP
  have c1 : Steps p.tables e below (s₁.setTop (entryFrame m #[.ref b, .int (Int32.ofNat o), .ref d, .int (Int32.ofNat q), .int (Int32.ofNat len)] 7)) (s₁.setTop (mkF m 0 #[.val (.ref b), .val (.int (Int32.ofNat o)), .val (.ref d), .val (.int (Int32.ofNat q)), .val (.int (Int32.ofNat len)), .unset, .unset] [])) := entry rfl
  have hA0 := hA.1.mv X0.warmed.alike hh0
  have hB0 := hB.mv X0.warmed.alike hh0
  have a31 := hA.1.2.2.2
  have c2 : Steps p.tables e below (s₁.setTop (entryFrame m #[.ref b, .int (Int32.ofNat o), .ref d, .int (Int32.ofNat q), .int (Int32.ofNat len)] 7)) (s₁.setTop (mkF m 3 #[.val (.ref b), .val (.int (Int32.ofNat o)), .val (.ref d), .val (.int (Int32.ofNat q)), .val (.int (Int32.ofNat len)), .val (.int 0), .unset] [])) := c1.trans (by
    refine iconstV X0.here hexec rfl 0 (hb hbytes d0) (by decide) ?_
    refine XS.istore X0.here hexec rfl (hb hbytes d1) rfl rfl ?_
    exact Steps.refl _)
  have loop : ∀ (r i : Nat), i + r = len → ∀ (z : Slot), (z = .unset ∨ ∃ w, z = .val w ∧ w.category = 1) → ∀ (Tl : State) (Bk : Cell), Stand p l e { frames := 0, locals := 0, cells := 0, slots := 0 } s m #[.ref b, .int (Int32.ofNat o), .ref d, .int (Int32.ofNat q), .int (Int32.ofNat len)] below meth c Tl ([] ++ copyLocs d q i) 0 0 → Put d Bk s₁ Tl → Laid B Bk q (q + i) (fun j => Value.int (lo8 (cv A (o + (j - q))))) →
      Steps p.tables e below (s₁.setTop (entryFrame m #[.ref b, .int (Int32.ofNat o), .ref d, .int (Int32.ofNat q), .int (Int32.ofNat len)] 7)) (Tl.setTop (mkF m 3 #[.val (.ref b), .val (.int (Int32.ofNat (o + i))), .val (.ref d), .val (.int (Int32.ofNat (q + i))), .val (.int (Int32.ofNat len)), .val (.int (Int32.ofNat i)), z] [])) → ∃ (T' : State) (B' : Cell) (z' : Slot), Stand p l e { frames := 0, locals := 0, cells := 0, slots := 0 } s m #[.ref b, .int (Int32.ofNat o), .ref d, .int (Int32.ofNat q), .int (Int32.ofNat len)] below meth c T' ([] ++ copyLocs d q len) 0 0 ∧ Put d B' s₁ T' ∧ Laid B B' q (q + len) (fun j => Value.int (lo8 (cv A (o + (j - q))))) ∧
      Steps p.tables e below (s₁.setTop (entryFrame m #[.ref b, .int (Int32.ofNat o), .ref d, .int (Int32.ofNat q), .int (Int32.ofNat len)] 7)) (T'.setTop (mkF m 3 #[.val (.ref b), .val (.int (Int32.ofNat (o + len))), .val (.ref d), .val (.int (Int32.ofNat (q + len))), .val (.int (Int32.ofNat len)), .val (.int (Int32.ofNat len)), z'] [])) := by
    intro r
    induction r with
    | zero =>
      intro i hi z hz Tl Bk Xl pl fl cl
      have hil : i = len := by omega
      rw [hil] at Xl fl cl
      exact ⟨Tl, Bk, z, Xl, pl, fl, cl⟩
    | succ r ih =>
      intro i hi z hz Tl Bk Xl pl fl cl
      have all := X0.warmed.alike.symm.trans Xl.warmed.alike
      have hAl := hA0.keep all (pl.other hne hA0.1)
      have hBk := hB0.like all pl.1 fl.1 fl.2.1 fl.2.2.1
      have hlt : q + i < Bk.slots.size := by rw [fl.2.2.1]; omega
      have c3 : Steps p.tables e below (s₁.setTop (entryFrame m #[.ref b, .int (Int32.ofNat o), .ref d, .int (Int32.ofNat q), .int (Int32.ofNat len)] 7)) (Tl.setTop (mkF m 12 #[.val (.ref b), .val (.int (Int32.ofNat (o + i))), .val (.ref d), .val (.int (Int32.ofNat (q + i))), .val (.int (Int32.ofNat len)), .val (.int (Int32.ofNat i)), z] [.int (Int32.ofNat (o + i)), .ref b])) := cl.trans (by
        refine XS.iload Xl.here hexec rfl (hb hbytes d3) rfl ?_
        refine XS.iload Xl.here hexec rfl (hb hbytes d5) rfl ?_
        refine XS.icmpNo Xl.here hexec rfl (hb hbytes d7) rfl (ii_ge_f (lt32 (by omega) (by omega))) ?_
        refine XS.aloadN Xl.here hexec rfl (hb hbytes d10) rfl rfl ?_
        refine XS.iloadN Xl.here hexec rfl (hb hbytes d11) rfl ?_
        exact Steps.refl _)
      have c4 : Steps p.tables e below (s₁.setTop (entryFrame m #[.ref b, .int (Int32.ofNat o), .ref d, .int (Int32.ofNat q), .int (Int32.ofNat len)] 7)) (Tl.setTop (mkF m 13 #[.val (.ref b), .val (.int (Int32.ofNat (o + i))), .val (.ref d), .val (.int (Int32.ofNat (q + i))), .val (.int (Int32.ofNat len)), .val (.int (Int32.ofNat i)), z] [.int (cv A (o + i))])) := c3.trans (by
        refine Xl.aget hexec hAl rfl (hA.get (i := o + i) (by omega)) rfl rfl (hb hbytes d12) ?_
        exact Steps.refl _)
      have c5 : Steps p.tables e below (s₁.setTop (entryFrame m #[.ref b, .int (Int32.ofNat o), .ref d, .int (Int32.ofNat q), .int (Int32.ofNat len)] 7)) (Tl.setTop (mkF m 15 #[.val (.ref b), .val (.int (Int32.ofNat (o + i))), .val (.ref d), .val (.int (Int32.ofNat (q + i))), .val (.int (Int32.ofNat len)), .val (.int (Int32.ofNat i)), .val (.int (cv A (o + i)))] [])) := c4.trans (by
        refine XS.istoreS Xl.here hexec rfl (hb hbytes d13) rfl rfl hz ?_
        exact Steps.refl _)
      have c6 : Steps p.tables e below (s₁.setTop (entryFrame m #[.ref b, .int (Int32.ofNat o), .ref d, .int (Int32.ofNat q), .int (Int32.ofNat len)] 7)) (Tl.setTop (mkF m 31 #[.val (.ref b), .val (.int (Int32.ofNat (o + i))), .val (.ref d), .val (.int (Int32.ofNat (q + i))), .val (.int (Int32.ofNat len)), .val (.int (Int32.ofNat i)), .val (.int (cv A (o + i)))] [.int (lo8 (cv A (o + i))), .int (Int32.ofNat (q + i)), .ref d])) := c5.trans (by
        refine XS.iload Xl.here hexec rfl (hb hbytes d15) rfl ?_
        refine sipushV Xl.here hexec rfl 255 (hb hbytes d17) (by decide) ?_
        refine XS.icmpYes Xl.here hexec rfl (pc0 := 20) rfl (hb hbytes d20) rfl (ii_le_t (hp i (by omega))) (by decide) rfl ?_
        refine XS.aloadN Xl.here hexec rfl (hb hbytes d26) rfl rfl ?_
        refine XS.iloadN Xl.here hexec rfl (hb hbytes d27) rfl ?_
        refine XS.iload Xl.here hexec rfl (hb hbytes d28) rfl ?_
        refine i2b Xl.here hexec rfl (hb hbytes d30) rfl ?_
        exact Steps.refl _)
      obtain ⟨T7, X7, p7, st7⟩ := Xl.aput hexec hBk rfl hlt rfl (fits_lo8 (cv A (o + i))) (g := (mkF m 31 #[.val (.ref b), .val (.int (Int32.ofNat (o + i))), .val (.ref d), .val (.int (Int32.ofNat (q + i))), .val (.int (Int32.ofNat len)), .val (.int (Int32.ofNat i)), .val (.int (cv A (o + i)))] [.int (lo8 (cv A (o + i))), .int (Int32.ofNat (q + i)), .ref d])) rfl (rest := []) rfl (hb hbytes d31)
      have c8 : Steps p.tables e below (s₁.setTop (entryFrame m #[.ref b, .int (Int32.ofNat o), .ref d, .int (Int32.ofNat q), .int (Int32.ofNat len)] 7)) (T7.setTop (mkF m 32 #[.val (.ref b), .val (.int (Int32.ofNat (o + i))), .val (.ref d), .val (.int (Int32.ofNat (q + i))), .val (.int (Int32.ofNat len)), .val (.int (Int32.ofNat i)), .val (.int (cv A (o + i)))] [])) := c6.trans (st7 _ (Steps.refl _))
      have c9 : Steps p.tables e below (s₁.setTop (entryFrame m #[.ref b, .int (Int32.ofNat o), .ref d, .int (Int32.ofNat q), .int (Int32.ofNat len)] 7)) (T7.setTop (mkF m 3 #[.val (.ref b), .val (.int (Int32.ofNat (o + i) + 1)), .val (.ref d), .val (.int (Int32.ofNat (q + i) + 1)), .val (.int (Int32.ofNat len)), .val (.int (Int32.ofNat i + 1)), .val (.int (cv A (o + i)))] [])) := c8.trans (by
        refine iincV X7.here hexec rfl 1 (hb hbytes d32) (by decide) rfl rfl ?_
        refine iincV X7.here hexec rfl 1 (hb hbytes d35) (by decide) rfl rfl ?_
        refine iincV X7.here hexec rfl 1 (hb hbytes d38) (by decide) rfl rfl ?_
        refine XS.goto X7.here hexec rfl (pc0 := 41) rfl (hb hbytes d41) (by decide) rfl ?_
        exact Steps.refl _)
      have c10 : Steps p.tables e below (s₁.setTop (entryFrame m #[.ref b, .int (Int32.ofNat o), .ref d, .int (Int32.ofNat q), .int (Int32.ofNat len)] 7)) (T7.setTop (mkF m 3 #[.val (.ref b), .val (.int (Int32.ofNat (o + (i + 1)))), .val (.ref d), .val (.int (Int32.ofNat (q + (i + 1)))), .val (.int (Int32.ofNat len)), .val (.int (Int32.ofNat (i + 1))), .val (.int (cv A (o + i)))] [])) := by
        have := c9
        rw [succ32, succ32, succ32] at this
        exact this
      exact ih (i + 1) (by omega) _ (Or.inr ⟨_, rfl, rfl⟩) T7 _ (by rw [copyLocs_step, ← List.append_assoc]; exact X7) (pl.trans p7) (fl.step (by omega) hlt (by simp)) c10
  obtain ⟨T9, B9, z9, X9, p9, f9, g9⟩ := loop len 0 (by omega) .unset (Or.inl rfl) s₁ B (by simpa [copyLocs] using X0) ⟨hB0.1, fun _ _ => rfl, rfl⟩ (Laid.zero _ _ _) c2
  have c11 : Steps p.tables e below (s₁.setTop (entryFrame m #[.ref b, .int (Int32.ofNat o), .ref d, .int (Int32.ofNat q), .int (Int32.ofNat len)] 7)) (T9.setTop (mkF m 46 #[.val (.ref b), .val (.int (Int32.ofNat (o + len))), .val (.ref d), .val (.int (Int32.ofNat (q + len))), .val (.int (Int32.ofNat len)), .val (.int (Int32.ofNat len)), z9] [.int (Int32.ofNat len)])) := g9.trans (by
    refine XS.iload X9.here hexec rfl (hb hbytes d3) rfl ?_
    refine XS.iload X9.here hexec rfl (hb hbytes d5) rfl ?_
    refine XS.icmpYes X9.here hexec rfl (pc0 := 7) rfl (hb hbytes d7) rfl (ii_ge_t (nlt32 (by omega) (Nat.le_refl _))) (by decide) rfl ?_
    refine XS.iload X9.here hexec rfl (hb hbytes d44) rfl ?_
    exact Steps.refl _)
  exact ⟨T9, some (.int (Int32.ofNat len)), _, _, _, X9, by simp, rfl, rfl, (fun h => by cases h), ⟨rfl, B9, p9.from hh0, f9⟩, fun fs hl => c11.trans (X9.ireturnOut hexec hret rfl (Or.inl rfl) (hb hbytes d46) hl)⟩
end Cmp5
namespace Cmp3
def yN : MethodName := ⟨"java/lang/StringUTF16", "compress", "([CII)[B"⟩
abbrev yB : ByteArray := jdk_52_method_16_code
theorem d0 : decode yB 0 = .ok (.iload_n 2, 1) := by decide +kernel
theorem d1 : decode yB 1 = .ok (.newarray .byte, 2) := by decide +kernel
theorem d3 : decode yB 3 = .ok (.astore_n 3, 1) := by decide +kernel
theorem d4 : decode yB 4 = .ok (.aload_n 0, 1) := by decide +kernel
theorem d5 : decode yB 5 = .ok (.iload_n 1, 1) := by decide +kernel
theorem d6 : decode yB 6 = .ok (.aload_n 3, 1) := by decide +kernel
theorem d7 : decode yB 7 = .ok (.iconst 0, 1) := by decide +kernel
theorem d8 : decode yB 8 = .ok (.iload_n 2, 1) := by decide +kernel
theorem d9 : decode yB 9 = .ok (.invokestatic 115, 3) := by decide +kernel
theorem d12 : decode yB 12 = .ok (.istore 4, 2) := by decide +kernel
theorem d14 : decode yB 14 = .ok (.iload 4, 2) := by decide +kernel
theorem d16 : decode yB 16 = .ok (.iload_n 2, 1) := by decide +kernel
theorem d17 : decode yB 17 = .ok (.if_icmp (.eq) 40, 3) := by decide +kernel
theorem d57 : decode yB 57 = .ok (.aload_n 3, 1) := by decide +kernel
theorem d58 : decode yB 58 = .ok (.areturn, 1) := by decide +kernel
def site : List Cond := [.arrayClass .byte, Cmp5.tab] ++ staticW U16 115 Cmp5.yN
def tab : Cond := tabOf yN yB 6 (some (.array .byte)) site
def P (b : Addr) (A : Cell) (o len : Nat) (args : Array Value) (s : State) : Prop := args = #[.ref b, .int (Int32.ofNat o), .int (Int32.ofNat len)] ∧ Ch b A s ∧ o + len ≤ A.slots.size ∧ len ≤ 536870912 ∧ ∀ i, i < len → ¬ 255 < cv A (o + i)
def E (b : Addr) (A : Cell) (o len : Nat) (r : Option Value) (s u : State) : Prop := NewArr .byte "[B" len (fun j => .int (lo8 (cv A (o + j)))) r s u ∧ u.heap.size = s.heap.size + 1
/-- no char of the range above 255: a new byte[] of their low bytes -/
theorem law (l : Launch) (b : Addr) (A : Cell) (o len : Nat) : Law l yN 3 3 1 18 yB 6 (some (.array .byte)) site (P b A o len) (E b A o len) [] 1 len := by
  refine Law.of_walk (plainFor_of_name (by decide +kernel)) (by decide +kernel) (by decide +kernel) (by decide) (fun _ _ h => by rw [h.1]; rfl) (fun _ U U' hal hh h => ⟨h.1, h.2.1.mv hal hh, h.2.2⟩) (fun r U U' V V' h1 hal h2 h => ⟨NewArr.mv r U U' V V' h1 hal h2 h.1, by rw [h1, h2]; exact h.2⟩) ?_
  intro p e s m args below meth c s₁ X0 hexec hbytes hml hret hlk hnm hown hh0 W hP
  obtain ⟨rfl, hA, l1, l2, hp⟩ := hP
  have a31 := hA.1.2.2.2
  have c1 : Steps p.tables e below (s₁.setTop (entryFrame m #[.ref b, .int (Int32.ofNat o), .int (Int32.ofNat len)] 6)) (s₁.setTop (mkF m 0 #[.val (.ref b), .val (.int (Int32.ofNat o)), .val (.int (Int32.ofNat len)), .unset, .unset, .unset] [])) := entry rfl
  have c2 : Steps p.tables e below (s₁.setTop (entryFrame m #[.ref b, .int (Int32.ofNat o), .int (Int32.ofNat len)] 6)) (s₁.setTop (mkF m 1 #[.val (.ref b), .val (.int (Int32.ofNat o)), .val (.int (Int32.ofNat len)), .unset, .unset, .unset] [.int (Int32.ofNat len)])) := c1.trans (by
    refine XS.iloadN X0.here hexec rfl (hb hbytes d0) rfl ?_
    exact Steps.refl _)
  obtain ⟨T3, B3, X3, ba3, bs3, bv3, bh3, bf3, st3⟩ := X0.anew hexec (atype := .byte) (wk W (.arrayClass .byte)) rfl (by show len * 1 ≤ _; omega) (by omega) (g := (mkF m 1 #[.val (.ref b), .val (.int (Int32.ofNat o)), .val (.int (Int32.ofNat len)), .unset, .unset, .unset] [.int (Int32.ofNat len)])) rfl (hb hbytes d1) (rest := []) rfl (Nat.le_refl _) (by show 0 + len ≤ len; omega)
  rw [hh0] at ba3 st3
  have kp3 : XT.Kept s T3 := (XT.Kept.of_eq hh0).push bh3
  have hA3 := hA.keep X3.warmed.alike (kp3 _ _ hA.1.1)
  have hne : b ≠ s.heap.size := hA.1.ne
  have c4 : Steps p.tables e below (s₁.setTop (entryFrame m #[.ref b, .int (Int32.ofNat o), .int (Int32.ofNat len)] 6)) (T3.setTop (mkF m 3 #[.val (.ref b), .val (.int (Int32.ofNat o)), .val (.int (Int32.ofNat len)), .unset, .unset, .unset] [.ref s.heap.size])) := c2.trans (st3 _ (Steps.refl _))
  have c5 : Steps p.tables e below (s₁.setTop (entryFrame m #[.ref b, .int (Int32.ofNat o), .int (Int32.ofNat len)] 6)) (T3.setTop (mkF m 9 #[.val (.ref b), .val (.int (Int32.ofNat o)), .val (.int (Int32.ofNat len)), .val (.ref s.heap.size), .unset, .unset] [.int (Int32.ofNat len), .int 0, .ref s.heap.size, .int (Int32.ofNat o), .ref b])) := c4.trans (by
    refine XS.astoreN X3.here hexec rfl (hb hbytes d3) rfl rfl rfl ?_
    refine XS.aloadN X3.here hexec rfl (hb hbytes d4) rfl rfl ?_
    refine XS.iloadN X3.here hexec rfl (hb hbytes d5) rfl ?_
    refine XS.aloadN X3.here hexec rfl (hb hbytes d6) rfl rfl ?_
    refine iconstV X3.here hexec rfl 0 (hb hbytes d7) (by decide) ?_
    refine XS.iloadN X3.here hexec rfl (hb hbytes d8) rfl ?_
    exact Steps.refl _)
  obtain ⟨v6, T6, X6, E6, g6⟩ := X3.callS hexec (Cmp5.law l b A s.heap.size B3 o 0 len) hown (wks W (staticW U16 115 Cmp5.yN)) (wk W Cmp5.tab) (W := 0) (Nat.le_of_ble_eq_true rfl) (Nat.le_of_ble_eq_true rfl) (Nat.le_refl _) (by show 0 + len + 0 ≤ len; omega) (g := (mkF m 9 #[.val (.ref b), .val (.int (Int32.ofNat o)), .val (.int (Int32.ofNat len)), .val (.ref s.heap.size), .unset, .unset] [.int (Int32.ofNat len), .int (Int32.ofNat 0), .ref s.heap.size, .int (Int32.ofNat o), .ref b])) rfl (by rw [hml]; rfl) c5 (argsL := [.ref b, .int (Int32.ofNat o), .ref s.heap.size, .int (Int32.ofNat 0), .int (Int32.ofNat len)]) (rest := []) rfl rfl (by show 2 * 0 + 0 ≤ _; decide) (hb hbytes d9) (⟨rfl, hA3, ba3, hne, l1, by rw [bs3]; simp, hp⟩)
  obtain ⟨rfl, B6, p6, f6⟩ := E6
  have c7 : Steps p.tables e below (s₁.setTop (entryFrame m #[.ref b, .int (Int32.ofNat o), .int (Int32.ofNat len)] 6)) (T6.setTop (mkF m 12 #[.val (.ref b), .val (.int (Int32.ofNat o)), .val (.int (Int32.ofNat len)), .val (.ref s.heap.size), .unset, .unset] [.int (Int32.ofNat len)])) := g6
  have c8 : Steps p.tables e below (s₁.setTop (entryFrame m #[.ref b, .int (Int32.ofNat o), .int (Int32.ofNat len)] 6)) (T6.setTop (mkF m 58 #[.val (.ref b), .val (.int (Int32.ofNat o)), .val (.int (Int32.ofNat len)), .val (.ref s.heap.size), .val (.int (Int32.ofNat len)), .unset] [.ref s.heap.size])) := c7.trans (by
    refine XS.istore X6.here hexec rfl (hb hbytes d12) rfl rfl ?_
    refine XS.iload X6.here hexec rfl (hb hbytes d14) rfl ?_
    refine XS.iloadN X6.here hexec rfl (hb hbytes d16) rfl ?_
    refine XS.icmpYes X6.here hexec rfl (pc0 := 17) rfl (hb hbytes d17) rfl (ii_eq_t rfl) (by decide) rfl ?_
    refine XS.aloadN X6.here hexec rfl (hb hbytes d57) rfl rfl ?_
    exact Steps.refl _)
  have X8 := X6.wide (L' := []) (cells' := 1) (slots' := len) (fun x hx hlt => by
    simp only [List.nil_append, copyLocs, List.mem_map, List.mem_range] at hx
    obtain ⟨i, -, rfl⟩ := hx
    exact absurd hlt (Nat.lt_irrefl _)) (Nat.le_refl _) (by omega)
  exact ⟨T6, some (.ref s.heap.size), _, _, _, X8, rfl, rfl, rfl, (fun h => by cases h), ⟨⟨rfl, B6, ba3.like (X3.warmed.alike.symm.trans X6.warmed.alike) p6.1 f6.1 f6.2.1 f6.2.2.1, f6.2.1.trans bv3, by rw [X6.warmed.alike.findClass, f6.1]; exact bf3, by rw [f6.2.2.1, bs3]; simp, fun j hj => by rw [f6.2.2.2 j, if_pos (by omega)]; rfl, kp3.put p6 (Nat.le_refl _)⟩, by rw [p6.2.2, bh3, hh0]; simp⟩, fun fs hl => c8.trans (X8.areturnOut hexec rfl hret rfl (hb hbytes d58) hl)⟩
end Cmp3
namespace CodL
def yN : MethodName := ⟨"java/lang/StringUTF16", "coderFromArrayLen", "([BI)B"⟩
abbrev yB : ByteArray := jdk_52_method_15_code
theorem d0 : decode yB 0 = .ok (.iload_n 1, 1) := by decide +kernel
theorem d1 : decode yB 1 = .ok (.aload_n 0, 1) := by decide +kernel
theorem d2 : decode yB 2 = .ok (.arraylength, 1) := by decide +kernel
theorem d3 : decode yB 3 = .ok (.isub, 1) := by decide +kernel
theorem d4 : decode yB 4 = .ok (.bipush 31, 2) := by decide +kernel
theorem d6 : decode yB 6 = .ok (.iushr, 1) := by decide +kernel
theorem d7 : decode yB 7 = .ok (.i2b, 1) := by decide +kernel
theorem d8 : decode yB 8 = .ok (.ireturn, 1) := by decide +kernel
def site : List Cond := []
def tab : Cond := tabOf yN yB 2 (some .byte) site
def P (d : Addr) (B : Cell) (args : Array Value) (s : State) : Prop := args = #[.ref d, .int (Int32.ofNat B.slots.size)] ∧ Arr .byte d B s
def E (r : Option Value) (s u : State) : Prop := XT.PureE (some (.int 0)) r s u
/-- an array as long as the number of chars: LATIN1 -/
theorem law (l : Launch) (d : Addr) (B : Cell) : Law l yN 2 2 0 0 yB 2 (some .byte) site (P d B) E [] 0 0 := by
  refine Law.of_walk (plainFor_of_name (by decide +kernel)) (by decide +kernel) (by decide +kernel) (by decide) (fun _ _ h => by rw [h.1]; rfl) (fun _ U U' hal hh h => ⟨h.1, h.2.mv hal hh⟩) (fun r U U' V V' h1 hal h2 h => XT.PureE.mv r U U' V V' h1 hal h2 h) ?_
  intro p e s m args below meth c s₁ X0 hexec hbytes hml hret hlk hnm hown hh0 W hP
  obtain ⟨rfl, hB⟩ := hP
  have hB0 := hB.mv X0.warmed.alike hh0
  have c1 : Steps p.tables e below (s₁.setTop (entryFrame m #[.ref d, .int (Int32.ofNat B.slots.size)] 2)) (s₁.setTop (mkF m 0 #[.val (.ref d), .val (.int (Int32.ofNat B.slots.size))] [])) := entry rfl
  have c2 : Steps p.tables e below (s₁.setTop (entryFrame m #[.ref d, .int (Int32.ofNat B.slots.size)] 2)) (s₁.setTop (mkF m 2 #[.val (.ref d), .val (.int (Int32.ofNat B.slots.size))] [.ref d, .int (Int32.ofNat B.slots.size)])) := c1.trans (by
    refine XS.iloadN X0.here hexec rfl (hb hbytes d0) rfl ?_
    refine XS.aloadN X0.here hexec rfl (hb hbytes d1) rfl rfl ?_
    exact Steps.refl _)
  have c3 : Steps p.tables e below (s₁.setTop (entryFrame m #[.ref d, .int (Int32.ofNat B.slots.size)] 2)) (s₁.setTop (mkF m 8 #[.val (.ref d), .val (.int (Int32.ofNat B.slots.size))] [.int (lo8 (ushr (Int32.ofNat B.slots.size - Int32.ofNat B.slots.size) 31))])) := c2.trans (by
    refine X0.alen hexec hB0 rfl rfl (hb hbytes d2) ?_
    refine XS.isub X0.here hexec rfl (hb hbytes d3) rfl ?_
    refine bipushV X0.here hexec rfl 31 (hb hbytes d4) (by decide) ?_
    refine iushr X0.here hexec rfl (hb hbytes d6) rfl ?_
    refine i2b X0.here hexec rfl (hb hbytes d7) rfl ?_
    exact Steps.refl _)
  have e0 : lo8 (ushr (Int32.ofNat B.slots.size - Int32.ofNat B.slots.size) 31) = 0 := by rw [Int32.sub_self]; decide
  rw [e0] at c3
  exact ⟨s₁, some (.int 0), _, _, _, X0, rfl, rfl, rfl, (fun h => by cases h), ⟨rfl, hh0⟩, fun fs hl => c3.trans (X0.ireturnOut hexec hret rfl (Or.inr (Or.inr (Or.inl rfl))) (hb hbytes d8) hl)⟩
end CodL
/-- the String at a is Latin-1 over a new byte[] (the heap's one new cell): the low bytes of the len chars of A from o on; every cell but a is kept -/
def Got (a : Addr) (D : Cell) (fV fC : Field) (A : Cell) (o len : Nat) (r : Option Value) (s u : State) : Prop := r = none ∧ ∃ D' V : Cell, Blank "java/lang/String" a D' u ∧ Same D D' [fV.slot, fC.slot] ∧ D'.slots[fV.slot]? = some (.ref s.heap.size) ∧ D'.slots[fC.slot]? = some (.int 0) ∧ Arr .byte s.heap.size V u ∧ V.vm = .none ∧ u.vm.findClass "[B" = some V.cls ∧ V.slots.size = len ∧ (∀ j, j < len → V.slots[j]? = some (.int (lo8 (cv A (o + j))))) ∧ (∀ (y : Addr) (c : Cell), y ≠ a → s.heap[y]? = some c → u.heap[y]? = some c) ∧ u.heap.size = s.heap.size + 1
theorem Got.mv {a : Addr} {D A : Cell} {fV fC : Field} {o len : Nat} : ∀ r (U U' V V' : State), U'.heap = U.heap → V.vm.Alike V'.vm → V'.heap = V.heap → Got a D fV fC A o len r U V → Got a D fV fC A o len r U' V' :=
  fun r U U' V V' h1 hal h2 ⟨e0, D', X, a1, a2, a3, a4, a5, a6, a7, a8, a9, a10, a11⟩ => ⟨e0, D', X, a1.mv hal h2, a2, by rw [h1]; exact a3, a4, by rw [h1]; exact a5.mv hal h2, a6, by rw [hal.findClass]; exact a7, a8, a9, by rw [h1, h2]; exact a10, by rw [h1, h2]; exact a11⟩
namespace New4
def yN : MethodName := ⟨"java/lang/String", "<init>", "([CIILjava/lang/Void;)V"⟩
abbrev yB : ByteArray := jdk_42_method_149_code
theorem d0 : decode yB 0 = .ok (.aload_n 0, 1) := by decide +kernel
theorem d1 : decode yB 1 = .ok (.invokespecial 1, 3) := by decide +kernel
theorem d4 : decode yB 4 = .ok (.iload_n 3, 1) := by decide +kernel
theorem d5 : decode yB 5 = .ok (.ifCond (.ne) 22, 3) := by decide +kernel
theorem d27 : decode yB 27 = .ok (.getstatic 38, 3) := by decide +kernel
theorem d30 : decode yB 30 = .ok (.ifCond (.eq) 28, 3) := by decide +kernel
theorem d33 : decode yB 33 = .ok (.aload_n 1, 1) := by decide +kernel
theorem d34 : decode yB 34 = .ok (.iload_n 2, 1) := by decide +kernel
theorem d35 : decode yB 35 = .ok (.iload_n 3, 1) := by decide +kernel
theorem d36 : decode yB 36 = .ok (.invokestatic 177, 3) := by decide +kernel
theorem d39 : decode yB 39 = .ok (.astore 5, 2) := by decide +kernel
theorem d41 : decode yB 41 = .ok (.aload_n 0, 1) := by decide +kernel
theorem d42 : decode yB 42 = .ok (.aload 5, 2) := by decide +kernel
theorem d44 : decode yB 44 = .ok (.iload_n 3, 1) := by decide +kernel
theorem d45 : decode yB 45 = .ok (.invokestatic 47, 3) := by decide +kernel
theorem d48 : decode yB 48 = .ok (.putfield 15, 3) := by decide +kernel
theorem d51 : decode yB 51 = .ok (.aload_n 0, 1) := by decide +kernel
theorem d52 : decode yB 52 = .ok (.aload 5, 2) := by decide +kernel
theorem d54 : decode yB 54 = .ok (.putfield 9, 3) := by decide +kernel
theorem d57 : decode yB 57 = .ok (.return_, 1) := by decide +kernel
def site : List Cond := [.fieldLink "java/lang/String" 38 "java/lang/String" "COMPACT_STRINGS" "Z", Cmp3.tab, CodL.tab, .laysFinal "java/lang/String" "java/lang/String" "value" "[B", .fieldLink "java/lang/String" 9 "java/lang/String" "value" "[B", .laysFinal "java/lang/String" "java/lang/String" "coder" "B", .fieldLink "java/lang/String" 15 "java/lang/String" "coder" "B"] ++ objW "java/lang/String" 1 ++ staticW "java/lang/String" 177 Cmp3.yN ++ staticW "java/lang/String" 47 CodL.yN
def tab : Cond := tabOf yN yB 6 none site
def P (a : Addr) (D : Cell) (fV fC : Field) (b : Addr) (A : Cell) (z : Int32) (o len : Nat) (args : Array Value) (s : State) : Prop := args = #[.ref a, .ref b, .int (Int32.ofNat o), .int (Int32.ofNat len), .null] ∧ Blank "java/lang/String" a D s ∧ Found "java/lang/String" "value" "[B" fV s ∧ Found "java/lang/String" "coder" "B" fC s ∧ Ch b A s ∧ StaticIs s "java/lang/String" "COMPACT_STRINGS" "Z" (.int z) ∧ ¬ z = 0 ∧ 0 < len ∧ o + len ≤ A.slots.size ∧ len ≤ 536870912 ∧ ∀ i, i < len → ¬ 255 < cv A (o + i)
def E (a : Addr) (D : Cell) (fV fC : Field) (A : Cell) (o len : Nat) (r : Option Value) (s u : State) : Prop := Got a D fV fC A o len r s u
/-- len > 0, no char of the range above 255: a Latin-1 String of their low bytes -/
theorem law (l : Launch) (a : Addr) (D : Cell) (fV fC : Field) (b : Addr) (A : Cell) (z : Int32) (o len : Nat) : Law l yN 5 4 2 35 yB 6 none site (P a D fV fC b A z o len) (E a D fV fC A o len) [⟨a, fC.slot⟩, ⟨a, fV.slot⟩] 1 len := by
  refine Law.of_walk (plainFor_of_name (by decide +kernel)) (by decide +kernel) (by decide +kernel) (by decide) (fun _ _ h => by rw [h.1]; rfl) (fun _ U U' hal hh h => ⟨h.1, h.2.1.mv hal hh, h.2.2.1.al hal, h.2.2.2.1.al hal, h.2.2.2.2.1.mv hal hh, h.2.2.2.2.2.1.there hal hh, h.2.2.2.2.2.2⟩) (fun r U U' V V' h1 hal h2 h => Got.mv r U U' V V' h1 hal h2 h) ?_
  intro p e s m args below meth c s₁ X0 hexec hbytes hml hret hlk hnm hown hh0 W hP
  obtain ⟨rfl, hB, f1, f2, hA, s1, hz, l0, l1, l2, hp⟩ := hP
  have a31 := hA.1.2.2.2
  have c1 : Steps p.tables e below (s₁.setTop (entryFrame m #[.ref a, .ref b, .int (Int32.ofNat o), .int (Int32.ofNat len), .null] 6)) (s₁.setTop (mkF m 0 #[.val (.ref a), .val (.ref b), .val (.int (Int32.ofNat o)), .val (.int (Int32.ofNat len)), .val .null, .unset] [])) := entry rfl
  have c2 : Steps p.tables e below (s₁.setTop (entryFrame m #[.ref a, .ref b, .int (Int32.ofNat o), .int (Int32.ofNat len), .null] 6)) (s₁.setTop (mkF m 1 #[.val (.ref a), .val (.ref b), .val (.int (Int32.ofNat o)), .val (.int (Int32.ofNat len)), .val .null, .unset] [.ref a])) := c1.trans (by
    refine XS.aloadN X0.here hexec rfl (hb hbytes d0) rfl rfl ?_
    exact Steps.refl _)
  obtain ⟨T3, X3, q3, st3⟩ := X0.oinit hexec hown (wks W (objW "java/lang/String" 1)) (g := (mkF m 1 #[.val (.ref a), .val (.ref b), .val (.int (Int32.ofNat o)), .val (.int (Int32.ofNat len)), .val .null, .unset] [.ref a])) rfl (by rw [hml]; rfl) (rest := []) rfl (hb hbytes d1) (W := 0) (by show 2 * 0 + 0 ≤ _; decide) (Nat.le_of_ble_eq_true rfl) (Nat.le_of_ble_eq_true rfl)
  have hh3 := q3.trans hh0
  have c4 : Steps p.tables e below (s₁.setTop (entryFrame m #[.ref a, .ref b, .int (Int32.ofNat o), .int (Int32.ofNat len), .null] 6)) (T3.setTop (mkF m 27 #[.val (.ref a), .val (.ref b), .val (.int (Int32.ofNat o)), .val (.int (Int32.ofNat len)), .val .null, .unset] [])) := (c2.trans (st3 _ (Steps.refl _))).trans (by
    refine XS.iloadN X3.here hexec rfl (hb hbytes d4) rfl ?_
    refine XS.ifYes X3.here hexec rfl (pc0 := 5) rfl (hb hbytes d5) rfl (i0_ne_t (nz32 (by omega) l0)) (by decide) rfl ?_
    exact Steps.refl _)
  obtain ⟨T5, X5, q5, st5⟩ := X3.sget hexec hown (wk W (.fieldLink "java/lang/String" 38 "java/lang/String" "COMPACT_STRINGS" "Z")) s1 (fun _ _ h => by rw [hh3]; exact h) (g := (mkF m 27 #[.val (.ref a), .val (.ref b), .val (.int (Int32.ofNat o)), .val (.int (Int32.ofNat len)), .val .null, .unset] [])) rfl (hb hbytes d27)
  have hh5 := q5.trans hh3
  have c6 : Steps p.tables e below (s₁.setTop (entryFrame m #[.ref a, .ref b, .int (Int32.ofNat o), .int (Int32.ofNat len), .null] 6)) (T5.setTop (mkF m 30 #[.val (.ref a), .val (.ref b), .val (.int (Int32.ofNat o)), .val (.int (Int32.ofNat len)), .val .null, .unset] [.int z])) := c4.trans (st5 _ (Steps.refl _))
  have c7 : Steps p.tables e below (s₁.setTop (entryFrame m #[.ref a, .ref b, .int (Int32.ofNat o), .int (Int32.ofNat len), .null] 6)) (T5.setTop (mkF m 36 #[.val (.ref a), .val (.ref b), .val (.int (Int32.ofNat o)), .val (.int (Int32.ofNat len)), .val .null, .unset] [.int (Int32.ofNat len), .int (Int32.ofNat o), .ref b])) := c6.trans (by
    refine XS.ifNo X5.here hexec rfl (hb hbytes d30) rfl (i0_eq_f hz) ?_
    refine XS.aloadN X5.here hexec rfl (hb hbytes d33) rfl rfl ?_
    refine XS.iloadN X5.here hexec rfl (hb hbytes d34) rfl ?_
    refine XS.iloadN X5.here hexec rfl (hb hbytes d35) rfl ?_
    exact Steps.refl _)
  obtain ⟨v8, T8, X8, E8, g8⟩ := X5.callS hexec (Cmp3.law l b A o len) hown (wks W (staticW "java/lang/String" 177 Cmp3.yN)) (wk W Cmp3.tab) (W := 0) (Nat.le_of_ble_eq_true rfl) (Nat.le_of_ble_eq_true rfl) (Nat.le_refl _) (by show 0 + len ≤ len; omega) (g := (mkF m 36 #[.val (.ref a), .val (.ref b), .val (.int (Int32.ofNat o)), .val (.int (Int32.ofNat len)), .val .null, .unset] [.int (Int32.ofNat len), .int (Int32.ofNat o), .ref b])) rfl (by rw [hml]; rfl) c7 (argsL := [.ref b, .int (Int32.ofNat o), .int (Int32.ofNat len)]) (rest := []) rfl rfl (by show 2 * 0 + 0 ≤ _; decide) (hb hbytes d36) (⟨rfl, hA.mv X5.warmed.alike hh5, l1, l2, hp⟩)
  obtain ⟨e8, z8⟩ := E8
  obtain ⟨rfl, N, n1, n2, n3, n4, n5, n6⟩ := NewArr.mv _ T5 s _ _ hh5.symm (Vm.Alike.refl _) rfl e8
  rw [hh5] at z8
  have hB1 := hB.keep X8.warmed.alike (n6 _ _ hB.1)
  have hne : s.heap.size ≠ a := (Nat.ne_of_lt (Array.getElem?_eq_some_iff.mp hB.1).1).symm
  have c9 : Steps p.tables e below (s₁.setTop (entryFrame m #[.ref a, .ref b, .int (Int32.ofNat o), .int (Int32.ofNat len), .null] 6)) (T8.setTop (mkF m 39 #[.val (.ref a), .val (.ref b), .val (.int (Int32.ofNat o)), .val (.int (Int32.ofNat len)), .val .null, .unset] [.ref s.heap.size])) := g8
  have c10 : Steps p.tables e below (s₁.setTop (entryFrame m #[.ref a, .ref b, .int (Int32.ofNat o), .int (Int32.ofNat len), .null] 6)) (T8.setTop (mkF m 45 #[.val (.ref a), .val (.ref b), .val (.int (Int32.ofNat o)), .val (.int (Int32.ofNat len)), .val .null, .val (.ref s.heap.size)] [.int (Int32.ofNat N.slots.size), .ref s.heap.size, .ref a])) := by
    have hc : Steps p.tables e below (s₁.setTop (entryFrame m #[.ref a, .ref b, .int (Int32.ofNat o), .int (Int32.ofNat len), .null] 6)) (T8.setTop (mkF m 45 #[.val (.ref a), .val (.ref b), .val (.int (Int32.ofNat o)), .val (.int (Int32.ofNat len)), .val .null, .val (.ref s.heap.size)] [.int (Int32.ofNat len), .ref s.heap.size, .ref a])) := c9.trans (by
      refine XS.astore X8.here hexec rfl (hb hbytes d39) rfl rfl rfl ?_
      refine XS.aloadN X8.here hexec rfl (hb hbytes d41) rfl rfl ?_
      refine XS.aload X8.here hexec rfl (hb hbytes d42) rfl rfl ?_
      refine XS.iloadN X8.here hexec rfl (hb hbytes d44) rfl ?_
      exact Steps.refl _)
    rw [n4]; exact hc
  obtain ⟨v11, T11, X11, E11, g11⟩ := X8.callS hexec (CodL.law l s.heap.size N) hown (wks W (staticW "java/lang/String" 47 CodL.yN)) (wk W CodL.tab) (W := 1) (Nat.le_of_ble_eq_true rfl) (Nat.le_of_ble_eq_true rfl) (Nat.le_refl _) (by show 0 + len + 0 ≤ len; omega) (g := (mkF m 45 #[.val (.ref a), .val (.ref b), .val (.int (Int32.ofNat o)), .val (.int (Int32.ofNat len)), .val .null, .val (.ref s.heap.size)] [.int (Int32.ofNat N.slots.size), .ref s.heap.size, .ref a])) rfl (by rw [hml]; rfl) c10 (argsL := [.ref s.heap.size, .int (Int32.ofNat N.slots.size)]) (rest := [.ref a]) rfl rfl (by show 2 * 0 + (1 + 0) ≤ _; decide) (hb hbytes d45) (⟨rfl, n1⟩)
  obtain ⟨rfl, q11⟩ := E11
  have hB11 := hB1.mv (X8.warmed.alike.symm.trans X11.warmed.alike) q11
  have c12 : Steps p.tables e below (s₁.setTop (entryFrame m #[.ref a, .ref b, .int (Int32.ofNat o), .int (Int32.ofNat len), .null] 6)) (T11.setTop (mkF m 48 #[.val (.ref a), .val (.ref b), .val (.int (Int32.ofNat o)), .val (.int (Int32.ofNat len)), .val .null, .val (.ref s.heap.size)] [.int 0, .ref a])) := g11
  obtain ⟨T13, X13, p13, bl13, sl13, st13⟩ := X11.finit hexec hown (wk W (.fieldLink "java/lang/String" 15 "java/lang/String" "coder" "B")) (Or.inr ⟨_, (wk W (.laysFinal "java/lang/String" "java/lang/String" "coder" "B"))⟩) (Or.inl ⟨rfl, hnm⟩) f2 (Or.inl rfl) hB11 (t := .byte) (by decide +kernel) rfl (g := (mkF m 48 #[.val (.ref a), .val (.ref b), .val (.int (Int32.ofNat o)), .val (.int (Int32.ofNat len)), .val .null, .val (.ref s.heap.size)] [.int 0, .ref a])) rfl (rest := []) rfl (hb hbytes d48)
  have c14 : Steps p.tables e below (s₁.setTop (entryFrame m #[.ref a, .ref b, .int (Int32.ofNat o), .int (Int32.ofNat len), .null] 6)) (T13.setTop (mkF m 54 #[.val (.ref a), .val (.ref b), .val (.int (Int32.ofNat o)), .val (.int (Int32.ofNat len)), .val .null, .val (.ref s.heap.size)] [.ref s.heap.size, .ref a])) := (c12.trans (st13 _ (Steps.refl _))).trans (by
    refine XS.aloadN X13.here hexec rfl (hb hbytes d51) rfl rfl ?_
    refine XS.aload X13.here hexec rfl (hb hbytes d52) rfl rfl ?_
    exact Steps.refl _)
  obtain ⟨T15, X15, p15, bl15, sl15, st15⟩ := X13.finit hexec hown (wk W (.fieldLink "java/lang/String" 9 "java/lang/String" "value" "[B")) (Or.inr ⟨_, (wk W (.laysFinal "java/lang/String" "java/lang/String" "value" "[B"))⟩) (Or.inl ⟨rfl, hnm⟩) f1 (Or.inl rfl) bl13 (t := (.array .byte)) (by decide +kernel) rfl (g := (mkF m 54 #[.val (.ref a), .val (.ref b), .val (.int (Int32.ofNat o)), .val (.int (Int32.ofNat len)), .val .null, .val (.ref s.heap.size)] [.ref s.heap.size, .ref a])) rfl (rest := []) rfl (hb hbytes d54)
  have c16 : Steps p.tables e below (s₁.setTop (entryFrame m #[.ref a, .ref b, .int (Int32.ofNat o), .int (Int32.ofNat len), .null] 6)) (T15.setTop (mkF m 57 #[.val (.ref a), .val (.ref b), .val (.int (Int32.ofNat o)), .val (.int (Int32.ofNat len)), .val .null, .val (.ref s.heap.size)] [])) := c14.trans (st15 _ (Steps.refl _))
  have ap := apart (Or.inr ⟨_, (wk W (.laysFinal "java/lang/String" "java/lang/String" "value" "[B"))⟩) (Or.inr ⟨_, (wk W (.laysFinal "java/lang/String" "java/lang/String" "coder" "B"))⟩) f1 f2 (t₁ := .array .byte) (t₂ := .byte) (by decide +kernel) (by decide +kernel) (by decide)
  have al := X8.warmed.alike.symm.trans X15.warmed.alike
  have n7 : T11.heap[s.heap.size]? = some N := by rw [q11]; exact n1.1
  exact ⟨T15, none, _, _, _, X15, by simp, rfl, by omega, (fun _ => rfl), ⟨rfl, _, N, bl15, ((Same.refl D _).set _ (by simp)).set _ (by simp), sl15, (Cell.slots_setSlot_ne _ ap).trans sl13, n1.keep al (p15.other hne (p13.other hne n7)), n2, by rw [al.findClass]; exact n3, n4, n5, fun y c h1 h2 => p15.other h1 (p13.other h1 (by rw [q11]; exact n6 y c h2)), by rw [p15.2.2, p13.2.2, q11]; exact z8⟩, fun fs hl => c16.trans (X15.returnOut hexec hret (hb hbytes d57) hl)⟩
end New4
namespace New1
def yN : MethodName := ⟨"java/lang/String", "<init>", "([C)V"⟩
abbrev yB : ByteArray := jdk_42_method_3_code
theorem d0 : decode yB 0 = .ok (.aload_n 0, 1) := by decide +kernel
theorem d1 : decode yB 1 = .ok (.aload_n 1, 1) := by decide +kernel
theorem d2 : decode yB 2 = .ok (.iconst 0, 1) := by decide +kernel
theorem d3 : decode yB 3 = .ok (.aload_n 1, 1) := by decide +kernel
theorem d4 : decode yB 4 = .ok (.arraylength, 1) := by decide +kernel
theorem d5 : decode yB 5 = .ok (.aconst_null, 1) := by decide +kernel
theorem d6 : decode yB 6 = .ok (.invokespecial 27, 3) := by decide +kernel
theorem d9 : decode yB 9 = .ok (.return_, 1) := by decide +kernel
def site : List Cond := [New4.tab] ++ initW "java/lang/String" 27 New4.yN
def tab : Cond := tabOf yN yB 2 none site
def P (a : Addr) (D : Cell) (fV fC : Field) (b : Addr) (A : Cell) (z : Int32) (args : Array Value) (s : State) : Prop := args = #[.ref a, .ref b] ∧ Blank "java/lang/String" a D s ∧ Found "java/lang/String" "value" "[B" fV s ∧ Found "java/lang/String" "coder" "B" fC s ∧ Ch b A s ∧ StaticIs s "java/lang/String" "COMPACT_STRINGS" "Z" (.int z) ∧ ¬ z = 0 ∧ 0 < A.slots.size ∧ A.slots.size ≤ 536870912 ∧ ∀ i, i < A.slots.size → ¬ 255 < cv A i
def E (a : Addr) (D : Cell) (fV fC : Field) (A : Cell) (r : Option Value) (s u : State) : Prop := Got a D fV fC A 0 A.slots.size r s u
/-- new String(chars), not empty, no char above 255: a Latin-1 String of their low bytes -/
theorem law (l : Launch) (a : Addr) (D : Cell) (fV fC : Field) (b : Addr) (A : Cell) (z : Int32) : Law l yN 2 1 3 52 yB 2 none site (P a D fV fC b A z) (E a D fV fC A) [⟨a, fC.slot⟩, ⟨a, fV.slot⟩] 1 A.slots.size := by
  refine Law.of_walk (plainFor_of_name (by decide +kernel)) (by decide +kernel) (by decide +kernel) (by decide) (fun _ _ h => by rw [h.1]; rfl) (fun _ U U' hal hh h => ⟨h.1, h.2.1.mv hal hh, h.2.2.1.al hal, h.2.2.2.1.al hal, h.2.2.2.2.1.mv hal hh, h.2.2.2.2.2.1.there hal hh, h.2.2.2.2.2.2⟩) (fun r U U' V V' h1 hal h2 h => Got.mv r U U' V V' h1 hal h2 h) ?_
  intro p e s m args below meth c s₁ X0 hexec hbytes hml hret hlk hnm hown hh0 W hP
  obtain ⟨rfl, hB, f1, f2, hA, s1, hz, l0, l2, hp⟩ := hP
  have c1 : Steps p.tables e below (s₁.setTop (entryFrame m #[.ref a, .ref b] 2)) (s₁.setTop (mkF m 0 #[.val (.ref a), .val (.ref b)] [])) := entry rfl
  have c2 : Steps p.tables e below (s₁.setTop (entryFrame m #[.ref a, .ref b] 2)) (s₁.setTop (mkF m 6 #[.val (.ref a), .val (.ref b)] [.null, .int (Int32.ofNat A.slots.size), .int 0, .ref b, .ref a])) := c1.trans (by
    refine XS.aloadN X0.here hexec rfl (hb hbytes d0) rfl rfl ?_
    refine XS.aloadN X0.here hexec rfl (hb hbytes d1) rfl rfl ?_
    refine iconstV X0.here hexec rfl 0 (hb hbytes d2) (by decide) ?_
    refine XS.aloadN X0.here hexec rfl (hb hbytes d3) rfl rfl ?_
    refine X0.alen hexec (hA.1.mv X0.warmed.alike hh0) rfl rfl (hb hbytes d4) ?_
    refine XS.aconstNull X0.here hexec rfl (hb hbytes d5) ?_
    exact Steps.refl _)
  obtain ⟨v3, T3, X3, E3, g3⟩ := X0.callN hexec (New4.law l a D fV fC b A z 0 A.slots.size) rfl hown (wks W (initW "java/lang/String" 27 New4.yN)) (W New4.tab (by simp only [site, List.mem_cons, List.mem_append, true_or, or_true])) (W := 0) (Nat.le_of_ble_eq_true rfl) (Nat.le_of_ble_eq_true rfl) (Nat.le_refl _) (by show 0 + A.slots.size ≤ A.slots.size; omega) (g := (mkF m 6 #[.val (.ref a), .val (.ref b)] [.null, .int (Int32.ofNat A.slots.size), .int (Int32.ofNat 0), .ref b, .ref a])) rfl (by rw [hml]; rfl) c2 (argsL := [.ref b, .int (Int32.ofNat 0), .int (Int32.ofNat A.slots.size), .null]) (rest := []) rfl rfl (by show 2 * 0 + 0 ≤ _; decide) (hb hbytes d6) (⟨rfl, hB.mv X0.warmed.alike hh0, f1.al X0.warmed.alike, f2.al X0.warmed.alike, hA.mv X0.warmed.alike hh0, s1.there X0.warmed.alike hh0, hz, l0, by omega, l2, fun i hi => by rw [Nat.zero_add]; exact hp i hi⟩)
  have e0 := Got.mv _ s₁ s _ _ hh0.symm (Vm.Alike.refl _) rfl E3
  obtain rfl := e0.1
  have c4 : Steps p.tables e below (s₁.setTop (entryFrame m #[.ref a, .ref b] 2)) (T3.setTop (mkF m 9 #[.val (.ref a), .val (.ref b)] [])) := g3
  exact ⟨T3, none, _, _, _, X3, by simp, rfl, by omega, (fun _ => rfl), e0, fun fs hl => c4.trans (X3.returnOut hexec hret (hb hbytes d9) hl)⟩
theorem pays {l : Launch} {R : Room} {p : Program} {e : Env} {below : List Frame} {s : State} {sargs : Array Value} {len W : Nat} (a : Addr) (D : Cell) (fV fC : Field) (b : Addr) (A : Cell) (z : Int32) (htab : tab.before sargs s = true) (hfr : 4 ≤ R.frames) (hlo : W + 65 ≤ R.locals) :
    Back l R p e below s sargs yN len W (fun A₁ a₁ => A₁.cells + 1 ≤ R.cells ∧ A₁.slots + A.slots.size ≤ R.slots ∧ P a D fV fC b A z a₁ A₁.U) (fun A₁ _ v₁ B₁ => E a D fV fC A v₁ A₁.U B₁.U ∧ B₁.locs = A₁.locs ++ [⟨a, fC.slot⟩, ⟨a, fV.slot⟩] ∧ B₁.cells = A₁.cells + 1 ∧ B₁.slots = A₁.slots + A.slots.size) :=
  (law l a D fV fC b A z).pays htab hfr (by omega)
end New1
/-- the byte, read back as charAt reads it, is the char -/
theorem lo8_mask {x : Int32} (h0 : ¬ x < 0) (h1 : ¬ 255 < x) : lo8 x &&& 255 = x := by
  have t : ∀ k : Fin 256, lo8 (Int32.ofNat k.val) &&& 255 = Int32.ofNat k.val := by decide +kernel
  rw [Int32.lt_iff_toInt_lt] at h0 h1
  have e0 : (0 : Int32).toInt = 0 := rfl
  have e1 : (255 : Int32).toInt = 255 := rfl
  obtain ⟨k, hk⟩ : ∃ k : Nat, x.toInt = k := ⟨x.toInt.toNat, by omega⟩
  have hx : x = Int32.ofNat k := Int32.toInt_inj.mp (by rw [hk, Int32.toInt_ofNat_small (by omega)])
  rw [hx]
  exact t ⟨k, by omega⟩
end StrChars
namespace StrChars.Road
open Jvm Sem ClassFile Op Lib Jvm.Stand Jvm.Free Jvm.Free.XT
open Jvm.Lib.Cold (StaticIs)
abbrev ST : String := "java/lang/String"
/-- every table word that New1's law asks, flat -/
abbrev words : List Jvm.Cond := [.code New1.yN New1.yB 2 none, .initialized ST, .methodLink ST 27 New4.yN, .instanceMethod New4.yN,
  .code New4.yN New4.yB 6 none, .fieldLink ST 38 ST "COMPACT_STRINGS" "Z", .laysFinal ST ST "value" "[B", .fieldLink ST 9 ST "value" "[B", .laysFinal ST ST "coder" "B", .fieldLink ST 15 ST "coder" "B",
  .methodLink ST 1 Lib.objectInit, .instanceMethod Lib.objectInit, .code Lib.objectInit ⟨#[0xb1]⟩ 1 none, .methodLink ST 177 Cmp3.yN, .static Cmp3.yN, .methodLink ST 47 CodL.yN, .static CodL.yN,
  .code Cmp3.yN Cmp3.yB 6 (some (.array .byte)), .initialized U16, .arrayClass .byte, .methodLink U16 115 Cmp5.yN, .static Cmp5.yN, .code Cmp5.yN Cmp5.yB 7 (some .int), .code CodL.yN CodL.yB 2 (some .byte)]
theorem tab_of {a : Array Value} {s : State} (h : ∀ w ∈ words, w.before a s = true) : New1.tab.before a s = true := by
  have h5 : Cmp5.tab.before a s = true := unparts (wk h (.code Cmp5.yN Cmp5.yB 7 (some .int))) (wks h (.initialized Cmp5.yN.cls :: Cmp5.site))
  have hc : CodL.tab.before a s = true := unparts (wk h (.code CodL.yN CodL.yB 2 (some .byte))) (wks h (.initialized CodL.yN.cls :: CodL.site))
  have q5 : ∀ w ∈ Cmp5.tab :: words, w.before a s = true := fun w hw => (List.mem_cons.mp hw).elim (fun e => e ▸ h5) (h w)
  have h3 : Cmp3.tab.before a s = true := unparts (wk q5 (.code Cmp3.yN Cmp3.yB 6 (some (.array .byte)))) (wks q5 (.initialized Cmp3.yN.cls :: Cmp3.site))
  have q3 : ∀ w ∈ Cmp3.tab :: CodL.tab :: words, w.before a s = true := fun w hw => (List.mem_cons.mp hw).elim (fun e => e ▸ h3) fun hw => (List.mem_cons.mp hw).elim (fun e => e ▸ hc) (h w)
  have h4 : New4.tab.before a s = true := unparts (wk q3 (.code New4.yN New4.yB 6 none)) (wks q3 (.initialized New4.yN.cls :: New4.site))
  have q4 : ∀ w ∈ New4.tab :: words, w.before a s = true := fun w hw => (List.mem_cons.mp hw).elim (fun e => e ▸ h4) (h w)
  exact unparts (wk q4 (.code New1.yN New1.yB 2 none)) (wks q4 (.initialized New1.yN.cls :: New1.site))
/-- the words ride from the start Z to the walk's own state -/
theorem moved {Z s : State} {a0 args : Array Value} (hZ : Z.Warmed39 s.vm) (hw : ∀ d ∈ words, d.before a0 Z = true) : ∀ d ∈ words, d.before args s = true := fun d hd => by
  have q := hw d hd
  have t : ∀ d ∈ words, d = .arrayClass .byte ∨ (d.onTables && d.keepsFace) = true := by decide +kernel
  rcases t d hd with rfl | t
  · exact RoadKit.mvA hZ q
  · exact RoadKit.mv hZ q t
/-- WHAT COMES BACK, over the tables of the start Z: h the heap at the call, h' behind it -/
def Q (Z : State) (x : Addr) (A : Cell) (h : Heap) (v : Option Value) (h' : Heap) (L : List Loc) : Prop := v = none ∧ (∀ y ∈ L, y.base = x) ∧ RoadKit.Keep h h' [x] ∧ h'.size = h.size + 1 ∧ RoadKit.Exa Z h' x ST ∧ RoadKit.Fld Z h' x ST "value" "[B" (.ref h.size) ∧ RoadKit.Fld Z h' x ST "coder" "B" (.int 0) ∧
  (∃ V : Cell, RoadKit.Arr Z h' h.size V .byte ∧ V.vm = .none ∧ Z.vm.findClass "[B" = some V.cls ∧ V.slots.size = A.slots.size ∧ ∀ j, j < A.slots.size → V.slots[j]? = some (.int (lo8 (cv A j)))) ∧
  ∀ (O n d : String) (w : Value), RoadKit.Fld Z h x O n d w → RoadKit.slotOf Z O n d ≠ RoadKit.slotOf Z ST "value" "[B" → RoadKit.slotOf Z O n d ≠ RoadKit.slotOf Z ST "coder" "B" → RoadKit.Fld Z h' x O n d w
/-- **new String(chars) AT A CALL, IN THE ROAD'S FORM**: for specialBack behind newO: x the fresh String, b the char[] with the cell A -/
theorem back {p : Program} {l : Launch} {e : Env} {R : Room} {s : State} {args : Array Value} {below : List Frame} {len W : Nat} {Z : State} {a0 : Array Value} {h : Heap} (hZ : Z.Warmed39 s.vm) (hw : ∀ d ∈ words, d.before a0 Z = true) {kI : Nat} (wi : (Jvm.Cond.instantiable ST kI).before a0 Z = true)
    {x b : Addr} {A : Cell} {z : Int32} {v0 c0 : Value} (E : RoadKit.Exa Z h x ST) (V : RoadKit.Fld Z h x ST "value" "[B" v0) (C : RoadKit.Fld Z h x ST "coder" "B" c0) (K : RoadKit.Arr Z h b A .char) (hty : Typed .char A) (S : RoadKit.Sta Z h ST "COMPACT_STRINGS" "Z" (.int z)) (hz : ¬ z = 0)
    (l0 : 0 < A.slots.size) (l2 : A.slots.size ≤ 536870912) (hp : ∀ i, i < A.slots.size → ¬ 255 < cv A i) (hfr : 4 ≤ R.frames) (hlo : W + 65 ≤ R.locals) :
    Back l R p e below s args New1.yN len W (fun P a => a = #[.ref x, .ref b] ∧ P.U.heap = h ∧ P.cells + 1 ≤ R.cells ∧ P.slots + A.slots.size ≤ R.slots)
      (fun P _ v B => ∃ L, Q Z x A h v B.U.heap L ∧ B.locs = P.locs ++ L ∧ B.cells = P.cells + 1 ∧ B.slots = P.slots + A.slots.size) := by
  intro m meth c P g ig mk a X hg hsize hdg hW hn hp'
  obtain ⟨rfl, rfl, r1, r2⟩ := hp'
  have al : Z.vm.Alike P.U.vm := hZ.alike.trans X.warmed.alike
  obtain ⟨D, cfV, kV, iV, fV, hD, gV, stV, knV, obV, asV, slV⟩ := id V
  obtain ⟨D', cfC, kC, iC, fC, hD', gC, stC, -, -, asC, slC⟩ := id C
  cases hD.symm.trans hD'
  obtain ⟨D2, kD, e1, e2, e3, e4, e5⟩ := id E
  cases hD.symm.trans e1
  obtain ⟨c2, k2, i1, i2, i3, -⟩ := Cond.instantiable_spec wi
  cases e2.symm.trans i1
  cases e3.symm.trans i2
  obtain ⟨kU, u1, u2⟩ := al.2.2 _ _ e3
  have hB : Blank ST x D P.U := ⟨hD, ⟨knV, fun q hq => by rw [hq] at obV; cases obV⟩, by rw [al.findClass]; exact e2, kU, u1, by rw [u2]; exact i3, by rw [u2]; exact e5 i3⟩
  have F1 : Found ST "value" "[B" fV P.U := ⟨SBG.found_only al ⟨cfV, kV, iV, gV⟩, stV⟩
  have F2 : Found ST "coder" "B" fC P.U := ⟨SBG.found_only al ⟨cfC, kC, iC, gC⟩, stC⟩
  have hA : Ch b A P.U := ⟨⟨K.1, State.isArrayOf_alike al K.2.1, K.2.2, by omega⟩, hty⟩
  have hS : StaticIs P.U ST "COMPACT_STRINGS" "Z" (.int z) := by
    obtain ⟨cfS, iS, kS, fS, st, cS, t1, t2, t3, t4, t5, t6, t7⟩ := S
    exact StaticIs.there (s := { Z with heap := P.U.heap }) ⟨cfS, iS, kS, fS, st, cS, t1, t2, t3, t4, t5, (fun q => by rw [q] at t6; cases t6), t7⟩ al rfl
  obtain ⟨v, B, X', ⟨⟨hv, E', V', q1, q2, q3, q4, q5, q6, q7, q8, q9, q10, q11⟩, hl, hc, hs⟩, st⟩ := New1.pays x D fV fC b A z (tab_of (moved hZ hw)) hfr hlo m meth c P g ig mk _ X hg hsize hdg hW hn ⟨r1, r2, rfl, hB, F1, F2, hA, hS, hz, l0, l2, hp⟩
  have al' : Z.vm.Alike B.U.vm := hZ.alike.trans X'.warmed.alike
  have hsz : E'.slots.size = D.slots.size := by
    obtain ⟨-, -, -, kB, w1, w2, w3⟩ := q1
    obtain ⟨kB', y1, y2⟩ := al'.2.2 _ _ e3
    rw [q2.2.1] at w1
    cases w1.symm.trans y1
    rw [w3, e5 i3, y2]
  refine ⟨v, B, X', ⟨_, ⟨hv, ?_, ⟨by omega, fun y cy hy hn' => q10 y cy (by simpa using hn') hy, fun y cy hy => ?_⟩, q11, ⟨E', _, q1.1, by rw [q2.2.1]; exact e2, by rw [q2.2.1]; exact e3, by rw [q2.1]; exact obV, fun _ => by rw [hsz]; exact e5 i3⟩,
    ⟨E', cfV, kV, iV, fV, q1.1, gV, stV, by rw [q2.1]; exact knV, by rw [q2.1]; exact obV, by rw [q2.2.1]; exact asV, q3⟩, ⟨E', cfC, kC, iC, fC, q1.1, gC, stC, by rw [q2.1]; exact knV, by rw [q2.1]; exact obV, by rw [q2.2.1]; exact asC, q4⟩,
    ⟨V', ⟨q5.1, State.isArrayOf_alike al'.symm q5.2.1, q5.2.2.1⟩, q6, by rw [← al'.findClass]; exact q7, q8, fun j hj => by have := q9 j hj; rwa [Nat.zero_add] at this⟩, fun O n d w F n1 n2 => ?_⟩, hl, hc, hs⟩, st⟩
  · intro y hy
    simp only [List.mem_cons, List.not_mem_nil, or_false] at hy
    rcases hy with rfl | rfl <;> rfl
  · by_cases q : y = x
    · subst q
      cases hD.symm.trans hy
      exact ⟨E', q1.1, q2.2.1, q2.1, hsz⟩
    · exact ⟨cy, q10 y cy q hy, rfl, rfl, rfl⟩
  · obtain ⟨D3, cf, k, i, f, g1, g2, g3, g4, g5, g6, g7⟩ := F
    cases hD.symm.trans g1
    simp only [RoadKit.slotOf, g2, gV, gC, Option.map_some, Option.getD_some] at n1 n2
    exact ⟨E', cf, k, i, f, q1.1, g2, g3, by rw [q2.1]; exact g4, by rw [q2.1]; exact g5, by rw [q2.2.1]; exact g6, by rw [q2.2.2 f.slot (by simp [n1, n2])]; exact g7⟩
end StrChars.Road
namespace StrChars.Road
open Jvm Sem ClassFile Op Lib Jvm.Stand Jvm.Free Jvm.Free.XT
/-- WHAT COMES BACK, the byte[] as a list of values -/
def QA (Z : State) (x : Addr) (zn : Int32) (cs : List Int32) (h : Heap) (v : Option Value) (h' : Heap) (L : List Loc) : Prop := v = none ∧ (∀ y ∈ L, y.base = x) ∧ RoadKit.Keep h h' [x] ∧ h'.size = h.size + 1 ∧ RoadKit.Exa Z h' x ST ∧ RoadKit.Fld Z h' x ST "value" "[B" (.ref h.size) ∧ RoadKit.Fld Z h' x ST "coder" "B" (.int 0) ∧
  (∃ kb, Z.vm.findClass "[B" = some kb ∧ RoadKit.Arv Z h' h.size kb .byte zn (cs.map fun c => .int (lo8 c)) (.int 0)) ∧
  ∀ (O n d : String) (w : Value), RoadKit.Fld Z h x O n d w → RoadKit.slotOf Z O n d ≠ RoadKit.slotOf Z ST "value" "[B" → RoadKit.slotOf Z O n d ≠ RoadKit.slotOf Z ST "coder" "B" → RoadKit.Fld Z h' x O n d w
/-- **new String(chars) AT A CALL, THE ARRAYS AS LISTS**: the char[] at b holds cs, not empty, no char above 255 -/
theorem backArv {p : Program} {l : Launch} {e : Env} {R : Room} {s : State} {args : Array Value} {below : List Frame} {len W : Nat} {Z : State} {a0 : Array Value} {h : Heap} (hZ : Z.Warmed39 s.vm) (hw : ∀ d ∈ words, d.before a0 Z = true) {kI : Nat} (wi : (Jvm.Cond.instantiable ST kI).before a0 Z = true)
    {x b : Addr} {k : ClassId} {zn z : Int32} {cs : List Int32} {dv v0 c0 : Value} (E : RoadKit.Exa Z h x ST) (V : RoadKit.Fld Z h x ST "value" "[B" v0) (C : RoadKit.Fld Z h x ST "coder" "B" c0) (K : RoadKit.Arv Z h b k .char zn (cs.map Value.int) dv) (S : RoadKit.Sta Z h ST "COMPACT_STRINGS" "Z" (.int z)) (hz : ¬ z = 0)
    (hlen : zn.toNatClampNeg = cs.length) (h0 : 0 < cs.length) (hbig : cs.length ≤ 536870912) (hall : ∀ c ∈ cs, ¬ 255 < c) (hfr : 4 ≤ R.frames) (hlo : W + 65 ≤ R.locals) :
    Back l R p e below s args New1.yN len W (fun P a => a = #[.ref x, .ref b] ∧ P.U.heap = h ∧ P.cells + 1 ≤ R.cells ∧ P.slots + cs.length ≤ R.slots)
      (fun P _ v B => ∃ L, QA Z x zn cs h v B.U.heap L ∧ B.locs = P.locs ++ L ∧ B.cells = P.cells + 1 ∧ B.slots = P.slots + cs.length) := by
  obtain ⟨A, K1, K2, K3, K4, K5, K6⟩ := K
  have e : A.slots.size = cs.length := K3.trans hlen
  have hat : ∀ (i : Nat) (hi : i < cs.length), A.slots[i]? = some (.int cs[i]) := fun i hi => by rw [K5 i (by omega)]; simp [List.getD_eq_getElem?_getD, hi]
  have hcv : ∀ (i : Nat) (hi : i < cs.length), cv A i = cs[i] := fun i hi => by unfold cv; rw [hat i hi]
  have hty : Typed .char A := fun i v hv => by
    have hi : i < A.slots.size := (Array.getElem?_eq_some_iff.mp hv).1
    have q := K5 i hi
    rw [hv] at q
    rw [Option.some.inj q]
    exact K6 i hi
  refine Back.mono (back hZ hw wi E V C K1 hty S hz (by omega) (by omega) (fun i hi => by rw [hcv i (by omega)]; exact hall _ (List.getElem_mem _)) hfr hlo) (fun P a hp => ⟨hp.1, hp.2.1, hp.2.2.1, by rw [e]; exact hp.2.2.2⟩) (fun P a v B hp hq => ?_)
  obtain ⟨L, ⟨q1, q2, q3, q4, q5, q6, q7, ⟨V', v1, v2, v3, v4, v5⟩, q9⟩, hl, hc, hs⟩ := hq
  refine ⟨L, ⟨q1, q2, q3, q4, q5, q6, q7, ⟨V'.cls, v3, V', v1, rfl, by rw [v4, e, hlen], K4, fun i hi => ?_, fun i hi => ?_⟩, q9⟩, hl, hc, by rw [hs, e]⟩
  · have hi' : i < cs.length := by omega
    rw [v5 i (by omega), hcv i hi']; simp [List.getD_eq_getElem?_getD, hi']
  · have hi' : i < cs.length := by omega
    simp only [List.getD_eq_getElem?_getD, List.getElem?_map, List.getElem?_eq_getElem hi', Option.map_some, Option.getD_some]
    exact fits_lo8 _
end StrChars.Road
namespace StrChars.Road
open Jvm Sem ClassFile Op Lib Jvm.Stand Jvm.Free Jvm.Free.XT
/-- WHAT COMES BACK, in the writer's own shape -/
def QV (Z : State) (x : Addr) (N : Int32) (bs : List Int32) (h : Heap) (n0 : Nat) (v : Option Value) (h' : Heap) (L : List Loc) : Prop := v = none ∧ RoadKit.Fr n0 L ∧ RoadKit.Keep h h' [x] ∧ RoadKit.Exa Z h' x ST ∧ RoadKit.Fld Z h' x ST "coder" "B" (.int 0) ∧
  ∃ (t : Addr) (kb : ClassId), n0 ≤ t ∧ h.size ≤ t ∧ ¬ t = x ∧ RoadKit.Fld Z h' x ST "value" "[B" (.ref t) ∧ RoadKit.Arv Z h' t kb .byte N (bs.map Value.int) (.int 0)
/-- **new String(chars) AT A CALL, FOR THE WRITER**: a char[] of n known ints, each 0 to 255 -/
theorem backV {p : Program} {l : Launch} {e : Env} {R : Room} {s : State} {args : Array Value} {below : List Frame} {len W : Nat} {Z : State} {a0 : Array Value} {h : Heap} (hZ : Z.Warmed39 s.vm) (hw : ∀ d ∈ words, d.before a0 Z = true) {kI : Nat} (wi : (Jvm.Cond.instantiable ST kI).before a0 Z = true)
    {x b : Addr} {kC : ClassId} {cs bs : List Int32} {d v0 c0 : Value} {z N : Int32} {n n0 : Nat} (hx0 : n0 ≤ x) (hh0 : n0 ≤ h.size) (E : RoadKit.Exa Z h x ST) (V : RoadKit.Fld Z h x ST "value" "[B" v0) (C : RoadKit.Fld Z h x ST "coder" "B" c0) (K : RoadKit.Arv Z h b kC .char N (cs.map Value.int) d) (S : RoadKit.Sta Z h ST "COMPACT_STRINGS" "Z" (.int z)) (hz : ¬ z = 0)
    (hn : cs.length = n) (hN : N = Int32.ofNat n) (l0 : 0 < n) (l2 : n ≤ 4000) (hp : ∀ c ∈ cs, ¬ c < 0 ∧ ¬ (255 : Int32) < c) (hb : bs = cs.map (fun c => c.toInt8.toInt32)) (hfr : 4 ≤ R.frames) (hlo : W + 65 ≤ R.locals) :
    Back l R p e below s args (⟨"java/lang/String", "<init>", "([C)V"⟩ : MethodName) len W (fun P a => a = #[.ref x, .ref b] ∧ P.U.heap = h ∧ P.cells + 1 ≤ R.cells ∧ P.slots + n ≤ R.slots)
      (fun P _ v B => ∃ L, QV Z x N bs h n0 v B.U.heap L ∧ B.locs = P.locs ++ L ∧ B.cells = P.cells + 1 ∧ B.slots = P.slots + n) := by
  subst hn hN hb
  refine Back.mono (backArv hZ hw wi E V C K S hz (n32 (by omega)) l0 (by omega) (fun c hc => (hp c hc).2) hfr hlo) (fun P a hp => hp) (fun P a v B hp hq => ?_)
  obtain ⟨L, ⟨q1, q2, q3, q4, q5, q6, q7, ⟨kb, v1, v2⟩, q9⟩, hl, hc, hs⟩ := hq
  exact ⟨L, ⟨q1, fun y hy => by rw [q2 y hy]; exact hx0, q3, q5, q7, h.size, kb, hh0, Nat.le_refl _, Nat.ne_of_gt E.lt, q6, by rw [List.map_map]; exact v2⟩, hl, hc, hs⟩
end StrChars.Road
namespace StrChars
open Jvm Sem ClassFile Op Lib Jvm.Stand Jvm.Free.XT Jvm.Free.ALB Jvm.Free.JM Jvm.Free
open Jvm.Lib.Cold (StaticIs)
def hi8 (x : Int32) : Int32 := lo8 (x >>> ((8 : Int32) &&& 31))
/-- what StringUTF16.getChar makes of two bytes -/
def pairCh (u v : Int32) : Int32 := (((u &&& 255) <<< ((0 : Int32) &&& 31)) ||| ((v &&& 255) <<< ((8 : Int32) &&& 31))).toUInt32.toUInt16.toUInt32.toInt32
theorem shr0 (c : Int32) : c >>> ((0 : Int32) &&& 31) = c := by
  have e : ((0 : Int32) &&& 31) = 0 := by decide
  rw [e]
  apply Int32.toBitVec_inj.mp
  rw [Int32.toBitVec_shiftRight]
  have e1 : ((0 : Int32).toBitVec.smod 32) = 0#32 := by decide
  rw [e1, BitVec.sshiftRight_eq']
  exact BitVec.sshiftRight_zero
theorem lo8_and (x : Int32) : (lo8 x &&& 255).toBitVec.toNat = x.toBitVec.toNat % 256 := by
  have h : (lo8 x).toBitVec = (x.toBitVec.signExtend 8).signExtend 32 := by rw [lo8, Int8.toBitVec_toInt32, Int32.toBitVec_toInt8]
  rw [Int32.toBitVec_and, BitVec.toNat_and, h]
  have e : ((x.toBitVec.signExtend 8).signExtend 32).toNat % 256 = x.toBitVec.toNat % 256 := by
    rw [BitVec.toNat_signExtend]
    have hlt := x.toBitVec.isLt
    simp only [BitVec.toNat_setWidth, BitVec.toNat_signExtend]
    split <;> split <;> omega
  rw [← e]
  exact Nat.and_two_pow_sub_one_eq_mod _ 8
theorem pair_says {c : Int32} (h0 : ¬ c < 0) (h1 : ¬ 65535 < c) : pairCh (lo8 c) (hi8 c) = c := by
  rw [Int32.lt_iff_toInt_lt] at h0 h1
  have e0 : (0 : Int32).toInt = 0 := rfl
  have e1 : (65535 : Int32).toInt = 65535 := rfl
  have hc : c.toInt = c.toBitVec.toNat := by
    have := c.toBitVec.isLt
    have e : c.toInt = c.toBitVec.toInt := rfl
    rw [e] at h0 h1
    rw [e]
    rw [BitVec.toInt_eq_toNat_cond] at h0 h1 ⊢
    split at h0 <;> split <;> omega
  have hn : c.toBitVec.toNat < 65536 := by omega
  have a1 := lo8_and c
  have a2 : (hi8 c &&& 255).toBitVec.toNat = c.toBitVec.toNat / 256 := by
    rw [hi8, lo8_and]
    have e : ((8 : Int32) &&& 31) = 8 := by decide
    rw [e, Int32.toBitVec_shiftRight]
    have e2 : ((8 : Int32).toBitVec.smod 32) = 8#32 := by decide
    rw [e2, BitVec.sshiftRight_eq', BitVec.toNat_sshiftRight_of_msb_false (by rw [BitVec.msb_eq_false_iff_two_mul_lt]; omega)]
    show c.toBitVec.toNat >>> 8 % 256 = _
    rw [Nat.shiftRight_eq_div_pow]
    omega
  unfold pairCh
  apply Int32.toBitVec_inj.mp
  apply BitVec.eq_of_toNat_eq
  have f0 : ((0 : Int32) &&& 31) = 0 := by decide
  have f8 : ((8 : Int32) &&& 31) = 8 := by decide
  rw [f0, f8]
  have g : (((lo8 c &&& 255) <<< (0 : Int32)) ||| ((hi8 c &&& 255) <<< (8 : Int32))).toBitVec.toNat = c.toBitVec.toNat := by
    rw [Int32.toBitVec_or, Int32.toBitVec_shiftLeft, Int32.toBitVec_shiftLeft]
    have s0 : ((0 : Int32).toBitVec.smod 32) = 0#32 := by decide
    have s8 : ((8 : Int32).toBitVec.smod 32) = 8#32 := by decide
    rw [s0, s8, BitVec.toNat_or]
    simp only [BitVec.shiftLeft_eq', BitVec.toNat_shiftLeft, a1, a2]
    show (c.toBitVec.toNat % 256) <<< 0 % 2 ^ 32 ||| (c.toBitVec.toNat / 256) <<< 8 % 2 ^ 32 = _
    rw [Nat.shiftLeft_zero, Nat.mod_eq_of_lt (show c.toBitVec.toNat % 256 < 2 ^ 32 by omega), Nat.mod_eq_of_lt (show (c.toBitVec.toNat / 256) <<< 8 < 2 ^ 32 by rw [Nat.shiftLeft_eq]; omega), Nat.or_comm, ← Nat.shiftLeft_add_eq_or_of_lt (by omega), Nat.shiftLeft_eq]
    omega
  show BitVec.toNat (((((lo8 c &&& 255) <<< (0 : Int32)) ||| ((hi8 c &&& 255) <<< (8 : Int32))).toBitVec.setWidth 16).setWidth 32) = _
  rw [BitVec.toNat_setWidth, BitVec.toNat_setWidth, g]
  omega
end StrChars
namespace StrChars
open Jvm Sem ClassFile Op Lib Jvm.Stand Jvm.Free.XT Jvm.Free.ALB Jvm.Free.JM Jvm.Free
open Jvm.Lib.Cold (StaticIs)
theorem shr1 {n : Nat} (h : 2 * n < 2 ^ 31) : Int32.ofNat (2 * n) >>> ((1 : Int32) &&& 31) = Int32.ofNat n := by
  have e : ((1 : Int32) &&& 31) = 1 := by decide
  rw [e]
  apply Int32.toBitVec_inj.mp
  rw [Int32.toBitVec_shiftRight]
  have e1 : ((1 : Int32).toBitVec.smod 32) = 1#32 := by decide
  have hm : (BitVec.ofNat 32 (2 * n)).toNat = 2 * n := by rw [BitVec.toNat_ofNat, Nat.mod_eq_of_lt (by omega)]
  rw [e1, BitVec.sshiftRight_eq']
  apply BitVec.eq_of_toNat_eq
  show ((BitVec.ofNat 32 (2 * n)).sshiftRight 1).toNat = (BitVec.ofNat 32 n).toNat
  rw [BitVec.toNat_sshiftRight_of_msb_false (by rw [BitVec.msb_eq_false_iff_two_mul_lt, hm]; omega), hm, BitVec.toNat_ofNat, Nat.shiftRight_eq_div_pow]
  omega
theorem narrow_ch {c : Int32} (h0 : ¬ c < 0) (h1 : ¬ 65535 < c) : narrow .char (.int c) = .int c := by
  have q : narrow .char (.int (pairCh (lo8 c) (hi8 c))) = .int (pairCh (lo8 c) (hi8 c)) := narrow_c _
  rwa [pair_says h0 h1] at q
/-- the array's cell V codes the n chars f 0 .. f (n - 1) by the coder cd, as the JDK does: coder 1 just where some char is above 255 -/
def Cod (cd : Int32) (n : Nat) (f : Nat → Int32) (V : Cell) : Prop := (cd = 0 ∧ V.slots.size = n ∧ ∀ j, j < n → V.slots[j]? = some (.int (lo8 (f j))) ∧ ¬ 255 < f j) ∨ (cd = 1 ∧ V.slots.size = 2 * n ∧ (∀ j, j < n → V.slots[2 * j]? = some (.int (lo8 (f j))) ∧ V.slots[2 * j + 1]? = some (.int (hi8 (f j)))) ∧ ∃ j, j < n ∧ 255 < f j)
theorem Cod.cd {cd : Int32} {n : Nat} {f : Nat → Int32} {V : Cell} (h : Cod cd n f V) : cd = 0 ∨ cd = 1 := h.imp (fun q => q.1) fun q => q.1
theorem Cod.len {cd : Int32} {n : Nat} {f : Nat → Int32} {V : Cell} (h : Cod cd n f V) (hs : V.slots.size < 2 ^ 31) : Int32.ofNat V.slots.size >>> (cd &&& 31) = Int32.ofNat n := by
  rcases h with ⟨rfl, h, -⟩ | ⟨rfl, h, -⟩
  · rw [shr0, h]
  · rw [h, shr1 (by omega)]
/-- **x is a String of the n chars f 0 .. f (n - 1)**, Latin-1 or UTF-16; its array at t has the cell V -/
def Txt (x t : Addr) (V : Cell) (cd : Int32) (n : Nat) (f : Nat → Int32) (U : State) : Prop := Exact "java/lang/String" x U ∧ Has x "java/lang/String" "value" "[B" (.ref t) U ∧ Has x "java/lang/String" "coder" "B" (.int cd) U ∧ XT.Arr .byte t V U ∧ Cod cd n f V ∧ ∀ j, j < n → ¬ f j < 0 ∧ ¬ 65535 < f j
theorem Txt.mv {x t : Addr} {V : Cell} {cd : Int32} {n : Nat} {f : Nat → Int32} {U U' : State} (h : Txt x t V cd n f U) (hal : U.vm.Alike U'.vm) (hh : U'.heap = U.heap) : Txt x t V cd n f U' := ⟨h.1.mv hal hh, h.2.1.mv hal hh, h.2.2.1.mv hal hh, h.2.2.2.1.mv hal hh, h.2.2.2.2⟩
namespace Cdr
def yN : MethodName := ⟨"java/lang/String", "coder", "()B"⟩
abbrev yB : ByteArray := jdk_42_method_152_code
theorem d0 : decode yB 0 = .ok (.getstatic 38, 3) := by decide +kernel
theorem d3 : decode yB 3 = .ok (.ifCond (.eq) 10, 3) := by decide +kernel
theorem d6 : decode yB 6 = .ok (.aload_n 0, 1) := by decide +kernel
theorem d7 : decode yB 7 = .ok (.getfield 15, 3) := by decide +kernel
theorem d10 : decode yB 10 = .ok (.goto 4, 3) := by decide +kernel
theorem d14 : decode yB 14 = .ok (.ireturn, 1) := by decide +kernel
def site : List Cond := [.fieldLink "java/lang/String" 38 "java/lang/String" "COMPACT_STRINGS" "Z", .fieldLink "java/lang/String" 15 "java/lang/String" "coder" "B"]
def tab : Cond := tabOf yN yB 1 (some .byte) site
def P (x : Addr) (cd z : Int32) (args : Array Value) (s : State) : Prop := args = #[.ref x] ∧ Has x "java/lang/String" "coder" "B" (.int cd) s ∧ (cd = 0 ∨ cd = 1) ∧ StaticIs s "java/lang/String" "COMPACT_STRINGS" "Z" (.int z) ∧ ¬ z = 0
def E (cd : Int32) (r : Option Value) (s u : State) : Prop := XT.PureE (some (.int cd)) r s u
theorem law (l : Launch) (x : Addr) (cd z : Int32) : Law l yN 1 0 0 0 yB 1 (some .byte) site (P x cd z) (E cd) [] 0 0 := by
  refine Law.of_walk (plainFor_of_name (by decide +kernel)) (by decide +kernel) (by decide +kernel) (by decide) (fun _ _ h => by rw [h.1]; rfl) (fun _ U U' hal hh h => ⟨h.1, h.2.1.mv hal hh, h.2.2.1, h.2.2.2.1.there hal hh, h.2.2.2.2⟩) (fun r U U' V V' h1 hal h2 h => XT.PureE.mv r U U' V V' h1 hal h2 h) ?_
  intro p e s m args below meth c s₁ X0 hexec hbytes hml hret hlk hnm hown hh0 W hP
  obtain ⟨rfl, hx, hc, s1, hz⟩ := hP
  have c1 : Steps p.tables e below (s₁.setTop (entryFrame m #[.ref x] 1)) (s₁.setTop (mkF m 0 #[.val (.ref x)] [])) := entry rfl
  obtain ⟨T2, X2, q2, st2⟩ := X0.sget hexec hown (wk W (.fieldLink "java/lang/String" 38 "java/lang/String" "COMPACT_STRINGS" "Z")) s1 (fun _ _ h => by rw [hh0]; exact h) (g := (mkF m 0 #[.val (.ref x)] [])) rfl (hb hbytes d0)
  have hh2 := q2.trans hh0
  have c3 : Steps p.tables e below (s₁.setTop (entryFrame m #[.ref x] 1)) (T2.setTop (mkF m 7 #[.val (.ref x)] [.ref x])) := (c1.trans (st2 _ (Steps.refl _))).trans (by
    refine XS.ifNo X2.here hexec rfl (hb hbytes d3) rfl (i0_eq_f hz) ?_
    refine XS.aloadN X2.here hexec rfl (hb hbytes d6) rfl rfl ?_
    exact Steps.refl _)
  obtain ⟨T4, X4, q4, st4⟩ := X2.hget hexec hown (wk W (.fieldLink "java/lang/String" 15 "java/lang/String" "coder" "B")) (hx.mv X2.warmed.alike hh2) (g := (mkF m 7 #[.val (.ref x)] [.ref x])) rfl (rest := []) rfl (hb hbytes d7)
  have c5 : Steps p.tables e below (s₁.setTop (entryFrame m #[.ref x] 1)) (T4.setTop (mkF m 14 #[.val (.ref x)] [.int cd])) := (c3.trans (st4 _ (Steps.refl _))).trans (by
    refine XS.goto X4.here hexec rfl (pc0 := 10) rfl (hb hbytes d10) (by decide) rfl ?_
    exact Steps.refl _)
  exact ⟨T4, some (.int cd), _, _, _, X4, rfl, rfl, rfl, (fun h => by cases h), ⟨rfl, q4.trans hh2⟩, fun fs hl => c5.trans (X4.ireturnOut hexec hret (by rcases hc with rfl | rfl <;> rfl) (Or.inr (Or.inr (Or.inl rfl))) (hb hbytes d14) hl)⟩
end Cdr
namespace Len
def yN : MethodName := ⟨"java/lang/String", "length", "()I"⟩
abbrev yB : ByteArray := jdk_42_method_54_code
theorem d0 : decode yB 0 = .ok (.aload_n 0, 1) := by decide +kernel
theorem d1 : decode yB 1 = .ok (.getfield 9, 3) := by decide +kernel
theorem d4 : decode yB 4 = .ok (.arraylength, 1) := by decide +kernel
theorem d5 : decode yB 5 = .ok (.aload_n 0, 1) := by decide +kernel
theorem d6 : decode yB 6 = .ok (.invokevirtual 335, 3) := by decide +kernel
theorem d9 : decode yB 9 = .ok (.ishr, 1) := by decide +kernel
theorem d10 : decode yB 10 = .ok (.ireturn, 1) := by decide +kernel
def site : List Cond := [.fieldLink "java/lang/String" 9 "java/lang/String" "value" "[B", Cdr.tab] ++ virtW "java/lang/String" 335 "java/lang/String" Cdr.yN Cdr.yN
def tab : Cond := tabOf yN yB 1 (some .int) site
def P (x t : Addr) (V : Cell) (cd : Int32) (n : Nat) (f : Nat → Int32) (z : Int32) (args : Array Value) (s : State) : Prop := args = #[.ref x] ∧ Txt x t V cd n f s ∧ StaticIs s "java/lang/String" "COMPACT_STRINGS" "Z" (.int z) ∧ ¬ z = 0
def E (n : Nat) (r : Option Value) (s u : State) : Prop := XT.PureE (some (.int (Int32.ofNat n))) r s u
/-- length() of a String of n chars, in either coding -/
theorem law (l : Launch) (x t : Addr) (V : Cell) (cd : Int32) (n : Nat) (f : Nat → Int32) (z : Int32) : Law l yN 1 0 1 13 yB 1 (some .int) site (P x t V cd n f z) (E n) [] 0 0 := by
  refine Law.of_walk (plainFor_of_name (by decide +kernel)) (by decide +kernel) (by decide +kernel) (by decide) (fun _ _ h => by rw [h.1]; rfl) (fun _ U U' hal hh h => ⟨h.1, h.2.1.mv hal hh, h.2.2.1.there hal hh, h.2.2.2⟩) (fun r U U' V V' h1 hal h2 h => XT.PureE.mv r U U' V V' h1 hal h2 h) ?_
  intro p e s m args below meth c s₁ X0 hexec hbytes hml hret hlk hnm hown hh0 W hP
  obtain ⟨rfl, hx, s1, hz⟩ := hP
  have v31 := hx.2.2.2.1.2.2.2
  have c1 : Steps p.tables e below (s₁.setTop (entryFrame m #[.ref x] 1)) (s₁.setTop (mkF m 1 #[.val (.ref x)] [.ref x])) := Steps.trans (entry rfl) (by
    show Steps p.tables e below (s₁.setTop (mkF m 0 #[.val (.ref x)] [])) _
    refine XS.aloadN X0.here hexec rfl (hb hbytes d0) rfl rfl ?_
    exact Steps.refl _)
  obtain ⟨T2, X2, q2, st2⟩ := X0.hget hexec hown (wk W (.fieldLink "java/lang/String" 9 "java/lang/String" "value" "[B")) (hx.mv X0.warmed.alike hh0).2.1 (g := (mkF m 1 #[.val (.ref x)] [.ref x])) rfl (rest := []) rfl (hb hbytes d1)
  have hh2 := q2.trans hh0
  have hx2 := hx.mv X2.warmed.alike hh2
  have c3 : Steps p.tables e below (s₁.setTop (entryFrame m #[.ref x] 1)) (T2.setTop (mkF m 6 #[.val (.ref x)] [.ref x, .int (Int32.ofNat V.slots.size)])) := (c1.trans (st2 _ (Steps.refl _))).trans (by
    refine X2.alen hexec hx2.2.2.2.1 rfl rfl (hb hbytes d4) ?_
    refine XS.aloadN X2.here hexec rfl (hb hbytes d5) rfl rfl ?_
    exact Steps.refl _)
  obtain ⟨v4, T4, X4, E4, g4⟩ := X2.callV hexec (Cdr.law l x cd z) hown (wks W (virtW "java/lang/String" 335 "java/lang/String" Cdr.yN Cdr.yN)) rfl (by decide) (wk W Cdr.tab) (W := 1) (Nat.le_of_ble_eq_true rfl) (Nat.le_of_ble_eq_true rfl) (Nat.le_refl _) (Nat.le_refl _) (hx2.1.fc X2.warmed.alike) hx2.1.is (g := (mkF m 6 #[.val (.ref x)] [.ref x, .int (Int32.ofNat V.slots.size)])) rfl (by rw [hml]; rfl) c3 (argsL := []) (rest := [.int (Int32.ofNat V.slots.size)]) rfl rfl (by show 2 * 0 + (1 + 0) ≤ _; decide) (hb hbytes d6) (⟨rfl, hx2.2.2.1, hx.2.2.2.2.1.cd, s1.there X2.warmed.alike hh2, hz⟩)
  obtain ⟨rfl, q4⟩ := E4
  have c5 : Steps p.tables e below (s₁.setTop (entryFrame m #[.ref x] 1)) (T4.setTop (mkF m 10 #[.val (.ref x)] [.int (Int32.ofNat V.slots.size >>> (cd &&& 31))])) := Steps.trans g4 (by
    refine ishr X4.here hexec rfl (hb hbytes d9) rfl ?_
    exact Steps.refl _)
  rw [hx.2.2.2.2.1.len v31] at c5
  exact ⟨T4, some (.int (Int32.ofNat n)), _, _, _, X4, rfl, rfl, rfl, (fun h => by cases h), ⟨rfl, q4.trans hh2⟩, fun fs hl => c5.trans (X4.ireturnOut hexec hret rfl (Or.inl rfl) (hb hbytes d10) hl)⟩
theorem pays {l : Launch} {R : Room} {p : Program} {e : Env} {below : List Frame} {s : State} {sargs : Array Value} {len W : Nat} (x t : Addr) (V : Cell) (cd : Int32) (n : Nat) (f : Nat → Int32) (z : Int32) (htab : tab.before sargs s = true) (hfr : 2 ≤ R.frames) (hlo : W + 25 ≤ R.locals) :
    Back l R p e below s sargs yN len W (fun A₁ a₁ => A₁.cells + 0 ≤ R.cells ∧ A₁.slots + 0 ≤ R.slots ∧ P x t V cd n f z a₁ A₁.U) (fun A₁ _ v₁ B₁ => E n v₁ A₁.U B₁.U ∧ B₁.locs = A₁.locs ++ [] ∧ B₁.cells = A₁.cells + 0 ∧ B₁.slots = A₁.slots + 0) :=
  (law l x t V cd n f z).pays htab hfr (by omega)
end Len
end StrChars
namespace StrChars.Road
open Jvm Sem ClassFile Op Lib Jvm.Stand Jvm.Free Jvm.Free.XT
open Jvm.Lib.Cold (StaticIs)
theorem consq {a : Array Value} {s : State} {c : Jvm.Cond} {L : List Jvm.Cond} (h0 : c.before a s = true) (h : ∀ w ∈ L, w.before a s = true) : ∀ w ∈ c :: L, w.before a s = true := fun w hw => (List.mem_cons.mp hw).elim (fun e => e ▸ h0) (h w)
/-- the words of String.length(), either coding -/
abbrev wordsLen : List Jvm.Cond := [.code Len.yN Len.yB 1 (some .int), .initialized ST, .fieldLink ST 9 ST "value" "[B", .fieldLink ST 38 ST "COMPACT_STRINGS" "Z", .fieldLink ST 15 ST "coder" "B", .code Cdr.yN Cdr.yB 1 (some .byte), .methodLink ST 335 Cdr.yN, .declares Cdr.yN, .selects ST Cdr.yN Cdr.yN, .instanceMethod Cdr.yN]
theorem tabLen_of {a : Array Value} {s : State} (h : ∀ w ∈ wordsLen, w.before a s = true) : Len.tab.before a s = true := by
  have hc : Cdr.tab.before a s = true := unparts (wk h (.code Cdr.yN Cdr.yB 1 (some .byte))) (wks h (.initialized Cdr.yN.cls :: Cdr.site))
  have q := consq hc h
  exact unparts (wk q (.code Len.yN Len.yB 1 (some .int))) (wks q (.initialized Len.yN.cls :: Len.site))
theorem movedLen {Z s : State} {a0 args : Array Value} (hZ : Z.Warmed39 s.vm) (hw : ∀ d ∈ wordsLen, d.before a0 Z = true) : ∀ d ∈ wordsLen, d.before args s = true := fun d hd => by
  have q := hw d hd
  have t : ∀ d ∈ wordsLen, d = .arrayClass .byte ∨ (d.onTables && d.keepsFace) = true := by decide +kernel
  rcases t d hd with rfl | t
  · exact RoadKit.mvA hZ q
  · exact RoadKit.mv hZ q t
/-- the bytes of the chars cs, low before high -/
def wideBytes : List Int32 → List Value
  | [] => []
  | c :: cs => .int (lo8 c) :: .int (hi8 c) :: wideBytes cs
theorem wide_lo (d : Value) : ∀ (cs : List Int32) (j : Nat), j < cs.length → (wideBytes cs).getD (2 * j) d = .int (lo8 (cs.getD j 0))
  | [], j, h => absurd h (Nat.not_lt_zero j)
  | c :: cs, 0, _ => rfl
  | c :: cs, j + 1, h => by
    have q := wide_lo d cs j (by simpa using h)
    rw [show 2 * (j + 1) = 2 * j + 1 + 1 from by omega]
    simpa [wideBytes] using q
theorem wide_hi (d : Value) : ∀ (cs : List Int32) (j : Nat), j < cs.length → (wideBytes cs).getD (2 * j + 1) d = .int (hi8 (cs.getD j 0))
  | [], j, h => absurd h (Nat.not_lt_zero j)
  | c :: cs, 0, _ => rfl
  | c :: cs, j + 1, h => by
    have q := wide_hi d cs j (by simpa using h)
    rw [show 2 * (j + 1) + 1 = 2 * j + 1 + 1 + 1 from by omega]
    simpa [wideBytes] using q
theorem low_at (d : Value) (cs : List Int32) (j : Nat) (h : j < cs.length) : (cs.map fun c => Value.int (lo8 c)).getD j d = .int (lo8 (cs.getD j 0)) := by
  simp [List.getD_eq_getElem?_getD, h]
/-- an array of N2 bytes vs codes the chars cs by the coder cd -/
def CodA (cs : List Int32) (cd N2 : Int32) (vs : List Value) : Prop := (cd = 0 ∧ N2 = Int32.ofNat cs.length ∧ vs = (cs.map fun c => Value.int (lo8 c)) ∧ ∀ c ∈ cs, ¬ 255 < c) ∨ (cd = 1 ∧ N2 = Int32.ofNat (2 * cs.length) ∧ vs = wideBytes cs ∧ ∃ c ∈ cs, 255 < c)
theorem CodA.cod {cs : List Int32} {cd N2 : Int32} {vs : List Value} {V : Cell} (h : CodA cs cd N2 vs) (hn : 2 * cs.length < 2 ^ 31) (hs : V.slots.size = N2.toNatClampNeg) (hv : RoadKit.Has V vs (.int 0)) : Cod cd cs.length (fun j => cs.getD j 0) V := by
  rcases h with ⟨rfl, rfl, rfl, h⟩ | ⟨rfl, rfl, rfl, c, hc, hw⟩
  · rw [n32 (by omega)] at hs
    exact Or.inl ⟨rfl, hs, fun j hj => ⟨by rw [hv j (by omega), low_at _ _ _ hj], by
      have e : cs.getD j 0 = cs[j] := by simp [List.getD_eq_getElem?_getD, hj]
      show ¬ 255 < cs.getD j 0
      rw [e]; exact h _ (List.getElem_mem _)⟩⟩
  · rw [n32 (by omega)] at hs
    obtain ⟨j, hj, rfl⟩ := List.getElem_of_mem hc
    exact Or.inr ⟨rfl, hs, fun j hj => ⟨by rw [hv _ (by omega), wide_lo _ _ _ hj], by rw [hv _ (by omega), wide_hi _ _ _ hj]⟩, j, hj, by
      have e : cs.getD j 0 = cs[j] := by simp [List.getD_eq_getElem?_getD, hj]
      show 255 < cs.getD j 0
      rw [e]; exact hw⟩
/-- an object of exactly java/lang/String, its two fields found: as the laws ask it -/
theorem strObj {Z U : State} {a0 : Array Value} {kI : Nat} (wi : (Jvm.Cond.instantiable ST kI).before a0 Z = true) (al : Z.vm.Alike U.vm) {x : Addr} {v0 c0 : Value} (E : RoadKit.Exa Z U.heap x ST) (V : RoadKit.Fld Z U.heap x ST "value" "[B" v0) (C : RoadKit.Fld Z U.heap x ST "coder" "B" c0) :
    ∃ (D : Cell) (fV fC : Field), Blank ST x D U ∧ Found ST "value" "[B" fV U ∧ Found ST "coder" "B" fC U ∧ D.slots[fV.slot]? = some v0 ∧ D.slots[fC.slot]? = some c0 ∧ RoadKit.slotOf Z ST "value" "[B" = fV.slot ∧ RoadKit.slotOf Z ST "coder" "B" = fC.slot := by
  obtain ⟨D, cfV, kV, iV, fV, hD, gV, stV, knV, obV, asV, slV⟩ := V
  obtain ⟨D', cfC, kC, iC, fC, hD', gC, stC, -, -, asC, slC⟩ := C
  cases hD.symm.trans hD'
  obtain ⟨D2, kD, e1, e2, e3, e4, e5⟩ := E
  cases hD.symm.trans e1
  obtain ⟨c2, k2, i1, i2, i3, -⟩ := Cond.instantiable_spec wi
  cases e2.symm.trans i1
  cases e3.symm.trans i2
  obtain ⟨kU, u1, u2⟩ := al.2.2 _ _ e3
  exact ⟨D, fV, fC, ⟨hD, ⟨knV, fun q hq => by rw [hq] at obV; cases obV⟩, by rw [al.findClass]; exact e2, kU, u1, by rw [u2]; exact i3, by rw [u2]; exact e5 i3⟩, ⟨SBG.found_only al ⟨cfV, kV, iV, gV⟩, stV⟩, ⟨SBG.found_only al ⟨cfC, kC, iC, gC⟩, stC⟩, slV, slC, by simp [RoadKit.slotOf, gV], by simp [RoadKit.slotOf, gC]⟩
theorem sta_is {Z U : State} (al : Z.vm.Alike U.vm) {C n d : String} {v : Value} (S : RoadKit.Sta Z U.heap C n d v) : StaticIs U C n d v := by
  obtain ⟨cfS, iS, kS, fS, st, cS, t1, t2, t3, t4, t5, t6, t7⟩ := S
  exact StaticIs.there (s := { Z with heap := U.heap }) ⟨cfS, iS, kS, fS, st, cS, t1, t2, t3, t4, t5, (fun q => by rw [q] at t6; cases t6), t7⟩ al rfl
/-- **length() OF SUCH A STRING** -/
theorem lenW {p : Program} {l : Launch} {e : Env} {R : Room} {s : State} {args : Array Value} {below : List Frame} {len W : Nat} {Z : State} {a0 : Array Value} {h : Heap} (hZ : Z.Warmed39 s.vm) (hw : ∀ d ∈ wordsLen, d.before a0 Z = true) {kI : Nat} (wi : (Jvm.Cond.instantiable ST kI).before a0 Z = true)
    {x t : Addr} {kb : ClassId} {cs : List Int32} {cd N2 z : Int32} {vs : List Value} (E : RoadKit.Exa Z h x ST) (V : RoadKit.Fld Z h x ST "value" "[B" (.ref t)) (C : RoadKit.Fld Z h x ST "coder" "B" (.int cd)) (K : RoadKit.Arv Z h t kb .byte N2 vs (.int 0)) (hc : CodA cs cd N2 vs) (hb : ∀ c ∈ cs, ¬ c < 0 ∧ ¬ (65535 : Int32) < c)
    (S : RoadKit.Sta Z h ST "COMPACT_STRINGS" "Z" (.int z)) (hz : ¬ z = 0) (l2 : cs.length ≤ 4000) (hfr : 2 ≤ R.frames) (hlo : W + 25 ≤ R.locals) :
    Back l R p e below s args (⟨"java/lang/String", "length", "()I"⟩ : MethodName) len W (fun P a => a = #[.ref x] ∧ P.U.heap = h ∧ P.cells + 0 ≤ R.cells ∧ P.slots + 0 ≤ R.slots)
      (fun P _ v B => ∃ L, (v = some (.int (Int32.ofNat cs.length)) ∧ L = [] ∧ B.U.heap = h) ∧ B.locs = P.locs ++ L ∧ B.cells = P.cells + 0 ∧ B.slots = P.slots + 0) := by
  obtain ⟨A, K1, K2, K3, K4, K5, K6⟩ := K
  have hcod := hc.cod (by omega) K3 K5
  intro m meth c P g ig mk a X hg hsize hdg hW hn hp'
  obtain ⟨rfl, rfl, r1, r2⟩ := hp'
  have al : Z.vm.Alike P.U.vm := hZ.alike.trans X.warmed.alike
  obtain ⟨D, fV, fC, hB, F1, F2, g1, g2, -, -⟩ := strObj wi al E V C
  have hx : Txt x t A cd cs.length (fun j => cs.getD j 0) P.U := ⟨⟨_, hB.2.2.1, D, hB.1, rfl, by cases q : D.vm <;> first | rfl | exact absurd q (hB.2.1.2 _)⟩, Has.of hB F1 g1, Has.of hB F2 g2, ⟨K1.1, State.isArrayOf_alike al K1.2.1, K1.2.2, by rcases hcod with ⟨-, q, -⟩ | ⟨-, q, -⟩ <;> omega⟩, hcod, fun j hj => by
    have e : cs.getD j 0 = cs[j] := by simp [List.getD_eq_getElem?_getD, hj]
    show ¬ cs.getD j 0 < 0 ∧ ¬ 65535 < cs.getD j 0
    rw [e]; exact hb _ (List.getElem_mem _)⟩
  obtain ⟨v, B, X', ⟨⟨hv, hh⟩, hl, hk, hs⟩, st⟩ := Len.pays x t A cd cs.length (fun j => cs.getD j 0) z (tabLen_of (movedLen hZ hw)) hfr hlo m meth c P g ig mk _ X hg hsize hdg hW hn ⟨r1, r2, rfl, hx, sta_is al S, hz⟩
  exact ⟨v, B, X', ⟨[], ⟨hv, rfl, hh⟩, hl, hk, hs⟩, st⟩
end StrChars.Road
namespace StrChars
open Jvm Sem ClassFile Op Lib Jvm.Stand Jvm.Free.XT Jvm.Free.ALB Jvm.Free.JM Jvm.Free
open Jvm.Lib.Cold (StaticIs)
/-- what place i of a byte[]'s cell holds -/
def yv (A : Cell) (i : Nat) : Int32 := match A.slots[i]? with | some (.int x) => x | _ => 0
theorem yv_get {a : Addr} {A : Cell} {U : State} (h : XT.Arr .byte a A U) (ht : Typed .byte A) {i : Nat} (hi : i < A.slots.size) : A.slots[i]? = some (.int (yv A i)) := by
  have e := Array.getElem?_eq_getElem hi
  have f := ht i _ e
  unfold yv; rw [e]
  generalize A.slots[i] = v at f
  cases v <;> simp [fits] at f ⊢
/-- the two arrays are equal, place for place -/
def EqC (A B : Cell) : Prop := A.slots.size = B.slots.size ∧ ∀ i, i < A.slots.size → yv A i = yv B i
/-- a boolean that says whether p -/
def Says01 (q : Prop) (r : Option Value) (s u : State) : Prop := ∃ v : Int32, r = some (.int v) ∧ u.heap = s.heap ∧ ((v = 1 ∧ q) ∨ (v = 0 ∧ ¬ q))
theorem Says01.mv {q : Prop} : ∀ r (U U' V V' : State), U'.heap = U.heap → V.vm.Alike V'.vm → V'.heap = V.heap → Says01 q r U V → Says01 q r U' V' :=
  fun r U U' V V' h1 _ h2 ⟨v, a, b, c⟩ => ⟨v, a, by rw [h1, h2]; exact b, c⟩
namespace LEq
def yN : MethodName := ⟨"java/lang/StringLatin1", "equals", "([B[B)Z"⟩
abbrev yB : ByteArray := jdk_43_method_13_code
theorem d0 : decode yB 0 = .ok (.aload_n 0, 1) := by decide +kernel
theorem d1 : decode yB 1 = .ok (.arraylength, 1) := by decide +kernel
theorem d2 : decode yB 2 = .ok (.aload_n 1, 1) := by decide +kernel
theorem d3 : decode yB 3 = .ok (.arraylength, 1) := by decide +kernel
theorem d4 : decode yB 4 = .ok (.if_icmp (.ne) 30, 3) := by decide +kernel
theorem d7 : decode yB 7 = .ok (.iconst 0, 1) := by decide +kernel
theorem d8 : decode yB 8 = .ok (.istore_n 2, 1) := by decide +kernel
theorem d9 : decode yB 9 = .ok (.iload_n 2, 1) := by decide +kernel
theorem d10 : decode yB 10 = .ok (.aload_n 0, 1) := by decide +kernel
theorem d11 : decode yB 11 = .ok (.arraylength, 1) := by decide +kernel
theorem d12 : decode yB 12 = .ok (.if_icmp (.ge) 20, 3) := by decide +kernel
theorem d15 : decode yB 15 = .ok (.aload_n 0, 1) := by decide +kernel
theorem d16 : decode yB 16 = .ok (.iload_n 2, 1) := by decide +kernel
theorem d17 : decode yB 17 = .ok (.baload, 1) := by decide +kernel
theorem d18 : decode yB 18 = .ok (.aload_n 1, 1) := by decide +kernel
theorem d19 : decode yB 19 = .ok (.iload_n 2, 1) := by decide +kernel
theorem d20 : decode yB 20 = .ok (.baload, 1) := by decide +kernel
theorem d21 : decode yB 21 = .ok (.if_icmp (.eq) 5, 3) := by decide +kernel
theorem d24 : decode yB 24 = .ok (.iconst 0, 1) := by decide +kernel
theorem d25 : decode yB 25 = .ok (.ireturn, 1) := by decide +kernel
theorem d26 : decode yB 26 = .ok (.iinc 2 1, 3) := by decide +kernel
theorem d29 : decode yB 29 = .ok (.goto (-20), 3) := by decide +kernel
theorem d32 : decode yB 32 = .ok (.iconst 1, 1) := by decide +kernel
theorem d33 : decode yB 33 = .ok (.ireturn, 1) := by decide +kernel
theorem d34 : decode yB 34 = .ok (.iconst 0, 1) := by decide +kernel
theorem d35 : decode yB 35 = .ok (.ireturn, 1) := by decide +kernel
def site : List Cond := []
def tab : Cond := tabOf yN yB 3 (some .boolean) site
def P (a : Addr) (A : Cell) (b : Addr) (B : Cell) (args : Array Value) (s : State) : Prop := args = #[.ref a, .ref b] ∧ XT.Arr .byte a A s ∧ Typed .byte A ∧ XT.Arr .byte b B s ∧ Typed .byte B
/-- whether two byte[] are equal, place for place -/
theorem law (l : Launch) (a : Addr) (A : Cell) (b : Addr) (B : Cell) : Law l yN 2 2 0 0 yB 3 (some .boolean) site (P a A b B) (Says01 (EqC A B)) [] 0 0 := by
  refine Law.of_walk (plainFor_of_name (by decide +kernel)) (by decide +kernel) (by decide +kernel) (by decide) (fun _ _ h => by rw [h.1]; rfl) (fun _ U U' hal hh h => ⟨h.1, h.2.1.mv hal hh, h.2.2.1, h.2.2.2.1.mv hal hh, h.2.2.2.2⟩) (fun r U U' V V' h1 hal h2 h => Says01.mv r U U' V V' h1 hal h2 h) ?_
  intro p e s m args below meth c s₁ X0 hexec hbytes hml hret hlk hnm hown hh0 W hP
  obtain ⟨rfl, hA, tA, hB, tB⟩ := hP
  have a31 := hA.2.2.2
  have b31 := hB.2.2.2
  have hA0 := hA.mv X0.warmed.alike hh0
  have hB0 := hB.mv X0.warmed.alike hh0
  have c1 : Steps p.tables e below (s₁.setTop (entryFrame m #[.ref a, .ref b] 3)) (s₁.setTop (mkF m 0 #[.val (.ref a), .val (.ref b), .unset] [])) := entry rfl
  have c2 : Steps p.tables e below (s₁.setTop (entryFrame m #[.ref a, .ref b] 3)) (s₁.setTop (mkF m 4 #[.val (.ref a), .val (.ref b), .unset] [.int (Int32.ofNat B.slots.size), .int (Int32.ofNat A.slots.size)])) := c1.trans (by
    refine XS.aloadN X0.here hexec rfl (hb hbytes d0) rfl rfl ?_
    refine X0.alen hexec hA0 rfl rfl (hb hbytes d1) ?_
    refine XS.aloadN X0.here hexec rfl (hb hbytes d2) rfl rfl ?_
    refine X0.alen hexec hB0 rfl rfl (hb hbytes d3) ?_
    exact Steps.refl _)
  by_cases hs : A.slots.size = B.slots.size
  · have c3 : Steps p.tables e below (s₁.setTop (entryFrame m #[.ref a, .ref b] 3)) (s₁.setTop (mkF m 9 #[.val (.ref a), .val (.ref b), .val (.int 0)] [])) := c2.trans (by
      refine XS.icmpNo X0.here hexec rfl (hb hbytes d4) rfl (ii_ne_f (by rw [hs])) ?_
      refine iconstV X0.here hexec rfl 0 (hb hbytes d7) (by decide) ?_
      refine XS.istoreN X0.here hexec rfl (hb hbytes d8) rfl rfl ?_
      exact Steps.refl _)
    have loop : ∀ (r i : Nat), i + r = A.slots.size → (∀ j, j < i → yv A j = yv B j) → Steps p.tables e below (s₁.setTop (entryFrame m #[.ref a, .ref b] 3)) (s₁.setTop (mkF m 9 #[.val (.ref a), .val (.ref b), .val (.int (Int32.ofNat i))] [])) → ∃ (pc : Nat) (Ls : Array Slot) (v : Int32), (pc = 25 ∨ pc = 33) ∧ ((v = 1 ∧ EqC A B) ∨ (v = 0 ∧ ¬ EqC A B)) ∧ Steps p.tables e below (s₁.setTop (entryFrame m #[.ref a, .ref b] 3)) (s₁.setTop (mkF m pc Ls [.int v])) := by
      intro r
      induction r with
      | zero =>
        intro i hi he cl
        exact ⟨33, _, 1, Or.inr rfl, Or.inl ⟨rfl, hs, fun j hj => he j (by omega)⟩, cl.trans (by
          refine XS.iloadN X0.here hexec rfl (hb hbytes d9) rfl ?_
          refine XS.aloadN X0.here hexec rfl (hb hbytes d10) rfl rfl ?_
          refine X0.alen hexec hA0 rfl rfl (hb hbytes d11) ?_
          refine XS.icmpYes X0.here hexec rfl (pc0 := 12) rfl (hb hbytes d12) rfl (ii_ge_t (nlt32 (by omega) (by omega))) (by decide) rfl ?_
          refine iconstV X0.here hexec rfl 1 (hb hbytes d32) (by decide) ?_
          exact Steps.refl _)⟩
      | succ r ih =>
        intro i hi he cl
        have c4 : Steps p.tables e below (s₁.setTop (entryFrame m #[.ref a, .ref b] 3)) (s₁.setTop (mkF m 21 #[.val (.ref a), .val (.ref b), .val (.int (Int32.ofNat i))] [.int (yv B i), .int (yv A i)])) := cl.trans (by
          refine XS.iloadN X0.here hexec rfl (hb hbytes d9) rfl ?_
          refine XS.aloadN X0.here hexec rfl (hb hbytes d10) rfl rfl ?_
          refine X0.alen hexec hA0 rfl rfl (hb hbytes d11) ?_
          refine XS.icmpNo X0.here hexec rfl (hb hbytes d12) rfl (ii_ge_f (lt32 (by omega) (by omega))) ?_
          refine XS.aloadN X0.here hexec rfl (hb hbytes d15) rfl rfl ?_
          refine XS.iloadN X0.here hexec rfl (hb hbytes d16) rfl ?_
          refine X0.aget hexec hA0 rfl (yv_get hA tA (i := i) (by omega)) rfl rfl (hb hbytes d17) ?_
          refine XS.aloadN X0.here hexec rfl (hb hbytes d18) rfl rfl ?_
          refine XS.iloadN X0.here hexec rfl (hb hbytes d19) rfl ?_
          refine X0.aget hexec hB0 rfl (yv_get hB tB (i := i) (by omega)) rfl rfl (hb hbytes d20) ?_
          exact Steps.refl _)
        by_cases hv : yv A i = yv B i
        · have c5 : Steps p.tables e below (s₁.setTop (entryFrame m #[.ref a, .ref b] 3)) (s₁.setTop (mkF m 9 #[.val (.ref a), .val (.ref b), .val (.int (Int32.ofNat i + 1))] [])) := c4.trans (by
            refine XS.icmpYes X0.here hexec rfl (pc0 := 21) rfl (hb hbytes d21) rfl (ii_eq_t hv) (by decide) rfl ?_
            refine iincV X0.here hexec rfl 1 (hb hbytes d26) (by decide) rfl rfl ?_
            refine XS.goto X0.here hexec rfl (pc0 := 29) rfl (hb hbytes d29) (by decide) rfl ?_
            exact Steps.refl _)
          rw [succ32] at c5
          exact ih (i + 1) (by omega) (fun j hj => by
            by_cases e : j = i
            · rw [e]; exact hv
            · exact he j (by omega)) c5
        · exact ⟨25, _, 0, Or.inl rfl, Or.inr ⟨rfl, fun q => hv (q.2 i (by omega))⟩, c4.trans (by
            refine XS.icmpNo X0.here hexec rfl (hb hbytes d21) rfl (ii_eq_f hv) ?_
            refine iconstV X0.here hexec rfl 0 (hb hbytes d24) (by decide) ?_
            exact Steps.refl _)⟩
    obtain ⟨pc, Ls, v, hpc, hv, cz⟩ := loop A.slots.size 0 (by omega) (fun j hj => absurd hj (Nat.not_lt_zero j)) c3
    have nv : narrow .boolean (.int v) = .int v := by rcases hv with ⟨rfl, -⟩ | ⟨rfl, -⟩ <;> rfl
    rcases hpc with rfl | rfl
    · exact ⟨s₁, some (.int v), _, _, _, X0, rfl, rfl, rfl, (fun h => by cases h), ⟨v, rfl, hh0, hv⟩, fun fs hl => cz.trans (X0.ireturnOut hexec hret nv (Or.inr (Or.inl rfl)) (hb hbytes d25) hl)⟩
    · exact ⟨s₁, some (.int v), _, _, _, X0, rfl, rfl, rfl, (fun h => by cases h), ⟨v, rfl, hh0, hv⟩, fun fs hl => cz.trans (X0.ireturnOut hexec hret nv (Or.inr (Or.inl rfl)) (hb hbytes d33) hl)⟩
  · have c3 : Steps p.tables e below (s₁.setTop (entryFrame m #[.ref a, .ref b] 3)) (s₁.setTop (mkF m 35 #[.val (.ref a), .val (.ref b), .unset] [.int 0])) := c2.trans (by
      refine XS.icmpYes X0.here hexec rfl (pc0 := 4) rfl (hb hbytes d4) rfl (ii_ne_t (ne32 a31 b31 hs)) (by decide) rfl ?_
      refine iconstV X0.here hexec rfl 0 (hb hbytes d34) (by decide) ?_
      exact Steps.refl _)
    exact ⟨s₁, some (.int 0), _, _, _, X0, rfl, rfl, rfl, (fun h => by cases h), ⟨0, rfl, hh0, Or.inr ⟨rfl, fun q => hs q.1⟩⟩, fun fs hl => c3.trans (X0.ireturnOut hexec hret rfl (Or.inr (Or.inl rfl)) (hb hbytes d35) hl)⟩
end LEq
theorem Cod.ty {cd : Int32} {n : Nat} {f : Nat → Int32} {V : Cell} (h : Cod cd n f V) : Typed .byte V := fun i v hv => by
  have hi : i < V.slots.size := (Array.getElem?_eq_some_iff.mp hv).1
  rcases h with ⟨-, k1, k2⟩ | ⟨-, k1, k2, -⟩
  · rw [(k2 i (by omega)).1] at hv; cases hv; exact fits_lo8 _
  · rcases Nat.mod_two_eq_zero_or_one i with e | e
    · obtain ⟨j, rfl⟩ : ∃ j, i = 2 * j := ⟨i / 2, by omega⟩
      rw [(k2 j (by omega)).1] at hv; cases hv; exact fits_lo8 _
    · obtain ⟨j, rfl⟩ : ∃ j, i = 2 * j + 1 := ⟨i / 2, by omega⟩
      rw [(k2 j (by omega)).2] at hv; cases hv; exact fits_lo8 _
/-- the same text -/
def SameT (n : Nat) (f : Nat → Int32) (k : Nat) (g : Nat → Int32) : Prop := n = k ∧ ∀ j, j < n → f j = g j
theorem lo8_inj {x y : Int32} (h0 : ¬ x < 0) (h1 : ¬ 255 < x) (k0 : ¬ y < 0) (k1 : ¬ 255 < y) (h : lo8 x = lo8 y) : x = y := by
  rw [← lo8_mask h0 h1, ← lo8_mask k0 k1, h]
/-- arrays coded by one coder are equal just where the texts are -/
theorem Cod.eqv {cd : Int32} {n k : Nat} {f g : Nat → Int32} {V V' : Cell} (h : Cod cd n f V) (h' : Cod cd k g V') (hf : ∀ j, j < n → ¬ f j < 0 ∧ ¬ 65535 < f j) (hg : ∀ j, j < k → ¬ g j < 0 ∧ ¬ 65535 < g j) : EqC V V' ↔ SameT n f k g := by
  have yvv : ∀ {W : Cell} {i : Nat} {x : Int32}, W.slots[i]? = some (.int x) → yv W i = x := fun q => by unfold yv; rw [q]
  rcases h with ⟨rfl, k1, k2⟩ | ⟨rfl, k1, k2, -⟩
  · rcases h' with ⟨-, m1, m2⟩ | ⟨e, -⟩
    · constructor
      · rintro ⟨e1, e2⟩
        refine ⟨by omega, fun j hj => ?_⟩
        have q := e2 j (by omega)
        rw [yvv (k2 j hj).1, yvv (m2 j (by omega)).1] at q
        exact lo8_inj (hf j hj).1 (k2 j hj).2 (hg j (by omega)).1 (m2 j (by omega)).2 q
      · rintro ⟨rfl, e2⟩
        refine ⟨by omega, fun j hj => ?_⟩
        rw [yvv (k2 j (by omega)).1, yvv (m2 j (by omega)).1, e2 j (by omega)]
    · exact absurd e (by decide)
  · rcases h' with ⟨e, -⟩ | ⟨-, m1, m2, -⟩
    · exact absurd e (by decide)
    · constructor
      · rintro ⟨e1, e2⟩
        refine ⟨by omega, fun j hj => ?_⟩
        have q1 := e2 (2 * j) (by omega)
        have q2 := e2 (2 * j + 1) (by omega)
        rw [yvv (k2 j hj).1, yvv (m2 j (by omega)).1] at q1
        rw [yvv (k2 j hj).2, yvv (m2 j (by omega)).2] at q2
        rw [← pair_says (hf j hj).1 (hf j hj).2, ← pair_says (hg j (by omega)).1 (hg j (by omega)).2, q1, q2]
      · rintro ⟨rfl, e2⟩
        refine ⟨by omega, fun i hi => ?_⟩
        rcases Nat.mod_two_eq_zero_or_one i with e | e
        · obtain ⟨j, rfl⟩ : ∃ j, i = 2 * j := ⟨i / 2, by omega⟩
          rw [yvv (k2 j (by omega)).1, yvv (m2 j (by omega)).1, e2 j (by omega)]
        · obtain ⟨j, rfl⟩ : ∃ j, i = 2 * j + 1 := ⟨i / 2, by omega⟩
          rw [yvv (k2 j (by omega)).2, yvv (m2 j (by omega)).2, e2 j (by omega)]
/-- two codings differ: so do the texts -/
theorem Cod.dif {cd cd' : Int32} {n k : Nat} {f g : Nat → Int32} {V V' : Cell} (h : Cod cd n f V) (h' : Cod cd' k g V') (hne : ¬ cd = cd') : ¬ SameT n f k g := by
  rintro ⟨rfl, e⟩
  rcases h with ⟨rfl, -, k2⟩ | ⟨rfl, -, -, j, hj, hw⟩
  · rcases h' with ⟨rfl, -⟩ | ⟨-, -, -, j, hj, hw⟩
    · exact hne rfl
    · exact (k2 j hj).2 (by rw [e j hj]; exact hw)
  · rcases h' with ⟨-, -, m2⟩ | ⟨rfl, -⟩
    · exact (m2 j hj).2 (by rw [← e j hj]; exact hw)
    · exact hne rfl
/-- an object of exactly C is an instance of C -/
theorem cinst {p : Program} {l : Launch} {e : Env} {R : Room} {s : State} {m : MethodId} {args : Array Value} {below : List Frame} {meth : Method} {c : Code} {T : State} {locs : List Loc} {cells slots : Nat} (X : Stand p l e R s m args below meth c T locs cells slots) (hexec : p.tables.exec = Jvm.exec) {own C : String} {index : Nat} (hown : s.vm.findClass own = some m.cls) (hlink : (Cond.classLink own index C).before args s = true) {a : Addr} (hE : Exact C a T)
    {g : JFrame} (hg : g.method = m) {rest : List Value} (hstack : g.stack = .ref a :: rest) (hdg : decode c.code g.pc = .ok (.instanceof index, 3)) :
    ∃ T', Stand p l e R s m args below meth c T' locs cells slots ∧ T'.heap = T.heap ∧ ∀ target, Steps p.tables e below (T'.setTop { g with pc := g.pc + 3, stack := .int 1 :: rest }) target → Steps p.tables e below (T.setTop g) target := by
  obtain ⟨cB, h1, D, h2, h3, h4⟩ := hE
  have h1' : s.vm.findClass C = some cB := by rw [← X.warmed.alike.findClass]; exact h1
  obtain ⟨vm', X', st⟩ := X.instanceofYes hexec hown hlink h2 h4 h1' (by rw [h3]; exact Jvm.Free.SB.assignable_self _ _) hg hstack hdg
  exact ⟨_, X', rfl, st⟩
theorem cself {p : Program} {l : Launch} {e : Env} {R : Room} {s : State} {m : MethodId} {args : Array Value} {below : List Frame} {meth : Method} {c : Code} {T : State} {locs : List Loc} {cells slots : Nat} (X : Stand p l e R s m args below meth c T locs cells slots) (hexec : p.tables.exec = Jvm.exec) {own C : String} {index : Nat} (hown : s.vm.findClass own = some m.cls) (hlink : (Cond.classLink own index C).before args s = true) {a : Addr} (hE : Exact C a T)
    {g : JFrame} (hg : g.method = m) {rest : List Value} (hstack : g.stack = .ref a :: rest) (hdg : decode c.code g.pc = .ok (.checkcast index, 3)) :
    ∃ T', Stand p l e R s m args below meth c T' locs cells slots ∧ T'.heap = T.heap ∧ ∀ target, Steps p.tables e below (T'.setTop { g with pc := g.pc + 3, stack := .ref a :: rest }) target → Steps p.tables e below (T.setTop g) target := by
  obtain ⟨cB, h1, D, h2, h3, h4⟩ := hE
  have h1' : s.vm.findClass C = some cB := by rw [← X.warmed.alike.findClass]; exact h1
  obtain ⟨vm', X', st⟩ := X.checkcastYes hexec hown hlink h2 h4 h1' (by rw [h3]; exact Jvm.Free.SB.assignable_self _ _) hg hstack hdg
  exact ⟨_, X', rfl, fun t h => st t (by rw [← hstack] at h; exact h)⟩
namespace SEq
def yN : MethodName := ⟨"java/lang/String", "equals", "(Ljava/lang/Object;)Z"⟩
abbrev yB : ByteArray := jdk_42_method_66_code
theorem d0 : decode yB 0 = .ok (.aload_n 0, 1) := by decide +kernel
theorem d1 : decode yB 1 = .ok (.aload_n 1, 1) := by decide +kernel
theorem d2 : decode yB 2 = .ok (.if_acmp (.ne) 5, 3) := by decide +kernel
theorem d5 : decode yB 5 = .ok (.iconst 1, 1) := by decide +kernel
theorem d6 : decode yB 6 = .ok (.ireturn, 1) := by decide +kernel
theorem d7 : decode yB 7 = .ok (.aload_n 1, 1) := by decide +kernel
theorem d8 : decode yB 8 = .ok (.instanceof 10, 3) := by decide +kernel
theorem d11 : decode yB 11 = .ok (.ifCond (.eq) 43, 3) := by decide +kernel
theorem d14 : decode yB 14 = .ok (.aload_n 1, 1) := by decide +kernel
theorem d15 : decode yB 15 = .ok (.checkcast 10, 3) := by decide +kernel
theorem d18 : decode yB 18 = .ok (.astore_n 2, 1) := by decide +kernel
theorem d19 : decode yB 19 = .ok (.getstatic 38, 3) := by decide +kernel
theorem d22 : decode yB 22 = .ok (.ifCond (.eq) 14, 3) := by decide +kernel
theorem d25 : decode yB 25 = .ok (.aload_n 0, 1) := by decide +kernel
theorem d26 : decode yB 26 = .ok (.getfield 15, 3) := by decide +kernel
theorem d29 : decode yB 29 = .ok (.aload_n 2, 1) := by decide +kernel
theorem d30 : decode yB 30 = .ok (.getfield 15, 3) := by decide +kernel
theorem d33 : decode yB 33 = .ok (.if_icmp (.ne) 21, 3) := by decide +kernel
theorem d36 : decode yB 36 = .ok (.aload_n 0, 1) := by decide +kernel
theorem d37 : decode yB 37 = .ok (.getfield 9, 3) := by decide +kernel
theorem d40 : decode yB 40 = .ok (.aload_n 2, 1) := by decide +kernel
theorem d41 : decode yB 41 = .ok (.getfield 9, 3) := by decide +kernel
theorem d44 : decode yB 44 = .ok (.invokestatic 541, 3) := by decide +kernel
theorem d47 : decode yB 47 = .ok (.ifCond (.eq) 7, 3) := by decide +kernel
theorem d50 : decode yB 50 = .ok (.iconst 1, 1) := by decide +kernel
theorem d51 : decode yB 51 = .ok (.goto 4, 3) := by decide +kernel
theorem d54 : decode yB 54 = .ok (.iconst 0, 1) := by decide +kernel
theorem d55 : decode yB 55 = .ok (.ireturn, 1) := by decide +kernel
def site : List Cond := [.classLink "java/lang/String" 10 "java/lang/String", .fieldLink "java/lang/String" 38 "java/lang/String" "COMPACT_STRINGS" "Z", .fieldLink "java/lang/String" 15 "java/lang/String" "coder" "B", .fieldLink "java/lang/String" 9 "java/lang/String" "value" "[B", LEq.tab] ++ staticW "java/lang/String" 541 LEq.yN
def tab : Cond := tabOf yN yB 3 (some .boolean) site
def P (x t : Addr) (V : Cell) (cd : Int32) (n : Nat) (f : Nat → Int32) (y t' : Addr) (V' : Cell) (cd' : Int32) (k : Nat) (g : Nat → Int32) (z : Int32) (args : Array Value) (s : State) : Prop := args = #[.ref x, .ref y] ∧ Txt x t V cd n f s ∧ Txt y t' V' cd' k g s ∧ StaticIs s "java/lang/String" "COMPACT_STRINGS" "Z" (.int z) ∧ ¬ z = 0
/-- equals(Object) of two Strings: whether the texts are the same -/
theorem law (l : Launch) (x t : Addr) (V : Cell) (cd : Int32) (n : Nat) (f : Nat → Int32) (y t' : Addr) (V' : Cell) (cd' : Int32) (k : Nat) (g : Nat → Int32) (z : Int32) : Law l yN 2 1 1 14 yB 3 (some .boolean) site (P x t V cd n f y t' V' cd' k g z) (Says01 (SameT n f k g)) [] 0 0 := by
  refine Law.of_walk (plainFor_of_name (by decide +kernel)) (by decide +kernel) (by decide +kernel) (by decide) (fun _ _ h => by rw [h.1]; rfl) (fun _ U U' hal hh h => ⟨h.1, h.2.1.mv hal hh, h.2.2.1.mv hal hh, h.2.2.2.1.there hal hh, h.2.2.2.2⟩) (fun r U U' V V' h1 hal h2 h => Says01.mv r U U' V V' h1 hal h2 h) ?_
  intro p e s m args below meth c s₁ X0 hexec hbytes hml hret hlk hnm hown hh0 W hP
  obtain ⟨rfl, hx, hy, s1, hz⟩ := hP
  have c1 : Steps p.tables e below (s₁.setTop (entryFrame m #[.ref x, .ref y] 3)) (s₁.setTop (mkF m 2 #[.val (.ref x), .val (.ref y), .unset] [.ref y, .ref x])) := Steps.trans (entry rfl) (by
    show Steps p.tables e below (s₁.setTop (mkF m 0 #[.val (.ref x), .val (.ref y), .unset] [])) _
    refine XS.aloadN X0.here hexec rfl (hb hbytes d0) rfl rfl ?_
    refine XS.aloadN X0.here hexec rfl (hb hbytes d1) rfl rfl ?_
    exact Steps.refl _)
  by_cases hxy : x = y
  · have c2 : Steps p.tables e below (s₁.setTop (entryFrame m #[.ref x, .ref y] 3)) (s₁.setTop (mkF m 6 #[.val (.ref x), .val (.ref y), .unset] [.int 1])) := c1.trans (by
      refine acmpNo X0.here hexec rfl (hb hbytes d2) rfl rfl rfl (by simp [acmp, hxy]) ?_
      refine iconstV X0.here hexec rfl 1 (hb hbytes d5) (by decide) ?_
      exact Steps.refl _)
    subst hxy
    have ec : cd = cd' := by
      obtain ⟨D, fd, a1, a2, a3⟩ := hx.2.2.1
      obtain ⟨D', fd', b1, b2, b3⟩ := hy.2.2.1
      cases a1.symm.trans b1
      obtain ⟨q1, q2, q3, q4⟩ := a2.1
      obtain ⟨r1, r2, r3, r4⟩ := b2.1
      cases q4.symm.trans r4
      cases a3.symm.trans b3; rfl
    have et : t = t' := by
      obtain ⟨D, fd, a1, a2, a3⟩ := hx.2.1
      obtain ⟨D', fd', b1, b2, b3⟩ := hy.2.1
      cases a1.symm.trans b1
      obtain ⟨q1, q2, q3, q4⟩ := a2.1
      obtain ⟨r1, r2, r3, r4⟩ := b2.1
      cases q4.symm.trans r4
      cases a3.symm.trans b3; rfl
    subst ec et
    have ev : V = V' := by cases hx.2.2.2.1.1.symm.trans hy.2.2.2.1.1; rfl
    subst ev
    have hs : SameT n f k g := (Cod.eqv hx.2.2.2.2.1 hy.2.2.2.2.1 hx.2.2.2.2.2 hy.2.2.2.2.2).mp ⟨rfl, fun _ _ => rfl⟩
    exact ⟨s₁, some (.int 1), _, _, _, X0, rfl, rfl, rfl, (fun h => by cases h), ⟨1, rfl, hh0, Or.inl ⟨rfl, hs⟩⟩, fun fs hl => c2.trans (X0.ireturnOut hexec hret rfl (Or.inr (Or.inl rfl)) (hb hbytes d6) hl)⟩
  · have c2 : Steps p.tables e below (s₁.setTop (entryFrame m #[.ref x, .ref y] 3)) (s₁.setTop (mkF m 8 #[.val (.ref x), .val (.ref y), .unset] [.ref y])) := c1.trans (by
      refine acmpYes X0.here hexec rfl (pc0 := 2) rfl (hb hbytes d2) rfl rfl rfl (by simp [acmp, hxy]) (by decide) rfl ?_
      refine XS.aloadN X0.here hexec rfl (hb hbytes d7) rfl rfl ?_
      exact Steps.refl _)
    obtain ⟨T3, X3, q3, st3⟩ := cinst X0 hexec hown (wk W (.classLink "java/lang/String" 10 "java/lang/String")) (hy.mv X0.warmed.alike hh0).1 (g := (mkF m 8 #[.val (.ref x), .val (.ref y), .unset] [.ref y])) rfl (rest := []) rfl (hb hbytes d8)
    have hh3 := q3.trans hh0
    have c4 : Steps p.tables e below (s₁.setTop (entryFrame m #[.ref x, .ref y] 3)) (T3.setTop (mkF m 15 #[.val (.ref x), .val (.ref y), .unset] [.ref y])) := (c2.trans (st3 _ (Steps.refl _))).trans (by
      refine XS.ifNo X3.here hexec rfl (hb hbytes d11) rfl (i0_eq_f (by decide)) ?_
      refine XS.aloadN X3.here hexec rfl (hb hbytes d14) rfl rfl ?_
      exact Steps.refl _)
    obtain ⟨T5, X5, q5, st5⟩ := cself X3 hexec hown (wk W (.classLink "java/lang/String" 10 "java/lang/String")) (hy.mv X3.warmed.alike hh3).1 (g := (mkF m 15 #[.val (.ref x), .val (.ref y), .unset] [.ref y])) rfl (rest := []) rfl (hb hbytes d15)
    have hh5 := q5.trans hh3
    have c6 : Steps p.tables e below (s₁.setTop (entryFrame m #[.ref x, .ref y] 3)) (T5.setTop (mkF m 19 #[.val (.ref x), .val (.ref y), .val (.ref y)] [])) := (c4.trans (st5 _ (Steps.refl _))).trans (by
      refine XS.astoreN X5.here hexec rfl (hb hbytes d18) rfl rfl rfl ?_
      exact Steps.refl _)
    obtain ⟨T7, X7, q7, st7⟩ := X5.sget hexec hown (wk W (.fieldLink "java/lang/String" 38 "java/lang/String" "COMPACT_STRINGS" "Z")) s1 (fun _ _ h => by rw [hh5]; exact h) (g := (mkF m 19 #[.val (.ref x), .val (.ref y), .val (.ref y)] [])) rfl (hb hbytes d19)
    have hh7 := q7.trans hh5
    have c8 : Steps p.tables e below (s₁.setTop (entryFrame m #[.ref x, .ref y] 3)) (T7.setTop (mkF m 26 #[.val (.ref x), .val (.ref y), .val (.ref y)] [.ref x])) := (c6.trans (st7 _ (Steps.refl _))).trans (by
      refine XS.ifNo X7.here hexec rfl (hb hbytes d22) rfl (i0_eq_f hz) ?_
      refine XS.aloadN X7.here hexec rfl (hb hbytes d25) rfl rfl ?_
      exact Steps.refl _)
    obtain ⟨T9, X9, q9, st9⟩ := X7.hget hexec hown (wk W (.fieldLink "java/lang/String" 15 "java/lang/String" "coder" "B")) (hx.mv X7.warmed.alike hh7).2.2.1 (g := (mkF m 26 #[.val (.ref x), .val (.ref y), .val (.ref y)] [.ref x])) rfl (rest := []) rfl (hb hbytes d26)
    have hh9 := q9.trans hh7
    have c10 : Steps p.tables e below (s₁.setTop (entryFrame m #[.ref x, .ref y] 3)) (T9.setTop (mkF m 30 #[.val (.ref x), .val (.ref y), .val (.ref y)] [.ref y, .int cd])) := (c8.trans (st9 _ (Steps.refl _))).trans (by
      refine XS.aloadN X9.here hexec rfl (hb hbytes d29) rfl rfl ?_
      exact Steps.refl _)
    obtain ⟨T11, X11, q11, st11⟩ := X9.hget hexec hown (wk W (.fieldLink "java/lang/String" 15 "java/lang/String" "coder" "B")) (hy.mv X9.warmed.alike hh9).2.2.1 (g := (mkF m 30 #[.val (.ref x), .val (.ref y), .val (.ref y)] [.ref y, .int cd])) rfl (rest := [.int cd]) rfl (hb hbytes d30)
    have hh11 := q11.trans hh9
    have c12 : Steps p.tables e below (s₁.setTop (entryFrame m #[.ref x, .ref y] 3)) (T11.setTop (mkF m 33 #[.val (.ref x), .val (.ref y), .val (.ref y)] [.int cd', .int cd])) := c10.trans (st11 _ (Steps.refl _))
    by_cases hcd : cd = cd'
    · subst hcd
      have c13 : Steps p.tables e below (s₁.setTop (entryFrame m #[.ref x, .ref y] 3)) (T11.setTop (mkF m 37 #[.val (.ref x), .val (.ref y), .val (.ref y)] [.ref x])) := c12.trans (by
        refine XS.icmpNo X11.here hexec rfl (hb hbytes d33) rfl (ii_ne_f rfl) ?_
        refine XS.aloadN X11.here hexec rfl (hb hbytes d36) rfl rfl ?_
        exact Steps.refl _)
      obtain ⟨T14, X14, q14, st14⟩ := X11.hget hexec hown (wk W (.fieldLink "java/lang/String" 9 "java/lang/String" "value" "[B")) (hx.mv X11.warmed.alike hh11).2.1 (g := (mkF m 37 #[.val (.ref x), .val (.ref y), .val (.ref y)] [.ref x])) rfl (rest := []) rfl (hb hbytes d37)
      have hh14 := q14.trans hh11
      have c15 : Steps p.tables e below (s₁.setTop (entryFrame m #[.ref x, .ref y] 3)) (T14.setTop (mkF m 41 #[.val (.ref x), .val (.ref y), .val (.ref y)] [.ref y, .ref t])) := (c13.trans (st14 _ (Steps.refl _))).trans (by
        refine XS.aloadN X14.here hexec rfl (hb hbytes d40) rfl rfl ?_
        exact Steps.refl _)
      obtain ⟨T16, X16, q16, st16⟩ := X14.hget hexec hown (wk W (.fieldLink "java/lang/String" 9 "java/lang/String" "value" "[B")) (hy.mv X14.warmed.alike hh14).2.1 (g := (mkF m 41 #[.val (.ref x), .val (.ref y), .val (.ref y)] [.ref y, .ref t])) rfl (rest := [.ref t]) rfl (hb hbytes d41)
      have hh16 := q16.trans hh14
      have c17 : Steps p.tables e below (s₁.setTop (entryFrame m #[.ref x, .ref y] 3)) (T16.setTop (mkF m 44 #[.val (.ref x), .val (.ref y), .val (.ref y)] [.ref t', .ref t])) := c15.trans (st16 _ (Steps.refl _))
      obtain ⟨v18, T18, X18, E18, g18⟩ := X16.callS hexec (LEq.law l t V t' V') hown (wks W (staticW "java/lang/String" 541 LEq.yN)) (wk W LEq.tab) (W := 0) (Nat.le_of_ble_eq_true rfl) (Nat.le_of_ble_eq_true rfl) (Nat.le_refl _) (Nat.le_refl _) (g := (mkF m 44 #[.val (.ref x), .val (.ref y), .val (.ref y)] [.ref t', .ref t])) rfl (by rw [hml]; rfl) c17 (argsL := [.ref t, .ref t']) (rest := []) rfl rfl (by show 2 * 0 + 0 ≤ _; decide) (hb hbytes d44) (⟨rfl, hx.2.2.2.1.mv X16.warmed.alike hh16, hx.2.2.2.2.1.ty, hy.2.2.2.1.mv X16.warmed.alike hh16, hy.2.2.2.2.1.ty⟩)
      obtain ⟨v, rfl, q18, hv⟩ := E18
      have iff := Cod.eqv hx.2.2.2.2.1 hy.2.2.2.2.1 hx.2.2.2.2.2 hy.2.2.2.2.2
      rcases hv with ⟨rfl, he⟩ | ⟨rfl, he⟩
      · have c19 : Steps p.tables e below (s₁.setTop (entryFrame m #[.ref x, .ref y] 3)) (T18.setTop (mkF m 55 #[.val (.ref x), .val (.ref y), .val (.ref y)] [.int 1])) := Steps.trans g18 (by
          refine XS.ifNo X18.here hexec rfl (hb hbytes d47) rfl (i0_eq_f (by decide)) ?_
          refine iconstV X18.here hexec rfl 1 (hb hbytes d50) (by decide) ?_
          refine XS.goto X18.here hexec rfl (pc0 := 51) rfl (hb hbytes d51) (by decide) rfl ?_
          exact Steps.refl _)
        exact ⟨T18, some (.int 1), _, _, _, X18, rfl, rfl, rfl, (fun h => by cases h), ⟨1, rfl, q18.trans hh16, Or.inl ⟨rfl, iff.mp he⟩⟩, fun fs hl => c19.trans (X18.ireturnOut hexec hret rfl (Or.inr (Or.inl rfl)) (hb hbytes d55) hl)⟩
      · have c19 : Steps p.tables e below (s₁.setTop (entryFrame m #[.ref x, .ref y] 3)) (T18.setTop (mkF m 55 #[.val (.ref x), .val (.ref y), .val (.ref y)] [.int 0])) := Steps.trans g18 (by
          refine XS.ifYes X18.here hexec rfl (pc0 := 47) rfl (hb hbytes d47) rfl (i0_eq_t rfl) (by decide) rfl ?_
          refine iconstV X18.here hexec rfl 0 (hb hbytes d54) (by decide) ?_
          exact Steps.refl _)
        exact ⟨T18, some (.int 0), _, _, _, X18, rfl, rfl, rfl, (fun h => by cases h), ⟨0, rfl, q18.trans hh16, Or.inr ⟨rfl, fun q => he (iff.mpr q)⟩⟩, fun fs hl => c19.trans (X18.ireturnOut hexec hret rfl (Or.inr (Or.inl rfl)) (hb hbytes d55) hl)⟩
    · have c13 : Steps p.tables e below (s₁.setTop (entryFrame m #[.ref x, .ref y] 3)) (T11.setTop (mkF m 55 #[.val (.ref x), .val (.ref y), .val (.ref y)] [.int 0])) := c12.trans (by
        refine XS.icmpYes X11.here hexec rfl (pc0 := 33) rfl (hb hbytes d33) rfl (ii_ne_t hcd) (by decide) rfl ?_
        refine iconstV X11.here hexec rfl 0 (hb hbytes d54) (by decide) ?_
        exact Steps.refl _)
      exact ⟨T11, some (.int 0), _, _, _, X11, rfl, rfl, rfl, (fun h => by cases h), ⟨0, rfl, hh11, Or.inr ⟨rfl, Cod.dif hx.2.2.2.2.1 hy.2.2.2.2.1 hcd⟩⟩, fun fs hl => c13.trans (X11.ireturnOut hexec hret rfl (Or.inr (Or.inl rfl)) (hb hbytes d55) hl)⟩
theorem pays {l : Launch} {R : Room} {p : Program} {e : Env} {below : List Frame} {s : State} {sargs : Array Value} {len W : Nat} (x t : Addr) (V : Cell) (cd : Int32) (n : Nat) (f : Nat → Int32) (y t' : Addr) (V' : Cell) (cd' : Int32) (k : Nat) (g : Nat → Int32) (z : Int32) (htab : tab.before sargs s = true) (hfr : 2 ≤ R.frames) (hlo : W + 28 ≤ R.locals) :
    Back l R p e below s sargs yN len W (fun A₁ a₁ => A₁.cells + 0 ≤ R.cells ∧ A₁.slots + 0 ≤ R.slots ∧ P x t V cd n f y t' V' cd' k g z a₁ A₁.U) (fun A₁ _ v₁ B₁ => Says01 (SameT n f k g) v₁ A₁.U B₁.U ∧ B₁.locs = A₁.locs ++ [] ∧ B₁.cells = A₁.cells + 0 ∧ B₁.slots = A₁.slots + 0) :=
  (law l x t V cd n f y t' V' cd' k g z).pays htab hfr (by omega)
end SEq
end StrChars
namespace StrChars.Road
open Jvm Sem ClassFile Op Lib Jvm.Stand Jvm.Free Jvm.Free.XT
open Jvm.Lib.Cold (StaticIs)
/-- the words of String.equals(Object) -/
abbrev wordsEq : List Jvm.Cond := [.code SEq.yN SEq.yB 3 (some .boolean), .initialized ST, .classLink ST 10 ST, .fieldLink ST 38 ST "COMPACT_STRINGS" "Z", .fieldLink ST 15 ST "coder" "B", .fieldLink ST 9 ST "value" "[B", .methodLink ST 541 LEq.yN, .static LEq.yN, .code LEq.yN LEq.yB 3 (some .boolean), .initialized "java/lang/StringLatin1"]
theorem tabEq_of {a : Array Value} {s : State} (h : ∀ w ∈ wordsEq, w.before a s = true) : SEq.tab.before a s = true := by
  have hl : LEq.tab.before a s = true := unparts (wk h (.code LEq.yN LEq.yB 3 (some .boolean))) (wks h (.initialized LEq.yN.cls :: LEq.site))
  have q := consq hl h
  exact unparts (wk q (.code SEq.yN SEq.yB 3 (some .boolean))) (wks q (.initialized SEq.yN.cls :: SEq.site))
theorem movedEq {Z s : State} {a0 args : Array Value} (hZ : Z.Warmed39 s.vm) (hw : ∀ d ∈ wordsEq, d.before a0 Z = true) : ∀ d ∈ wordsEq, d.before args s = true := fun d hd => by
  have t : ∀ d ∈ wordsEq, (d.onTables && d.keepsFace) = true := by decide +kernel
  exact RoadKit.mv hZ (hw d hd) (t d hd)
/-- the road's facts of a String, as the laws ask it -/
theorem txt_of {Z U : State} {a0 : Array Value} {kI : Nat} (wi : (Jvm.Cond.instantiable ST kI).before a0 Z = true) (al : Z.vm.Alike U.vm) {x t : Addr} {kb : ClassId} {cs : List Int32} {cd N2 : Int32} {vs : List Value} (E : RoadKit.Exa Z U.heap x ST) (V : RoadKit.Fld Z U.heap x ST "value" "[B" (.ref t)) (C : RoadKit.Fld Z U.heap x ST "coder" "B" (.int cd)) (K : RoadKit.Arv Z U.heap t kb .byte N2 vs (.int 0)) (hc : CodA cs cd N2 vs) (hb : ∀ c ∈ cs, ¬ c < 0 ∧ ¬ (65535 : Int32) < c) (l2 : cs.length ≤ 4000) :
    ∃ A, Txt x t A cd cs.length (fun j => cs.getD j 0) U := by
  obtain ⟨A, K1, K2, K3, K4, K5, K6⟩ := K
  have hcod := hc.cod (by omega) K3 K5
  obtain ⟨D, fV, fC, hB, F1, F2, g1, g2, -, -⟩ := strObj wi al E V C
  exact ⟨A, ⟨_, hB.2.2.1, D, hB.1, rfl, by cases q : D.vm <;> first | rfl | exact absurd q (hB.2.1.2 _)⟩, Has.of hB F1 g1, Has.of hB F2 g2, ⟨K1.1, State.isArrayOf_alike al K1.2.1, K1.2.2, by rcases hcod with ⟨-, q, -⟩ | ⟨-, q, -⟩ <;> omega⟩, hcod, fun j hj => by
    have e : cs.getD j 0 = cs[j] := by simp [List.getD_eq_getElem?_getD, hj]
    show ¬ cs.getD j 0 < 0 ∧ ¬ 65535 < cs.getD j 0
    rw [e]; exact hb _ (List.getElem_mem _)⟩
theorem same_list (cs ds : List Int32) : SameT cs.length (fun j => cs.getD j 0) ds.length (fun j => ds.getD j 0) ↔ cs = ds := by
  constructor
  · rintro ⟨e, q⟩
    refine List.ext_getElem e fun j h1 h2 => ?_
    have := q j h1
    simpa [List.getD_eq_getElem?_getD, h1, h2] using this
  · rintro rfl
    exact ⟨rfl, fun _ _ => rfl⟩
/-- **equals(Object) OF TWO SUCH STRINGS**: 1 just where the chars are the same -/
theorem eqW {p : Program} {l : Launch} {e : Env} {R : Room} {s : State} {args : Array Value} {below : List Frame} {len W : Nat} {Z : State} {a0 : Array Value} {h : Heap} (hZ : Z.Warmed39 s.vm) (hw : ∀ d ∈ wordsEq, d.before a0 Z = true) {kI : Nat} (wi : (Jvm.Cond.instantiable ST kI).before a0 Z = true)
    {x t : Addr} {kb : ClassId} {cs : List Int32} {cd N2 : Int32} {vs : List Value} (E : RoadKit.Exa Z h x ST) (V : RoadKit.Fld Z h x ST "value" "[B" (.ref t)) (C : RoadKit.Fld Z h x ST "coder" "B" (.int cd)) (K : RoadKit.Arv Z h t kb .byte N2 vs (.int 0)) (hc : CodA cs cd N2 vs) (hb : ∀ c ∈ cs, ¬ c < 0 ∧ ¬ (65535 : Int32) < c) (l2 : cs.length ≤ 4000)
    {y t' : Addr} {kb' : ClassId} {ds : List Int32} {cd' N2' : Int32} {vs' : List Value} (E' : RoadKit.Exa Z h y ST) (V' : RoadKit.Fld Z h y ST "value" "[B" (.ref t')) (C' : RoadKit.Fld Z h y ST "coder" "B" (.int cd')) (K' : RoadKit.Arv Z h t' kb' .byte N2' vs' (.int 0)) (hc' : CodA ds cd' N2' vs') (hb' : ∀ c ∈ ds, ¬ c < 0 ∧ ¬ (65535 : Int32) < c) (l2' : ds.length ≤ 4000)
    {z : Int32} (S : RoadKit.Sta Z h ST "COMPACT_STRINGS" "Z" (.int z)) (hz : ¬ z = 0) (hfr : 2 ≤ R.frames) (hlo : W + 28 ≤ R.locals) :
    Back l R p e below s args (⟨"java/lang/String", "equals", "(Ljava/lang/Object;)Z"⟩ : MethodName) len W (fun P a => a = #[.ref x, .ref y] ∧ P.U.heap = h ∧ P.cells + 0 ≤ R.cells ∧ P.slots + 0 ≤ R.slots)
      (fun P _ v B => ∃ L, (((v = some (.int 1) ∧ cs = ds) ∨ (v = some (.int 0) ∧ ¬ cs = ds)) ∧ L = [] ∧ B.U.heap = h) ∧ B.locs = P.locs ++ L ∧ B.cells = P.cells + 0 ∧ B.slots = P.slots + 0) := by
  intro m meth c P g ig mk a X hg hsize hdg hW hn hp'
  obtain ⟨rfl, rfl, r1, r2⟩ := hp'
  have al : Z.vm.Alike P.U.vm := hZ.alike.trans X.warmed.alike
  obtain ⟨A, hx⟩ := txt_of wi al E V C K hc hb l2
  obtain ⟨A', hy⟩ := txt_of wi al E' V' C' K' hc' hb' l2'
  obtain ⟨v, B, X', ⟨⟨w, hv, hh, hq⟩, hl, hk, hs⟩, st⟩ := SEq.pays x t A cd cs.length (fun j => cs.getD j 0) y t' A' cd' ds.length (fun j => ds.getD j 0) z (tabEq_of (movedEq hZ hw)) hfr hlo m meth c P g ig mk _ X hg hsize hdg hW hn ⟨r1, r2, rfl, hx, hy, sta_is al S, hz⟩
  refine ⟨v, B, X', ⟨[], ⟨?_, rfl, hh⟩, hl, hk, hs⟩, st⟩
  rcases hq with ⟨rfl, q⟩ | ⟨rfl, q⟩
  · exact Or.inl ⟨hv, (same_list cs ds).mp q⟩
  · exact Or.inr ⟨hv, fun e => q ((same_list cs ds).mpr e)⟩
end StrChars.Road
namespace StrChars.Road
open Jvm Sem ClassFile Op Lib Jvm.Stand Jvm.Free Jvm.Free.XT
open Jvm.Lib.Cold (StaticIs)
/-- what backV says of its String, as the contracts of this text ask it: cs's low bytes, coder 0 -/
theorem codOf {cs : List Int32} {n : Nat} (hn : cs.length = n) (hb : ∀ c ∈ cs, ¬ 255 < c) : CodA cs 0 (Int32.ofNat n) ((cs.map lo8).map Value.int) := Or.inl ⟨rfl, by rw [hn], by simp [List.map_map, Function.comp_def], hb⟩
end StrChars.Road
end Jvm.Pilot.@@N@@
namespace Jvm.Pilot.@@N@@
open Jvm Jvm.ClassFile Sem Op Lib Jvm.Free Jvm.Stand Jvm.LawKit Jvm.RoadKit Bundle Jvm.Pilot.@@N@@.Jvm.D
abbrev yq0 : MethodName := ⟨"java/lang/String", "coder", "()B"⟩
abbrev yq1 : MethodName := ⟨"java/lang/StringBuilder", "append", "(Ljava/lang/String;)Ljava/lang/StringBuilder;"⟩
abbrev yq2 : MethodName := ⟨"java/lang/AbstractStringBuilder", "isLatin1", "()Z"⟩
abbrev yq3 : MethodName := ⟨"com/example/jarshelf/jarshelf/cli/UsageExceptionUnexpectedArgumentPinLaw", "expected", "(ICCC)Ljava/lang/String;"⟩
abbrev yq4 : MethodName := ⟨"java/lang/String", "length", "()I"⟩
abbrev yq5 : MethodName := ⟨"java/lang/String", "<init>", "([C)V"⟩
abbrev yq6 : MethodName := ⟨"java/lang/AbstractStringBuilder", "length", "()I"⟩
abbrev yq7 : MethodName := ⟨"java/lang/AbstractStringBuilder", "getValue", "()[B"⟩
abbrev yq8 : MethodName := ⟨"java/lang/String", "getBytes", "([BIB)V"⟩
abbrev yq9 : MethodName := ⟨"java/lang/AbstractStringBuilder", "append", "(Ljava/lang/String;)Ljava/lang/AbstractStringBuilder;"⟩
abbrev yq10 : MethodName := ⟨"java/lang/StringBuilder", "toString", "()Ljava/lang/String;"⟩
abbrev yq11 : MethodName := ⟨"java/lang/String", "equals", "(Ljava/lang/Object;)Z"⟩
abbrev yq12 : MethodName := ⟨"java/lang/Math", "min", "(II)I"⟩
abbrev yq13 : MethodName := ⟨"java/lang/AbstractStringBuilder", "ensureCapacityInternal", "(I)V"⟩
abbrev yq14 : MethodName := ⟨"java/lang/AbstractStringBuilder", "putStringAt", "(ILjava/lang/String;)V"⟩
abbrev yq15 : MethodName := ⟨"java/lang/StringUTF16", "putChar", "([BII)V"⟩
abbrev yq16 : MethodName := ⟨"java/lang/StringBuilder", "length", "()I"⟩
abbrev yq17 : MethodName := ⟨"java/lang/AbstractStringBuilder", "inflateIfNeededFor", "(Ljava/lang/String;)V"⟩
abbrev yq18 : MethodName := ⟨"java/util/Arrays", "copyOfRangeByte", "([BII)[B"⟩
abbrev yq19 : MethodName := ⟨"java/util/Arrays", "copyOfRange", "([BII)[B"⟩
abbrev yq20 : MethodName := ⟨"java/lang/String", "<init>", "(Ljava/lang/AbstractStringBuilder;Ljava/lang/Void;)V"⟩
abbrev yq21 : MethodName := ⟨"java/lang/String", "<init>", "(Ljava/lang/StringBuilder;)V"⟩
abbrev yq22 : MethodName := ⟨"jdk/internal/util/Preconditions", "checkFromIndexSize", "(IIILjava/util/function/BiFunction;)I"⟩
abbrev yq23 : MethodName := ⟨"java/lang/StringUTF16", "newBytesFor", "(I)[B"⟩
abbrev yq24 : MethodName := ⟨"java/lang/String", "<init>", "([BB)V"⟩
abbrev yq25 : MethodName := ⟨"java/util/Arrays", "checkLength", "(II)V"⟩
abbrev yq26 : MethodName := ⟨"com/example/jarshelf/jarshelf/cli/UsageException", "<init>", "(Ljava/lang/String;)V"⟩
abbrev yq27 : MethodName := ⟨"com/example/jarshelf/jarshelf/cli/UsageException", "synopsis", "()Ljava/lang/String;"⟩
abbrev EL0 : List (String × Nat) := [("com/example/jarshelf/jarshelf/cli/UsageException", 37), ("com/example/jarshelf/jarshelf/cli/UsageExceptionUnexpectedArgumentPinLaw", 8), ("com/example/jarshelf/jarshelf/cli/UsageExceptionUnexpectedArgumentPinLaw", 42)]
theorem tw {a0 : Array Value} {Z : State} (hw : ∀ d ∈ tables_1, d.before a0 Z = true) {d : Jvm.Cond} (i : Nat) (h : tables_1[i]? = some d) : d.before a0 Z = true := hw _ (List.mem_of_getElem? h)
/-! own kit: a walk written forwards. Go: the run goes on from this frame and ends as P says. -/
def Go (tb : Tables) (e : Env) (below : List Frame) (P : State → Prop) (T : State) (f : JFrame) : Prop := ∃ t, Steps tb e below (T.setTop f) t ∧ P t
section WK
variable {tb : Tables} {e : Env} {below : List Frame} {P : State → Prop} {T : State} {m : MethodId} {c : Code} {pc pc' : Nat} {Ls l' : Array Slot} {st : List Value}
theorem Go.next {T' : State} {f f' : JFrame} (k : ∀ t, Steps tb e below (T'.setTop f') t → Steps tb e below (T.setTop f) t) (r : Go tb e below P T' f') : Go tb e below P T f := by
  obtain ⟨t, h1, h2⟩ := r; exact ⟨t, k t h1, h2⟩
theorem Go.jump {T' : State} {f f' : JFrame} (k : Steps tb e below (T.setTop f) (T'.setTop f')) (r : Go tb e below P T' f') : Go tb e below P T f := by
  obtain ⟨t, h1, h2⟩ := r; exact ⟨t, k.trans h1, h2⟩
theorem Go.mono {P' : State → Prop} {f : JFrame} (k : Go tb e below P T f) (q : ∀ t, P t → P' t) : Go tb e below P' T f := by
  obtain ⟨t, h1, h2⟩ := k; exact ⟨t, h1, q t h2⟩
variable [Ours tb]
theorem w_aloadN (h : At T m c below) (hx : tb.exec = Jvm.exec) {k : Fin 4} {v : Value} (hd : decode c.code pc = .ok (.aload_n k, 1)) (hl : Ls[k.val]? = some (.val v)) (hv : v.isRef = true) (hp : pc + 1 = pc') (r : Go tb e below P T (mkF m pc' Ls (v :: st))) : Go tb e below P T (mkF m pc Ls st) := by
  subst hp; exact Go.next (fun t hr => XS.aloadN h hx rfl hd hl hv hr) r
theorem w_aload (h : At T m c below) (hx : tb.exec = Jvm.exec) {k : Nat} {v : Value} (hd : decode c.code pc = .ok (.aload k, 2)) (hl : Ls[k]? = some (.val v)) (hv : v.isRef = true) (hp : pc + 2 = pc') (r : Go tb e below P T (mkF m pc' Ls (v :: st))) : Go tb e below P T (mkF m pc Ls st) := by
  subst hp; exact Go.next (fun t hr => XS.aload h hx rfl hd hl hv hr) r
theorem w_iloadN (h : At T m c below) (hx : tb.exec = Jvm.exec) {k : Fin 4} {v : Int32} (hd : decode c.code pc = .ok (.iload_n k, 1)) (hl : Ls[k.val]? = some (.val (.int v))) (hp : pc + 1 = pc') (r : Go tb e below P T (mkF m pc' Ls (.int v :: st))) : Go tb e below P T (mkF m pc Ls st) := by
  subst hp; exact Go.next (fun t hr => XS.iloadN h hx rfl hd hl hr) r
theorem w_iload (h : At T m c below) (hx : tb.exec = Jvm.exec) {k : Nat} {v : Int32} (hd : decode c.code pc = .ok (.iload k, 2)) (hl : Ls[k]? = some (.val (.int v))) (hp : pc + 2 = pc') (r : Go tb e below P T (mkF m pc' Ls (.int v :: st))) : Go tb e below P T (mkF m pc Ls st) := by
  subst hp; exact Go.next (fun t hr => XS.iload h hx rfl hd hl hr) r
theorem w_iconst (h : At T m c below) (hx : tb.exec = Jvm.exec) {i : Int} {z : Int32} (hd : decode c.code pc = .ok (.iconst i, 1)) (hz : Int32.ofInt i = z) (hp : pc + 1 = pc') (r : Go tb e below P T (mkF m pc' Ls (.int z :: st))) : Go tb e below P T (mkF m pc Ls st) := by
  subst hp hz; exact Go.next (fun t hr => XS.iconst h hx rfl hd hr) r
theorem w_bipush (h : At T m c below) (hx : tb.exec = Jvm.exec) {i : Int} {z : Int32} (hd : decode c.code pc = .ok (.bipush i, 2)) (hz : (Int8.ofInt i).toInt32 = z) (hp : pc + 2 = pc') (r : Go tb e below P T (mkF m pc' Ls (.int z :: st))) : Go tb e below P T (mkF m pc Ls st) := by
  subst hp hz; exact Go.next (fun t hr => XS.bipush h hx rfl hd hr) r
theorem w_sipush (h : At T m c below) (hx : tb.exec = Jvm.exec) {i : Int} {z : Int32} (hd : decode c.code pc = .ok (.sipush i, 3)) (hz : (Int16.ofInt i).toInt32 = z) (hp : pc + 3 = pc') (r : Go tb e below P T (mkF m pc' Ls (.int z :: st))) : Go tb e below P T (mkF m pc Ls st) := by
  subst hp hz; exact Go.next (fun t hr => XS.sipush h hx rfl hd hr) r
theorem w_null (h : At T m c below) (hx : tb.exec = Jvm.exec) (hd : decode c.code pc = .ok (.aconst_null, 1)) (hp : pc + 1 = pc') (r : Go tb e below P T (mkF m pc' Ls (.null :: st))) : Go tb e below P T (mkF m pc Ls st) := by
  subst hp; exact Go.next (fun t hr => XS.aconstNull h hx rfl hd hr) r
theorem w_iadd (h : At T m c below) (hx : tb.exec = Jvm.exec) {x y : Int32} (hd : decode c.code pc = .ok (.iadd, 1)) (hp : pc + 1 = pc') (r : Go tb e below P T (mkF m pc' Ls (.int (x + y) :: st))) : Go tb e below P T (mkF m pc Ls (.int y :: .int x :: st)) := by
  subst hp; exact Go.next (fun t hr => XS.iadd h hx rfl hd rfl hr) r
theorem w_isub (h : At T m c below) (hx : tb.exec = Jvm.exec) {x y : Int32} (hd : decode c.code pc = .ok (.isub, 1)) (hp : pc + 1 = pc') (r : Go tb e below P T (mkF m pc' Ls (.int (x - y) :: st))) : Go tb e below P T (mkF m pc Ls (.int y :: .int x :: st)) := by
  subst hp; exact Go.next (fun t hr => XS.isub h hx rfl hd rfl hr) r
theorem w_imul (h : At T m c below) (hx : tb.exec = Jvm.exec) {x y : Int32} (hd : decode c.code pc = .ok (.imul, 1)) (hp : pc + 1 = pc') (r : Go tb e below P T (mkF m pc' Ls (.int (x * y) :: st))) : Go tb e below P T (mkF m pc Ls (.int y :: .int x :: st)) := by
  subst hp; exact Go.next (fun t hr => XS.imul h hx rfl hd rfl hr) r
theorem w_iand (h : At T m c below) (hx : tb.exec = Jvm.exec) {x y : Int32} (hd : decode c.code pc = .ok (.iand, 1)) (hp : pc + 1 = pc') (r : Go tb e below P T (mkF m pc' Ls (.int (x &&& y) :: st))) : Go tb e below P T (mkF m pc Ls (.int y :: .int x :: st)) := by
  subst hp; exact Go.next (fun t hr => XS.iand h hx rfl hd rfl hr) r
theorem w_ior (h : At T m c below) (hx : tb.exec = Jvm.exec) {x y : Int32} (hd : decode c.code pc = .ok (.ior, 1)) (hp : pc + 1 = pc') (r : Go tb e below P T (mkF m pc' Ls (.int (x ||| y) :: st))) : Go tb e below P T (mkF m pc Ls (.int y :: .int x :: st)) := by
  subst hp; exact Go.next (fun t hr => Jvm.Free.XT.ior h hx rfl hd rfl hr) r
theorem w_ixor (h : At T m c below) (hx : tb.exec = Jvm.exec) {x y : Int32} (hd : decode c.code pc = .ok (.ixor, 1)) (hp : pc + 1 = pc') (r : Go tb e below P T (mkF m pc' Ls (.int (x ^^^ y) :: st))) : Go tb e below P T (mkF m pc Ls (.int y :: .int x :: st)) := by
  subst hp; exact Go.next (fun t hr => Jvm.Free.XT.ixor h hx rfl hd rfl hr) r
theorem w_ishl (h : At T m c below) (hx : tb.exec = Jvm.exec) {x y : Int32} (hd : decode c.code pc = .ok (.ishl, 1)) (hp : pc + 1 = pc') (r : Go tb e below P T (mkF m pc' Ls (.int (x <<< (y &&& 31)) :: st))) : Go tb e below P T (mkF m pc Ls (.int y :: .int x :: st)) := by
  subst hp; exact Go.next (fun t hr => Jvm.Free.XT.ishl h hx rfl hd rfl hr) r
theorem w_ishr (h : At T m c below) (hx : tb.exec = Jvm.exec) {x y : Int32} (hd : decode c.code pc = .ok (.ishr, 1)) (hp : pc + 1 = pc') (r : Go tb e below P T (mkF m pc' Ls (.int (x >>> (y &&& 31)) :: st))) : Go tb e below P T (mkF m pc Ls (.int y :: .int x :: st)) := by
  subst hp; exact Go.next (fun t hr => Jvm.Free.XT.ishr h hx rfl hd rfl hr) r
theorem w_iushr (h : At T m c below) (hx : tb.exec = Jvm.exec) {x y : Int32} (hd : decode c.code pc = .ok (.iushr, 1)) (hp : pc + 1 = pc') (r : Go tb e below P T (mkF m pc' Ls (.int (x.toUInt32 >>> (y &&& 31).toUInt32).toInt32 :: st))) : Go tb e below P T (mkF m pc Ls (.int y :: .int x :: st)) := by
  subst hp; exact Go.next (fun t hr => Jvm.Free.XT.iushr h hx rfl hd rfl hr) r
theorem w_irem (h : At T m c below) (hx : tb.exec = Jvm.exec) {x y : Int32} (hd : decode c.code pc = .ok (.irem, 1)) (hy : y ≠ 0) (hp : pc + 1 = pc') (r : Go tb e below P T (mkF m pc' Ls (.int (x % y) :: st))) : Go tb e below P T (mkF m pc Ls (.int y :: .int x :: st)) := by
  subst hp
  have q : x - x / y * y = x % y := irem_eq_mod x y
  exact Go.next (fun t hr => XS.irem h hx rfl hd rfl hy (by rw [q]; exact hr)) r
theorem w_i2b (h : At T m c below) (hx : tb.exec = Jvm.exec) {x : Int32} (hd : decode c.code pc = .ok (.i2b, 1)) (hp : pc + 1 = pc') (r : Go tb e below P T (mkF m pc' Ls (.int x.toInt8.toInt32 :: st))) : Go tb e below P T (mkF m pc Ls (.int x :: st)) := by
  subst hp; exact Go.next (fun t hr => Jvm.Free.XT.i2b h hx rfl hd rfl hr) r
theorem w_i2c (h : At T m c below) (hx : tb.exec = Jvm.exec) {x : Int32} (hd : decode c.code pc = .ok (.i2c, 1)) (hp : pc + 1 = pc') (r : Go tb e below P T (mkF m pc' Ls (.int x.toUInt32.toUInt16.toUInt32.toInt32 :: st))) : Go tb e below P T (mkF m pc Ls (.int x :: st)) := by
  subst hp; exact Go.next (fun t hr => Jvm.Free.XT.i2c h hx rfl hd rfl hr) r
theorem w_dup (h : At T m c below) (hx : tb.exec = Jvm.exec) {x : Value} (hd : decode c.code pc = .ok (.dup, 1)) (hc : x.category = 1) (hp : pc + 1 = pc') (r : Go tb e below P T (mkF m pc' Ls (x :: x :: st))) : Go tb e below P T (mkF m pc Ls (x :: st)) := by
  subst hp; exact Go.next (fun t hr => XS.dup h hx rfl hd rfl hc hr) r
theorem w_pop (h : At T m c below) (hx : tb.exec = Jvm.exec) {x : Value} (hd : decode c.code pc = .ok (.pop, 1)) (hc : x.category = 1) (hp : pc + 1 = pc') (r : Go tb e below P T (mkF m pc' Ls st)) : Go tb e below P T (mkF m pc Ls (x :: st)) := by
  subst hp; exact Go.next (fun t hr => Jvm.Free.XT.pop h hx rfl hd rfl hc hr) r
theorem w_istoreN (h : At T m c below) (hx : tb.exec = Jvm.exec) {k : Fin 4} {x : Int32} (hd : decode c.code pc = .ok (.istore_n k, 1)) (hl : storeLocals Ls k.val (.int x) = some l') (hp : pc + 1 = pc') (r : Go tb e below P T (mkF m pc' l' st)) : Go tb e below P T (mkF m pc Ls (.int x :: st)) := by
  subst hp; exact Go.next (fun t hr => XS.istoreN h hx rfl hd rfl hl hr) r
theorem w_istore (h : At T m c below) (hx : tb.exec = Jvm.exec) {k : Nat} {x : Int32} (hd : decode c.code pc = .ok (.istore k, 2)) (hl : storeLocals Ls k (.int x) = some l') (hp : pc + 2 = pc') (r : Go tb e below P T (mkF m pc' l' st)) : Go tb e below P T (mkF m pc Ls (.int x :: st)) := by
  subst hp; exact Go.next (fun t hr => XS.istore h hx rfl hd rfl hl hr) r
theorem w_astoreN (h : At T m c below) (hx : tb.exec = Jvm.exec) {k : Fin 4} {x : Value} (hd : decode c.code pc = .ok (.astore_n k, 1)) (hv : x.isRef = true) (hl : storeLocals Ls k.val x = some l') (hp : pc + 1 = pc') (r : Go tb e below P T (mkF m pc' l' st)) : Go tb e below P T (mkF m pc Ls (x :: st)) := by
  subst hp; exact Go.next (fun t hr => XS.astoreN h hx rfl hd rfl hv hl hr) r
theorem w_astore (h : At T m c below) (hx : tb.exec = Jvm.exec) {k : Nat} {x : Value} (hd : decode c.code pc = .ok (.astore k, 2)) (hv : x.isRef = true) (hl : storeLocals Ls k x = some l') (hp : pc + 2 = pc') (r : Go tb e below P T (mkF m pc' l' st)) : Go tb e below P T (mkF m pc Ls (x :: st)) := by
  subst hp; exact Go.next (fun t hr => XS.astore h hx rfl hd rfl hv hl hr) r
theorem w_iinc (h : At T m c below) (hx : tb.exec = Jvm.exec) {k : Nat} {cst : Int} {x z : Int32} (hd : decode c.code pc = .ok (.iinc k cst, 3)) (hl : Ls[k]? = some (.val (.int x))) (hz : Int32.ofInt cst = z) (hl' : storeLocals Ls k (.int (x + z)) = some l') (hp : pc + 3 = pc') (r : Go tb e below P T (mkF m pc' l' st)) : Go tb e below P T (mkF m pc Ls st) := by
  subst hp hz; exact Go.next (fun t hr => XS.iinc h hx rfl hd hl hl' hr) r
theorem w_goto (h : At T m c below) (hx : tb.exec = Jvm.exec) {o : Int} (hd : decode c.code pc = .ok (.goto o, 3)) (ho : 0 ≤ (pc : Int) + o) (hp : ((pc : Int) + o).toNat = pc') (r : Go tb e below P T (mkF m pc' Ls st)) : Go tb e below P T (mkF m pc Ls st) :=
  Go.next (fun t hr => XS.goto h hx rfl rfl hd ho hp hr) r
theorem w_ifYes (h : At T m c below) (hx : tb.exec = Jvm.exec) {cd : ClassFile.Cond} {x : Int32} {o : Int} (hd : decode c.code pc = .ok (.ifCond cd o, 3)) (hc : if_icmp.holds cd x 0 = true) (ho : 0 ≤ (pc : Int) + o) (hp : ((pc : Int) + o).toNat = pc') (r : Go tb e below P T (mkF m pc' Ls st)) : Go tb e below P T (mkF m pc Ls (.int x :: st)) :=
  Go.next (fun t hr => XS.ifYes h hx rfl rfl hd rfl ((if0 _ _).trans hc) ho hp hr) r
theorem w_ifNo (h : At T m c below) (hx : tb.exec = Jvm.exec) {cd : ClassFile.Cond} {x : Int32} {o : Int} (hd : decode c.code pc = .ok (.ifCond cd o, 3)) (hc : if_icmp.holds cd x 0 = false) (hp : pc + 3 = pc') (r : Go tb e below P T (mkF m pc' Ls st)) : Go tb e below P T (mkF m pc Ls (.int x :: st)) := by
  subst hp; exact Go.next (fun t hr => XS.ifNo h hx rfl hd rfl ((if0 _ _).trans hc) hr) r
theorem w_icmpYes (h : At T m c below) (hx : tb.exec = Jvm.exec) {cd : ClassFile.Cond} {x y : Int32} {o : Int} (hd : decode c.code pc = .ok (.if_icmp cd o, 3)) (hc : if_icmp.holds cd x y = true) (ho : 0 ≤ (pc : Int) + o) (hp : ((pc : Int) + o).toNat = pc') (r : Go tb e below P T (mkF m pc' Ls st)) : Go tb e below P T (mkF m pc Ls (.int y :: .int x :: st)) :=
  Go.next (fun t hr => XS.icmpYes h hx rfl rfl hd rfl hc ho hp hr) r
theorem w_icmpNo (h : At T m c below) (hx : tb.exec = Jvm.exec) {cd : ClassFile.Cond} {x y : Int32} {o : Int} (hd : decode c.code pc = .ok (.if_icmp cd o, 3)) (hc : if_icmp.holds cd x y = false) (hp : pc + 3 = pc') (r : Go tb e below P T (mkF m pc' Ls st)) : Go tb e below P T (mkF m pc Ls (.int y :: .int x :: st)) := by
  subst hp; exact Go.next (fun t hr => XS.icmpNo h hx rfl hd rfl hc hr) r
theorem w_ifnullYes (h : At T m c below) (hx : tb.exec = Jvm.exec) {o : Int} (hd : decode c.code pc = .ok (.ifnull o, 3)) (ho : 0 ≤ (pc : Int) + o) (hp : ((pc : Int) + o).toNat = pc') (r : Go tb e below P T (mkF m pc' Ls st)) : Go tb e below P T (mkF m pc Ls (.null :: st)) :=
  Go.next (fun t hr => XS.ifnullYes h hx rfl rfl hd rfl ho hp hr) r
theorem w_ifnullNo (h : At T m c below) (hx : tb.exec = Jvm.exec) {b : Addr} {o : Int} (hd : decode c.code pc = .ok (.ifnull o, 3)) (hp : pc + 3 = pc') (r : Go tb e below P T (mkF m pc' Ls st)) : Go tb e below P T (mkF m pc Ls (.ref b :: st)) := by
  subst hp; exact Go.next (fun t hr => XS.ifnullNo h hx rfl hd rfl hr) r
theorem w_ifnonnullYes (h : At T m c below) (hx : tb.exec = Jvm.exec) {b : Addr} {o : Int} (hd : decode c.code pc = .ok (.ifnonnull o, 3)) (ho : 0 ≤ (pc : Int) + o) (hp : ((pc : Int) + o).toNat = pc') (r : Go tb e below P T (mkF m pc' Ls st)) : Go tb e below P T (mkF m pc Ls (.ref b :: st)) :=
  Go.next (fun t hr => Jvm.Free.XT.ifnonnullYes h hx rfl rfl hd rfl ho hp hr) r
theorem w_ifnonnullNo (h : At T m c below) (hx : tb.exec = Jvm.exec) {o : Int} (hd : decode c.code pc = .ok (.ifnonnull o, 3)) (hp : pc + 3 = pc') (r : Go tb e below P T (mkF m pc' Ls st)) : Go tb e below P T (mkF m pc Ls (.null :: st)) := by
  subst hp; exact Go.next (fun t hr => Jvm.Free.XT.ifnonnullNo h hx rfl hd rfl hr) r
theorem w_acmpYes (h : At T m c below) (hx : tb.exec = Jvm.exec) {cd : ACond} {x y : Value} {o : Int} (hd : decode c.code pc = .ok (.if_acmp cd o, 3)) (h1 : x.isRef = true) (h2 : y.isRef = true) (hc : Jvm.Free.XT.acmp cd x y = true) (ho : 0 ≤ (pc : Int) + o) (hp : ((pc : Int) + o).toNat = pc') (r : Go tb e below P T (mkF m pc' Ls st)) : Go tb e below P T (mkF m pc Ls (y :: x :: st)) :=
  Go.next (fun t hr => Jvm.Free.XT.acmpYes h hx rfl rfl hd rfl h1 h2 hc ho hp hr) r
theorem w_acmpNo (h : At T m c below) (hx : tb.exec = Jvm.exec) {cd : ACond} {x y : Value} {o : Int} (hd : decode c.code pc = .ok (.if_acmp cd o, 3)) (h1 : x.isRef = true) (h2 : y.isRef = true) (hc : Jvm.Free.XT.acmp cd x y = false) (hp : pc + 3 = pc') (r : Go tb e below P T (mkF m pc' Ls st)) : Go tb e below P T (mkF m pc Ls (y :: x :: st)) := by
  subst hp; exact Go.next (fun t hr => Jvm.Free.XT.acmpNo h hx rfl hd rfl h1 h2 hc hr) r
end WK
section WE
variable {p : Program} {l : Launch} {e : Env} {R : Room} {s : State} {m : MethodId} {args : Array Value} {below : List Frame} {meth : Method} {c : Code} {T : State} {locs : List Loc} {cells slots : Nat} {pc : Nat} {Ls : Array Slot} {st : List Value} {Q : Option Value → Heap → List Loc → Prop} {K N : Nat} {Z : State} {h h0 h1 h' : Heap}
/-- how a body ends: it returned, Q, and the frame -/
def EndN (s : State) (below : List Frame) (Q : Option Value → Heap → List Loc → Prop) (K N : Nat) (t : State) : Prop := t.status = .running ∧ ∃ v L, Ended t below (.returned v) ∧ Q v t.heap L ∧ FrameEnd s (.returned v) t L K N
theorem endI (X : Stand p l e R s m args below meth c T locs cells slots) (hx : p.tables.exec = Jvm.exec) (hlk : meth.locks = false) {z : Int32} (hret : meth.sig.returnType = some .int) (hd : decode c.code pc = .ok (.ireturn, 1)) (hc : cells ≤ K) (hs : slots ≤ N) (hQ : Q (some (.int z)) T.heap locs) : Go p.tables e below (EndN s below Q K N) T (mkF m pc Ls (.int z :: st)) := by
  obtain ⟨fs, hr, hrun, hended, hW, hsame⟩ := X.leave (v := some (.int z)) (fun h => by rw [hret] at h; cases h) hlk
  exact ⟨_, retI X hx hret hd hr, hrun, _, _, hended, hQ, ⟨_, rfl⟩, hW, hsame.mono hc hs⟩
theorem endZ (X : Stand p l e R s m args below meth c T locs cells slots) (hx : p.tables.exec = Jvm.exec) (hlk : meth.locks = false) {z z' : Int32} {t : FieldType} (hret : meth.sig.returnType = some t) (ht : t = .boolean ∨ t = .byte ∨ t = .char ∨ t = .short) (hd : decode c.code pc = .ok (.ireturn, 1)) (hz : nar t z = z') (hc : cells ≤ K) (hs : slots ≤ N) (hQ : Q (some (.int z')) T.heap locs) : Go p.tables e below (EndN s below Q K N) T (mkF m pc Ls (.int z :: st)) := by
  subst hz
  obtain ⟨fs, hr, hrun, hended, hW, hsame⟩ := X.leave (v := some (.int (nar t z))) (fun h => by rw [hret] at h; cases h) hlk
  exact ⟨_, retN X hx hret ht hd hr, hrun, _, _, hended, hQ, ⟨_, rfl⟩, hW, hsame.mono hc hs⟩
theorem endV (X : Stand p l e R s m args below meth c T locs cells slots) (hx : p.tables.exec = Jvm.exec) (hlk : meth.locks = false) (hret : meth.sig.returnType = none) (hd : decode c.code pc = .ok (.return_, 1)) (hc : cells ≤ K) (hs : slots ≤ N) (hQ : Q none T.heap locs) : Go p.tables e below (EndN s below Q K N) T (mkF m pc Ls []) := by
  obtain ⟨fs, hr, hrun, hended, hW, hsame⟩ := X.leave (v := none) (fun _ => rfl) hlk
  exact ⟨_, X.returnOut hx hret hd hr, hrun, _, _, hended, hQ, ⟨_, rfl⟩, hW, hsame.mono hc hs⟩
theorem retR (X : Stand p l e R s m args below meth c T locs cells slots) (hx : p.tables.exec = Jvm.exec) {v : Value} {t : FieldType} (hv : v.isRef = true) (hret : meth.sig.returnType = some t) (ht : t.isReference = true) (hd : decode c.code pc = .ok (.areturn, 1)) {fs : List Frame}
    (hl : ∀ (f : JFrame) (acts : List Action), f.method = m → f.locked = none → f.entered = [] → (doReturn e (T.setTop f) acts (some v)).1 = T.setFrames fs) : Steps p.tables e below (T.setTop (mkF m pc Ls (v :: st))) (T.setFrames fs) := by
  have hm' : T.vm.method? m = some meth := X.method'
  rcases ref_cases hv with rfl | ⟨a, rfl⟩
  all_goals
    show Steps p.tables e below (T.setTop { method := m, pc := pc, locals := Ls, stack := _ :: st, locked := none }) _
    jvm_step X.here [X.here.top, hx, hd, hm', hret, ht, Value.isRef]
    first | (intro acts; rw [hl _ acts rfl rfl rfl]) | rw [hl _ _ rfl rfl rfl]
    exact Steps.refl _
theorem endR (X : Stand p l e R s m args below meth c T locs cells slots) (hx : p.tables.exec = Jvm.exec) (hlk : meth.locks = false) {v : Value} {t : FieldType} (hv : v.isRef = true) (hret : meth.sig.returnType = some t) (ht : t.isReference = true) (hd : decode c.code pc = .ok (.areturn, 1)) (hc : cells ≤ K) (hs : slots ≤ N) (hQ : Q (some v) T.heap locs) : Go p.tables e below (EndN s below Q K N) T (mkF m pc Ls (v :: st)) := by
  obtain ⟨fs, hr, hrun, hended, hW, hsame⟩ := X.leave (v := some v) (fun h => by rw [hret] at h; cases h) hlk
  exact ⟨_, retR X hx hv hret ht hd hr, hrun, _, _, hended, hQ, ⟨_, rfl⟩, hW, hsame.mono hc hs⟩
/-- a body's contract: from the heap h0, with these arguments, it returns as Q says -/
abbrev Ct (l : Launch) (y : MethodName) (bytes : ByteArray) (maxL : Nat) (ret : Option FieldType) (rm : Room) (Z : State) (as' : Array Value) (h0 : Heap) (Q : Option Value → Heap → List Loc → Prop) : Prop :=
  MetFree l y (head1 [Jvm.Cond.code y bytes maxL ret] rm) (fun a U => a = as' ∧ Z.Warmed39 U.vm ∧ U.heap = h0) (fun _ _ _ _ _ => True) (fun _ U o U' => ∃ v L, o = .returned v ∧ Q v U'.heap L ∧ FrameEnd U o U' L rm.cells rm.slots)
theorem ct_of {y : MethodName} {bytes : ByteArray} {maxL : Nat} {ret : Option FieldType} {rm : Room} {as' : Array Value} {ws : List Jvm.Cond} (hpn : plainFor y = true)
    (body : ∀ (p : Program) (e : Env) (s : State) (m : MethodId) (below : List Frame) (meth : Method) (c : Code) (s₁ : State), Stand p l e rm s m as' below meth c s₁ [] 0 0 → p.tables.exec = Jvm.exec → c.code = bytes → c.maxLocals = maxL → meth.sig.returnType = ret → meth.name = y.name → meth.locks = false → s.vm.findClass y.cls = some m.cls → Z.Warmed39 s.vm → s.heap = h0 → s₁.heap = h0 → Go p.tables e below (EndN s below Q K N) s₁ (entryFrame m as' maxL)) :
    MetFree l y (head1 (Jvm.Cond.code y bytes maxL ret :: ws) rm) (fun a U => a = as' ∧ Z.Warmed39 U.vm ∧ U.heap = h0) (fun _ _ _ _ _ => True) (fun _ U o U' => ∃ v L, o = .returned v ∧ Q v U'.heap L ∧ FrameEnd U o U' L K N) := by
  refine MetFree.of_bodySF hpn hisR ?_
  intro p e s m args below meth c s₁ Bd hml0 hP hK
  obtain ⟨rfl, hZ, hh⟩ := hP
  have e0 : s₁.heap = h0 := by rw [← hh, Bd.state]; rfl
  obtain ⟨t, g1, g2, v, L, g3, g4, g5⟩ := body p e s m below meth c s₁ (Stand.of_body Bd) Bd.exec Bd.bytes hml0 Bd.returns (name_of_methodNamed Bd.named Bd.method).1 Bd.notSynchronized (findClass_of_methodNamed Bd.named) hZ hh e0
  exact ⟨t, _, g1, g2, g3, v, L, rfl, g4, g5⟩
theorem Ext.rfl' : Ext h h := ⟨Nat.le_refl _, fun _ _ q => q⟩
theorem Ext.trs (E : Ext h0 h) (E' : Ext h h') : Ext h0 h' := ⟨Nat.le_trans E.1 E'.1, fun a c q => E'.2 a c (E.2 a c q)⟩
theorem Ext.wr {a : Addr} {sl : Nat} {v : Value} (E : Ext h0 h) (W : Wr h h' a sl v) (q : h0.size ≤ a) : Ext h0 h' := by
  refine ⟨Nat.le_trans E.1 (Nat.le_of_eq W.size.symm), fun b c hb => ?_⟩
  obtain ⟨cb', h1, -, -, -, h5, -⟩ := wr_at W (E.2 b c hb)
  have : b ≠ a := Nat.ne_of_lt (Nat.lt_of_lt_of_le (Array.getElem?_eq_some_iff.mp hb).1 q)
  rw [h1, h5 this]
theorem Ext.kp {ws : List Addr} (E : Ext h0 h) (K : Keep h h' ws) (q : ∀ x ∈ ws, h0.size ≤ x) : Ext h0 h' :=
  ⟨Nat.le_trans E.1 K.1, fun b c hb => K.2.1 b c (E.2 b c hb) fun hm => absurd (q b hm) (Nat.not_le.mpr (Array.getElem?_eq_some_iff.mp hb).1)⟩
theorem Ext.keep (E : Ext h h') : Keep h h' [] := (Keep.refl h []).ext E
theorem w_arraylength (X : Stand p l e R s m args below meth c T locs cells slots) (hx : p.tables.exec = Jvm.exec) (hZ : Z.Warmed39 s.vm) (eT : T.heap = h) {a : Addr} {k : ClassId} {ty : FieldType} {n : Int32} {vs : List Value} {dv : Value} (A : Arv Z h a k ty n vs dv) (hd : decode c.code pc = .ok (.arraylength, 1)) {pc' : Nat} (hp : pc + 1 = pc') {P : State → Prop} (r : Go p.tables e below P T (mkF m pc' Ls (.int n :: st))) : Go p.tables e below P T (mkF m pc Ls (.ref a :: st)) := by
  obtain ⟨cl, Ar, -, S, M, -, -⟩ := A
  subst hp
  exact Go.next (fun t hr => X.arraylength hx (by rw [eT]; exact Ar.1) (State.isArrayOf_alike hZ.alike Ar.2.1) (g := mkF m pc Ls (.ref a :: st)) rfl rfl hd _ (by rw [len_of S M]; exact hr)) r
theorem w_caload (X : Stand p l e R s m args below meth c T locs cells slots) (hx : p.tables.exec = Jvm.exec) (hZ : Z.Warmed39 s.vm) (eT : T.heap = h) {a : Addr} {k : ClassId} {n j : Int32} {vs : List Value} {dv v : Value} (A : Arv Z h a k .char n vs dv) (hj : ¬ j < 0 ∧ j < n) (hv : vs.getD j.toNatClampNeg dv = v) (hd : decode c.code pc = .ok (.caload, 1)) {pc' : Nat} (hp : pc + 1 = pc') {P : State → Prop} (r : Go p.tables e below P T (mkF m pc' Ls (v :: st))) : Go p.tables e below P T (mkF m pc Ls (.int j :: .ref a :: st)) := by
  obtain ⟨cl, Ar, -, S, M, H, -⟩ := A
  subst hp
  exact Go.next (fun t hr => X.caload hx (by rw [eT]; exact Ar.1) (State.isArrayOf_alike hZ.alike Ar.2.1) Ar.2.2 (inb_of S hj) (H.at (inb_of S hj) hv) (g := mkF m pc Ls (.int j :: .ref a :: st)) rfl rfl hd _ hr) r
theorem w_baload (X : Stand p l e R s m args below meth c T locs cells slots) (hx : p.tables.exec = Jvm.exec) (hZ : Z.Warmed39 s.vm) (eT : T.heap = h) {a : Addr} {k : ClassId} {n j : Int32} {vs : List Value} {dv v : Value} (A : Arv Z h a k .byte n vs dv) (hj : ¬ j < 0 ∧ j < n) (hv : vs.getD j.toNatClampNeg dv = v) (hd : decode c.code pc = .ok (.baload, 1)) {pc' : Nat} (hp : pc + 1 = pc') {P : State → Prop} (r : Go p.tables e below P T (mkF m pc' Ls (v :: st))) : Go p.tables e below P T (mkF m pc Ls (.int j :: .ref a :: st)) := by
  obtain ⟨cl, Ar, -, S, M, H, -⟩ := A
  subst hp
  exact Go.next (fun t hr => X.baloadBytes hx (by rw [eT]; exact Ar.1) (State.isArrayOf_alike hZ.alike Ar.2.1) Ar.2.2 (inb_of S hj) (H.at (inb_of S hj) hv) (g := mkF m pc Ls (.int j :: .ref a :: st)) rfl rfl hd _ hr) r
theorem w_aaload (X : Stand p l e R s m args below meth c T locs cells slots) (hx : p.tables.exec = Jvm.exec) (hZ : Z.Warmed39 s.vm) (eT : T.heap = h) {a : Addr} {k : ClassId} {ty : FieldType} {n j : Int32} {vs : List Value} {dv v : Value} (A : Arv Z h a k ty n vs dv) (hty : ty.isReference = true) (hj : ¬ j < 0 ∧ j < n) (hv : vs.getD j.toNatClampNeg dv = v) (hd : decode c.code pc = .ok (.aaload, 1)) {pc' : Nat} (hp : pc + 1 = pc') {P : State → Prop} (r : Go p.tables e below P T (mkF m pc' Ls (v :: st))) : Go p.tables e below P T (mkF m pc Ls (.int j :: .ref a :: st)) := by
  obtain ⟨cl, Ar, -, S, M, H, -⟩ := A
  subst hp
  exact Go.next (fun t hr => X.aaload hx (by rw [eT]; exact Ar.1) (State.isArrayOf_alike hZ.alike Ar.2.1) hty Ar.2.2 (inb_of S hj) (H.at (inb_of S hj) hv) (g := mkF m pc Ls (.int j :: .ref a :: st)) rfl rfl hd _ hr) r
theorem w_castore (X : Stand p l e R s m args below meth c T locs cells slots) (hx : p.tables.exec = Jvm.exec) (hZ : Z.Warmed39 s.vm) (eT : T.heap = h) {a : Addr} {k : ClassId} {n j z : Int32} {vs : List Value} {dv : Value} (A : Arv Z h a k .char n vs dv) (hj : ¬ j < 0 ∧ j < n) (i : Nat) (hi : j.toNatClampNeg = i) (hl : i < vs.length) (hd : decode c.code pc = .ok (.castore, 1)) {pc' : Nat} (hp : pc + 1 = pc') {P : State → Prop}
    (r : ∀ T' h', Stand p l e R s m args below meth c T' (locs ++ [⟨a, i⟩]) cells slots → T'.heap = h' → Wr h h' a i (.int (nar .char z)) → Arv Z h' a k .char n (vs.set i (.int (nar .char z))) dv → Go p.tables e below P T' (mkF m pc' Ls st)) : Go p.tables e below P T (mkF m pc Ls (.int z :: .int j :: .ref a :: st)) := by
  obtain ⟨cl, Ar, q1, S, M, H, G⟩ := A
  subst hp
  obtain ⟨T', h', X', e', W, stp⟩ := stC X hx hZ eT Ar (j := j) (inb_of S hj) (g := mkF m pc Ls (.int z :: .int j :: .ref a :: st)) rfl rfl hd
  have W' : Wr h h' a i (.int (nar .char z)) := by rw [← hi]; exact W
  exact Go.next stp (r T' h' (by rw [← hi]; exact X') e' W' (Arv.set Ar q1 S M H G (fits_nar_char _) W i hi hl))
theorem w_bastore (X : Stand p l e R s m args below meth c T locs cells slots) (hx : p.tables.exec = Jvm.exec) (hZ : Z.Warmed39 s.vm) (eT : T.heap = h) {a : Addr} {k : ClassId} {n j z : Int32} {vs : List Value} {dv : Value} (A : Arv Z h a k .byte n vs dv) (hj : ¬ j < 0 ∧ j < n) (i : Nat) (hi : j.toNatClampNeg = i) (hl : i < vs.length) (hd : decode c.code pc = .ok (.bastore, 1)) {pc' : Nat} (hp : pc + 1 = pc') {P : State → Prop}
    (r : ∀ T' h', Stand p l e R s m args below meth c T' (locs ++ [⟨a, i⟩]) cells slots → T'.heap = h' → Wr h h' a i (.int z.toInt8.toInt32) → Arv Z h' a k .byte n (vs.set i (.int z.toInt8.toInt32)) dv → Go p.tables e below P T' (mkF m pc' Ls st)) : Go p.tables e below P T (mkF m pc Ls (.int z :: .int j :: .ref a :: st)) := by
  obtain ⟨cl, Ar, q1, S, M, H, G⟩ := A
  subst hp
  obtain ⟨T', h', X', e', W, stp⟩ := stB X hx hZ eT Ar (j := j) (inb_of S hj) (g := mkF m pc Ls (.int z :: .int j :: .ref a :: st)) rfl rfl hd
  have W' : Wr h h' a i (.int z.toInt8.toInt32) := by rw [← hi]; exact W
  exact Go.next stp (r T' h' (by rw [← hi]; exact X') e' W' (Arv.set Ar q1 S M H G (fits_nar_byte _) W i hi hl))
end WE

section WH
variable {p : Program} {l : Launch} {e : Env} {R : Room} {s : State} {m : MethodId} {args : Array Value} {below : List Frame} {meth : Method} {c : Code} {T : State} {locs : List Loc} {cells slots : Nat} {pc pc' : Nat} {Ls : Array Slot} {st stk : List Value} {P : State → Prop} {Z : State} {a0 : Array Value} {h : Heap}
theorem w_getF (X : Stand p l e R s m args below meth c T locs cells slots) (hx : p.tables.exec = Jvm.exec) (hZ : Z.Warmed39 s.vm) {own R0 O n d : String} {index : Nat} (hown : s.vm.findClass own = some m.cls) (w : (Jvm.Cond.fieldLink own index R0 n d).before a0 Z = true) (via : Via Z R0 O n d)
    (eT : T.heap = h) {a : Addr} {v : Value} (F : Fld Z h a O n d v) (hd : decode c.code pc = .ok (.getfield index, 3)) (hp : pc + 3 = pc') (r : ∀ T', Stand p l e R s m args below meth c T' locs cells slots → T'.heap = h → Go p.tables e below P T' (mkF m pc' Ls (v :: st))) : Go p.tables e below P T (mkF m pc Ls (.ref a :: st)) := by
  subst hp
  obtain ⟨T', X', e', stp⟩ := getF X hx hZ hown (host := "") (Or.inl w) via eT F (g := mkF m pc Ls (.ref a :: st)) rfl rfl hd
  exact Go.next stp (r T' X' e')
theorem w_getS (X : Stand p l e R s m args below meth c T locs cells slots) (hx : p.tables.exec = Jvm.exec) (hZ : Z.Warmed39 s.vm) {own R0 O n d : String} {index : Nat} (hown : s.vm.findClass own = some m.cls) (w : (Jvm.Cond.fieldLink own index R0 n d).before a0 Z = true) (via : Via Z R0 O n d)
    (eT : T.heap = h) {v : Value} (F : Sta Z h O n d v) (hd : decode c.code pc = .ok (.getstatic index, 3)) (hp : pc + 3 = pc') (r : ∀ T', Stand p l e R s m args below meth c T' locs cells slots → T'.heap = h → Go p.tables e below P T' (mkF m pc' Ls (v :: st))) : Go p.tables e below P T (mkF m pc Ls st) := by
  subst hp
  obtain ⟨T', X', e', stp⟩ := getS2 X hx hZ hown (host := "") (Or.inl w) via eT F (g := mkF m pc Ls st) rfl hd
  exact Go.next stp (r T' X' e')
theorem w_putF (X : Stand p l e R s m args below meth c T locs cells slots) (hx : p.tables.exec = Jvm.exec) (hZ : Z.Warmed39 s.vm) {own R0 O n d C : String} {index kk : Nat} {ty : FieldType} (hown : s.vm.findClass own = some m.cls) (w : (Jvm.Cond.fieldLink own index R0 n d).before a0 Z = true) (via : Via Z R0 O n d)
    (eT : T.heap = h) {a : Addr} {v old : Value} (F : Fld Z h a O n d old) (E : Exa Z h a C) (L : (Jvm.Cond.lays C O n d).before a0 Z = true ∨ ((Jvm.Cond.laysFinal C O n d).before a0 Z = true ∧ own = O ∧ meth.name = "<init>")) (wi : (Jvm.Cond.instantiable C kk).before a0 Z = true)
    (hty : parseFieldDescriptor d = some ty) (hn : narrow ty v = v) (hf : fits ty v = true) (hd : decode c.code pc = .ok (.putfield index, 3)) (hp : pc + 3 = pc')
    (r : ∀ T' h', Stand p l e R s m args below meth c T' (locs ++ [⟨a, Jvm.RoadKit.slotOf Z O n d⟩]) cells slots → T'.heap = h' → Wr h h' a (Jvm.RoadKit.slotOf Z O n d) v → Go p.tables e below P T' (mkF m pc' Ls st)) : Go p.tables e below P T (mkF m pc Ls (v :: .ref a :: st)) := by
  subst hp
  obtain ⟨T', h', X', e', W, stp⟩ := putF X hx hZ hown (host := "") (Or.inl w) via eT F E L wi hty hn hf (g := mkF m pc Ls (v :: .ref a :: st)) rfl rfl hd
  exact Go.next stp (r T' h' X' e' W)
theorem w_new (X : Stand p l e R s m args below meth c T locs cells slots) (hx : p.tables.exec = Jvm.exec) (hZ : Z.Warmed39 s.vm) {own C : String} {index n : Nat} (hown : s.vm.findClass own = some m.cls) (w : (Jvm.Cond.classLink own index C).before a0 Z = true) (wi : (Jvm.Cond.instantiable C n).before a0 Z = true) (wz : (Jvm.Cond.initialized C).before a0 Z = true) (eT : T.heap = h)
    (hd : decode c.code pc = .ok (.new index, 3)) (hc : cells + 1 ≤ R.cells) (hl : slots + n ≤ R.slots) (hp : pc + 3 = pc')
    (r : ∀ T' h' b, h.size = b → Stand p l e R s m args below meth c T' locs (cells + 1) (slots + n) → T'.heap = h' → Ext h h' → Exa Z h' b C → (∀ {O nm d : String} {ty : FieldType}, Laid Z a0 C O nm d → parseFieldDescriptor d = some ty → Fld Z h' b O nm d (defaultValue ty)) → (∃ cell : Cell, h'[b]? = some cell ∧ cell.vm = .none ∧ cell.monitor = {}) → Go p.tables e below P T' (mkF m pc' Ls (.ref b :: st))) : Go p.tables e below P T (mkF m pc Ls st) := by
  subst hp
  obtain ⟨T', h', X', e', E, A, D, U, stp⟩ := newO X hx hZ hown w wi wz eT (g := mkF m pc Ls st) rfl hd hc hl
  exact Go.next stp (r T' h' _ rfl X' e' E A D U)
theorem w_newarray (X : Stand p l e R s m args below meth c T locs cells slots) (hx : p.tables.exec = Jvm.exec) (hZ : Z.Warmed39 s.vm) {aty : ArrayType} {ty : FieldType} {dv : Value} (hty : newarray.typeOf aty = ty) (hdv : defaultValue ty = dv) (w : (Jvm.Cond.arrayClass ty).before a0 Z = true) (eT : T.heap = h) {n : Int32} (hd : decode c.code pc = .ok (.newarray aty, 2)) (hn : ¬ n < 0) {cap : Nat} (hcap : n.toNatClampNeg ≤ cap) (hb : cap * 8 ≤ 536870912) (hc : cells + 1 ≤ R.cells) (hl : slots + cap ≤ R.slots) (hp : pc + 2 = pc')
    (r : ∀ T' h' b k, h.size = b → Stand p l e R s m args below meth c T' locs (cells + 1) (slots + cap) → T'.heap = h' → Ext h h' → Arv Z h' b k ty n (List.replicate n.toNatClampNeg dv) dv → Go p.tables e below P T' (mkF m pc' Ls (.ref b :: st))) : Go p.tables e below P T (mkF m pc Ls (.int n :: st)) := by
  subst hp hty hdv
  obtain ⟨T', h', k, X', e', E, A, stp⟩ := newP X hx hZ w eT (g := mkF m pc Ls (.int n :: st)) rfl hd rfl hn hcap hb hc hl
  exact Go.next stp (r T' h' _ k rfl X' e' E ((Arv.new A hn).pad (pad_rep [] _ _)))
abbrev BackQ (l : Launch) (R : Room) (p : Program) (e : Env) (below : List Frame) (s : State) (args : Array Value) (y : MethodName) (W : Nat) (as' : Array Value) (h : Heap) (kc ks : Nat) (Q : Option Value → Heap → List Loc → Prop) : Prop :=
  Back l R p e below s args y 3 W (fun A a => a = as' ∧ A.U.heap = h ∧ A.cells + kc ≤ R.cells ∧ A.slots + ks ≤ R.slots) (fun A _ v B => ∃ L, Q v B.U.heap L ∧ B.locs = A.locs ++ L ∧ B.cells = A.cells + kc ∧ B.slots = A.slots + ks)
theorem backC {y : MethodName} {bytes : ByteArray} {maxL : Nat} {ret : Option FieldType} {rm : Room} {W : Nat} {as' : Array Value} {Q : Option Value → Heap → List Loc → Prop} (hM : Ct l y bytes maxL ret rm Z as' h Q) (hZ : Z.Warmed39 s.vm) (wc : (Jvm.Cond.code y bytes maxL ret).before a0 Z = true) (wz : (Jvm.Cond.initialized y.cls).before a0 Z = true) (hf : rm.frames + 1 ≤ R.frames) (hl : W + (maxL + 11) + rm.locals ≤ R.locals) : BackQ l R p e below s args y W as' h rm.cells rm.slots Q :=
  backOf hM hZ wc wz hf hl
theorem w_static (X : Stand p l e R s m args below meth c T locs cells slots) (hx : p.tables.exec = Jvm.exec) (hZ : Z.Warmed39 s.vm) {own : String} {index : Nat} {y : MethodName} {bytes : ByteArray} {maxL : Nat} {ret : Option FieldType} {sig : MethodDescriptor} (hown : s.vm.findClass own = some m.cls) (w1 : (Jvm.Cond.methodLink own index y).before a0 Z = true) (w2 : (Jvm.Cond.static y).before a0 Z = true) (w3 : (Jvm.Cond.initialized y.cls).before a0 Z = true) (w4 : (Jvm.Cond.code y bytes maxL ret).before a0 Z = true)
    (hy : y.cls ≠ "java/lang/invoke/MethodHandle" ∧ y.cls ≠ "java/lang/invoke/VarHandle") {W kc ks : Nat} {as' : Array Value} {Q : Option Value → Heap → List Loc → Prop} (hK : BackQ l R p e below s args y W as' h kc ks Q) (eT : T.heap = h) (hsize : Ls.size = c.maxLocals) {argsL : List Value} (hsig : parseMethodDescriptor y.desc = some sig) (hlen : argsL.length = sig.parameters.length) (hstk : stk = argsL.reverse ++ st) (has : argsL.toArray = as') (hW : (st.map fun v => v.category).sum ≤ W) (hd : decode c.code pc = .ok (.invokestatic index, 3)) (hc : cells + kc ≤ R.cells) (hs : slots + ks ≤ R.slots) (hp : pc + 3 = pc')
    (r : ∀ T' v L, Stand p l e R s m args below meth c T' (locs ++ L) (cells + kc) (slots + ks) → Q v T'.heap L → Go p.tables e below P T' (mkF m pc' Ls (v.toList ++ st))) : Go p.tables e below P T (mkF m pc Ls stk) := by
  subst hp hstk
  obtain ⟨v, _, ⟨T', L', k', n'⟩, -, X', ⟨Lc, hQ, l', y', z'⟩, stp⟩ := Jvm.LawKit.callS X hx (y := y) hown (mvT hZ w1) (mvT hZ w2) (mvT hZ w3) (mvT hZ w4) hy hK (g := mkF m pc Ls (argsL.reverse ++ st)) rfl hsize (argsL := argsL) (rest := st) (lenOf hsig hlen) rfl (by show 2 * 0 + _ ≤ _; omega) hd (fun _ _ => ⟨has, eT, hc, hs⟩)
  dsimp only at X' hQ l' y' z' stp
  subst l' y' z'
  exact Go.next stp (r T' v Lc X' hQ)
theorem w_virtual (X : Stand p l e R s m args below meth c T locs cells slots) (hx : p.tables.exec = Jvm.exec) (hZ : Z.Warmed39 s.vm) {own C : String} {index : Nat} {y z : MethodName} {sig : MethodDescriptor} (hown : s.vm.findClass own = some m.cls) (w1 : (Jvm.Cond.methodLink own index y).before a0 Z = true) (w2 : (Jvm.Cond.declares y).before a0 Z = true) (hnf : NotFace s y) (w3 : (Jvm.Cond.selects C y z).before a0 Z = true) (w4 : (Jvm.Cond.instanceMethod z).before a0 Z = true)
    (hy : y.cls ≠ "java/lang/invoke/MethodHandle" ∧ y.cls ≠ "java/lang/invoke/VarHandle") {W kc ks : Nat} {as' : Array Value} {Q : Option Value → Heap → List Loc → Prop} (hK : BackQ l R p e below s args z W as' h kc ks Q) (eT : T.heap = h) {b : Addr} (E : Exa Z h b C) (hsize : Ls.size = c.maxLocals) {argsL : List Value} (hsig : parseMethodDescriptor y.desc = some sig) (hlen : argsL.length = sig.parameters.length) (hstk : stk = argsL.reverse ++ .ref b :: st) (has : (.ref b :: argsL).toArray = as') (hW : (st.map fun v => v.category).sum ≤ W) (hd : decode c.code pc = .ok (.invokevirtual index, 3)) (hc : cells + kc ≤ R.cells) (hs : slots + ks ≤ R.slots) (hp : pc + 3 = pc')
    (r : ∀ T' v L, Stand p l e R s m args below meth c T' (locs ++ L) (cells + kc) (slots + ks) → Q v T'.heap L → Go p.tables e below P T' (mkF m pc' Ls (v.toList ++ st))) : Go p.tables e below P T (mkF m pc Ls stk) := by
  subst hp hstk
  obtain ⟨cq, kq, qa, qb, qc⟩ := isOf hZ eT E
  obtain ⟨v, _, ⟨T', L', k', n'⟩, -, X', ⟨Lc, hQ, l', y', z'⟩, stp⟩ := X.virtualBack hx (y := y) (z := z) hown (mvT hZ w1) (mvT hZ w2) hnf (mvT hZ w3) (mvT hZ w4) hy hK qa qc (g := mkF m pc Ls (argsL.reverse ++ .ref b :: st)) rfl hsize (Steps.refl _) (argsL := argsL) (rest := st) (lenOf hsig hlen) rfl (by show 2 * 0 + _ ≤ _; omega) hd (fun _ _ => ⟨has, eT, hc, hs⟩)
  dsimp only at X' hQ l' y' z' stp
  subst l' y' z'
  exact Go.jump stp (r T' v Lc X' hQ)
theorem w_special (X : Stand p l e R s m args below meth c T locs cells slots) (hx : p.tables.exec = Jvm.exec) (hZ : Z.Warmed39 s.vm) {own : String} {index : Nat} {y : MethodName} {bytes : ByteArray} {maxL : Nat} {sig : MethodDescriptor} (hy1 : y.name = "<init>") (hown : s.vm.findClass own = some m.cls) (w1 : (Jvm.Cond.methodLink own index y).before a0 Z = true) (w2 : (Jvm.Cond.instanceMethod y).before a0 Z = true) (w4 : (Jvm.Cond.code y bytes maxL none).before a0 Z = true)
    (hy : y.cls ≠ "java/lang/invoke/MethodHandle" ∧ y.cls ≠ "java/lang/invoke/VarHandle") {W kc ks : Nat} {as' : Array Value} {Q : Option Value → Heap → List Loc → Prop} (hK : BackQ l R p e below s args y W as' h kc ks Q) (eT : T.heap = h) {b : Addr} (hsize : Ls.size = c.maxLocals) {argsL : List Value} (hsig : parseMethodDescriptor y.desc = some sig) (hlen : argsL.length = sig.parameters.length) (hstk : stk = argsL.reverse ++ .ref b :: st) (has : (.ref b :: argsL).toArray = as') (hW : (st.map fun v => v.category).sum ≤ W) (hd : decode c.code pc = .ok (.invokespecial index, 3)) (hc : cells + kc ≤ R.cells) (hs : slots + ks ≤ R.slots) (hp : pc + 3 = pc')
    (r : ∀ T' v L, Stand p l e R s m args below meth c T' (locs ++ L) (cells + kc) (slots + ks) → Q v T'.heap L → Go p.tables e below P T' (mkF m pc' Ls (v.toList ++ st))) : Go p.tables e below P T (mkF m pc Ls stk) := by
  subst hp hstk
  obtain ⟨v, _, ⟨T', L', k', n'⟩, -, X', ⟨Lc, hQ, l', y', z'⟩, stp⟩ := X.specialBack hx (y := y) hy1 hown (mvT hZ w1) (mvT hZ w2) (mvT hZ w4) hy hK (g := mkF m pc Ls (argsL.reverse ++ .ref b :: st)) rfl hsize (Steps.refl _) (a := b) (argsL := argsL) (rest := st) (lenOf hsig hlen) rfl (by show 2 * 0 + _ ≤ _; omega) hd (fun _ _ => ⟨has, eT, hc, hs⟩)
  dsimp only at X' hQ l' y' z' stp
  subst l' y' z'
  exact Go.jump stp (r T' v Lc X' hQ)
theorem w_initO (X : Stand p l e R s m args below meth c T locs cells slots) (hx : p.tables.exec = Jvm.exec) (hZ : Z.Warmed39 s.vm) {own : String} {idx : Nat} (hown : s.vm.findClass own = some m.cls) (w1 : (Jvm.Cond.methodLink own idx Lib.objectInit).before a0 Z = true) (w2 : (Jvm.Cond.instanceMethod Lib.objectInit).before a0 Z = true)
    (w3 : (Jvm.Cond.code Lib.objectInit ⟨#[0xb1]⟩ 1 none).before a0 Z = true) (eT : T.heap = h) (hsize : Ls.size = c.maxLocals) {a : Addr} (hd : decode c.code pc = .ok (.invokespecial idx, 3)) (hf : 1 ≤ R.frames) {W : Nat} (hW : (st.map fun v => v.category).sum ≤ W) (hl : W + 12 ≤ R.locals) (hp : pc + 3 = pc') (r : ∀ T', Stand p l e R s m args below meth c T' locs cells slots → T'.heap = h → Go p.tables e below P T' (mkF m pc' Ls st)) : Go p.tables e below P T (mkF m pc Ls (.ref a :: st)) := by
  subst hp
  obtain ⟨T', X', e', stp⟩ := initO X hx hZ hown w1 w2 w3 eT (g := mkF m pc Ls (.ref a :: st)) rfl hsize rfl hd hf (W := W) (by show 2 * 0 + _ ≤ _; omega) hl
  exact Go.next stp (r T' X' e')
theorem w_castY (X : Stand p l e R s m args below meth c T locs cells slots) (hx : p.tables.exec = Jvm.exec) (hZ : Z.Warmed39 s.vm) {own K : String} {index : Nat} (hown : s.vm.findClass own = some m.cls) (w : (Jvm.Cond.classLink own index K).before a0 Z = true) (eT : T.heap = h) {a : Addr} (F : Ins Z h a K true) (hd : decode c.code pc = .ok (.checkcast index, 3)) (hp : pc + 3 = pc') (r : ∀ T', Stand p l e R s m args below meth c T' locs cells slots → T'.heap = h → Go p.tables e below P T' (mkF m pc' Ls (.ref a :: st))) : Go p.tables e below P T (mkF m pc Ls (.ref a :: st)) := by
  subst hp
  obtain ⟨T', X', e', stp⟩ := castY X hx hZ hown w eT F (g := mkF m pc Ls (.ref a :: st)) rfl rfl hd
  exact Go.next stp (r T' X' e')
theorem w_instY (X : Stand p l e R s m args below meth c T locs cells slots) (hx : p.tables.exec = Jvm.exec) (hZ : Z.Warmed39 s.vm) {own K : String} {index : Nat} (hown : s.vm.findClass own = some m.cls) (w : (Jvm.Cond.classLink own index K).before a0 Z = true) (eT : T.heap = h) {a : Addr} (F : Ins Z h a K true) (hd : decode c.code pc = .ok (.instanceof index, 3)) (hp : pc + 3 = pc') (r : ∀ T', Stand p l e R s m args below meth c T' locs cells slots → T'.heap = h → Go p.tables e below P T' (mkF m pc' Ls (.int 1 :: st))) : Go p.tables e below P T (mkF m pc Ls (.ref a :: st)) := by
  subst hp
  obtain ⟨T', X', e', stp⟩ := instY X hx hZ hown w eT F (g := mkF m pc Ls (.ref a :: st)) rfl rfl hd
  exact Go.next stp (r T' X' e')
theorem w_cloneA (X : Stand p l e R s m args below meth c T locs cells slots) (hx : p.tables.exec = Jvm.exec) (hZ : Z.Warmed39 s.vm) {own ad : String} {index : Nat} (hown : s.vm.findClass own = some m.cls)
    (w1 : (Jvm.Cond.methodLink own index ⟨ad, "clone", "()Ljava/lang/Object;"⟩).before a0 Z = true) (w2 : (Jvm.Cond.sameMethod ad "java/lang/Object" "clone" "()Ljava/lang/Object;").before a0 Z = true) (w3 : (Jvm.Cond.native ⟨"java/lang/Object", "clone", "()Ljava/lang/Object;"⟩).before a0 Z = true)
    (w4 : (Jvm.Cond.instanceMethod ⟨"java/lang/Object", "clone", "()Ljava/lang/Object;"⟩).before a0 Z = true) (w5 : (Jvm.Cond.selects ad ⟨ad, "clone", "()Ljava/lang/Object;"⟩ ⟨"java/lang/Object", "clone", "()Ljava/lang/Object;"⟩).before a0 Z = true) (w6 : (Jvm.Cond.castable ad "java/lang/Cloneable").before a0 Z = true)
    (eT : T.heap = h) {a : Addr} {k : ClassId} {ty : FieldType} {n : Int32} {vs : List Value} {dv : Value} (A : Arv Z h a k ty n vs dv) (E : Exa Z h a ad) (hsize : Ls.size = c.maxLocals) (hd : decode c.code pc = .ok (.invokevirtual index, 3))
    (hf : 1 ≤ R.frames) {W cap : Nat} (hW : (st.map fun v => v.category).sum ≤ W) (hl : W + 14 ≤ R.locals) (hcap : n.toNatClampNeg ≤ cap) (hc : cells + 1 ≤ R.cells) (hsl : slots + cap ≤ R.slots) (hp : pc + 3 = pc')
    (r : ∀ T' h' b, h.size = b → Stand p l e R s m args below meth c T' locs (cells + 1) (slots + cap) → T'.heap = h' → Ext h h' → Arv Z h' b k ty n vs dv → Exa Z h' b ad → Go p.tables e below P T' (mkF m pc' Ls (.ref b :: st))) : Go p.tables e below P T (mkF m pc Ls (.ref a :: st)) := by
  subst hp
  obtain ⟨cl, Ar, q1, S, M, H, G⟩ := A
  have F : FitC Z cl := fitC_of Ar fun i hi v hv => by rw [H i hi] at hv; cases hv; exact G i hi
  obtain ⟨T', h', X', e', Ex, A', E', stp⟩ := cloneA X hx hZ hown w1 w2 w3 w4 w5 w6 eT Ar E F (g := mkF m pc Ls (.ref a :: st)) rfl hsize rfl hd hf (W := W) (cap := cap) (by show 2 * 0 + _ ≤ _; omega) hl (by rw [S]; exact hcap) hc hsl
  exact Go.next stp (r T' h' _ rfl X' e' Ex ⟨cloneOf cl, A', q1, S, M, H, G⟩ E')
end WH
theorem w_ldcI {p : Program} {l : Launch} {e : Env} {R : Room} {s : State} {m : MethodId} {args : Array Value} {below : List Frame} {meth : Method} {c : Code} {T : State} {locs : List Loc} {cells slots : Nat} {pc pc' : Nat} {Ls : Array Slot} {st : List Value} {P : State → Prop} {Z : State} {a0 : Array Value}
    (X : Stand p l e R s m args below meth c T locs cells slots) (hx : p.tables.exec = Jvm.exec) (hZ : Z.Warmed39 s.vm) {own : String} {index : Nat} {v : Int32} (hown : s.vm.findClass own = some m.cls) (w : (Jvm.Cond.constant own index v).before a0 Z = true) (hd : decode c.code pc = .ok (.ldc index, 2)) (hp : pc + 2 = pc') (r : Go p.tables e below P T (mkF m pc' Ls (.int v :: st))) : Go p.tables e below P T (mkF m pc Ls st) := by
  subst hp
  exact Go.next (fun t hr => X.ldcI hx hown (mvT hZ w) (g := mkF m pc Ls st) rfl hd hr) r

/-! the same for walks that may load String constants (the base's tables move: s.setVm vm0) -/
section WW
variable {p : Program} {l : Launch} {e : Env} {R : Room} {s : State} {vm0 : Vm} {m : MethodId} {args : Array Value} {below : List Frame} {meth : Method} {c : Code} {T : State} {locs : List Loc} {cells slots : Nat} {pc pc' : Nat} {Ls : Array Slot} {st stk : List Value} {P : State → Prop} {Z : State} {a0 : Array Value} {h h0 : Heap} {EL : List (String × Nat)} {Q : Option Value → Heap → List Loc → Prop} {K N k0 : Nat}
/-- how such a body ends -/
def EndW (Z : State) (EL : List (String × Nat)) (s : State) (below : List Frame) (Q : Option Value → Heap → List Loc → Prop) (K N : Nat) (t : State) : Prop := t.status = .running ∧ ∃ v L, Ended t below (.returned v) ∧ Q v t.heap L ∧ CHr Z EL s.vm s.heap t.vm t.heap ∧ ReturnedEndW s (.returned v) t L K N
/-- what a wide walk carries from step to step: the constants' book, and that the tables only grew -/
def Wd (Z : State) (a0 : Array Value) (EL : List (String × Nat)) (s : State) (own : String) (cl : ClassId) (vm0 : Vm) (h : Heap) : Prop := (∃ k0, s.Since vm0 k0 ∧ k0 ≤ h.size) ∧ Z.Warmed39 vm0 ∧ vm0.findClass own = some cl ∧ CHr Z EL s.vm s.heap vm0 h ∧ EW Z a0 EL
theorem Wd.ext {own : String} {cl : ClassId} {h' : Heap} (W : Wd Z a0 EL s own cl vm0 h) (E : Ext h h') : Wd Z a0 EL s own cl vm0 h' := by
  obtain ⟨⟨k0, q1, q2⟩, q3, q4, q5, q6⟩ := W
  exact ⟨⟨k0, q1, Nat.le_trans q2 E.1⟩, q3, q4, q5.trans (CHr.ext E q5.1), q6⟩
theorem Wd.wr {own : String} {cl : ClassId} {h' : Heap} {a : Addr} {sl : Nat} {v : Value} (D : Wd Z a0 EL s own cl vm0 h) (W : Wr h h' a sl v) (S : Safe Z EL vm0 h a) : Wd Z a0 EL s own cl vm0 h' := by
  obtain ⟨⟨k0, q1, q2⟩, q3, q4, q5, q6⟩ := D
  exact ⟨⟨k0, q1, by rw [W.size]; exact q2⟩, q3, q4, q5.trans (CHr.wr W S q5.1), q6⟩
theorem Wd.keep {own : String} {cl : ClassId} {h' : Heap} {ws : List Addr} (D : Wd Z a0 EL s own cl vm0 h) (Kp : Keep h h' ws) (S : ∀ x ∈ ws, Safe Z EL vm0 h x) : Wd Z a0 EL s own cl vm0 h' := by
  obtain ⟨⟨k0, q1, q2⟩, q3, q4, q5, q6⟩ := D
  exact ⟨⟨k0, q1, Nat.le_trans q2 Kp.1⟩, q3, q4, q5.trans (CHr.keep Kp S q5.1), q6⟩
theorem Wd.zw {own : String} {cl : ClassId} (D : Wd Z a0 EL s own cl vm0 h) : Z.Warmed39 (s.setVm vm0).vm := D.2.1
theorem Wd.ow {own : String} {cl : ClassId} (D : Wd Z a0 EL s own cl vm0 h) : (s.setVm vm0).vm.findClass own = some cl := D.2.2.1
theorem Wd.end_ {own : String} (D : Wd Z a0 EL s own m.cls vm0 h) (X : Stand p l e R (s.setVm vm0) m args below meth c T locs cells slots) (eT : T.heap = h) : CHr Z EL s.vm s.heap T.vm T.heap := by
  subst eT; exact D.2.2.2.1.trans (CHv.at X D.2.1 D.2.2.2.2 D.2.2.2.1.1)
theorem endIW {own : String} (X : Stand p l e R (s.setVm vm0) m args below meth c T locs cells slots) (hx : p.tables.exec = Jvm.exec) (D : Wd Z a0 EL s own m.cls vm0 h) (eT : T.heap = h) (hlk : meth.locks = false) {z : Int32} (hret : meth.sig.returnType = some .int) (hd : decode c.code pc = .ok (.ireturn, 1)) (hc : cells ≤ K) (hs : slots ≤ N) (hQ : Q (some (.int z)) T.heap locs) : Go p.tables e below (EndW Z EL s below Q K N) T (mkF m pc Ls (.int z :: st)) := by
  obtain ⟨k0, q1, q2⟩ := D.1
  obtain ⟨fs, hr, hrun, hended, h1, h2, h3, h4⟩ := X.leaveW q1 (by rw [eT]; exact q2) (v := some (.int z)) (fun h => by rw [hret] at h; cases h) hlk
  exact ⟨_, retI X hx hret hd hr, hrun, _, _, hended, hQ, (show CHr Z EL s.vm s.heap T.vm T.heap from D.end_ X eT), h1, h2, h3, h4.mono hc hs⟩
theorem endZW {own : String} (X : Stand p l e R (s.setVm vm0) m args below meth c T locs cells slots) (hx : p.tables.exec = Jvm.exec) (D : Wd Z a0 EL s own m.cls vm0 h) (eT : T.heap = h) (hlk : meth.locks = false) {z z' : Int32} {t : FieldType} (hret : meth.sig.returnType = some t) (ht : t = .boolean ∨ t = .byte ∨ t = .char ∨ t = .short) (hd : decode c.code pc = .ok (.ireturn, 1)) (hz : nar t z = z') (hc : cells ≤ K) (hs : slots ≤ N) (hQ : Q (some (.int z')) T.heap locs) : Go p.tables e below (EndW Z EL s below Q K N) T (mkF m pc Ls (.int z :: st)) := by
  subst hz
  obtain ⟨k0, q1, q2⟩ := D.1
  obtain ⟨fs, hr, hrun, hended, h1, h2, h3, h4⟩ := X.leaveW q1 (by rw [eT]; exact q2) (v := some (.int (nar t z))) (fun h => by rw [hret] at h; cases h) hlk
  exact ⟨_, retN X hx hret ht hd hr, hrun, _, _, hended, hQ, (show CHr Z EL s.vm s.heap T.vm T.heap from D.end_ X eT), h1, h2, h3, h4.mono hc hs⟩
theorem endVW {own : String} (X : Stand p l e R (s.setVm vm0) m args below meth c T locs cells slots) (hx : p.tables.exec = Jvm.exec) (D : Wd Z a0 EL s own m.cls vm0 h) (eT : T.heap = h) (hlk : meth.locks = false) (hret : meth.sig.returnType = none) (hd : decode c.code pc = .ok (.return_, 1)) (hc : cells ≤ K) (hs : slots ≤ N) (hQ : Q none T.heap locs) : Go p.tables e below (EndW Z EL s below Q K N) T (mkF m pc Ls []) := by
  obtain ⟨k0, q1, q2⟩ := D.1
  obtain ⟨fs, hr, hrun, hended, h1, h2, h3, h4⟩ := X.leaveW q1 (by rw [eT]; exact q2) (v := none) (fun _ => rfl) hlk
  exact ⟨_, X.returnOut hx hret hd hr, hrun, _, _, hended, hQ, (show CHr Z EL s.vm s.heap T.vm T.heap from D.end_ X eT), h1, h2, h3, h4.mono hc hs⟩
theorem endRW {own : String} (X : Stand p l e R (s.setVm vm0) m args below meth c T locs cells slots) (hx : p.tables.exec = Jvm.exec) (D : Wd Z a0 EL s own m.cls vm0 h) (eT : T.heap = h) (hlk : meth.locks = false) {v : Value} {t : FieldType} (hv : v.isRef = true) (hret : meth.sig.returnType = some t) (ht : t.isReference = true) (hd : decode c.code pc = .ok (.areturn, 1)) (hc : cells ≤ K) (hs : slots ≤ N) (hQ : Q (some v) T.heap locs) : Go p.tables e below (EndW Z EL s below Q K N) T (mkF m pc Ls (v :: st)) := by
  obtain ⟨k0, q1, q2⟩ := D.1
  obtain ⟨fs, hr, hrun, hended, h1, h2, h3, h4⟩ := X.leaveW q1 (by rw [eT]; exact q2) (v := some v) (fun h => by rw [hret] at h; cases h) hlk
  exact ⟨_, retR X hx hv hret ht hd hr, hrun, _, _, hended, hQ, (show CHr Z EL s.vm s.heap T.vm T.heap from D.end_ X eT), h1, h2, h3, h4.mono hc hs⟩
abbrev CtW (l : Launch) (y : MethodName) (bytes : ByteArray) (maxL : Nat) (ret : Option FieldType) (rm : Room) (Z : State) (EL : List (String × Nat)) (as' : Array Value) (h0 : Heap) (Q : Option Value → Heap → List Loc → Prop) : Prop :=
  MetFree l y (head1 [Jvm.Cond.code y bytes maxL ret] rm) (fun a U => a = as' ∧ Z.Warmed39 U.vm ∧ U.heap = h0 ∧ CHv Z EL U.vm h0) (fun _ _ _ _ _ => True) (fun _ U o U' => ∃ v L, o = .returned v ∧ Q v U'.heap L ∧ CHr Z EL U.vm U.heap U'.vm U'.heap ∧ ReturnedEndW U o U' L rm.cells rm.slots)
theorem ct_ofW {y : MethodName} {bytes : ByteArray} {maxL : Nat} {ret : Option FieldType} {rm : Room} {as' : Array Value} {ws : List Jvm.Cond} (hpn : plainFor y = true) (hEL : EW Z a0 EL)
    (body : ∀ (p : Program) (e : Env) (s : State) (m : MethodId) (below : List Frame) (meth : Method) (c : Code) (s₁ : State), Stand p l e rm (s.setVm s.vm) m as' below meth c s₁ [] 0 0 → p.tables.exec = Jvm.exec → c.code = bytes → c.maxLocals = maxL → meth.sig.returnType = ret → meth.name = y.name → meth.locks = false → Wd Z a0 EL s y.cls m.cls s.vm h0 → s.heap = h0 → s₁.heap = h0 → Go p.tables e below (EndW Z EL s below Q K N) s₁ (entryFrame m as' maxL)) :
    MetFree l y (head1 (Jvm.Cond.code y bytes maxL ret :: ws) rm) (fun a U => a = as' ∧ Z.Warmed39 U.vm ∧ U.heap = h0 ∧ CHv Z EL U.vm h0) (fun _ _ _ _ _ => True) (fun _ U o U' => ∃ v L, o = .returned v ∧ Q v U'.heap L ∧ CHr Z EL U.vm U.heap U'.vm U'.heap ∧ ReturnedEndW U o U' L K N) := by
  refine MetFree.of_bodySF hpn hisR ?_
  intro p e s m args below meth c s₁ Bd hml0 hP hK
  obtain ⟨rfl, hZ, hh, hCH⟩ := hP
  have e0 : s₁.heap = h0 := by rw [← hh, Bd.state]; rfl
  have W : Wd Z a0 EL s y.cls m.cls s.vm h0 := ⟨⟨0, (State.WarmedH.refl s).since 0, Nat.zero_le _⟩, hZ, findClass_of_methodNamed Bd.named, by rw [hh]; exact CHr.refl hCH, hEL⟩
  obtain ⟨t, g1, g2, v, L, g3, g4, g5, g6⟩ := body p e s m below meth c s₁ (Stand.of_body Bd) Bd.exec Bd.bytes hml0 Bd.returns (name_of_methodNamed Bd.named Bd.method).1 Bd.notSynchronized W hh e0
  exact ⟨t, _, g1, g2, g3, v, L, rfl, g4, g5, g6⟩
/-- ldc of a String constant whose text is known -/
theorem w_ldcS {own : String} (X : Stand p l e R (s.setVm vm0) m args below meth c T locs cells slots) (hx : p.tables.exec = Jvm.exec) (D : Wd Z a0 EL s own m.cls vm0 h) {text : String} {index : Nat} (w : (Jvm.Cond.stringLink own index text).before a0 Z = true) (wS : ∀ a ∈ Bundle.stringAtoms, a.before a0 Z = true) (eT : T.heap = h) (hmem : (own, index) ∈ EL)
    {vs : List Value} {z : Int32} (ht : (∀ c ∈ text.toList, c.toNat < 256) ∧ text.toList.map (fun c => Value.int (Jvm.Lit.byteI c.toNat.toUInt16)) = vs) (hz : ¬ z < 0) (hl : z.toNatClampNeg = vs.length)
    (hd : decode c.code pc = .ok (.ldc index, 2)) {n : Nat} (hn : 4 * text.toList.length ≤ n) (hbig : n ≤ 536870912) (hc : cells + 2 ≤ R.cells) (hl' : slots + (n + 4) ≤ R.slots) (hp : pc + 2 = pc')
    (r : ∀ (a : Addr) (T' : State) (h' : Heap) (b : Addr) (k : ClassId), Stand p l e R (s.setVm T'.vm) m args below meth c T' locs (cells + 2) (slots + (n + 4)) → T'.heap = h' → Ext h h' → Wd Z a0 EL s own m.cls T'.vm h' → Exa Z h' a "java/lang/String" → Fld Z h' a "java/lang/String" "coder" "B" (.int 0) → Fld Z h' a "java/lang/String" "value" "[B" (.ref b) → Arv Z h' b k .byte z vs (.int 0) → CHr Z EL vm0 h T'.vm h' → Lit (s.setVm T'.vm) own index a → (∀ x, Safe Z EL T'.vm h' x → x ≠ a ∧ x ≠ b) → Go p.tables e below P T' (mkF m pc' Ls (.ref a :: st))) : Go p.tables e below P T (mkF m pc Ls st) := by
  subst hp
  obtain ⟨⟨k0, q1, q2⟩, q3, q4, q5, q6⟩ := D
  obtain ⟨a, T', h', k1, b, k, g1, g2, g3, g4, g5, g6, g7, g8, g9, g10, g11, g12, g13, g14, g15, g16, stp⟩ := ldcCH X hx q3 q4 w wS eT q1 q2 q6 hmem q5.1 ht hz hl (g := mkF m pc Ls st) rfl hd hn hbig hc hl'
  exact Go.next stp (r a T' h' b k g1 g2 g3 ⟨⟨k1, g4, g5⟩, g6, g7, q5.trans g14, q6⟩ g8 g9 g10 g11 g14 g15 g16)
theorem w_ldcA {own : String} (X : Stand p l e R (s.setVm vm0) m args below meth c T locs cells slots) (hx : p.tables.exec = Jvm.exec) (D : Wd Z a0 EL s own m.cls vm0 h) {text : String} {index : Nat} (w : (Jvm.Cond.stringLink own index text).before a0 Z = true) {a : Addr} (L : Lit (s.setVm vm0) own index a) (hd : decode c.code pc = .ok (.ldc index, 2)) (hp : pc + 2 = pc') (r : Go p.tables e below P T (mkF m pc' Ls (.ref a :: st))) : Go p.tables e below P T (mkF m pc Ls st) := by
  subst hp
  exact Go.next (ldcAgain X hx D.2.1 D.2.2.1 w L (g := mkF m pc Ls st) rfl hd) r
abbrev BackQW (l : Launch) (R : Room) (p : Program) (e : Env) (below : List Frame) (s : State) (vm0 : Vm) (args : Array Value) (y : MethodName) (W : Nat) (as' : Array Value) (Z : State) (EL : List (String × Nat)) (h : Heap) (kc ks : Nat) (Q : Option Value → Heap → List Loc → Prop) : Prop :=
  BackS l R p e below (s.setVm vm0) args y 3 W (fun A a => a = as' ∧ A.U.heap = h ∧ A.cells + kc ≤ R.cells ∧ A.slots + ks ≤ R.slots) (fun A _ v B => ∃ L, Q v B.U.heap L ∧ B.locs = A.locs ++ L ∧ B.cells = A.cells + kc ∧ B.slots = A.slots + ks ∧ CHr Z EL vm0 h B.U.vm B.U.heap)
theorem Wd.on {own : String} {T' : State} (D : Wd Z a0 EL s own m.cls vm0 h) (hS : (s.setVm vm0).Since T'.vm T'.heap.size) (hh : h.size ≤ T'.heap.size) (C : CHr Z EL vm0 h T'.vm T'.heap) : Wd Z a0 EL s own m.cls T'.vm T'.heap := by
  obtain ⟨⟨k0, q1, q2⟩, q3, q4, q5, q6⟩ := D
  exact ⟨⟨_, q1.trans hS (Nat.le_trans q2 hh), Nat.le_refl _⟩, State.Warmed39.trans (t := s.setVm vm0) q3 hS.1, (hS.1.alike.findClass _ _).trans q4, q5.trans C, q6⟩
theorem backCW {own : String} {y : MethodName} {bytes : ByteArray} {maxL : Nat} {ret : Option FieldType} {rm : Room} {W : Nat} {as' : Array Value} {Q : Option Value → Heap → List Loc → Prop} (hM : CtW l y bytes maxL ret rm Z EL as' h Q) (D : Wd Z a0 EL s own m.cls vm0 h) (wc : (Jvm.Cond.code y bytes maxL ret).before a0 Z = true) (wz : (Jvm.Cond.initialized y.cls).before a0 Z = true) (hf : rm.frames + 1 ≤ R.frames) (hl : W + (maxL + 11) + rm.locals ≤ R.locals) : BackQW l R p e below s vm0 args y W as' Z EL h rm.cells rm.slots Q :=
  backOfSH hM D.2.1 wc wz hf hl D.2.2.2.2 D.2.2.2.1.1
theorem w_staticW {own : String} (X : Stand p l e R (s.setVm vm0) m args below meth c T locs cells slots) (hx : p.tables.exec = Jvm.exec) (D : Wd Z a0 EL s own m.cls vm0 h) {index : Nat} {y : MethodName} {bytes : ByteArray} {maxL : Nat} {ret : Option FieldType} {sig : MethodDescriptor} (w1 : (Jvm.Cond.methodLink own index y).before a0 Z = true) (w2 : (Jvm.Cond.static y).before a0 Z = true) (w3 : (Jvm.Cond.initialized y.cls).before a0 Z = true) (w4 : (Jvm.Cond.code y bytes maxL ret).before a0 Z = true)
    (hy : y.cls ≠ "java/lang/invoke/MethodHandle" ∧ y.cls ≠ "java/lang/invoke/VarHandle") {W kc ks : Nat} {as' : Array Value} {Q : Option Value → Heap → List Loc → Prop} (hK : BackQW l R p e below s vm0 args y W as' Z EL h kc ks Q) (eT : T.heap = h) (hsize : Ls.size = c.maxLocals) {argsL : List Value} (hsig : parseMethodDescriptor y.desc = some sig) (hlen : argsL.length = sig.parameters.length) (hstk : stk = argsL.reverse ++ st) (has : argsL.toArray = as') (hW : (st.map fun v => v.category).sum ≤ W) (hd : decode c.code pc = .ok (.invokestatic index, 3)) (hc : cells + kc ≤ R.cells) (hs : slots + ks ≤ R.slots) (hp : pc + 3 = pc')
    (r : ∀ T' v L, Stand p l e R (s.setVm T'.vm) m args below meth c T' (locs ++ L) (cells + kc) (slots + ks) → Wd Z a0 EL s own m.cls T'.vm T'.heap → CHr Z EL vm0 h T'.vm T'.heap → Q v T'.heap L → Go p.tables e below P T' (mkF m pc' Ls (v.toList ++ st))) : Go p.tables e below P T (mkF m pc Ls stk) := by
  subst hp hstk
  obtain ⟨v, _, ⟨T', L', k', n'⟩, -, X', hS, hh, ⟨Lc, hQ, l', y', z', hC⟩, stp⟩ := callSS X hx (y := y) D.ow (mvT D.zw w1) (mvT D.zw w2) (mvT D.zw w3) (mvT D.zw w4) hy hK (g := mkF m pc Ls (argsL.reverse ++ st)) rfl hsize (argsL := argsL) (rest := st) (lenOf hsig hlen) rfl (by show 2 * 0 + _ ≤ _; omega) hd (fun _ _ => ⟨has, eT, hc, hs⟩)
  dsimp only at X' hQ l' y' z' hC hS hh stp
  subst l' y' z'
  exact Go.jump stp (r T' v Lc X' (D.on hS (by rw [← eT]; exact hh) hC) hC hQ)
theorem w_specialW {own : String} (X : Stand p l e R (s.setVm vm0) m args below meth c T locs cells slots) (hx : p.tables.exec = Jvm.exec) (D : Wd Z a0 EL s own m.cls vm0 h) {index : Nat} {y : MethodName} {bytes : ByteArray} {maxL : Nat} {sig : MethodDescriptor} (hy1 : y.name = "<init>") (w1 : (Jvm.Cond.methodLink own index y).before a0 Z = true) (w2 : (Jvm.Cond.instanceMethod y).before a0 Z = true) (w4 : (Jvm.Cond.code y bytes maxL none).before a0 Z = true)
    (hy : y.cls ≠ "java/lang/invoke/MethodHandle" ∧ y.cls ≠ "java/lang/invoke/VarHandle") {W kc ks : Nat} {as' : Array Value} {Q : Option Value → Heap → List Loc → Prop} (hK : BackQW l R p e below s vm0 args y W as' Z EL h kc ks Q) (eT : T.heap = h) {b : Addr} (hsize : Ls.size = c.maxLocals) {argsL : List Value} (hsig : parseMethodDescriptor y.desc = some sig) (hlen : argsL.length = sig.parameters.length) (hstk : stk = argsL.reverse ++ .ref b :: st) (has : (.ref b :: argsL).toArray = as') (hW : (st.map fun v => v.category).sum ≤ W) (hd : decode c.code pc = .ok (.invokespecial index, 3)) (hc : cells + kc ≤ R.cells) (hs : slots + ks ≤ R.slots) (hp : pc + 3 = pc')
    (r : ∀ T' v L, Stand p l e R (s.setVm T'.vm) m args below meth c T' (locs ++ L) (cells + kc) (slots + ks) → Wd Z a0 EL s own m.cls T'.vm T'.heap → CHr Z EL vm0 h T'.vm T'.heap → Q v T'.heap L → Go p.tables e below P T' (mkF m pc' Ls (v.toList ++ st))) : Go p.tables e below P T (mkF m pc Ls stk) := by
  subst hp hstk
  obtain ⟨v, _, ⟨T', L', k', n'⟩, -, X', hS, hh, ⟨Lc, hQ, l', y', z', hC⟩, stp⟩ := X.specialBackS hx (y := y) hy1 D.ow (mvT D.zw w1) (mvT D.zw w2) (mvT D.zw w4) hy hK (g := mkF m pc Ls (argsL.reverse ++ .ref b :: st)) rfl hsize (Steps.refl _) (a := b) (argsL := argsL) (rest := st) (lenOf hsig hlen) rfl (by show 2 * 0 + _ ≤ _; omega) hd (fun _ _ => ⟨has, eT, hc, hs⟩)
  dsimp only at X' hQ l' y' z' hC hS hh stp
  subst l' y' z'
  exact Go.jump stp (r T' v Lc X' (D.on hS (by rw [← eT]; exact hh) hC) hC hQ)
end WW

theorem Safe.null {Z : State} {EL : List (String × Nat)} {vm : Vm} {h : Heap} {x : Addr} (hal : Z.vm.Alike vm) (E : Exa Z h x "java/lang/String") (F : Fld Z h x "java/lang/String" "value" "[B" .null) : Safe Z EL vm h x := fun B => by
  obtain ⟨cell, k, e1, e2, e3, -, -⟩ := E
  obtain ⟨pr, -, u, a, -, q, -, G, rfl | rfl⟩ := B
  · obtain ⟨cS, ⟨⟨s1, s2, s3, ⟨cv, kv, iv, s4, s4'⟩, -, s6, s7, s8, -⟩, -⟩, -⟩ := G
    obtain ⟨kv', z4⟩ := ff_back (U := Wst Z vm h) hal s4
    obtain ⟨c2, cf, kf, i, f, g1, g2, -, -, -, -, g7⟩ := F
    cases (show h[q.sa]? = some q.sC from s1).symm.trans g1
    cases z4.symm.trans g2
    rw [s8] at g7; cases g7
  · have hd := (show h[q.sd]? = some q.SA from G.hd)
    cases hd.symm.trans e1
    obtain ⟨cS, -, -, f, -⟩ := G
    have f' : vm.findClass "[B" = some q.SA.cls := f
    rw [hal.findClass] at f'
    obtain ⟨k1, q1, q2⟩ := Vm.findClass_spec f'
    obtain ⟨k2, q3, q4⟩ := Vm.findClass_spec e2
    cases q1.symm.trans q3
    have := q2.symm.trans q4
    exact absurd this (by decide)

/-! Strings: the object at x is a String that spells the chars cs -/
def StrOf (Z : State) (h : Heap) (x : Addr) (cs : List Int32) : Prop := ∃ (t : Addr) (kb : ClassId) (cd N2 : Int32) (vs : List Value), Exa Z h x "java/lang/String" ∧ Fld Z h x "java/lang/String" "value" "[B" (.ref t) ∧ Fld Z h x "java/lang/String" "coder" "B" (.int cd) ∧ Arv Z h t kb .byte N2 vs (.int 0) ∧ StrChars.Road.CodA cs cd N2 vs ∧ (∀ c ∈ cs, ¬ c < 0 ∧ ¬ (65535 : Int32) < c) ∧ cs.length ≤ 4000
theorem StrOf.ext {Z : State} {h h' : Heap} {x : Addr} {cs : List Int32} (F : StrOf Z h x cs) (E : Ext h h') : StrOf Z h' x cs := by
  obtain ⟨t, kb, cd, N2, vs, a, b, c, d, r⟩ := F; exact ⟨t, kb, cd, N2, vs, a.ext E, b.ext E, c.ext E, d.ext E, r⟩
theorem StrOf.exa {Z : State} {h : Heap} {x : Addr} {cs : List Int32} (F : StrOf Z h x cs) : Exa Z h x "java/lang/String" := by
  obtain ⟨t, kb, cd, N2, vs, a, r⟩ := F; exact a
abbrev QEq (cs ds : List Int32) (h : Heap) (v : Option Value) (h' : Heap) (L : List Loc) : Prop := ((v = some (.int 1) ∧ cs = ds) ∨ (v = some (.int 0) ∧ ¬ cs = ds)) ∧ L = [] ∧ h' = h

theorem k_eq {p : Program} {l : Launch} {e : Env} {R : Room} {s : State} {args : Array Value} {below : List Frame} {W : Nat} {Z : State} {a0 : Array Value} {h : Heap} (hZ : Z.Warmed39 s.vm) (hw : ∀ d ∈ StrChars.Road.wordsEq, d.before a0 Z = true) (wi : (Jvm.Cond.instantiable "java/lang/String" 4).before a0 Z = true)
    {x y : Addr} {cs ds : List Int32} (A : StrOf Z h x cs) (B : StrOf Z h y ds) {z : Int32} (S : Sta Z h "java/lang/String" "COMPACT_STRINGS" "Z" (.int z)) (hz : ¬ z = 0) (hfr : 2 ≤ R.frames) (hlo : W + 28 ≤ R.locals) :
    BackQ l R p e below s args yq11 W #[.ref x, .ref y] h 0 0 (QEq cs ds h) := by
  obtain ⟨t, kb, cd, N2, vs, a1, a2, a3, a4, a5, a6, a7⟩ := A
  obtain ⟨t', kb', cd', N2', vs', b1, b2, b3, b4, b5, b6, b7⟩ := B
  exact StrChars.Road.eqW hZ hw wi a1 a2 a3 a4 a5 a6 a7 b1 b2 b3 b4 b5 b6 b7 S hz hfr hlo

abbrev QLen (cs : List Int32) (h : Heap) (v : Option Value) (h' : Heap) (L : List Loc) : Prop := v = some (.int (Int32.ofNat cs.length)) ∧ L = [] ∧ h' = h
theorem k_len {p : Program} {l : Launch} {e : Env} {R : Room} {s : State} {args : Array Value} {below : List Frame} {W : Nat} {Z : State} {a0 : Array Value} {h : Heap} (hZ : Z.Warmed39 s.vm) (hw : ∀ d ∈ StrChars.Road.wordsLen, d.before a0 Z = true) (wi : (Jvm.Cond.instantiable "java/lang/String" 4).before a0 Z = true)
    {x : Addr} {cs : List Int32} (A : StrOf Z h x cs) {z : Int32} (S : Sta Z h "java/lang/String" "COMPACT_STRINGS" "Z" (.int z)) (hz : ¬ z = 0) (hfr : 2 ≤ R.frames) (hlo : W + 25 ≤ R.locals) :
    BackQ l R p e below s args yq4 W #[.ref x] h 0 0 (QLen cs h) := by
  obtain ⟨t, kb, cd, N2, vs, a1, a2, a3, a4, a5, a6, a7⟩ := A
  exact StrChars.Road.lenW hZ hw wi a1 a2 a3 a4 a5 a6 S hz a7 hfr hlo

/-! from the case's words to facts of the start's heap -/
section ST
variable {args : Array Value} {Z : State}
theorem st_int {t : Term} {n : Int32} (h : (Jvm.Cond.eq t (.int n)).value args Z none Z [] = some true) : t.eval args Z none [] Z = some (.int n) := by
  obtain ⟨x, y, e1, e2, k1, k2⟩ := cmp_v (Or.inl h)
  have e2' : y = .int n := (Option.some.inj e2).symm
  subst e2'
  obtain ⟨z, rfl⟩ := k2
  have : z = n := by simpa [Cond.value, e1, Term.eval] using h
  subst this; exact e1
theorem st_ref {t u : Term} {a : Addr} (hu : u.eval args Z none [] Z = some (.ref a)) (h : (Jvm.Cond.eq t u).value args Z none Z [] = some true) : t.eval args Z none [] Z = some (.ref a) := by
  obtain ⟨x, y, e1, e2, k1, k2⟩ := cmp_v (Or.inl h)
  cases hu.symm.trans e2
  have hx : x.isRef = true := k2.2
  rcases ref_cases hx with rfl | ⟨b, rfl⟩
  · simp [Cond.value, e1, hu] at h
  · have : b = a := by simpa [Cond.value, e1, hu] using h
    subst this; exact e1
theorem st_len {t : Term} {a : Addr} {cl : Cell} {ty : FieldType} {n : Int32} (ht : t.eval args Z none [] Z = some (.ref a)) (A : Arr Z Z.heap a cl ty) (h : (Jvm.Cond.eq (.length t) (.int n)).value args Z none Z [] = some true) : cl.slots.size < 2 ^ 31 ∧ cl.slots.size.toInt32 = n := by
  have e := st_int h
  have hat := A.fin (Vm.Alike.refl _)
  simp only [Term.eval, ht, Option.bind_eq_bind, Option.bind_some, hat, Option.pure_def] at e
  by_cases q : cl.slots.size < 2 ^ 31
  · rw [if_pos q] at e; exact ⟨q, by cases e; rfl⟩
  · rw [if_neg q] at e; cases e
theorem st_elem {t i : Term} {a : Addr} {cl : Cell} {ty : FieldType} {j : Int32} {v : Value} (ht : t.eval args Z none [] Z = some (.ref a)) (A : Arr Z Z.heap a cl ty) (hi : i.eval args Z none [] Z = some (.int j)) (h : (Term.elem t i).eval args Z none [] Z = some v) : cl.slots[j.toNatClampNeg]? = some v := (elem_in h ht hi A.1).2
/-- the bytes of the array that t names, one word each -/
def ElemsEq (args : Array Value) (Z : State) (t : Term) : Nat → List Int32 → Prop
  | _, [] => True
  | i, b :: r => (Jvm.Cond.eq (.elem t (.int (Int32.ofNat i))) (.int b)).value args Z none Z [] = some true ∧ ElemsEq args Z t (i + 1) r
theorem st_has {t : Term} {a : Addr} {cl : Cell} {ty : FieldType} (ht : t.eval args Z none [] Z = some (.ref a)) (A : Arr Z Z.heap a cl ty) : ∀ (bs : List Int32) (i : Nat), i + bs.length < 2 ^ 31 → ElemsEq args Z t i bs → HasL cl i (bs.map Value.int)
  | [], _, _, _ => trivial
  | b :: r, i, hi, h => ⟨by
      have q := st_elem ht A (j := Int32.ofNat i) rfl (st_int h.1)
      have e : (Int32.ofNat i).toNatClampNeg = i := by
        have : (Int32.ofNat i).toInt = i := Int32.toInt_ofNat_small (by simp at hi; omega)
        simp only [Int32.toNatClampNeg, this]; rfl
      rwa [e] at q, st_has ht A r (i + 1) (by simp at hi; omega) h.2⟩
theorem st_str (hf : Fit Z) {t : Term} {x : Addr} {n : Int32} {cs bs : List Int32} (ht : t.eval args Z none [] Z = some (.ref x)) (h1 : (Jvm.Cond.exactly t "java/lang/String").value args Z none Z [] = some true) (h2 : (Jvm.Cond.eq (.field t "java/lang/String" "coder" "B") (.int 0)).value args Z none Z [] = some true)
    (h3 : (Jvm.Cond.arrayOf (.field t "java/lang/String" "value" "[B") .byte).value args Z none Z [] = some true) (h4 : (Jvm.Cond.eq (.length (.field t "java/lang/String" "value" "[B")) (.int n)).value args Z none Z [] = some true) (h5 : ElemsEq args Z (.field t "java/lang/String" "value" "[B") 0 bs)
    (hb : bs = cs.map StrChars.lo8) (hn : n = Int32.ofNat cs.length) (hl : cs.length ≤ 4000) (hc : ∀ c ∈ cs, ¬ c < 0 ∧ ¬ (255 : Int32) < c) : StrOf Z Z.heap x cs := by
  obtain ⟨b, eb⟩ := arr_v h3
  obtain ⟨cl, A⟩ := Arr.start eb h3
  obtain ⟨l1, l2⟩ := st_len eb A h4
  have nn : n.toInt = cs.length := by rw [hn]; exact Int32.toInt_ofNat_small (by omega)
  have lb : bs.length = cs.length := by rw [hb]; simp
  have V : Arv Z Z.heap b cl.cls .byte n (bs.map Value.int) (.int 0) := Arv.start hf A l1 l2 (by rw [Int32.lt_iff_toInt_lt, nn]; simp) (by simp only [Int32.toNatClampNeg, nn]; simp [lb]) (st_has eb A bs 0 (by omega) h5)
  refine ⟨b, cl.cls, 0, n, _, Exa.start ht h1, Fld.start ((fld_at ht).symm.trans eb), Fld.start ((fld_at ht).symm.trans (st_int h2)), V, ?_, fun c q => ⟨(hc c q).1, fun r => (hc c q).2 (by rw [Int32.lt_iff_toInt_lt] at r ⊢; exact Int.lt_trans (by decide) r)⟩, hl⟩
  subst hb hn
  exact Or.inl ⟨rfl, rfl, by simp [List.map_map, Function.comp_def], fun c q => (hc c q).2⟩
end ST

/-! small numbers as Int32, lists as arrays' contents -/
theorem n_toInt {n : Nat} (h : n < 2 ^ 31) : (Int32.ofNat n).toInt = n := Int32.toInt_ofNat_small h
theorem n_nn {n : Nat} (h : n < 2 ^ 31) : ¬ Int32.ofNat n < 0 := by rw [Int32.lt_iff_toInt_lt, n_toInt h]; simp
theorem n_lt {i n : Nat} (h : i < n) (hn : n < 2 ^ 31) : Int32.ofNat i < Int32.ofNat n := by rw [Int32.lt_iff_toInt_lt, n_toInt hn, n_toInt (by omega)]; omega
theorem n_nlt {i n : Nat} (h : n ≤ i) (hn : i < 2 ^ 31) : ¬ Int32.ofNat i < Int32.ofNat n := by rw [Int32.lt_iff_toInt_lt, n_toInt hn, n_toInt (by omega)]; omega
theorem n_nat {n : Nat} (h : n < 2 ^ 31) : (Int32.ofNat n).toNatClampNeg = n := by simp only [Int32.toNatClampNeg, n_toInt h]; rfl
theorem n_succ (i : Nat) : Int32.ofNat i + (1 : Int32) = Int32.ofNat (i + 1) := (Int32.ofNat_add i 1).symm
theorem n_ne {i n : Nat} (h : i < n) (hn : n < 2 ^ 31) : ¬ Int32.ofNat i = Int32.ofNat n := fun q => by
  have := congrArg Int32.toInt q
  rw [n_toInt hn, n_toInt (by omega)] at this; omega
theorem n_shl1 {i : Nat} (h : 2 * i < 2 ^ 31) : Int32.ofNat i <<< ((1 : Int32) &&& 31) = Int32.ofNat (2 * i) := by
  have e : ((1 : Int32) &&& 31) = 1 := by decide
  rw [e]
  apply Int32.toBitVec_inj.mp
  have e1 : (Int32.ofNat i).toBitVec = BitVec.ofNat 32 i := rfl
  have e2 : (Int32.ofNat (2 * i)).toBitVec = BitVec.ofNat 32 (2 * i) := rfl
  have e3 : (Int32.ofNat i <<< (1 : Int32)).toBitVec = (Int32.ofNat i).toBitVec <<< 1 := rfl
  rw [e3, e1, e2]
  apply BitVec.eq_of_toNat_eq
  simp [BitVec.toNat_shiftLeft, Nat.shiftLeft_eq]
  omega
theorem in_rng {i n : Nat} (h : i < n) (hn : n < 2 ^ 31) : ¬ Int32.ofNat i < 0 ∧ Int32.ofNat i < Int32.ofNat n := ⟨n_nn (by omega), n_lt h hn⟩
theorem at_chr {cs : List Int32} {i : Nat} {d : Value} (h : i < cs.length) (hl : cs.length < 2 ^ 31) : (cs.map Value.int).getD (Int32.ofNat i).toNatClampNeg d = .int (cs.getD i 0) := by
  rw [n_nat (by omega)]; simp [List.getD_eq_getElem?_getD, h]
theorem set_app {α : Type} (A B : List α) (z v : α) (i : Nat) (h : A.length = i) : (A ++ z :: B).set i v = A ++ v :: B := by subst h; simp
/-- an array of bytes of which the first i are written -/
def fillB (cs : List Int32) (i : Nat) : List Value := (cs.take i).map (fun c => Value.int (StrChars.lo8 c)) ++ List.replicate (cs.length - i) (.int 0)
theorem fillB_len {cs : List Int32} {i : Nat} (h : i ≤ cs.length) : (fillB cs i).length = cs.length := by simp [fillB]; omega
theorem fillB_zero (cs : List Int32) : fillB cs 0 = List.replicate cs.length (.int 0) := by simp [fillB]
theorem fillB_all (cs : List Int32) : fillB cs cs.length = cs.map (fun c => Value.int (StrChars.lo8 c)) := by simp [fillB]
theorem take_succ' {cs : List Int32} {i : Nat} (h : i < cs.length) : cs.take (i + 1) = cs.take i ++ [cs.getD i 0] := by
  rw [List.take_add_one]; simp [List.getD_eq_getElem?_getD, h]
theorem fillB_set {cs : List Int32} {i : Nat} (h : i < cs.length) : (fillB cs i).set i (.int (StrChars.lo8 (cs.getD i 0))) = fillB cs (i + 1) := by
  have e : cs.length - i = (cs.length - (i + 1)) + 1 := by omega
  unfold fillB
  rw [e, List.replicate_succ, set_app _ _ _ _ _ (by simp; omega), take_succ' h]
  simp
/-- .. of two bytes a char -/
def fillW (cs : List Int32) (i : Nat) : List Value := StrChars.Road.wideBytes (cs.take i) ++ List.replicate (2 * (cs.length - i)) (.int 0)
theorem wide_len (cs : List Int32) : (StrChars.Road.wideBytes cs).length = 2 * cs.length := by
  induction cs with
  | nil => rfl
  | cons c r ih => simp [StrChars.Road.wideBytes] at ih ⊢; omega
theorem wide_app (cs : List Int32) (c : Int32) : StrChars.Road.wideBytes (cs ++ [c]) = StrChars.Road.wideBytes cs ++ [.int (StrChars.lo8 c), .int (StrChars.hi8 c)] := by
  induction cs with
  | nil => rfl
  | cons d r ih => simp [StrChars.Road.wideBytes] at ih ⊢; exact ih
theorem fillW_len {cs : List Int32} {i : Nat} (h : i ≤ cs.length) : (fillW cs i).length = 2 * cs.length := by simp [fillW, wide_len]; omega
theorem fillW_zero (cs : List Int32) : fillW cs 0 = List.replicate (2 * cs.length) (.int 0) := by simp [fillW, StrChars.Road.wideBytes]
theorem fillW_all (cs : List Int32) : fillW cs cs.length = StrChars.Road.wideBytes cs := by simp [fillW]
theorem fillW_set {cs : List Int32} {i : Nat} (h : i < cs.length) : ((fillW cs i).set (2 * i) (.int (StrChars.lo8 (cs.getD i 0)))).set (2 * i + 1) (.int (StrChars.hi8 (cs.getD i 0))) = fillW cs (i + 1) := by
  have e : 2 * (cs.length - i) = (2 * (cs.length - (i + 1)) + 1) + 1 := by omega
  have l1 : (StrChars.Road.wideBytes (cs.take i)).length = 2 * i := by rw [wide_len]; simp; omega
  unfold fillW
  rw [e, List.replicate_succ, List.replicate_succ, set_app _ _ _ _ _ l1]
  rw [show StrChars.Road.wideBytes (cs.take i) ++ Value.int (StrChars.lo8 (cs.getD i 0)) :: Value.int 0 :: List.replicate (2 * (cs.length - (i + 1))) (Value.int 0) = (StrChars.Road.wideBytes (cs.take i) ++ [Value.int (StrChars.lo8 (cs.getD i 0))]) ++ Value.int 0 :: List.replicate (2 * (cs.length - (i + 1))) (Value.int 0) from by simp]
  rw [set_app _ _ _ _ _ (by simp [l1]), take_succ' h, wide_app]
  simp
theorem nar_c2 (x : Int32) : nar .char (x.toUInt32.toUInt16.toUInt32.toInt32) = x.toUInt32.toUInt16.toUInt32.toInt32 := by
  generalize x.toUInt32.toUInt16 = u
  show (u.toUInt32.toInt32).toUInt32.toUInt16.toUInt32.toInt32 = _
  have e1 : u.toUInt32.toInt32.toUInt32 = u.toUInt32 := rfl
  have e2 : u.toUInt32.toUInt16 = u := by simp
  rw [e1, e2]

theorem own_nf {s : State} {a0 : Array Value} {C : String} {x y y' : MethodName} (w' : (Jvm.Cond.selects C x y').before a0 s = true) (hc : y'.cls = y.cls) : NotFace s y := fun r0 h0 => by
  obtain ⟨_, _, m2, -, -, q3, -, kP, hkP, hkPi⟩ := Cond.selects_spec w'
  have hc1 := findClass_of_methodNamed h0
  have hc2 := findClass_of_methodNamed q3
  rw [hc, hc1] at hc2
  have e : r0.cls = m2.cls := Option.some.inj hc2
  exact ⟨kP, by rw [e]; exact hkP, hkPi⟩
theorem own_same {Z : State} {a0 : Array Value} {C : String} {x y y' : MethodName} (w : (Jvm.Cond.instanceMethod y).before a0 Z = true) (hy : y.cls ≠ "java/lang/invoke/MethodHandle" ∧ y.cls ≠ "java/lang/invoke/VarHandle") (w' : (Jvm.Cond.selects C x y').before a0 Z = true) (hc : y'.cls = y.cls) : (Jvm.Cond.sameMethod y.cls y.cls y.name y.desc).before a0 Z = true := by
  obtain ⟨mk, methM, hn, -⟩ := Cond.instanceMethod_spec w
  obtain ⟨_, _, m2, -, -, q3, -, kP, hkP, hkPi⟩ := Cond.selects_spec w'
  have hf := State.methodFound?_of_named hn hy
  have hc1 := findClass_of_methodNamed hn
  have hc2 := findClass_of_methodNamed q3
  rw [hc, hc1] at hc2
  have e : mk.cls = m2.cls := Option.some.inj hc2
  have hn' : Z.methodNamed? ⟨y.cls, y.name, y.desc⟩ = some mk := hn
  simp [Cond.before, Cond.holds, Cond.value, hc1, hf, hn', e, hkP, hkPi]
section WP
variable {p : Program} {l : Launch} {e : Env} {R : Room} {s : State} {m : MethodId} {args : Array Value} {below : List Frame} {meth : Method} {c : Code} {T : State} {locs : List Loc} {cells slots : Nat} {pc pc' : Nat} {Ls : Array Slot} {st stk : List Value} {P : State → Prop} {Z : State} {a0 : Array Value} {h : Heap}
/-- invokevirtual of a private method -/
theorem w_private (X : Stand p l e R s m args below meth c T locs cells slots) (hx : p.tables.exec = Jvm.exec) (hZ : Z.Warmed39 s.vm) {own C C' : String} {index : Nat} {y : MethodName} {bytes : ByteArray} {maxL : Nat} {ret : Option FieldType} {sig : MethodDescriptor} (hown : s.vm.findClass own = some m.cls) (w1 : (Jvm.Cond.methodLink own index y).before a0 Z = true) (w2 : (Jvm.Cond.instanceMethod y).before a0 Z = true) (wp : (Jvm.Cond.privateMethod y).before a0 Z = true) (w3 : (Jvm.Cond.selects C y y).before a0 Z = true) (w4 : (Jvm.Cond.code y bytes maxL ret).before a0 Z = true)
    (hy : y.cls ≠ "java/lang/invoke/MethodHandle" ∧ y.cls ≠ "java/lang/invoke/VarHandle") {W kc ks : Nat} {as' : Array Value} {Q : Option Value → Heap → List Loc → Prop} (hK : BackQ l R p e below s args y W as' h kc ks Q) (eT : T.heap = h) {b : Addr} (E : Exa Z h b C') (hsize : Ls.size = c.maxLocals) {argsL : List Value} (hsig : parseMethodDescriptor y.desc = some sig) (hlen : argsL.length = sig.parameters.length) (hstk : stk = argsL.reverse ++ .ref b :: st) (has : (.ref b :: argsL).toArray = as') (hW : (st.map fun v => v.category).sum ≤ W) (hd : decode c.code pc = .ok (.invokevirtual index, 3)) (hc : cells + kc ≤ R.cells) (hs : slots + ks ≤ R.slots) (hp : pc + 3 = pc')
    (r : ∀ T' v L, Stand p l e R s m args below meth c T' (locs ++ L) (cells + kc) (slots + ks) → Q v T'.heap L → Go p.tables e below P T' (mkF m pc' Ls (v.toList ++ st))) : Go p.tables e below P T (mkF m pc Ls stk) := by
  subst hp hstk
  have v2 : (Jvm.Cond.instanceMethod y).before args s = true := mvT hZ w2
  have v3 : (Jvm.Cond.selects C y y).before args s = true := mvT hZ w3
  have v4 : (Jvm.Cond.code y bytes maxL ret).before args s = true := mvT hZ w4
  obtain ⟨mk, methM, hnamed, hmethM, hstM, habM⟩ := Cond.instanceMethod_spec v2
  obtain ⟨methM', cM, hmethM', -, -, -, -, -, -, hsigM⟩ := Cond.code_spec hnamed v4
  cases hmethM.symm.trans hmethM'
  obtain ⟨c2, r2, m2, -, -, q3, -, kP, hkP, hkPi⟩ := Cond.selects_spec v3
  cases hnamed.symm.trans q3
  obtain ⟨cell, qa, qb⟩ := E.cell
  have hsel : selectMethod e.platform s.vm cell.cls mk = .method mk := selectMethod_private hmethM (Cond.privateMethod_at (mvP hZ wp (args := args)) mk methM hnamed hmethM)
  obtain ⟨vm₁, X₁, hstep₁⟩ := X.invokevirtual hx hown (mvT hZ w1) hnamed hmethM hstM hkP hkPi hy (a := b) (cell := cell) (by rw [eT]; exact qa) qb hsel hmethM habM hkP hkPi (g := mkF m pc Ls (argsL.reverse ++ .ref b :: st)) rfl (argsL := argsL) (rest := st) (lenOf hsig hlen _ hsigM) rfl hd
  obtain ⟨v, ⟨T', L', k', n'⟩, X', ⟨Lc, hQ, l', y', z'⟩, stp⟩ := hK m meth c ⟨T.setVm vm₁, locs, cells, slots⟩ { mkF m pc Ls (argsL.reverse ++ .ref b :: st) with stack := st } (.invokevirtual index) mk (.ref b :: argsL).toArray X₁ rfl hsize hd (by show 2 * 0 + (st.map fun v => v.category).sum ≤ W; omega) (X₁.named hnamed) ⟨has, eT, hc, hs⟩
  dsimp only at X' hQ l' y' z' stp
  subst l' y' z'
  exact Go.jump ((hstep₁ _ fun acts => by rw [doInvoke_state]; exact Steps.refl _).trans stp) (r T' v Lc X' hQ)
/-- invokespecial of the superclass's method -/
theorem w_super (X : Stand p l e R s m args below meth c T locs cells slots) (hx : p.tables.exec = Jvm.exec) (hZ : Z.Warmed39 s.vm) {own K : String} {index : Nat} {y : MethodName} {bytes : ByteArray} {maxL : Nat} {ret : Option FieldType} {sig : MethodDescriptor} (hown : s.vm.findClass own = some m.cls) (w1 : (Jvm.Cond.methodLink own index y).before a0 Z = true) (w2 : (Jvm.Cond.sameMethod y.cls y.cls y.name y.desc).before a0 Z = true) (w3 : (Jvm.Cond.instanceMethod y).before a0 Z = true) (w4 : (Jvm.Cond.superclass own y.cls).before a0 Z = true) (wc : (Jvm.Cond.code y bytes maxL ret).before a0 Z = true) (hn : y.name ≠ "<init>")
    {W kc ks : Nat} {as' : Array Value} {Q : Option Value → Heap → List Loc → Prop} (hK : BackQ l R p e below s args y W as' h kc ks Q) (eT : T.heap = h) {b : Addr} (F : Ins Z h b K true) (hsize : Ls.size = c.maxLocals) {argsL : List Value} (hsig : parseMethodDescriptor y.desc = some sig) (hlen : argsL.length = sig.parameters.length) (hstk : stk = argsL.reverse ++ .ref b :: st) (has : (.ref b :: argsL).toArray = as') (hW : (st.map fun v => v.category).sum ≤ W) (hd : decode c.code pc = .ok (.invokespecial index, 3)) (hc : cells + kc ≤ R.cells) (hs : slots + ks ≤ R.slots) (hp : pc + 3 = pc')
    (r : ∀ T' v L, Stand p l e R s m args below meth c T' (locs ++ L) (cells + kc) (slots + ks) → Q v T'.heap L → Go p.tables e below P T' (mkF m pc' Ls (v.toList ++ st))) : Go p.tables e below P T (mkF m pc Ls stk) := by
  subst hp hstk
  obtain ⟨v, _, ⟨T', L', k', n'⟩, -, X', ⟨Lc, hQ, l', y', z'⟩, stp⟩ := superBack X hx hZ (y := y) hown w1 w2 w3 w4 hn hK eT F (g := mkF m pc Ls (argsL.reverse ++ .ref b :: st)) rfl hsize wc (argsL := argsL) (rest := st) (lenOf hsig hlen) rfl (by show 2 * 0 + _ ≤ _; omega) hd (fun _ _ => ⟨has, eT, hc, hs⟩)
  dsimp only at X' hQ l' y' z' stp
  subst l' y' z'
  exact Go.jump stp (r T' v Lc X' hQ)
/-- System.arraycopy -/
theorem w_cpA (X : Stand p l e R s m args below meth c T locs cells slots) (hx : p.tables.exec = Jvm.exec) (hZ : Z.Warmed39 s.vm) {own : String} {index : Nat} (hown : s.vm.findClass own = some m.cls) (w1 : (Jvm.Cond.methodLink own index Jvm.Stand.acN).before a0 Z = true) (w2 : (Jvm.Cond.native Jvm.Stand.acN).before a0 Z = true) (w3 : (Jvm.Cond.static Jvm.Stand.acN).before a0 Z = true) (w4 : (Jvm.Cond.initialized "java/lang/System").before a0 Z = true) (eT : T.heap = h)
    {a b : Addr} {k k' : ClassId} {ty ty' : FieldType} {z z' : Int32} {n d : Nat} {vs vd us : List Value} {dv dd : Value} (A : Arv Z h a k ty z vs dv) (B : Arv Z h b k' ty' z' vd dd) (hty : (ty = ty' ∧ refKind ty = false) ∨ (refKind ty = true ∧ refKind ty' = true ∧ StoL Z h b us))
    (hn : n ≤ z.toNatClampNeg) (hdn : d + n ≤ z'.toNatClampNeg) (hus : us = vs.take n) (hl : n ≤ vs.length) (hl' : d + n ≤ vd.length) (hb : d + n < 2 ^ 31) {n0 : Nat} (N : Fr n0 locs) (ge : n0 ≤ b) (hsize : Ls.size = c.maxLocals) (hd : decode c.code pc = .ok (.invokestatic index, 3))
    (hf : 1 ≤ R.frames) {W : Nat} (hW : (st.map fun v => v.category).sum ≤ W) (hlo : W + 18 ≤ R.locals) (hp : pc + 3 = pc')
    (r : ∀ T' h' L, Stand p l e R s m args below meth c T' L cells slots → T'.heap = h' → Fr n0 L → Keep h h' [b] → Arv Z h' b k' ty' z' (vd.take d ++ us ++ vd.drop (d + n)) dd → Go p.tables e below P T' (mkF m pc' Ls st)) : Go p.tables e below P T (mkF m pc Ls (.int (Int32.ofNat n) :: .int (Int32.ofNat d) :: .ref b :: .int 0 :: .ref a :: st)) := by
  subst hp
  have en : (Int32.ofNat n).toNatClampNeg = n := n_nat (by omega)
  have ed : (Int32.ofNat d).toNatClampNeg = d := n_nat (by omega)
  have e0 : (0 : Int32).toNatClampNeg = 0 := rfl
  have hus' : us = (List.range (Int32.ofNat n).toNatClampNeg).map fun i => vs.getD ((0 : Int32).toNatClampNeg + i) dv := by
    rw [en, hus, e0]
    apply List.ext_getElem
    · simp; omega
    · intro i h1 h2
      have : i < vs.length := by simp at h1; omega
      simp [List.getD_eq_getElem?_getD, this]
  obtain ⟨T', h', L, X', e', N', K', V', stp⟩ := cpA X hx hZ hown w1 w2 w3 w4 eT A B hty (sp := 0) (dp := Int32.ofNat d) (nn := Int32.ofNat n) (by decide) (n_nn (by omega)) (n_nn (by omega)) (by rw [en, e0]; omega) (by rw [en, ed]; omega) hus' (by rw [en, ed]; omega) N ge (g := mkF m pc Ls (.int (Int32.ofNat n) :: .int (Int32.ofNat d) :: .ref b :: .int 0 :: .ref a :: st)) rfl hsize (rest := st) rfl hd hf (W := W) (by show 2 * 0 + _ ≤ _; omega) (by show W + (7 + 11) ≤ _; omega)
  rw [en, ed] at V'
  exact Go.next stp (r T' h' L X' e' N' K' V')
end WP
theorem n_add (a b : Nat) : Int32.ofNat a + Int32.ofNat b = Int32.ofNat (a + b) := (Int32.ofNat_add a b).symm
theorem n_sub {a b : Nat} (h : b ≤ a) : Int32.ofNat a - Int32.ofNat b = Int32.ofNat (a - b) := by
  have e : Int32.ofNat a = Int32.ofNat (a - b) + Int32.ofNat b := by rw [n_add]; congr 1; omega
  rw [e]; exact Int32.add_sub_cancel _ _
theorem n_shl0 (x : Int32) : x <<< ((0 : Int32) &&& 31) = x := by
  have e : ((0 : Int32) &&& 31) = 0 := by decide
  rw [e]
  apply Int32.toBitVec_inj.mp
  have e3 : (x <<< (0 : Int32)).toBitVec = x.toBitVec <<< 0 := rfl
  rw [e3]; simp
theorem n_shr0 (x : Int32) : x >>> ((0 : Int32) &&& 31) = x := StrChars.shr0 x
theorem n_le0 {a b : Nat} (h : a ≤ b) (hb : b < 2 ^ 31) : ¬ (0 : Int32) < Int32.ofNat a - Int32.ofNat b := by
  rw [Int32.lt_iff_toInt_lt, Int32.toInt_sub, n_toInt hb, n_toInt (by omega)]
  have e0 : (0 : Int32).toInt = 0 := rfl
  rw [e0, Int.bmod_eq_of_le (by omega) (by omega)]
  omega
theorem n_pos {a b : Nat} (h : b < a) (ha : a < 2 ^ 31) : (0 : Int32) < Int32.ofNat a - Int32.ofNat b := by
  rw [n_sub (by omega), Int32.lt_iff_toInt_lt, n_toInt (by omega)]
  have e0 : (0 : Int32).toInt = 0 := rfl
  rw [e0]; omega

/-! bodies beneath which a stack trace is filled in: the tables' methods and the frames beneath are known -/
section KX
variable {p : Program} {l : Launch} {e : Env} {R : Room} {s : State} {m : MethodId} {args : Array Value} {below : List Frame} {meth : Method} {c : Code} {T : State} {locs : List Loc} {cells slots : Nat} {pc pc' : Nat} {Ls : Array Slot} {st stk : List Value} {P : State → Prop} {Z : State} {a0 : Array Value} {h h0 : Heap} {Q : Option Value → Heap → List Loc → Prop} {K N : Nat}
abbrev CtK (l : Launch) (y : MethodName) (bytes : ByteArray) (maxL : Nat) (ret : Option FieldType) (rm : Room) (Z : State) (as' : Array Value) (h0 : Heap) (Q : Option Value → Heap → List Loc → Prop) : Prop :=
  MetFree l y (head1 [Jvm.Cond.code y bytes maxL ret] rm) (fun a U => a = as' ∧ Z.Warmed39 U.vm ∧ U.heap = h0) (fun _ _ bl s _ => s.vm.MethodsKnown ∧ s.vm.FramesKnown bl) (fun _ U o U' => ∃ v L, o = .returned v ∧ Q v U'.heap L ∧ FrameEnd U o U' L rm.cells rm.slots)
theorem ct_ofK {y : MethodName} {bytes : ByteArray} {maxL : Nat} {ret : Option FieldType} {rm : Room} {as' : Array Value} {ws : List Jvm.Cond} (hpn : plainFor y = true)
    (body : ∀ (p : Program) (e : Env) (s : State) (m : MethodId) (below : List Frame) (meth : Method) (c : Code) (s₁ : State), Stand p l e rm s m as' below meth c s₁ [] 0 0 → p.tables.exec = Jvm.exec → c.code = bytes → c.maxLocals = maxL → meth.sig.returnType = ret → meth.name = y.name → meth.locks = false → s.vm.findClass y.cls = some m.cls → Z.Warmed39 s.vm → s.heap = h0 → s₁.heap = h0 → s.vm.MethodsKnown → s.vm.FramesKnown below → Go p.tables e below (EndN s below Q K N) s₁ (entryFrame m as' maxL)) :
    MetFree l y (head1 (Jvm.Cond.code y bytes maxL ret :: ws) rm) (fun a U => a = as' ∧ Z.Warmed39 U.vm ∧ U.heap = h0) (fun _ _ bl s _ => s.vm.MethodsKnown ∧ s.vm.FramesKnown bl) (fun _ U o U' => ∃ v L, o = .returned v ∧ Q v U'.heap L ∧ FrameEnd U o U' L K N) := by
  refine MetFree.of_bodySF hpn hisR ?_
  intro p e s m args below meth c s₁ Bd hml0 hP hK
  obtain ⟨rfl, hZ, hh⟩ := hP
  have e0 : s₁.heap = h0 := by rw [← hh, Bd.state]; rfl
  obtain ⟨t, g1, g2, v, L, g3, g4, g5⟩ := body p e s m below meth c s₁ (Stand.of_body Bd) Bd.exec Bd.bytes hml0 Bd.returns (name_of_methodNamed Bd.named Bd.method).1 Bd.notSynchronized (findClass_of_methodNamed Bd.named) hZ hh e0 hK.1 hK.2
  exact ⟨t, _, g1, g2, g3, v, L, rfl, g4, g5⟩
theorem backCK {y : MethodName} {bytes : ByteArray} {maxL : Nat} {ret : Option FieldType} {rm : Room} {W : Nat} {as' : Array Value} {Q : Option Value → Heap → List Loc → Prop} (hM : CtK l y bytes maxL ret rm Z as' h Q) (hZ : Z.Warmed39 s.vm) (wc : (Jvm.Cond.code y bytes maxL ret).before a0 Z = true) (wz : (Jvm.Cond.initialized y.cls).before a0 Z = true) (hf : rm.frames + 1 ≤ R.frames) (hl : W + (maxL + 11) + rm.locals ≤ R.locals) (hTK : s.vm.MethodsKnown) (hBelow : s.vm.FramesKnown below) : BackQ l R p e below s args y W as' h rm.cells rm.slots Q :=
  backOfKL hM hZ wc wz hf hl hTK hBelow
end KX

/-! an exception that the walk itself makes: Throwable's parts by name out of the words of its subclass rc alone (of Throwable's own layout only the words on rc are asked), and fillInStackTrace() as one step -/
section TH
open Jvm.Free.Exc
variable {p : Program} {l : Launch} {e : Env} {R : Room} {s : State} {m : MethodId} {args : Array Value} {below : List Frame} {meth : Method} {c : Code} {T : State} {locs : List Loc} {cells slots : Nat} {pc pc' : Nat} {Ls : Array Slot} {st stk : List Value} {P : State → Prop} {Z : State} {a0 : Array Value} {h h0 h' : Heap}
def thW (rc : String) : List Jvm.Cond := [
  .initialized tN, .superclass tN "java/lang/Object", .instanceMethod tFill, .codeSync tFill LibCode.Throwable.Fill.code 1 (some (.object tN)), .instanceMethod tFill0, .native tFill0,
  .instanceMethod oInit, .code oInit ⟨#[0xb1]⟩ 1 none, .methodLink tN 1 oInit, .methodLink tN 27 tFill, .methodLink tN 202 tFill0,
  .fieldLink tN 7 tN "cause" thD, .lays rc tN "cause" thD, .fieldLink tN 17 tN "stackTrace" steD, .lays rc tN "stackTrace" steD, .fieldLink tN 24 tN "suppressedExceptions" listD, .lays rc tN "suppressedExceptions" listD,
  .fieldLink tN 13 tN "UNASSIGNED_STACK" steD, .laysStatic tN "UNASSIGNED_STACK" steD, .fieldLink tN 20 tN "SUPPRESSED_SENTINEL" listD, .laysStatic tN "SUPPRESSED_SENTINEL" listD, .lays rc tN "detailMessage" msgD,
  .declares tFill, .selects rc tFill0 tFill0, .selects rc tFill tFill, .fieldLink tN 198 tN "backtrace" obD, .lays rc tN "backtrace" obD, .arrayOver (.object "java/lang/Object"), .soleField tN "backtrace", .soleField tN "depth", .lays rc tN "depth" "I"]
theorem thW_ok {rc : String} : (thW rc).all xOk = true := rfl
theorem own_links {pl : Platform} {rc : String} (howns : pl.frameOwnsMonitors = true) (hfin : pl.finalization = false) (hpl : pl.magicAccessors = ({} : Platform).magicAccessors) (W : ∀ d ∈ thW rc, d.before args s = true) :
    ∃ A : ThrowableC, A.Links pl s ∧ s.vm.findClass tN = some A.cT ∧ s.methodNamed? tFill = some A.fill ∧ s.methodNamed? tFill0 = some A.fill0 ∧ s.fieldFound? tN "stackTrace" steD = some (A.cT, A.kT, A.i17, A.fStack) ∧ s.fieldFound? tN "UNASSIGNED_STACK" steD = some (A.cT, A.kT, A.i13, A.fUnassigned) ∧ A.fStack.type = .array (.object "java/lang/StackTraceElement") := by
  have w : ∀ (i : Nat) (d : Jvm.Cond), (thW rc)[i]? = some d → d.holds args s none s [] = true := fun i d q => W d (List.mem_of_getElem? q)
  obtain ⟨⟨k0, i0⟩, m0, u1, u2, u3, u4, u5, u6⟩ := Cond.native_spec (w 5 (.native tFill0) rfl)
  have hc : s.vm.findClass tN = some k0 := findClass_of_methodNamed u1
  obtain ⟨kT, hk, hname⟩ := Vm.findClass_spec hc
  obtain ⟨_, _, _, _, v2, _, _, -, _, hni⟩ := Cond.superclass_spec hc (w 1 (.superclass tN "java/lang/Object") rfl)
  cases hk.symm.trans v2
  obtain ⟨jF, mF, f1, f2, f3, f4, f5, -, -⟩ := Cond.ownMethod (x := tFill) hc hk (w 2 (.instanceMethod tFill) rfl)
  obtain ⟨_, cF, g1, g2, g3, g4, g5, g6, -, g8⟩ := Cond.codeSync_spec f1 (w 3 (.codeSync tFill LibCode.Throwable.Fill.code 1 (some (.object tN))) rfl)
  cases f2.symm.trans g1
  obtain ⟨_, _, b1, b2, b3, b4, b5, b6, b7⟩ := Cond.ownMethod (x := tFill0) hc hk (w 4 (.instanceMethod tFill0) rfl)
  cases u1.symm.trans b1
  cases u2.symm.trans b2
  obtain ⟨mO, xO, o1, o2, o3, o4⟩ := Cond.instanceMethod_spec (w 6 (.instanceMethod oInit) rfl)
  obtain ⟨_, cO, p1, p2, p3, -, -, p6, -, p8⟩ := Cond.code_spec o1 (w 7 (.code oInit ⟨#[0xb1]⟩ 1 none) rfl)
  cases o2.symm.trans p1
  obtain ⟨kO, hkO, hnO⟩ := Vm.findClass_spec (findClass_of_methodNamed o1)
  obtain ⟨nmO, dsO⟩ := name_of_methodNamed o1 o2
  obtain ⟨ci1, n1, cf, l1, r1, hcf, q1⟩ := Cond.linkedMethod hc hk o1 (w 8 (.methodLink tN 1 oInit) rfl) pl hpl
  obtain ⟨ci27, n27, cf2, l27, r27, hcf2, q27⟩ := Cond.linkedMethod hc hk f1 (w 9 (.methodLink tN 27 tFill) rfl) pl hpl
  cases hcf.symm.trans hcf2
  obtain ⟨ci202, n202, cf3, l202, r202, hcf3, q202⟩ := Cond.linkedMethod hc hk u1 (w 10 (.methodLink tN 202 tFill0) rfl) pl hpl
  cases hcf.symm.trans hcf3
  obtain ⟨ci7, i7, f7, a7, c7, d7, s7, e7, -, -, -⟩ := Cond.ownField (t := .object tN) hc hk (by decide +kernel) (w 11 (.fieldLink tN 7 tN "cause" thD) rfl) (w 12 (.lays rc tN "cause" thD) rfl) pl hpl
  obtain ⟨ci17, i17, f17, a17, c17, d17, s17, e17, n17, t17, ff17⟩ := Cond.ownField (t := .array (.object "java/lang/StackTraceElement")) hc hk (by decide +kernel) (w 13 (.fieldLink tN 17 tN "stackTrace" steD) rfl) (w 14 (.lays rc tN "stackTrace" steD) rfl) pl hpl
  obtain ⟨ci24, i24, f24, a24, c24, d24, s24, e24, n24, -, ff24⟩ := Cond.ownField (t := .object "java/util/List") hc hk (by decide +kernel) (w 15 (.fieldLink tN 24 tN "suppressedExceptions" listD) rfl) (w 16 (.lays rc tN "suppressedExceptions" listD) rfl) pl hpl
  obtain ⟨ci13, i13, f13, aS, _, a13, c13, d13, s13, -, -, hsta, -, -, -, -, ff13⟩ := Cond.ownStatic (t := .array (.object "java/lang/StackTraceElement")) hc hk (by decide +kernel) (w 17 (.fieldLink tN 13 tN "UNASSIGNED_STACK" steD) rfl) (w 18 (.laysStatic tN "UNASSIGNED_STACK" steD) rfl) pl hpl
  obtain ⟨ci20, i20, f20, _, _, a20, c20, d20, s20, -, -, -, -, -, -, -, -⟩ := Cond.ownStatic (t := .object "java/util/List") hc hk (by decide +kernel) (w 19 (.fieldLink tN 20 tN "SUPPRESSED_SENTINEL" listD) rfl) (w 20 (.laysStatic tN "SUPPRESSED_SENTINEL" listD) rfl) pl hpl
  obtain ⟨_, _, _, _, _, fM, _, _, _, sM, eM, _⟩ := Cond.lays_spec (w 21 (.lays rc tN "detailMessage" msgD) rfl)
  obtain ⟨cR, kR, _, _, _, _, hcR, hkR, _⟩ := Cond.lays_spec (w 14 (.lays rc tN "stackTrace" steD) rfl)
  obtain ⟨_, y17, x17, z17⟩ := Cond.laysAt hcR hkR ff17 (w 14 (.lays rc tN "stackTrace" steD) rfl)
  obtain ⟨_, y24, x24, z24⟩ := Cond.laysAt hcR hkR ff24 (w 16 (.lays rc tN "suppressedExceptions" listD) rfl)
  have apart : f17.slot ≠ f24.slot := Cond.laysApart x17 x24 z17 z24 (by rw [n17, n24]; decide)
  have pF : mF.sig.parameters = [] := by
    rw [show parseMethodDescriptor tFill.desc = some ⟨[], some (.object tN)⟩ from by decide +kernel] at g8
    rw [← Option.some.inj g8]
  have p0 : m0.sig.parameters = [.int] := by
    rw [show parseMethodDescriptor tFill0.desc = some ⟨[.int], some (.object tN)⟩ from by decide +kernel] at u6
    rw [← Option.some.inj u6]
  have pO : xO.sig.parameters.length = 0 := by
    rw [show parseMethodDescriptor oInit.desc = some ⟨[], none⟩ from by decide +kernel] at p8
    rw [← Option.some.inj p8]; rfl
  refine ⟨{ cT := k0, kT := kT, cO := k0, aS := aS, fillIdx := jF, fill0Idx := i0, initSIdx := jF, obj := mO, kObj := kO, methFill := mF, methFill0 := m0, methInitS := mF, methObj := xO, codeFill := cF, codeInitS := cF, codeObj := cO, fBack := f7, fDepth := f7, fStack := f17, fCause := f7, fSupp := f24, fMsg := fM, fUnassigned := f13, fSentinel := f20, cfT := cf, ci1 := ci1, n1 := n1, ci27 := ci27, n27 := n27, ci202 := ci202, n202 := n202, ci7 := ci7, i7 := i7, ci13 := ci13, i13 := i13, ci17 := ci17, i17 := i17, ci20 := ci20, i20 := i20, ci24 := ci24, i24 := i24 }, ?_, hc, f1, u1, ff17, ff13, t17⟩
  constructor
  case owns => exact howns
  case noFinalization => exact hfin
  case cls => exact hk
  case name => exact hname
  case boot => exact Vm.findClass_boot hc hk
  case notInterface => exact hni
  case initialized => exact Cond.initialized_spec hc hk (w 0 (.initialized tN) rfl)
  case statics => exact hsta
  case fillAt => exact f3
  case fillCode => exact g2
  case fillBytes => exact g3
  case fillLocals => exact g4
  case fillLocks => exact g6
  case fillStatic => exact f4
  case fillAbstract => exact f5
  case fillReturns => exact g5
  case fillParams => exact pF
  case fill0At => exact b3
  case fill0Name => exact b6
  case fill0Desc => exact b7
  case fill0Params => exact p0
  case fill0Static => exact b4
  case fill0Native => exact u3
  case fill0Code => exact u4
  case fill0Locks => exact u5
  case fill0Abstract => exact b5
  case stackInstance => exact s17
  case stackNotFinal => exact e17
  case unassignedStatic => exact s13
  case objClass => exact hkO
  case objClassName => exact hnO
  case objMethod => exact o2
  case objName => exact nmO
  case objStatic => exact o3
  case objAbstract => exact o4
  case objFound =>
    show lookupSpecial s.vm mO.cls "<init>" xO.desc = .method mO
    rw [dsO]; exact lookupSpecial_of_named o1 o2 o3
  case objParams => exact pO
  case objCode => exact p2
  case objBytes => exact p3
  case objLocks => exact p6
  case causeInstance => exact s7
  case causeNotFinal => exact e7
  case sentinelStatic => exact s20
  case suppInstance => exact s24
  case suppNotFinal => exact e24
  case msgInstance => exact sM
  case msgNotFinal => exact eM
  case stackApartSupp => exact apart
  case file => exact hcf
  case mlink1 => exact l1
  case mright1 => exact r1
  case pool1 => exact q1
  case mlink27 => exact l27
  case mright27 => exact r27
  case pool27 => exact q27
  case mlink202 => exact l202
  case mright202 => exact r202
  case pool202 => exact q202
  case link7 => exact a7
  case right7 => exact c7
  case at7 => exact d7
  case link13 => exact a13
  case right13 => exact c13
  case at13 => exact d13
  case link17 => exact a17
  case right17 => exact c17
  case at17 => exact d17
  case link20 => exact a20
  case right20 => exact c20
  case at20 => exact d20
  case link24 => exact a24
  case right24 => exact c24
  case at24 => exact d24
/-- the call of fillInStackTrace() in a constructor of Throwable, on an object of rc that the walk made -/
theorem w_fill (X : Stand p l e R s m args below meth c T locs cells slots) (hx : p.tables.exec = Jvm.exec) (hl : l.stackTraces = true) (hZ : Z.Warmed39 s.vm) {rc : String} {kk : Nat} (hown : s.vm.findClass tN = some m.cls) (W0 : ∀ d ∈ thW rc, d.before a0 Z = true) (wi : (Jvm.Cond.instantiable rc kk).before a0 Z = true)
    (hT0 : ThS Z s.heap) (hTK : s.vm.MethodsKnown) (hBelow : s.vm.FramesKnown below) (eT : T.heap = h) {a : Addr} (E : Exa Z h a rc) (N1 : Unt h a) {u0 : RefV} (SUn : Sta Z h tN "UNASSIGNED_STACK" steD u0.v) (FS : Fld Z h a tN "stackTrace" steD u0.v) (FB : Fld Z h a tN "backtrace" obD .null)
    (hsize : Ls.size = c.maxLocals) (hd : decode c.code pc = .ok (.invokevirtual 27, 3)) (hf : 3 ≤ R.frames) {W : Nat} (hW : (st.map fun v => v.category).sum ≤ W) (hlo : W + 42 ≤ R.locals) (hcl : cells + 1 ≤ R.cells) (hsl : slots + 2752 ≤ R.slots) (hp : pc + 3 = pc')
    (r : ∀ T' L, Stand p l e R s m args below meth c T' (locs ++ L) (cells + 1) (slots + 2752) → (∀ x ∈ L, x.base = a) → Go p.tables e below P T' (mkF m pc' Ls (.ref a :: st))) : Go p.tables e below P T (mkF m pc Ls (.ref a :: st)) := by
  subst hp
  have V : ∀ d ∈ thW rc, d.before args s = true := fun d q => mvX hT0 hZ (List.all_eq_true.mp thW_ok d q) (W0 d q)
  have w : ∀ (i : Nat) (d : Jvm.Cond), (thW rc)[i]? = some d → d.before args s = true := fun i d q => V d (List.mem_of_getElem? q)
  have hpl : e.platform.magicAccessors = ({} : Platform).magicAccessors := by rw [X.admits.platform]
  have htr : e.platform.stackTraces = true := by rw [X.admits.platform]; exact hl
  obtain ⟨A, LA, hc, nF, n0, gS, gU, tS⟩ := own_links (pl := e.platform) (by rw [X.admits.platform]) (by rw [X.admits.platform]) hpl V
  obtain ⟨cell, kc, x1, x2, x3, -, x5⟩ := E
  obtain ⟨_, y1, y2, y3⟩ := N1
  cases x1.symm.trans y1
  obtain ⟨_, kR, i1, i2, iord, -⟩ := Cond.instantiable_spec wi
  cases x2.symm.trans i1
  cases x3.symm.trans i2
  obtain ⟨kX, hkX, eX⟩ := hZ.alike.2.2 _ _ x3
  have ordX : kX.kind = .ordinary := by rw [eX]; exact iord
  have szX : cell.slots.size = kX.instanceTypes.size := by rw [eX]; exact x5 iord
  have hfound : s.vm.findClass rc = some cell.cls := by rw [hZ.alike.findClass]; exact x2
  have hcell : T.heap[a]? = some cell := by rw [eT]; exact x1
  have tk : ∀ {f : Field} {v : Value}, kX.instanceTypes[f.slot]? = some f.type → fits f.type v = true → Jvm.Takes s cell f v := fun {f v} z1 z2 => by
    obtain ⟨q1, q2⟩ := Takes.of_laid (v := v) hkX ordX z1 z2
    exact ⟨by rw [szX]; simpa using q1, by rw [y2]; exact q2⟩
  have mv1 : ∀ {n d : String} {ci i : Nat} {k : Class} {f : Field}, Z.fieldFound? tN n d = some (ci, k, i, f) → ∃ k', s.fieldFound? tN n d = some (ci, k', i, f) ∧ k'.statics = k.statics := fun {n d ci i k f} q => by
    obtain ⟨k', q1, q2⟩ := State.fieldFound?_setVm (s := Z) hZ.alike q
    exact ⟨k', q1, by rw [q2]⟩
  obtain ⟨_, _, _, _, f1, s1, s2, -, -, -, -, s7⟩ := FS
  cases x1.symm.trans s1
  obtain ⟨_, s3, -⟩ := mv1 s2
  cases gS.symm.trans s3
  obtain ⟨ci198, i198, fB, a198, c198, d198, sB, -, nB, tB, ffB⟩ := Cond.ownField (t := .object "java/lang/Object") hc LA.cls (by decide +kernel) (w 25 (.fieldLink tN 198 tN "backtrace" obD) rfl) (w 26 (.lays rc tN "backtrace" obD) rfl) e.platform hpl
  obtain ⟨_, _, _, _, f2, b1, b2, -, -, -, -, b7⟩ := FB
  cases x1.symm.trans b1
  obtain ⟨_, b3, -⟩ := mv1 b2
  cases ffB.symm.trans b3
  obtain ⟨_, _, kU, fU, sa, cellS, z1, -, -, z4, z5, z6, z7⟩ := SUn
  obtain ⟨_, z8, z9⟩ := mv1 z1
  cases gU.symm.trans z8
  have esa : A.aS = sa := Option.some.inj (LA.statics.symm.trans (z9.trans z4))
  have hcS : T.heap[A.aS]? = some cellS := by rw [esa, eT]; exact z5
  have hneS : A.aS ≠ a := fun q => by
    rw [q] at hcS
    cases hcell.symm.trans hcS
    rw [y2] at z6; cases z6
  have hsel0 : selectMethod e.platform s.vm cell.cls A.fill0 = .method A.fill0 := by
    obtain ⟨_, _, _, q1, q2, q3, q4, -⟩ := Cond.selects_spec (w 23 (.selects rc tFill0 tFill0) rfl)
    cases hfound.symm.trans q1
    cases (State.methodFound?_of_named n0 (by decide)).symm.trans q2
    cases n0.symm.trans q3
    rw [Launch.admits_selectMethod X.admits]; exact q4
  obtain ⟨_, _, _, _, iD, fD, -, -, ffD, sD, -, -, -, -⟩ := Cond.lays_spec (w 30 (.lays rc tN "depth" "I") rfl)
  cases (Cond.lays_declared (w 30 (.lays rc tN "depth" "I") rfl) ffD).symm.trans hc
  obtain ⟨kD, atD⟩ := State.fieldFound?_spec ffD
  cases kD.symm.trans LA.cls
  obtain ⟨nD, tD⟩ := State.fieldFound?_type ffD (t := .int) (by decide +kernel)
  have hfb := Cond.soleField_find hc LA.cls (w 28 (.soleField tN "backtrace") rfl) d198 nB sB
  have hfd := Cond.soleField_find hc LA.cls (w 29 (.soleField tN "depth") rfl) atD nD sD
  obtain ⟨comp, cO, kO, -, -, hkO, hkindO, hO⟩ := Cond.arrayOver_spec (w 27 (.arrayOver (.object "java/lang/Object")) rfl)
  have laS := (Cond.laysAt hfound hkX gS (w 14 (.lays rc tN "stackTrace" steD) rfl)).1
  have laB := (Cond.laysAt hfound hkX ffB (w 26 (.lays rc tN "backtrace" obD) rfl)).1
  have laD := (Cond.laysAt hfound hkX ffD (w 30 (.lays rc tN "depth" "I") rfl)).1
  have hSE := w 24 (.selects rc tFill tFill) rfl
  obtain ⟨v6, vm6, ⟨T6, L6, c6, n6⟩, -, X6, ⟨hv6, C6, n, hn, -, -, -, -, -, hL6, hc6, hn6⟩, come⟩ := X.virtualBack hx (own := tN) (C := rc) (index := 27) (y := tFill) (z := tFill) hown (w 9 (.methodLink tN 27 tFill) rfl) (w 22 (.declares tFill) rfl) (notFace_of_selects hSE) hSE (w 2 (.instanceMethod tFill) rfl) (by decide)
    (fillPaysAny (l := l) (W := W) hx htr A LA nF (u0 := u0) (self := a) (cell := cell) (cellS := cellS) (fun _ => by rw [y2]; simp) (by rw [y2]; simp) (by rw [y3]) (by rw [y3]) s7 hsel0 hneS (fun q => by rw [q] at z6; cases z6) z7 (tk laS (by rw [tS]; exact fits_refV_array _ u0))
      ⟨{ ci198 := ci198, i198 := i198, fBack := fB }, ⟨a198, c198, d198, sB⟩, b7⟩ hTK hBelow hc hO hkO hkindO hfb hfd (fun x => tk laB (by rw [tB]; rfl)) (fun x => tk laD (by rw [tD]; rfl)) (by omega) (by omega))
    (b := a) (cB := cell.cls) hfound ⟨cell, hcell, rfl, by rw [y2]; rfl⟩ (g := mkF m pc Ls (.ref a :: st)) rfl hsize (Steps.refl _) (argsL := []) (rest := st)
    (fun sig q => by rw [show parseMethodDescriptor tFill.desc = some ⟨[], some (.object tN)⟩ from by decide +kernel] at q; rw [← Option.some.inj q]; rfl) rfl (by show 2 * 0 + _ ≤ _; omega) hd
    (fun vmx hWx => ⟨rfl, hcl, hsl, hcell, hcS⟩)
  dsimp only at X6 hL6 hc6 hn6 come
  subst hv6 hL6 hc6 hn6
  exact Go.jump come (r T6 _ (X6.more (Nat.le_refl _) (Nat.add_le_add_left hn _)) fun x q => by
    simp only [List.mem_cons, List.not_mem_nil, or_false] at q
    rcases q with rfl | rfl | rfl <;> rfl)
/-- a body that wrote at a alone keeps the rest -/
theorem keep_st (X : Stand p l e R s m args below meth c T locs cells slots) (hs : s.heap = h0) {a : Addr} (hL : ∀ x ∈ locs, x.base = a) : Keep h0 T.heap [a] := by
  subst hs
  have K : Jvm.Free.Exc.Kept s (T.setVm s.vm) locs := fun y cy hy => X.same.2.2.2.2.2 y cy hy
  refine ⟨X.same.2.1, fun y cy hy hn => ?_, fun y cy hy => ?_⟩
  · exact K.other hL (fun q => hn (by rw [q]; exact List.mem_cons_self ..)) hy
  · obtain ⟨c', q1, q2, q3, -⟩ := K y cy hy
    exact ⟨c', q1, by rw [q2], by rw [q2], q3⟩
theorem unt_kn {ws : List Addr} {a : Addr} (N : Unt h a) (K : Keep h h' ws) : ∃ cell : Cell, h'[a]? = some cell ∧ cell.vm ≠ .unknown := by
  obtain ⟨c0, u1, u2, -⟩ := N
  obtain ⟨c', q1, -, q3, -⟩ := K.2.2 _ _ u1
  exact ⟨c', q1, by rw [q3, u2]; simp⟩
theorem baseS {a : Addr} {L : List Loc} {sl : Nat} (q : ∀ x ∈ L, x.base = a) : ∀ x ∈ L ++ [(⟨a, sl⟩ : Loc)], x.base = a := fun x hx => by
  rcases List.mem_append.mp hx with r | r
  · exact q x r
  · cases List.mem_singleton.mp r; rfl
theorem baseA {a : Addr} {L L' : List Loc} (q : ∀ x ∈ L, x.base = a) (q' : ∀ x ∈ L', x.base = a) : ∀ x ∈ L ++ L', x.base = a := fun x hx => (List.mem_append.mp hx).elim (q x) (q' x)
theorem base_fr {n0 : Nat} {a : Addr} {L : List Loc} (q : ∀ x ∈ L, x.base = a) (g : n0 ≤ a) : Fr n0 L := fun y hy => by rw [q y hy]; exact g
/-- Throwable's statics at the heap at hand -/
def ThP (Z : State) (h : Heap) (u0 sen : RefV) : Prop := ThS Z h ∧ Sta Z h tN "UNASSIGNED_STACK" steD u0.v ∧ Sta Z h tN "SUPPRESSED_SENTINEL" listD sen.v
theorem ThP.ext {u0 sen : RefV} (F : ThP Z h u0 sen) (E : Ext h h') : ThP Z h' u0 sen := ⟨F.1.ext E, F.2.1.ext E, F.2.2.ext E⟩
theorem ThP.wr {u0 sen : RefV} {a : Addr} {sl : Nat} {v : Value} (F : ThP Z h u0 sen) (W : Wr h h' a sl v) : ThP Z h' u0 sen := ⟨F.1.wr W, F.2.1.wr W, F.2.2.wr W⟩
theorem StrOf.keepO {y x : Addr} {cs : List Int32} {C : String} {n : Nat} (F : StrOf Z h y cs) (K : Keep h h' [x]) (E : Exa Z h x C) (wi : (Jvm.Cond.instantiable C n).before a0 Z = true) (hc : "java/lang/String" ≠ C) : StrOf Z h' y cs := by
  obtain ⟨t, kb, cd, N2, vs, q1, q2, q3, q4, q5⟩ := F
  have n1 : y ∉ [x] := ninS (q1.ne E hc) nin0
  exact ⟨t, kb, cd, N2, vs, q1.keep K, q2.keep K n1, q3.keep K n1, q4.keep K (ninS (Ne.symm (E.neArv q4 wi)) nin0), q5⟩
/-- the call of a method that a superclass declares -/
theorem w_virtualUp (X : Stand p l e R s m args below meth c T locs cells slots) (hx : p.tables.exec = Jvm.exec) (hZ : Z.Warmed39 s.vm) {own C owner : String} {index : Nat} {y z : MethodName} {sig : MethodDescriptor} (hown : s.vm.findClass own = some m.cls) (w1 : (Jvm.Cond.methodLink own index y).before a0 Z = true) (ws : (Jvm.Cond.sameMethod y.cls owner y.name y.desc).before a0 Z = true) (w2 : (Jvm.Cond.declares ⟨owner, y.name, y.desc⟩).before a0 Z = true) (ho : owner ≠ "java/lang/invoke/MethodHandle" ∧ owner ≠ "java/lang/invoke/VarHandle") (w3 : (Jvm.Cond.selects C y z).before a0 Z = true) (w4 : (Jvm.Cond.instanceMethod z).before a0 Z = true)
    {W kc ks : Nat} {as' : Array Value} {Q : Option Value → Heap → List Loc → Prop} (hK : BackQ l R p e below s args z W as' h kc ks Q) (eT : T.heap = h) {b : Addr} (E : Exa Z h b C) (hsize : Ls.size = c.maxLocals) {argsL : List Value} (hsig : parseMethodDescriptor y.desc = some sig) (hlen : argsL.length = sig.parameters.length) (hstk : stk = argsL.reverse ++ .ref b :: st) (has : (.ref b :: argsL).toArray = as') (hW : (st.map fun v => v.category).sum ≤ W) (hd : decode c.code pc = .ok (.invokevirtual index, 3)) (hc : cells + kc ≤ R.cells) (hs : slots + ks ≤ R.slots) (hp : pc + 3 = pc')
    (r : ∀ T' v L, Stand p l e R s m args below meth c T' (locs ++ L) (cells + kc) (slots + ks) → Q v T'.heap L → Go p.tables e below P T' (mkF m pc' Ls (v.toList ++ st))) : Go p.tables e below P T (mkF m pc Ls stk) := by
  subst hp hstk
  obtain ⟨cq, kq, qa, qb, qc⟩ := isOf hZ eT E
  obtain ⟨v, _, ⟨T', L', k', n'⟩, -, X', ⟨Lc, hQ, l', y', z'⟩, stp⟩ := X.virtualBackUp hx (x := y) (y := z) hown (mvT hZ w1) (mvT hZ ws) (mvT hZ w2) ho (mvT hZ w3) (mvT hZ w4) hK qa qc (g := mkF m pc Ls (argsL.reverse ++ .ref b :: st)) rfl hsize (Steps.refl _) (argsL := argsL) (rest := st) (lenOf hsig hlen) rfl (by show 2 * 0 + _ ≤ _; omega) hd (fun _ _ => ⟨has, eT, hc, hs⟩)
  dsimp only at X' hQ l' y' z' stp
  subst l' y' z'
  exact Go.jump stp (r T' v Lc X' hQ)
end TH
/-! wide bodies beneath which a stack trace is filled in -/
section KW
variable {p : Program} {l : Launch} {e : Env} {R : Room} {s : State} {vm0 : Vm} {m : MethodId} {args : Array Value} {below : List Frame} {Z : State} {a0 : Array Value} {h h0 : Heap} {EL : List (String × Nat)} {Q : Option Value → Heap → List Loc → Prop} {K N : Nat}
abbrev CtWK (l : Launch) (y : MethodName) (bytes : ByteArray) (maxL : Nat) (ret : Option FieldType) (rm : Room) (Z : State) (EL : List (String × Nat)) (as' : Array Value) (h0 : Heap) (Q : Option Value → Heap → List Loc → Prop) : Prop :=
  MetFree l y (head1 [Jvm.Cond.code y bytes maxL ret] rm) (fun a U => a = as' ∧ Z.Warmed39 U.vm ∧ U.heap = h0 ∧ CHv Z EL U.vm h0) (fun _ _ bl s _ => s.vm.MethodsKnown ∧ s.vm.FramesKnown bl) (fun _ U o U' => ∃ v L, o = .returned v ∧ Q v U'.heap L ∧ CHr Z EL U.vm U.heap U'.vm U'.heap ∧ ReturnedEndW U o U' L rm.cells rm.slots)
theorem ct_ofWK {y : MethodName} {bytes : ByteArray} {maxL : Nat} {ret : Option FieldType} {rm : Room} {as' : Array Value} {ws : List Jvm.Cond} (hpn : plainFor y = true) (hEL : EW Z a0 EL)
    (body : ∀ (p : Program) (e : Env) (s : State) (m : MethodId) (below : List Frame) (meth : Method) (c : Code) (s₁ : State), Stand p l e rm (s.setVm s.vm) m as' below meth c s₁ [] 0 0 → p.tables.exec = Jvm.exec → c.code = bytes → c.maxLocals = maxL → meth.sig.returnType = ret → meth.name = y.name → meth.locks = false → Wd Z a0 EL s y.cls m.cls s.vm h0 → s.heap = h0 → s₁.heap = h0 → s.vm.MethodsKnown → s.vm.FramesKnown below → Go p.tables e below (EndW Z EL s below Q K N) s₁ (entryFrame m as' maxL)) :
    MetFree l y (head1 (Jvm.Cond.code y bytes maxL ret :: ws) rm) (fun a U => a = as' ∧ Z.Warmed39 U.vm ∧ U.heap = h0 ∧ CHv Z EL U.vm h0) (fun _ _ bl s _ => s.vm.MethodsKnown ∧ s.vm.FramesKnown bl) (fun _ U o U' => ∃ v L, o = .returned v ∧ Q v U'.heap L ∧ CHr Z EL U.vm U.heap U'.vm U'.heap ∧ ReturnedEndW U o U' L K N) := by
  refine MetFree.of_bodySF hpn hisR ?_
  intro p e s m args below meth c s₁ Bd hml0 hP hK
  obtain ⟨rfl, hZ, hh, hCH⟩ := hP
  have e0 : s₁.heap = h0 := by rw [← hh, Bd.state]; rfl
  have W : Wd Z a0 EL s y.cls m.cls s.vm h0 := ⟨⟨0, (State.WarmedH.refl s).since 0, Nat.zero_le _⟩, hZ, findClass_of_methodNamed Bd.named, by rw [hh]; exact CHr.refl hCH, hEL⟩
  obtain ⟨t, g1, g2, v, L, g3, g4, g5, g6⟩ := body p e s m below meth c s₁ (Stand.of_body Bd) Bd.exec Bd.bytes hml0 Bd.returns (name_of_methodNamed Bd.named Bd.method).1 Bd.notSynchronized W hh e0 hK.1 hK.2
  exact ⟨t, _, g1, g2, g3, v, L, rfl, g4, g5, g6⟩
theorem Wd.tk {own : String} (D : Wd Z a0 EL s own m.cls vm0 h) (q : s.vm.MethodsKnown) : (s.setVm vm0).vm.MethodsKnown := by
  obtain ⟨⟨k0, q1, -⟩, -⟩ := D
  exact Vm.MethodsKnown.alikeC q1.1.alike q
theorem Wd.fk {own : String} (D : Wd Z a0 EL s own m.cls vm0 h) (q : s.vm.FramesKnown below) : (s.setVm vm0).vm.FramesKnown below := by
  obtain ⟨⟨k0, q1, -⟩, -⟩ := D
  exact Vm.FramesKnown.alikeC q1.1.alike q
theorem backCWK {own : String} {y : MethodName} {bytes : ByteArray} {maxL : Nat} {ret : Option FieldType} {rm : Room} {W : Nat} {as' : Array Value} {Q : Option Value → Heap → List Loc → Prop} (hM : CtWK l y bytes maxL ret rm Z EL as' h Q) (D : Wd Z a0 EL s own m.cls vm0 h) (wc : (Jvm.Cond.code y bytes maxL ret).before a0 Z = true) (wz : (Jvm.Cond.initialized y.cls).before a0 Z = true) (hf : rm.frames + 1 ≤ R.frames) (hl : W + (maxL + 11) + rm.locals ≤ R.locals) (hTK : s.vm.MethodsKnown) (hBelow : s.vm.FramesKnown below) : BackQW l R p e below s vm0 args y W as' Z EL h rm.cells rm.slots Q :=
  backOfSKH hM D.2.1 wc wz hf hl D.2.2.2.2 D.2.2.2.1.1 (D.tk hTK) (D.fk hBelow)
end KW
/-- the two words of the start -/
theorem own_mk {vm : Vm} {m : MethodId} (h : Jvm.Pilot.@@N@@.Jvm.D.methodKnown vm m = true) : vm.knowsMethod m := by
  unfold Jvm.Pilot.@@N@@.Jvm.D.methodKnown at h
  cases hk : vm.classes[m.cls]? with
  | none => simp [hk] at h
  | some k => exact ⟨k, hk, fun cf hcf => by simpa [hk, hcf] using h⟩
theorem own_tk {s : State} (h : Jvm.Pilot.@@N@@.Jvm.D.tablesKnown s = true) : s.vm.MethodsKnown := fun m x hm => by
  unfold Vm.method? at hm
  cases hk : s.vm.classes[m.cls]? with
  | none => simp [hk] at hm
  | some k =>
    simp only [hk, Option.bind_some] at hm
    refine ⟨k, hk, fun cf hcf => ?_⟩
    have q := (Array.all_eq_true_iff_forall_mem.mp h) k (Array.mem_of_getElem? hk)
    simp only [hcf, beq_iff_eq] at q
    have lt : m.idx < k.methods.size := (Array.getElem?_eq_some_iff.mp hm).1
    rw [q] at lt
    simp [lt]
theorem own_fk {s : State} {m : MethodId} {args : Array Value} {below : List Frame} (h : Jvm.Pilot.@@N@@.Jvm.D.framesKnown s = true) (hf : s.frames = .invoking m args :: below) : s.vm.FramesKnown below := fun y hy m' hm' => by
  unfold Jvm.Pilot.@@N@@.Jvm.D.framesKnown at h
  rw [hf] at h
  have q := (List.all_eq_true.mp h) y (List.mem_cons_of_mem _ hy)
  cases y with
  | java g => cases hm'; exact own_mk q
  | native n => cases hm'; exact own_mk q
  | _ => cases hm'
theorem own_st {l : Launch} (h : l.flags = flags0) : l.stackTraces = true := by unfold Launch.stackTraces; rw [h]; decide +kernel

theorem own_wLen : ∀ d ∈ StrChars.Road.wordsLen, d ∈ tables_1 := by decide +kernel
theorem own_wEq : ∀ d ∈ StrChars.Road.wordsEq, d ∈ tables_1 := by decide +kernel
theorem own_wStr : ∀ d ∈ Bundle.stringAtoms, d ∈ tables_1 := by decide +kernel
theorem nar_c {c : Int32} (h : ¬ c < 0 ∧ ¬ (65535 : Int32) < c) : nar .char c = c := by
  have q := StrChars.narrow_ch h.1 h.2; simp only [narrow, Value.int.injEq] at q; exact q

/-- the statics that the String code reads -/
def SU (Z : State) (h : Heap) (z : Int32) : Prop := Sta Z h "java/lang/String" "COMPACT_STRINGS" "Z" (.int z) ∧ ¬ z = 0 ∧ Sta Z h "java/lang/StringUTF16" "$assertionsDisabled" "Z" (.int 1) ∧ Sta Z h "java/lang/StringUTF16" "HI_BYTE_SHIFT" "I" (.int 0) ∧ Sta Z h "java/lang/StringUTF16" "LO_BYTE_SHIFT" "I" (.int 8)
theorem SU.ext {Z : State} {h h' : Heap} {z : Int32} (F : SU Z h z) (E : Ext h h') : SU Z h' z := ⟨F.1.ext E, F.2.1, F.2.2.1.ext E, F.2.2.2.1.ext E, F.2.2.2.2.ext E⟩
/-- the static facts, from the sets' words -/
theorem SU.start {Z : State} {args : Array Value} (w0 : (Jvm.Cond.initializedFor "java/lang/String" "COMPACT_STRINGS" "Z").before args Z = true) (w1 : (Jvm.Cond.isInt (.static "java/lang/String" "COMPACT_STRINGS" "Z")).before args Z = true) (w2 : (Jvm.Cond.not (.eq (.static "java/lang/String" "COMPACT_STRINGS" "Z") (.int 0))).before args Z = true)
    (w3 : (Jvm.Cond.initializedFor "java/lang/StringUTF16" "$assertionsDisabled" "Z").before args Z = true) (w4 : (Jvm.Cond.eq (.static "java/lang/StringUTF16" "$assertionsDisabled" "Z") (.int 1)).before args Z = true) (w5 : (Jvm.Cond.initializedFor "java/lang/StringUTF16" "HI_BYTE_SHIFT" "I").before args Z = true) (w6 : (Jvm.Cond.eq (.static "java/lang/StringUTF16" "HI_BYTE_SHIFT" "I") (.int 0)).before args Z = true)
    (w7 : (Jvm.Cond.initializedFor "java/lang/StringUTF16" "LO_BYTE_SHIFT" "I").before args Z = true) (w8 : (Jvm.Cond.eq (.static "java/lang/StringUTF16" "LO_BYTE_SHIFT" "I") (.int 8)).before args Z = true) : ∃ z, SU Z Z.heap z := by
  obtain ⟨z, ez⟩ := is_v (Cond.before_iff.mp w1)
  refine ⟨z, Sta.start ez (Or.inl w0), fun q => ?_, Sta.start (st_int (Cond.before_iff.mp w4)) (Or.inl w3), Sta.start (st_int (Cond.before_iff.mp w6)) (Or.inl w5), Sta.start (st_int (Cond.before_iff.mp w8)) (Or.inl w7)⟩
  have q2 := not_v (Cond.before_iff.mp w2)
  rw [eq_i ez (Term.int_eval 0) (by rw [q])] at q2
  cases q2
theorem hi8_def (c : Int32) : (c >>> ((8 : Int32) &&& 31)).toInt8.toInt32 = StrChars.hi8 c := rfl
theorem lo8_def (c : Int32) : (c >>> ((0 : Int32) &&& 31)).toInt8.toInt32 = StrChars.lo8 c := by rw [StrChars.shr0]; rfl
theorem wd_len {n : Nat} (h : 2 * n < 2 ^ 31) : (Int32.ofNat (2 * n)).toNatClampNeg = 2 * n := n_nat h


theorem ushr31_neg {x : Int32} (h : x < 0) : (x.toUInt32 >>> ((31 : Int32) &&& 31).toUInt32).toInt32 = 1 := by
  have hm : x.toBitVec.msb = true := (Jvm.Free.XT.neg32 x).mp h
  have e : (x.toUInt32 >>> ((31 : Int32) &&& 31).toUInt32).toInt32.toBitVec = x.toBitVec >>> 31 := rfl
  apply Int32.toBitVec_inj.mp
  rw [e]
  apply BitVec.eq_of_toNat_eq
  have h2 : 2 ^ 31 ≤ x.toBitVec.toNat := by
    have := BitVec.msb_eq_true_iff_two_mul_ge.mp hm
    omega
  have h3 : x.toBitVec.toNat < 2 ^ 32 := x.toBitVec.isLt
  have e2 : (1 : Int32).toBitVec.toNat = 1 := rfl
  rw [e2]
  simp [BitVec.toNat_ushiftRight, Nat.shiftRight_eq_div_pow]
  omega
theorem cod_len {cs : List Int32} {cd N2 : Int32} {vs : List Value} (h : StrChars.Road.CodA cs cd N2 vs) {n : Nat} (hl : cs.length = n) (hn : n ≤ 4000) : ((Int32.ofNat n - N2).toUInt32 >>> ((31 : Int32) &&& 31).toUInt32).toInt32 = cd := by
  rcases h with ⟨rfl, rfl, -⟩ | ⟨rfl, rfl, -, c, hc, -⟩
  · rw [hl, Int32.sub_self]; rfl
  · refine ushr31_neg ?_
    have : 0 < cs.length := List.length_pos_of_mem hc
    rw [Int32.lt_iff_toInt_lt, Int32.toInt_sub, n_toInt (by omega), n_toInt (by omega), hl]
    have e0 : (0 : Int32).toInt = 0 := rfl
    rw [e0, Int.bmod_eq_of_le (by omega) (by omega)]
    omega
theorem cod_cd {cs : List Int32} {cd N2 : Int32} {vs : List Value} (h : StrChars.Road.CodA cs cd N2 vs) : nar .byte cd = cd ∧ cd.toInt8.toInt32 = cd := by
  rcases h with ⟨rfl, -⟩ | ⟨rfl, -⟩ <;> exact ⟨rfl, rfl⟩

theorem d_jdk_52m_4_0 : decode jdk_52_method_4_code 0 = .ok (.getstatic 44, 3) := by decide +kernel
theorem d_jdk_52m_4_3 : decode jdk_52_method_4_code 3 = .ok (.ifCond .ne 25, 3) := by decide +kernel
theorem d_jdk_52m_4_28 : decode jdk_52_method_4_code 28 = .ok (.iload_n 1, 1) := by decide +kernel
theorem d_jdk_52m_4_29 : decode jdk_52_method_4_code 29 = .ok (.iconst 1, 1) := by decide +kernel
theorem d_jdk_52m_4_30 : decode jdk_52_method_4_code 30 = .ok (.ishl, 1) := by decide +kernel
theorem d_jdk_52m_4_31 : decode jdk_52_method_4_code 31 = .ok (.istore_n 1, 1) := by decide +kernel
theorem d_jdk_52m_4_32 : decode jdk_52_method_4_code 32 = .ok (.aload_n 0, 1) := by decide +kernel
theorem d_jdk_52m_4_33 : decode jdk_52_method_4_code 33 = .ok (.iload_n 1, 1) := by decide +kernel
theorem d_jdk_52m_4_34 : decode jdk_52_method_4_code 34 = .ok (.iinc 1 1, 3) := by decide +kernel
theorem d_jdk_52m_4_37 : decode jdk_52_method_4_code 37 = .ok (.iload_n 2, 1) := by decide +kernel
theorem d_jdk_52m_4_38 : decode jdk_52_method_4_code 38 = .ok (.getstatic 59, 3) := by decide +kernel
theorem d_jdk_52m_4_41 : decode jdk_52_method_4_code 41 = .ok (.ishr, 1) := by decide +kernel
theorem d_jdk_52m_4_42 : decode jdk_52_method_4_code 42 = .ok (.i2b, 1) := by decide +kernel
theorem d_jdk_52m_4_43 : decode jdk_52_method_4_code 43 = .ok (.bastore, 1) := by decide +kernel
theorem d_jdk_52m_4_44 : decode jdk_52_method_4_code 44 = .ok (.aload_n 0, 1) := by decide +kernel
theorem d_jdk_52m_4_45 : decode jdk_52_method_4_code 45 = .ok (.iload_n 1, 1) := by decide +kernel
theorem d_jdk_52m_4_46 : decode jdk_52_method_4_code 46 = .ok (.iload_n 2, 1) := by decide +kernel
theorem d_jdk_52m_4_47 : decode jdk_52_method_4_code 47 = .ok (.getstatic 63, 3) := by decide +kernel
theorem d_jdk_52m_4_50 : decode jdk_52_method_4_code 50 = .ok (.ishr, 1) := by decide +kernel
theorem d_jdk_52m_4_51 : decode jdk_52_method_4_code 51 = .ok (.i2b, 1) := by decide +kernel
theorem d_jdk_52m_4_52 : decode jdk_52_method_4_code 52 = .ok (.bastore, 1) := by decide +kernel
theorem d_jdk_52m_4_53 : decode jdk_52_method_4_code 53 = .ok (.return_, 1) := by decide +kernel
theorem pn_0 : plainName "java/lang/StringUTF16" = true := by first | (simp [plainName, overriddenIn]; done) | decide +kernel
set_option maxRecDepth 65536 in
set_option maxHeartbeats 40000000 in
theorem rmPut (l : Launch) (Z : State) (a0 : Array Value) (hw : ∀ d ∈ tables_1, d.before a0 Z = true) (b : Addr) (kb : ClassId) (n i : Nat) (ch z : Int32) (vs : List Value) (h0 : Heap) (n0 : Nat) (gb : n0 ≤ b) (Su : SU Z h0 z) (V : Arv Z h0 b kb .byte (Int32.ofNat (2 * n)) vs (.int 0)) (hl : vs.length = 2 * n) (hi : i < n) (hn : n ≤ 4000) :
    Ct l yq15 jdk_52_method_4_code 3 none ({ frames := 0, cells := 0, slots := 0, locals := 0 } : Room) Z #[(.ref b), (.int (Int32.ofNat i)), (.int ch)] h0 (fun v h L => v = none ∧ Fr n0 L ∧ Keep h0 h [b] ∧ Arv Z h b kb .byte (Int32.ofNat (2 * n)) ((vs.set (2 * i) (.int (StrChars.lo8 ch))).set (2 * i + 1) (.int (StrChars.hi8 ch))) (.int 0)) := by
  refine ct_of (Q := fun v h L => v = none ∧ Fr n0 L ∧ Keep h0 h [b] ∧ Arv Z h b kb .byte (Int32.ofNat (2 * n)) ((vs.set (2 * i) (.int (StrChars.lo8 ch))).set (2 * i + 1) (.int (StrChars.hi8 ch))) (.int 0)) (plainFor_of_name pn_0) ?_
  intro p e s m below meth c s₁ X0 hx hby hml hret hnm hlk hown hZ hs0 e0
  have N0 := Fr.nil n0
  rw [show entryFrame m #[(.ref b), (.int (Int32.ofNat i)), (.int ch)] 3 = mkF m 0 #[.val (.ref b), .val (.int (Int32.ofNat i)), .val (.int ch)] [] from by first | (simp [entryFrame, mkF, argsToLocals, Value.category]; done) | rfl]
  refine w_getS X0 hx hZ hown (tw hw 266 rfl) Via.refl e0 Su.2.2.1 (hb hby d_jdk_52m_4_0) (pc' := 3) rfl ?_
  intro T1 X1 e1
  refine w_ifYes X1.here hx (hb hby d_jdk_52m_4_3) (feq (show ¬ ((1 : Int32) = (0 : Int32)) from by decide)).2 (pc' := 28) (by decide) (by decide) ?_
  refine w_iloadN X1.here hx (hb hby d_jdk_52m_4_28) rfl (pc' := 29) rfl ?_
  refine w_iconst X1.here hx (hb hby d_jdk_52m_4_29) (z := 1) rfl (pc' := 30) rfl ?_
  refine w_ishl X1.here hx (hb hby d_jdk_52m_4_30) (pc' := 31) rfl ?_
  rw [n_shl1 (by omega)]
  show Go _ _ _ _ T1 (mkF m 31 _ [(.int (Int32.ofNat (2 * i)))])
  refine w_istoreN X1.here hx (hb hby d_jdk_52m_4_31) (l' := #[.val (.ref b), .val (.int (Int32.ofNat (2 * i))), .val (.int ch)]) rfl (pc' := 32) rfl ?_
  refine w_aloadN X1.here hx (hb hby d_jdk_52m_4_32) rfl rfl (pc' := 33) rfl ?_
  refine w_iloadN X1.here hx (hb hby d_jdk_52m_4_33) rfl (pc' := 34) rfl ?_
  refine w_iinc X1.here hx (hb hby d_jdk_52m_4_34) rfl (z := 1) rfl (l' := #[.val (.ref b), .val (.int ((Int32.ofNat (2 * i)) + (1 : Int32))), .val (.int ch)]) rfl (pc' := 37) rfl ?_
  refine w_iloadN X1.here hx (hb hby d_jdk_52m_4_37) rfl (pc' := 38) rfl ?_
  refine w_getS X1 hx hZ hown (tw hw 267 rfl) Via.refl e1 Su.2.2.2.1 (hb hby d_jdk_52m_4_38) (pc' := 41) rfl ?_
  intro T2 X2 e2
  refine w_ishr X2.here hx (hb hby d_jdk_52m_4_41) (pc' := 42) rfl ?_
  refine w_i2b X2.here hx (hb hby d_jdk_52m_4_42) (pc' := 43) rfl ?_
  refine w_bastore X2 hx hZ e2 V (in_rng (n := 2 * n) (by omega) (by omega)) (2 * i) (n_nat (by omega)) (by omega) (hb hby d_jdk_52m_4_43) (pc' := 44) rfl ?_
  intro Ta ha Xa ea Wa Va
  have Na := Fr.snoc Xa N0 gb
  rw [show ((ch >>> ((0 : Int32) &&& 31)).toInt8.toInt32.toInt8.toInt32) = StrChars.lo8 ch from by rw [StrChars.shr0]; simp [StrChars.lo8]] at Va
  refine w_aloadN Xa.here hx (hb hby d_jdk_52m_4_44) rfl rfl (pc' := 45) rfl ?_
  refine w_iloadN Xa.here hx (hb hby d_jdk_52m_4_45) rfl (pc' := 46) rfl ?_
  refine w_iloadN Xa.here hx (hb hby d_jdk_52m_4_46) rfl (pc' := 47) rfl ?_
  refine w_getS Xa hx hZ hown (tw hw 268 rfl) Via.refl ea (Su.2.2.2.2.wr Wa) (hb hby d_jdk_52m_4_47) (pc' := 50) rfl ?_
  intro T4 X4 e4
  refine w_ishr X4.here hx (hb hby d_jdk_52m_4_50) (pc' := 51) rfl ?_
  refine w_i2b X4.here hx (hb hby d_jdk_52m_4_51) (pc' := 52) rfl ?_
  refine w_bastore X4 hx hZ e4 Va (by rw [n_succ]; exact in_rng (n := 2 * n) (by omega) (by omega)) (2 * i + 1) (by rw [n_succ]; exact n_nat (by omega)) (by simp; omega) (hb hby d_jdk_52m_4_52) (pc' := 53) rfl ?_
  intro Tb hb' Xb eb Wb Vb
  have Nb := Fr.snoc Xb Na gb
  rw [show ((ch >>> ((8 : Int32) &&& 31)).toInt8.toInt32.toInt8.toInt32) = StrChars.hi8 ch from by simp [StrChars.hi8, StrChars.lo8]] at Vb
  exact endV Xb hx hlk hret (hb hby d_jdk_52m_4_53) (by decide) (by decide) (by rw [eb]; exact ⟨rfl, Nb, ((Keep.refl h0 [b]).wr Wa (Or.inl (List.mem_cons_self ..))).wr Wb (Or.inl (List.mem_cons_self ..)), Vb⟩)
theorem d_jdk_52m_5_0 : decode jdk_52_method_5_code 0 = .ok (.getstatic 44, 3) := by decide +kernel
theorem d_jdk_52m_5_3 : decode jdk_52_method_5_code 3 = .ok (.ifCond .ne 25, 3) := by decide +kernel
theorem d_jdk_52m_5_28 : decode jdk_52_method_5_code 28 = .ok (.iload_n 1, 1) := by decide +kernel
theorem d_jdk_52m_5_29 : decode jdk_52_method_5_code 29 = .ok (.iconst 1, 1) := by decide +kernel
theorem d_jdk_52m_5_30 : decode jdk_52_method_5_code 30 = .ok (.ishl, 1) := by decide +kernel
theorem d_jdk_52m_5_31 : decode jdk_52_method_5_code 31 = .ok (.istore_n 1, 1) := by decide +kernel
theorem d_jdk_52m_5_32 : decode jdk_52_method_5_code 32 = .ok (.aload_n 0, 1) := by decide +kernel
theorem d_jdk_52m_5_33 : decode jdk_52_method_5_code 33 = .ok (.iload_n 1, 1) := by decide +kernel
theorem d_jdk_52m_5_34 : decode jdk_52_method_5_code 34 = .ok (.iinc 1 1, 3) := by decide +kernel
theorem d_jdk_52m_5_37 : decode jdk_52_method_5_code 37 = .ok (.baload, 1) := by decide +kernel
theorem d_jdk_52m_5_38 : decode jdk_52_method_5_code 38 = .ok (.sipush 255, 3) := by decide +kernel
theorem d_jdk_52m_5_41 : decode jdk_52_method_5_code 41 = .ok (.iand, 1) := by decide +kernel
theorem d_jdk_52m_5_42 : decode jdk_52_method_5_code 42 = .ok (.getstatic 59, 3) := by decide +kernel
theorem d_jdk_52m_5_45 : decode jdk_52_method_5_code 45 = .ok (.ishl, 1) := by decide +kernel
theorem d_jdk_52m_5_46 : decode jdk_52_method_5_code 46 = .ok (.aload_n 0, 1) := by decide +kernel
theorem d_jdk_52m_5_47 : decode jdk_52_method_5_code 47 = .ok (.iload_n 1, 1) := by decide +kernel
theorem d_jdk_52m_5_48 : decode jdk_52_method_5_code 48 = .ok (.baload, 1) := by decide +kernel
theorem d_jdk_52m_5_49 : decode jdk_52_method_5_code 49 = .ok (.sipush 255, 3) := by decide +kernel
theorem d_jdk_52m_5_52 : decode jdk_52_method_5_code 52 = .ok (.iand, 1) := by decide +kernel
theorem d_jdk_52m_5_53 : decode jdk_52_method_5_code 53 = .ok (.getstatic 63, 3) := by decide +kernel
theorem d_jdk_52m_5_56 : decode jdk_52_method_5_code 56 = .ok (.ishl, 1) := by decide +kernel
theorem d_jdk_52m_5_57 : decode jdk_52_method_5_code 57 = .ok (.ior, 1) := by decide +kernel
theorem d_jdk_52m_5_58 : decode jdk_52_method_5_code 58 = .ok (.i2c, 1) := by decide +kernel
theorem d_jdk_52m_5_59 : decode jdk_52_method_5_code 59 = .ok (.ireturn, 1) := by decide +kernel
set_option maxRecDepth 65536 in
set_option maxHeartbeats 40000000 in
theorem rmGet (l : Launch) (Z : State) (a0 : Array Value) (hw : ∀ d ∈ tables_1, d.before a0 Z = true) (b : Addr) (kb : ClassId) (n i : Nat) (u1 u2 z : Int32) (vs : List Value) (h0 : Heap) (n0 : Nat) (Su : SU Z h0 z) (V : Arv Z h0 b kb .byte (Int32.ofNat (2 * n)) vs (.int 0)) (hi : i < n) (hn : n ≤ 4000) (hu1 : vs.getD (2 * i) (.int 0) = .int u1) (hu2 : vs.getD (2 * i + 1) (.int 0) = .int u2) :
    Ct l (⟨"java/lang/StringUTF16", "getChar", "([BI)C"⟩ : MethodName) jdk_52_method_5_code 2 (some .char) ({ frames := 0, cells := 0, slots := 0, locals := 0 } : Room) Z #[(.ref b), (.int (Int32.ofNat i))] h0 (fun v h L => v = some (.int (StrChars.pairCh u1 u2)) ∧ Fr n0 L ∧ h = h0) := by
  refine ct_of (Q := fun v h L => v = some (.int (StrChars.pairCh u1 u2)) ∧ Fr n0 L ∧ h = h0) (plainFor_of_name pn_0) ?_
  intro p e s m below meth c s₁ X0 hx hby hml hret hnm hlk hown hZ hs0 e0
  have N0 := Fr.nil n0
  rw [show entryFrame m #[(.ref b), (.int (Int32.ofNat i))] 2 = mkF m 0 #[.val (.ref b), .val (.int (Int32.ofNat i))] [] from by first | (simp [entryFrame, mkF, argsToLocals, Value.category]; done) | rfl]
  refine w_getS X0 hx hZ hown (tw hw 266 rfl) Via.refl e0 Su.2.2.1 (hb hby d_jdk_52m_5_0) (pc' := 3) rfl ?_
  intro T5 X5 e5
  refine w_ifYes X5.here hx (hb hby d_jdk_52m_5_3) (feq (show ¬ ((1 : Int32) = (0 : Int32)) from by decide)).2 (pc' := 28) (by decide) (by decide) ?_
  refine w_iloadN X5.here hx (hb hby d_jdk_52m_5_28) rfl (pc' := 29) rfl ?_
  refine w_iconst X5.here hx (hb hby d_jdk_52m_5_29) (z := 1) rfl (pc' := 30) rfl ?_
  refine w_ishl X5.here hx (hb hby d_jdk_52m_5_30) (pc' := 31) rfl ?_
  rw [n_shl1 (by omega)]
  show Go _ _ _ _ T5 (mkF m 31 _ [(.int (Int32.ofNat (2 * i)))])
  refine w_istoreN X5.here hx (hb hby d_jdk_52m_5_31) (l' := #[.val (.ref b), .val (.int (Int32.ofNat (2 * i)))]) rfl (pc' := 32) rfl ?_
  refine w_aloadN X5.here hx (hb hby d_jdk_52m_5_32) rfl rfl (pc' := 33) rfl ?_
  refine w_iloadN X5.here hx (hb hby d_jdk_52m_5_33) rfl (pc' := 34) rfl ?_
  refine w_iinc X5.here hx (hb hby d_jdk_52m_5_34) rfl (z := 1) rfl (l' := #[.val (.ref b), .val (.int ((Int32.ofNat (2 * i)) + (1 : Int32)))]) rfl (pc' := 37) rfl ?_
  refine w_baload X5 hx hZ e5 V (in_rng (n := 2 * n) (by omega) (by omega)) (v := (.int u1)) (by rw [n_nat (by omega)]; exact hu1) (hb hby d_jdk_52m_5_37) (pc' := 38) rfl ?_
  refine w_sipush X5.here hx (hb hby d_jdk_52m_5_38) (z := 255) rfl (pc' := 41) rfl ?_
  refine w_iand X5.here hx (hb hby d_jdk_52m_5_41) (pc' := 42) rfl ?_
  refine w_getS X5 hx hZ hown (tw hw 267 rfl) Via.refl e5 Su.2.2.2.1 (hb hby d_jdk_52m_5_42) (pc' := 45) rfl ?_
  intro T6 X6 e6
  refine w_ishl X6.here hx (hb hby d_jdk_52m_5_45) (pc' := 46) rfl ?_
  refine w_aloadN X6.here hx (hb hby d_jdk_52m_5_46) rfl rfl (pc' := 47) rfl ?_
  refine w_iloadN X6.here hx (hb hby d_jdk_52m_5_47) rfl (pc' := 48) rfl ?_
  refine w_baload X6 hx hZ e6 V (by rw [n_succ]; exact in_rng (n := 2 * n) (by omega) (by omega)) (v := (.int u2)) (by rw [n_succ, n_nat (by omega)]; exact hu2) (hb hby d_jdk_52m_5_48) (pc' := 49) rfl ?_
  refine w_sipush X6.here hx (hb hby d_jdk_52m_5_49) (z := 255) rfl (pc' := 52) rfl ?_
  refine w_iand X6.here hx (hb hby d_jdk_52m_5_52) (pc' := 53) rfl ?_
  refine w_getS X6 hx hZ hown (tw hw 268 rfl) Via.refl e6 Su.2.2.2.2 (hb hby d_jdk_52m_5_53) (pc' := 56) rfl ?_
  intro T7 X7 e7
  refine w_ishl X7.here hx (hb hby d_jdk_52m_5_56) (pc' := 57) rfl ?_
  refine w_ior X7.here hx (hb hby d_jdk_52m_5_57) (pc' := 58) rfl ?_
  refine w_i2c X7.here hx (hb hby d_jdk_52m_5_58) (pc' := 59) rfl ?_
  exact endZ X7 hx hlk hret (by simp) (hb hby d_jdk_52m_5_59) (show nar .char _ = StrChars.pairCh u1 u2 from nar_c2 _) (by decide) (by decide) (by rw [e7]; exact ⟨rfl, N0, rfl⟩)
theorem d_jdk_52m_3_0 : decode jdk_52_method_3_code 0 = .ok (.iload_n 0, 1) := by decide +kernel
theorem d_jdk_52m_3_1 : decode jdk_52_method_3_code 1 = .ok (.ifCond .ge 11, 3) := by decide +kernel
theorem d_jdk_52m_3_12 : decode jdk_52_method_3_code 12 = .ok (.iload_n 0, 1) := by decide +kernel
theorem d_jdk_52m_3_13 : decode jdk_52_method_3_code 13 = .ok (.ldc 20, 2) := by decide +kernel
theorem d_jdk_52m_3_15 : decode jdk_52_method_3_code 15 = .ok (.if_icmp .lt 40, 3) := by decide +kernel
theorem d_jdk_52m_3_55 : decode jdk_52_method_3_code 55 = .ok (.iload_n 0, 1) := by decide +kernel
theorem d_jdk_52m_3_56 : decode jdk_52_method_3_code 56 = .ok (.iconst 1, 1) := by decide +kernel
theorem d_jdk_52m_3_57 : decode jdk_52_method_3_code 57 = .ok (.ishl, 1) := by decide +kernel
theorem d_jdk_52m_3_58 : decode jdk_52_method_3_code 58 = .ok (.ireturn, 1) := by decide +kernel
set_option maxRecDepth 65536 in
set_option maxHeartbeats 40000000 in
theorem rmNBL (l : Launch) (Z : State) (a0 : Array Value) (hw : ∀ d ∈ tables_1, d.before a0 Z = true) (n : Nat) (h0 : Heap) (n0 : Nat) (hn : n ≤ 4000) :
    Ct l (⟨"java/lang/StringUTF16", "newBytesLength", "(I)I"⟩ : MethodName) jdk_52_method_3_code 1 (some .int) ({ frames := 0, cells := 0, slots := 0, locals := 0 } : Room) Z #[(.int (Int32.ofNat n))] h0 (fun v h L => v = some (.int (Int32.ofNat (2 * n))) ∧ Fr n0 L ∧ h = h0) := by
  refine ct_of (Q := fun v h L => v = some (.int (Int32.ofNat (2 * n))) ∧ Fr n0 L ∧ h = h0) (plainFor_of_name pn_0) ?_
  intro p e s m below meth c s₁ X0 hx hby hml hret hnm hlk hown hZ hs0 e0
  have N0 := Fr.nil n0
  rw [show entryFrame m #[(.int (Int32.ofNat n))] 1 = mkF m 0 #[.val (.int (Int32.ofNat n))] [] from by first | (simp [entryFrame, mkF, argsToLocals, Value.category]; done) | rfl]
  refine w_iloadN X0.here hx (hb hby d_jdk_52m_3_0) rfl (pc' := 1) rfl ?_
  refine w_ifYes X0.here hx (hb hby d_jdk_52m_3_1) (flt (show ¬ ((Int32.ofNat n) < (0 : Int32)) from n_nn (by omega))).2.1 (pc' := 12) (by decide) (by decide) ?_
  refine w_iloadN X0.here hx (hb hby d_jdk_52m_3_12) rfl (pc' := 13) rfl ?_
  refine w_ldcI X0 hx hZ hown (tw hw 262 rfl) (hb hby d_jdk_52m_3_13) (pc' := 15) rfl ?_
  refine w_icmpYes X0.here hx (hb hby d_jdk_52m_3_15) (tlt (show (Int32.ofNat n) < (1073741823 : Int32) from by rw [Int32.lt_iff_toInt_lt, n_toInt (by omega)]; exact Int.lt_of_le_of_lt (Int.ofNat_le.mpr hn) (by decide))).1 (pc' := 55) (by decide) (by decide) ?_
  refine w_iloadN X0.here hx (hb hby d_jdk_52m_3_55) rfl (pc' := 56) rfl ?_
  refine w_iconst X0.here hx (hb hby d_jdk_52m_3_56) (z := 1) rfl (pc' := 57) rfl ?_
  refine w_ishl X0.here hx (hb hby d_jdk_52m_3_57) (pc' := 58) rfl ?_
  rw [n_shl1 (by omega)]
  show Go _ _ _ _ s₁ (mkF m 58 _ [(.int (Int32.ofNat (2 * n)))])
  exact endI X0 hx hlk hret (hb hby d_jdk_52m_3_58) (by decide) (by decide) (by rw [e0]; exact ⟨rfl, N0, rfl⟩)
theorem d_jdk_52m_2_0 : decode jdk_52_method_2_code 0 = .ok (.iload_n 0, 1) := by decide +kernel
theorem pd_0 : parseMethodDescriptor "(I)I" = some ⟨[.int], some .int⟩ := by decide +kernel
theorem d_jdk_52m_2_1 : decode jdk_52_method_2_code 1 = .ok (.invokestatic 11, 3) := by decide +kernel
theorem d_jdk_52m_2_4 : decode jdk_52_method_2_code 4 = .ok (.newarray .byte, 2) := by decide +kernel
theorem d_jdk_52m_2_6 : decode jdk_52_method_2_code 6 = .ok (.areturn, 1) := by decide +kernel
set_option maxRecDepth 65536 in
set_option maxHeartbeats 40000000 in
theorem rmNBF (l : Launch) (Z : State) (a0 : Array Value) (hw : ∀ d ∈ tables_1, d.before a0 Z = true) (n : Nat) (h0 : Heap) (n0 : Nat) (hn : n ≤ 34) :
    Ct l yq23 jdk_52_method_2_code 1 (some (.array .byte)) ({ frames := 1, cells := 1, slots := 68, locals := 12 } : Room) Z #[(.int (Int32.ofNat n))] h0 (fun v h L => ∃ b kb, v = some (.ref b) ∧ Fr n0 L ∧ Ext h0 h ∧ h0.size ≤ b ∧ Arv Z h b kb .byte (Int32.ofNat (2 * n)) (List.replicate (2 * n) (.int 0)) (.int 0)) := by
  refine ct_of (Q := fun v h L => ∃ b kb, v = some (.ref b) ∧ Fr n0 L ∧ Ext h0 h ∧ h0.size ≤ b ∧ Arv Z h b kb .byte (Int32.ofNat (2 * n)) (List.replicate (2 * n) (.int 0)) (.int 0)) (plainFor_of_name pn_0) ?_
  intro p e s m below meth c s₁ X0 hx hby hml hret hnm hlk hown hZ hs0 e0
  have N0 := Fr.nil n0
  rw [show entryFrame m #[(.int (Int32.ofNat n))] 1 = mkF m 0 #[.val (.int (Int32.ofNat n))] [] from by first | (simp [entryFrame, mkF, argsToLocals, Value.category]; done) | rfl]
  refine w_iloadN X0.here hx (hb hby d_jdk_52m_2_0) rfl (pc' := 1) rfl ?_
  refine w_static X0 hx hZ (y := (⟨"java/lang/StringUTF16", "newBytesLength", "(I)I"⟩ : MethodName)) hown (tw hw 259 rfl) (tw hw 260 rfl) (tw hw 28 rfl) (tw hw 261 rfl) (by decide) (backC (W := 0) (rmNBL l Z a0 hw n h0 n0 (by omega)) hZ (tw hw 261 rfl) (tw hw 28 rfl) (by decide) (by decide)) e0 (by rw [hml]; rfl) (argsL := [(.int (Int32.ofNat n))]) (st := []) pd_0 rfl rfl rfl (Nat.le_of_ble_eq_true rfl) (hb hby d_jdk_52m_2_1) (by decide) (by decide) (pc' := 4) rfl ?_
  intro T8 v8 L8 X8 Q8
  obtain ⟨rfl, N1, hh⟩ := Q8
  show Go _ _ _ _ T8 (mkF m 4 _ [(.int (Int32.ofNat (2 * n)))])
  refine w_newarray X8 hx hZ (ty := .byte) (dv := (.int 0)) rfl rfl (tw hw 4 rfl) hh (n := (Int32.ofNat (2 * n))) (hb hby d_jdk_52m_2_4) (n_nn (by omega)) (cap := 68) (by rw [n_nat (by omega)]; omega) (by decide) (by decide) (by decide) (pc' := 6) rfl ?_
  intro T9 h9 b kb gb X9 e9 E9 V
  have ge_b_h0 : h0.size ≤ b := Nat.le_trans (Ext.rfl' : Ext h0 h0).1 (Nat.le_of_eq gb)
  have C10 : Ext h0 h9 := Ext.trs Ext.rfl' E9
  rw [n_nat (by omega)] at V
  have N2 := Fr.app N0 N1
  exact endR X9 hx hlk rfl hret rfl (hb hby d_jdk_52m_2_6) (by decide) (by decide) (by rw [e9]; exact ⟨b, _, rfl, N2, C10, ge_b_h0, V⟩)
theorem d_jdk_52m_14_8 : decode jdk_52_method_14_code 8 = .ok (.iload 4, 2) := by decide +kernel
theorem d_jdk_52m_14_10 : decode jdk_52_method_14_code 10 = .ok (.iload_n 2, 1) := by decide +kernel
theorem d_jdk_52m_14_11 : decode jdk_52_method_14_code 11 = .ok (.if_icmp .ge 21, 3) := by decide +kernel
theorem d_jdk_52m_14_14 : decode jdk_52_method_14_code 14 = .ok (.aload_n 3, 1) := by decide +kernel
theorem d_jdk_52m_14_15 : decode jdk_52_method_14_code 15 = .ok (.iload 4, 2) := by decide +kernel
theorem d_jdk_52m_14_17 : decode jdk_52_method_14_code 17 = .ok (.aload_n 0, 1) := by decide +kernel
theorem d_jdk_52m_14_18 : decode jdk_52_method_14_code 18 = .ok (.iload_n 1, 1) := by decide +kernel
theorem d_jdk_52m_14_19 : decode jdk_52_method_14_code 19 = .ok (.caload, 1) := by decide +kernel
theorem pd_1 : parseMethodDescriptor "([BII)V" = some ⟨[(.array .byte), .int, .int], none⟩ := by decide +kernel
theorem d_jdk_52m_14_20 : decode jdk_52_method_14_code 20 = .ok (.invokestatic 111, 3) := by decide +kernel
theorem d_jdk_52m_14_23 : decode jdk_52_method_14_code 23 = .ok (.iinc 1 1, 3) := by decide +kernel
theorem d_jdk_52m_14_26 : decode jdk_52_method_14_code 26 = .ok (.iinc 4 1, 3) := by decide +kernel
theorem d_jdk_52m_14_29 : decode jdk_52_method_14_code 29 = .ok (.goto (-21), 3) := by decide +kernel
set_option maxRecDepth 65536 in
set_option maxHeartbeats 40000000 in
theorem lpToB {p : Program} {l : Launch} {e : Env} {R : Room} {s : State} {m : MethodId} {args : Array Value} {below : List Frame} {meth : Method} {c : Code} {cells slots : Nat} {P : State → Prop} (Z : State) (a0 : Array Value) (hw : ∀ d ∈ tables_1, d.before a0 Z = true) (hx : p.tables.exec = Jvm.exec) (hby : c.code = jdk_52_method_14_code) (hml : c.maxLocals = 5) (hown : s.vm.findClass "java/lang/StringUTF16" = some m.cls) (hZ : Z.Warmed39 s.vm) (a b : Addr) (ka kb : ClassId) (n n0 : Nat) (z : Int32) (cs : List Int32) (dv : Value) (h0 : Heap) (hfr : 1 ≤ R.frames) (hlo : 0 + (3 + 11) + 0 ≤ R.locals) (hcl : cells ≤ R.cells) (hsl : slots ≤ R.slots) (Su : SU Z h0 z) (VA : Arv Z h0 a ka .char (Int32.ofNat n) (cs.map Value.int) dv) (hl : cs.length = n) (hn : n ≤ 4000) (gb : n0 ≤ b) (gh : h0.size ≤ b) (out : ∀ (T : State) (h : Heap) (locs : List Loc) (X0 : Stand p l e R s m args below meth c T locs cells slots) (e0 : T.heap = h) (N0 : Fr n0 locs) (E : Ext h0 h) (V : Arv Z h b kb .byte (Int32.ofNat (2 * n)) (fillW cs n) (.int 0)), Go p.tables e below P T (mkF m 32 #[.val (.ref a), .val (.int (Int32.ofNat n)), .val (.int (Int32.ofNat n)), .val (.ref b), .val (.int (Int32.ofNat n))] [])) :
    ∀ (k i : Nat), i + k = n → ∀ (T : State) (h : Heap) (locs : List Loc) (X0 : Stand p l e R s m args below meth c T locs cells slots) (e0 : T.heap = h) (N0 : Fr n0 locs) (E : Ext h0 h) (V : Arv Z h b kb .byte (Int32.ofNat (2 * n)) (fillW cs i) (.int 0)), Go p.tables e below P T (mkF m 8 #[.val (.ref a), .val (.int (Int32.ofNat i)), .val (.int (Int32.ofNat n)), .val (.ref b), .val (.int (Int32.ofNat i))] []) := by
  intro k
  induction k with
  | zero =>
    intro i hik T h locs X0 e0 N0 E V
    obtain rfl : n = i := by omega
    refine w_iload X0.here hx (hb hby d_jdk_52m_14_8) rfl (pc' := 10) rfl ?_
    refine w_iloadN X0.here hx (hb hby d_jdk_52m_14_10) rfl (pc' := 11) rfl ?_
    refine w_icmpYes X0.here hx (hb hby d_jdk_52m_14_11) (flt (show ¬ ((Int32.ofNat n) < (Int32.ofNat n)) from n_nlt (Nat.le_refl _) (by omega))).2.1 (pc' := 32) (by decide) (by decide) ?_
    exact out T h locs X0 e0 N0 E V
  | succ k ih =>
    intro i hik T h locs X0 e0 N0 E V
    refine w_iload X0.here hx (hb hby d_jdk_52m_14_8) rfl (pc' := 10) rfl ?_
    refine w_iloadN X0.here hx (hb hby d_jdk_52m_14_10) rfl (pc' := 11) rfl ?_
    refine w_icmpNo X0.here hx (hb hby d_jdk_52m_14_11) (tlt (show (Int32.ofNat i) < (Int32.ofNat n) from n_lt (by omega) (by omega))).2.1 (pc' := 14) rfl ?_
    refine w_aloadN X0.here hx (hb hby d_jdk_52m_14_14) rfl rfl (pc' := 15) rfl ?_
    refine w_iload X0.here hx (hb hby d_jdk_52m_14_15) rfl (pc' := 17) rfl ?_
    refine w_aloadN X0.here hx (hb hby d_jdk_52m_14_17) rfl rfl (pc' := 18) rfl ?_
    refine w_iloadN X0.here hx (hb hby d_jdk_52m_14_18) rfl (pc' := 19) rfl ?_
    refine w_caload X0 hx hZ e0 (VA.ext E) (in_rng (by omega) (by omega)) (v := (.int (cs.getD i 0))) (at_chr (by omega) (by omega)) (hb hby d_jdk_52m_14_19) (pc' := 20) rfl ?_
    refine w_static X0 hx hZ (y := yq15) hown (tw hw 263 rfl) (tw hw 264 rfl) (tw hw 28 rfl) (tw hw 265 rfl) (by decide) (backC (W := 0) (rmPut l Z a0 hw b kb n i (cs.getD i 0) z (fillW cs i) h n0 gb (Su.ext E) V (by rw [fillW_len (by omega)]; omega) (by omega) (by omega)) hZ (tw hw 265 rfl) (tw hw 28 rfl) hfr hlo) e0 (by rw [hml]; rfl) (argsL := [(.ref b), (.int (Int32.ofNat i)), (.int (cs.getD i 0))]) (st := []) pd_1 rfl rfl rfl (Nat.le_of_ble_eq_true rfl) (hb hby d_jdk_52m_14_20) (by omega) (by omega) (pc' := 23) rfl ?_
    intro T11 v11 L11 X11 Q11
    obtain ⟨rfl, N1, K1, V1⟩ := Q11
    show Go _ _ _ _ T11 (mkF m 23 _ [])
    have N2 := Fr.app N0 N1
    have E1 : Ext h0 T11.heap := Ext.kp E K1 (allS gh all0)
    rw [fillW_set (by omega)] at V1
    refine w_iinc X11.here hx (hb hby d_jdk_52m_14_23) rfl (z := 1) rfl (l' := #[.val (.ref a), .val (.int ((Int32.ofNat i) + (1 : Int32))), .val (.int (Int32.ofNat n)), .val (.ref b), .val (.int (Int32.ofNat i))]) rfl (pc' := 26) rfl ?_
    refine w_iinc X11.here hx (hb hby d_jdk_52m_14_26) rfl (z := 1) rfl (l' := #[.val (.ref a), .val (.int ((Int32.ofNat i) + (1 : Int32))), .val (.int (Int32.ofNat n)), .val (.ref b), .val (.int ((Int32.ofNat i) + (1 : Int32)))]) rfl (pc' := 29) rfl ?_
    refine w_goto X11.here hx (hb hby d_jdk_52m_14_29) (pc' := 8) (by decide) (by decide) ?_
    rw [n_succ]
    exact ih (i + 1) (by omega) _ _ _ X11 rfl N2 E1 V1
theorem d_jdk_52m_14_0 : decode jdk_52_method_14_code 0 = .ok (.iload_n 2, 1) := by decide +kernel
theorem pd_2 : parseMethodDescriptor "(I)[B" = some ⟨[.int], some (.array .byte)⟩ := by decide +kernel
theorem d_jdk_52m_14_1 : decode jdk_52_method_14_code 1 = .ok (.invokestatic 107, 3) := by decide +kernel
theorem d_jdk_52m_14_4 : decode jdk_52_method_14_code 4 = .ok (.astore_n 3, 1) := by decide +kernel
theorem d_jdk_52m_14_5 : decode jdk_52_method_14_code 5 = .ok (.iconst 0, 1) := by decide +kernel
theorem d_jdk_52m_14_6 : decode jdk_52_method_14_code 6 = .ok (.istore 4, 2) := by decide +kernel
theorem d_jdk_52m_14_32 : decode jdk_52_method_14_code 32 = .ok (.aload_n 3, 1) := by decide +kernel
theorem d_jdk_52m_14_33 : decode jdk_52_method_14_code 33 = .ok (.areturn, 1) := by decide +kernel
set_option maxRecDepth 65536 in
set_option maxHeartbeats 40000000 in
theorem rmToB (l : Launch) (Z : State) (a0 : Array Value) (hw : ∀ d ∈ tables_1, d.before a0 Z = true) (a : Addr) (ka : ClassId) (n : Nat) (z : Int32) (cs : List Int32) (dv : Value) (h0 : Heap) (n0 : Nat) (Z0 : n0 ≤ h0.size) (Su : SU Z h0 z) (VA : Arv Z h0 a ka .char (Int32.ofNat n) (cs.map Value.int) dv) (hl : cs.length = n) (hn : n ≤ 34) :
    Ct l (⟨"java/lang/StringUTF16", "toBytes", "([CII)[B"⟩ : MethodName) jdk_52_method_14_code 5 (some (.array .byte)) ({ frames := 2, cells := 1, slots := 68, locals := 24 } : Room) Z #[(.ref a), (.int (0 : Int32)), (.int (Int32.ofNat n))] h0 (fun v h L => ∃ b kb, v = some (.ref b) ∧ Fr n0 L ∧ Ext h0 h ∧ h0.size ≤ b ∧ Arv Z h b kb .byte (Int32.ofNat (2 * n)) (StrChars.Road.wideBytes cs) (.int 0)) := by
  refine ct_of (Q := fun v h L => ∃ b kb, v = some (.ref b) ∧ Fr n0 L ∧ Ext h0 h ∧ h0.size ≤ b ∧ Arv Z h b kb .byte (Int32.ofNat (2 * n)) (StrChars.Road.wideBytes cs) (.int 0)) (plainFor_of_name pn_0) ?_
  intro p e s m below meth c s₁ X0 hx hby hml hret hnm hlk hown hZ hs0 e0
  have N0 := Fr.nil n0
  rw [show entryFrame m #[(.ref a), (.int (0 : Int32)), (.int (Int32.ofNat n))] 5 = mkF m 0 #[.val (.ref a), .val (.int (0 : Int32)), .val (.int (Int32.ofNat n)), .unset, .unset] [] from by first | (simp [entryFrame, mkF, argsToLocals, Value.category]; done) | rfl]
  refine w_iloadN X0.here hx (hb hby d_jdk_52m_14_0) rfl (pc' := 1) rfl ?_
  refine w_static X0 hx hZ (y := yq23) hown (tw hw 256 rfl) (tw hw 257 rfl) (tw hw 28 rfl) (tw hw 258 rfl) (by decide) (backC (W := 0) (rmNBF l Z a0 hw n h0 n0 hn) hZ (tw hw 258 rfl) (tw hw 28 rfl) (by decide) (by decide)) e0 (by rw [hml]; rfl) (argsL := [(.int (Int32.ofNat n))]) (st := []) pd_2 rfl rfl rfl (Nat.le_of_ble_eq_true rfl) (hb hby d_jdk_52m_14_1) (by decide) (by decide) (pc' := 4) rfl ?_
  intro T12 v12 L12 X12 Q12
  obtain ⟨b, kb, rfl, N1, E1, gh, V⟩ := Q12
  show Go _ _ _ _ T12 (mkF m 4 _ [(.ref b)])
  have N2 := Fr.app N0 N1
  have gb : n0 ≤ b := Nat.le_trans Z0 gh
  refine w_astoreN X12.here hx (hb hby d_jdk_52m_14_4) rfl (l' := #[.val (.ref a), .val (.int (0 : Int32)), .val (.int (Int32.ofNat n)), .val (.ref b), .unset]) rfl (pc' := 5) rfl ?_
  refine w_iconst X12.here hx (hb hby d_jdk_52m_14_5) (z := 0) rfl (pc' := 6) rfl ?_
  refine w_istore X12.here hx (hb hby d_jdk_52m_14_6) (l' := #[.val (.ref a), .val (.int (0 : Int32)), .val (.int (Int32.ofNat n)), .val (.ref b), .val (.int (0 : Int32))]) rfl (pc' := 8) rfl ?_
  refine lpToB Z a0 hw hx hby hml hown hZ a b ka kb n n0 z cs dv h0 (by decide) (by decide) (by decide) (by decide) Su VA hl (by omega) gb gh ?_ n 0 (by omega) _ _ _ X12 rfl N2 E1 (by rw [fillW_zero, hl]; exact V)
  intro T h locs X e1 N3 E3 V3
  refine w_aloadN X.here hx (hb hby d_jdk_52m_14_32) rfl rfl (pc' := 33) rfl ?_
  rw [← hl, fillW_all, hl] at V3
  exact endR X hx hlk rfl hret rfl (hb hby d_jdk_52m_14_33) (by decide) (by decide) (by rw [e1]; exact ⟨b, kb, rfl, N3, E3, gh, V3⟩)
theorem d_jdk_52m_21_3 : decode jdk_52_method_21_code 3 = .ok (.iload 5, 2) := by decide +kernel
theorem d_jdk_52m_21_5 : decode jdk_52_method_21_code 5 = .ok (.iload 4, 2) := by decide +kernel
theorem d_jdk_52m_21_7 : decode jdk_52_method_21_code 7 = .ok (.if_icmp .ge 37, 3) := by decide +kernel
theorem d_jdk_52m_21_10 : decode jdk_52_method_21_code 10 = .ok (.aload_n 0, 1) := by decide +kernel
theorem d_jdk_52m_21_11 : decode jdk_52_method_21_code 11 = .ok (.iload_n 1, 1) := by decide +kernel
theorem d_jdk_52m_21_12 : decode jdk_52_method_21_code 12 = .ok (.caload, 1) := by decide +kernel
theorem d_jdk_52m_21_13 : decode jdk_52_method_21_code 13 = .ok (.istore 6, 2) := by decide +kernel
theorem d_jdk_52m_21_15 : decode jdk_52_method_21_code 15 = .ok (.iload 6, 2) := by decide +kernel
theorem d_jdk_52m_21_17 : decode jdk_52_method_21_code 17 = .ok (.sipush 255, 3) := by decide +kernel
theorem d_jdk_52m_21_20 : decode jdk_52_method_21_code 20 = .ok (.if_icmp .le 6, 3) := by decide +kernel
theorem d_jdk_52m_21_26 : decode jdk_52_method_21_code 26 = .ok (.aload_n 2, 1) := by decide +kernel
theorem d_jdk_52m_21_27 : decode jdk_52_method_21_code 27 = .ok (.iload_n 3, 1) := by decide +kernel
theorem d_jdk_52m_21_28 : decode jdk_52_method_21_code 28 = .ok (.iload 6, 2) := by decide +kernel
theorem d_jdk_52m_21_30 : decode jdk_52_method_21_code 30 = .ok (.i2b, 1) := by decide +kernel
theorem d_jdk_52m_21_31 : decode jdk_52_method_21_code 31 = .ok (.bastore, 1) := by decide +kernel
theorem d_jdk_52m_21_32 : decode jdk_52_method_21_code 32 = .ok (.iinc 1 1, 3) := by decide +kernel
theorem d_jdk_52m_21_35 : decode jdk_52_method_21_code 35 = .ok (.iinc 3 1, 3) := by decide +kernel
theorem d_jdk_52m_21_38 : decode jdk_52_method_21_code 38 = .ok (.iinc 5 1, 3) := by decide +kernel
theorem d_jdk_52m_21_41 : decode jdk_52_method_21_code 41 = .ok (.goto (-38), 3) := by decide +kernel
set_option maxRecDepth 65536 in
set_option maxHeartbeats 40000000 in
theorem lpC5 {p : Program} {l : Launch} {e : Env} {R : Room} {s : State} {m : MethodId} {args : Array Value} {below : List Frame} {meth : Method} {c : Code} {cells slots : Nat} {P : State → Prop} (Z : State) (a0 : Array Value) (hw : ∀ d ∈ tables_1, d.before a0 Z = true) (hx : p.tables.exec = Jvm.exec) (hby : c.code = jdk_52_method_21_code) (hml : c.maxLocals = 7) (hown : s.vm.findClass "java/lang/StringUTF16" = some m.cls) (hZ : Z.Warmed39 s.vm) (a d : Addr) (ka kd : ClassId) (n n0 : Nat) (cs : List Int32) (dv : Value) (h0 : Heap) (VA : Arv Z h0 a ka .char (Int32.ofNat n) (cs.map Value.int) dv) (hl : cs.length = n) (hn : n ≤ 4000) (gd : n0 ≤ d) (ne : a ≠ d) (out1 : ∀ (s6 : Slot) (T : State) (h : Heap) (locs : List Loc) (X0 : Stand p l e R s m args below meth c T locs cells slots) (e0 : T.heap = h) (N0 : Fr n0 locs) (K : Keep h0 h [d]) (V : Arv Z h d kd .byte (Int32.ofNat n) (fillB cs n) (.int 0)) (lo : ∀ j, j < n → ¬ (255 : Int32) < cs.getD j 0), Go p.tables e below P T (mkF m 44 #[.val (.ref a), .val (.int (Int32.ofNat n)), .val (.ref d), .val (.int (Int32.ofNat n)), .val (.int (Int32.ofNat n)), .val (.int (Int32.ofNat n)), s6] [])) (out2 : ∀ (i : Nat), i < n → (255 : Int32) < cs.getD i 0 → ∀ (s6 : Slot) (T : State) (h : Heap) (locs : List Loc) (X0 : Stand p l e R s m args below meth c T locs cells slots) (e0 : T.heap = h) (N0 : Fr n0 locs) (K : Keep h0 h [d]), Go p.tables e below P T (mkF m 23 #[.val (.ref a), .val (.int (Int32.ofNat i)), .val (.ref d), .val (.int (Int32.ofNat i)), .val (.int (Int32.ofNat n)), .val (.int (Int32.ofNat i)), s6] [])) :
    ∀ (k i : Nat), i + k = n → ∀ (s6 : Slot) (hs6 : One s6) (T : State) (h : Heap) (locs : List Loc) (X0 : Stand p l e R s m args below meth c T locs cells slots) (e0 : T.heap = h) (N0 : Fr n0 locs) (K : Keep h0 h [d]) (V : Arv Z h d kd .byte (Int32.ofNat n) (fillB cs i) (.int 0)) (lo : ∀ j, j < i → ¬ (255 : Int32) < cs.getD j 0), Go p.tables e below P T (mkF m 3 #[.val (.ref a), .val (.int (Int32.ofNat i)), .val (.ref d), .val (.int (Int32.ofNat i)), .val (.int (Int32.ofNat n)), .val (.int (Int32.ofNat i)), s6] []) := by
  intro k
  induction k with
  | zero =>
    intro i hik s6 hs6 T h locs X0 e0 N0 K V lo
    obtain rfl : n = i := by omega
    refine w_iload X0.here hx (hb hby d_jdk_52m_21_3) rfl (pc' := 5) rfl ?_
    refine w_iload X0.here hx (hb hby d_jdk_52m_21_5) rfl (pc' := 7) rfl ?_
    refine w_icmpYes X0.here hx (hb hby d_jdk_52m_21_7) (flt (show ¬ ((Int32.ofNat n) < (Int32.ofNat n)) from n_nlt (Nat.le_refl _) (by omega))).2.1 (pc' := 44) (by decide) (by decide) ?_
    exact out1 s6 T h locs X0 e0 N0 K V lo
  | succ k ih =>
    intro i hik s6 hs6 T h locs X0 e0 N0 K V lo
    refine w_iload X0.here hx (hb hby d_jdk_52m_21_3) rfl (pc' := 5) rfl ?_
    refine w_iload X0.here hx (hb hby d_jdk_52m_21_5) rfl (pc' := 7) rfl ?_
    refine w_icmpNo X0.here hx (hb hby d_jdk_52m_21_7) (tlt (show (Int32.ofNat i) < (Int32.ofNat n) from n_lt (by omega) (by omega))).2.1 (pc' := 10) rfl ?_
    refine w_aloadN X0.here hx (hb hby d_jdk_52m_21_10) rfl rfl (pc' := 11) rfl ?_
    refine w_iloadN X0.here hx (hb hby d_jdk_52m_21_11) rfl (pc' := 12) rfl ?_
    refine w_caload X0 hx hZ e0 (VA.keep K (ninS ne nin0)) (in_rng (by omega) (by omega)) (v := (.int (cs.getD i 0))) (at_chr (by omega) (by omega)) (hb hby d_jdk_52m_21_12) (pc' := 13) rfl ?_
    refine w_istore X0.here hx (hb hby d_jdk_52m_21_13) (l' := #[.val (.ref a), .val (.int (Int32.ofNat i)), .val (.ref d), .val (.int (Int32.ofNat i)), .val (.int (Int32.ofNat n)), .val (.int (Int32.ofNat i)), .val (.int (cs.getD i 0))]) (XS.store1 rfl hs6 rfl) (pc' := 15) rfl ?_
    refine w_iload X0.here hx (hb hby d_jdk_52m_21_15) rfl (pc' := 17) rfl ?_
    refine w_sipush X0.here hx (hb hby d_jdk_52m_21_17) (z := 255) rfl (pc' := 20) rfl ?_
    by_cases hc : (255 : Int32) < cs.getD i 0
    · refine w_icmpNo X0.here hx (hb hby d_jdk_52m_21_20) (tlt (show (255 : Int32) < (cs.getD i 0) from hc)).2.2.2 (pc' := 23) rfl ?_
      exact out2 i (by omega) hc _ T h locs X0 e0 N0 K
    · refine w_icmpYes X0.here hx (hb hby d_jdk_52m_21_20) (flt (show ¬ ((255 : Int32) < (cs.getD i 0)) from hc)).2.2.2 (pc' := 26) (by decide) (by decide) ?_
      refine w_aloadN X0.here hx (hb hby d_jdk_52m_21_26) rfl rfl (pc' := 27) rfl ?_
      refine w_iloadN X0.here hx (hb hby d_jdk_52m_21_27) rfl (pc' := 28) rfl ?_
      refine w_iload X0.here hx (hb hby d_jdk_52m_21_28) rfl (pc' := 30) rfl ?_
      refine w_i2b X0.here hx (hb hby d_jdk_52m_21_30) (pc' := 31) rfl ?_
      refine w_bastore X0 hx hZ e0 V (in_rng (by omega) (by omega)) i (n_nat (by omega)) (by rw [fillB_len (by omega)]; omega) (hb hby d_jdk_52m_21_31) (pc' := 32) rfl ?_
      intro T1 h1 X1 e1 W1 V1
      have N1 := Fr.snoc X1 N0 gd
      have K1 := K.wr W1 (Or.inl (List.mem_cons_self ..))
      rw [show ((cs.getD i 0).toInt8.toInt32.toInt8.toInt32) = StrChars.lo8 (cs.getD i 0) from by simp [StrChars.lo8], fillB_set (by omega)] at V1
      refine w_iinc X1.here hx (hb hby d_jdk_52m_21_32) rfl (z := 1) rfl (l' := #[.val (.ref a), .val (.int ((Int32.ofNat i) + (1 : Int32))), .val (.ref d), .val (.int (Int32.ofNat i)), .val (.int (Int32.ofNat n)), .val (.int (Int32.ofNat i)), .val (.int (cs.getD i 0))]) rfl (pc' := 35) rfl ?_
      refine w_iinc X1.here hx (hb hby d_jdk_52m_21_35) rfl (z := 1) rfl (l' := #[.val (.ref a), .val (.int ((Int32.ofNat i) + (1 : Int32))), .val (.ref d), .val (.int ((Int32.ofNat i) + (1 : Int32))), .val (.int (Int32.ofNat n)), .val (.int (Int32.ofNat i)), .val (.int (cs.getD i 0))]) rfl (pc' := 38) rfl ?_
      refine w_iinc X1.here hx (hb hby d_jdk_52m_21_38) rfl (z := 1) rfl (l' := #[.val (.ref a), .val (.int ((Int32.ofNat i) + (1 : Int32))), .val (.ref d), .val (.int ((Int32.ofNat i) + (1 : Int32))), .val (.int (Int32.ofNat n)), .val (.int ((Int32.ofNat i) + (1 : Int32))), .val (.int (cs.getD i 0))]) rfl (pc' := 41) rfl ?_
      refine w_goto X1.here hx (hb hby d_jdk_52m_21_41) (pc' := 3) (by decide) (by decide) ?_
      rw [n_succ]
      exact ih (i + 1) (by omega) _ (One.val rfl) _ _ _ X1 e1 N1 K1 V1 (fun j hj => (Nat.lt_succ_iff_lt_or_eq.mp hj).elim (lo j) (fun q => by rw [q]; exact hc))
theorem d_jdk_52m_21_0 : decode jdk_52_method_21_code 0 = .ok (.iconst 0, 1) := by decide +kernel
theorem d_jdk_52m_21_1 : decode jdk_52_method_21_code 1 = .ok (.istore 5, 2) := by decide +kernel
theorem d_jdk_52m_21_44 : decode jdk_52_method_21_code 44 = .ok (.iload 4, 2) := by decide +kernel
theorem d_jdk_52m_21_46 : decode jdk_52_method_21_code 46 = .ok (.ireturn, 1) := by decide +kernel
theorem d_jdk_52m_21_23 : decode jdk_52_method_21_code 23 = .ok (.iload 5, 2) := by decide +kernel
theorem d_jdk_52m_21_25 : decode jdk_52_method_21_code 25 = .ok (.ireturn, 1) := by decide +kernel
set_option maxRecDepth 65536 in
set_option maxHeartbeats 40000000 in
theorem rmC5 (l : Launch) (Z : State) (a0 : Array Value) (hw : ∀ d ∈ tables_1, d.before a0 Z = true) (a d : Addr) (ka kd : ClassId) (n : Nat) (cs : List Int32) (dv : Value) (h0 : Heap) (n0 : Nat) (VA : Arv Z h0 a ka .char (Int32.ofNat n) (cs.map Value.int) dv) (hl : cs.length = n) (hn : n ≤ 4000) (gd : n0 ≤ d) (ne : a ≠ d) (V : Arv Z h0 d kd .byte (Int32.ofNat n) (List.replicate n (.int 0)) (.int 0)) :
    Ct l (⟨"java/lang/StringUTF16", "compress", "([CI[BII)I"⟩ : MethodName) jdk_52_method_21_code 7 (some .int) ({ frames := 0, cells := 0, slots := 0, locals := 0 } : Room) Z #[(.ref a), (.int (0 : Int32)), (.ref d), (.int (0 : Int32)), (.int (Int32.ofNat n))] h0 (fun v h L => Fr n0 L ∧ Keep h0 h [d] ∧ ((v = some (.int (Int32.ofNat n)) ∧ (∀ c ∈ cs, ¬ (255 : Int32) < c) ∧ Arv Z h d kd .byte (Int32.ofNat n) (cs.map (fun c => Value.int (StrChars.lo8 c))) (.int 0)) ∨ ∃ i, i < n ∧ v = some (.int (Int32.ofNat i)) ∧ (255 : Int32) < cs.getD i 0)) := by
  refine ct_of (Q := fun v h L => Fr n0 L ∧ Keep h0 h [d] ∧ ((v = some (.int (Int32.ofNat n)) ∧ (∀ c ∈ cs, ¬ (255 : Int32) < c) ∧ Arv Z h d kd .byte (Int32.ofNat n) (cs.map (fun c => Value.int (StrChars.lo8 c))) (.int 0)) ∨ ∃ i, i < n ∧ v = some (.int (Int32.ofNat i)) ∧ (255 : Int32) < cs.getD i 0)) (plainFor_of_name pn_0) ?_
  intro p e s m below meth c s₁ X0 hx hby hml hret hnm hlk hown hZ hs0 e0
  have N0 := Fr.nil n0
  rw [show entryFrame m #[(.ref a), (.int (0 : Int32)), (.ref d), (.int (0 : Int32)), (.int (Int32.ofNat n))] 7 = mkF m 0 #[.val (.ref a), .val (.int (0 : Int32)), .val (.ref d), .val (.int (0 : Int32)), .val (.int (Int32.ofNat n)), .unset, .unset] [] from by first | (simp [entryFrame, mkF, argsToLocals, Value.category]; done) | rfl]
  refine w_iconst X0.here hx (hb hby d_jdk_52m_21_0) (z := 0) rfl (pc' := 1) rfl ?_
  refine w_istore X0.here hx (hb hby d_jdk_52m_21_1) (l' := #[.val (.ref a), .val (.int (0 : Int32)), .val (.ref d), .val (.int (0 : Int32)), .val (.int (Int32.ofNat n)), .val (.int (0 : Int32)), .unset]) rfl (pc' := 3) rfl ?_
  refine lpC5 Z a0 hw hx hby hml hown hZ a d ka kd n n0 cs dv h0 VA hl hn gd ne ?_ ?_ n 0 (by omega) _ One.u _ _ _ X0 e0 N0 (Keep.refl _ _) (by rw [fillB_zero, hl]; exact V) (fun j hj => absurd hj (Nat.not_lt_zero j))
  · intro s6 T h locs X e1 N1 K1 V1 lo
    refine w_iload X.here hx (hb hby d_jdk_52m_21_44) rfl (pc' := 46) rfl ?_
    rw [← hl, fillB_all, hl] at V1
    exact endI X hx hlk hret (hb hby d_jdk_52m_21_46) (by decide) (by decide) (by rw [e1]; exact ⟨N1, K1, Or.inl ⟨rfl, fun c hc => by obtain ⟨j, hj, rfl⟩ := List.getElem_of_mem hc; have q := lo j (by omega); simpa [List.getD_eq_getElem?_getD, hj] using q, V1⟩⟩)
  · intro i hi hc s6 T h locs X e1 N1 K1
    refine w_iload X.here hx (hb hby d_jdk_52m_21_23) rfl (pc' := 25) rfl ?_
    exact endI X hx hlk hret (hb hby d_jdk_52m_21_25) (by decide) (by decide) (by rw [e1]; exact ⟨N1, K1, Or.inr ⟨i, hi, rfl, hc⟩⟩)
theorem d_jdk_52m_16_0 : decode jdk_52_method_16_code 0 = .ok (.iload_n 2, 1) := by decide +kernel
theorem d_jdk_52m_16_1 : decode jdk_52_method_16_code 1 = .ok (.newarray .byte, 2) := by decide +kernel
theorem d_jdk_52m_16_3 : decode jdk_52_method_16_code 3 = .ok (.astore_n 3, 1) := by decide +kernel
theorem d_jdk_52m_16_4 : decode jdk_52_method_16_code 4 = .ok (.aload_n 0, 1) := by decide +kernel
theorem d_jdk_52m_16_5 : decode jdk_52_method_16_code 5 = .ok (.iload_n 1, 1) := by decide +kernel
theorem d_jdk_52m_16_6 : decode jdk_52_method_16_code 6 = .ok (.aload_n 3, 1) := by decide +kernel
theorem d_jdk_52m_16_7 : decode jdk_52_method_16_code 7 = .ok (.iconst 0, 1) := by decide +kernel
theorem d_jdk_52m_16_8 : decode jdk_52_method_16_code 8 = .ok (.iload_n 2, 1) := by decide +kernel
theorem pd_3 : parseMethodDescriptor "([CI[BII)I" = some ⟨[(.array .char), .int, (.array .byte), .int, .int], some .int⟩ := by decide +kernel
theorem d_jdk_52m_16_9 : decode jdk_52_method_16_code 9 = .ok (.invokestatic 115, 3) := by decide +kernel
theorem d_jdk_52m_16_12 : decode jdk_52_method_16_code 12 = .ok (.istore 4, 2) := by decide +kernel
theorem d_jdk_52m_16_14 : decode jdk_52_method_16_code 14 = .ok (.iload 4, 2) := by decide +kernel
theorem d_jdk_52m_16_16 : decode jdk_52_method_16_code 16 = .ok (.iload_n 2, 1) := by decide +kernel
theorem d_jdk_52m_16_17 : decode jdk_52_method_16_code 17 = .ok (.if_icmp .eq 40, 3) := by decide +kernel
theorem d_jdk_52m_16_57 : decode jdk_52_method_16_code 57 = .ok (.aload_n 3, 1) := by decide +kernel
theorem d_jdk_52m_16_58 : decode jdk_52_method_16_code 58 = .ok (.areturn, 1) := by decide +kernel
theorem d_jdk_52m_16_20 : decode jdk_52_method_16_code 20 = .ok (.aload_n 0, 1) := by decide +kernel
theorem d_jdk_52m_16_21 : decode jdk_52_method_16_code 21 = .ok (.iload_n 1, 1) := by decide +kernel
theorem d_jdk_52m_16_22 : decode jdk_52_method_16_code 22 = .ok (.iload_n 2, 1) := by decide +kernel
theorem pd_4 : parseMethodDescriptor "([CII)[B" = some ⟨[(.array .char), .int, .int], some (.array .byte)⟩ := by decide +kernel
theorem d_jdk_52m_16_23 : decode jdk_52_method_16_code 23 = .ok (.invokestatic 119, 3) := by decide +kernel
theorem d_jdk_52m_16_26 : decode jdk_52_method_16_code 26 = .ok (.astore 5, 2) := by decide +kernel
theorem d_jdk_52m_16_28 : decode jdk_52_method_16_code 28 = .ok (.aload 5, 2) := by decide +kernel
theorem d_jdk_52m_16_30 : decode jdk_52_method_16_code 30 = .ok (.iload 4, 2) := by decide +kernel
theorem pd_5 : parseMethodDescriptor "([BI)C" = some ⟨[(.array .byte), .int], some .char⟩ := by decide +kernel
theorem d_jdk_52m_16_32 : decode jdk_52_method_16_code 32 = .ok (.invokestatic 71, 3) := by decide +kernel
theorem d_jdk_52m_16_35 : decode jdk_52_method_16_code 35 = .ok (.sipush 255, 3) := by decide +kernel
theorem d_jdk_52m_16_38 : decode jdk_52_method_16_code 38 = .ok (.if_icmp .gt 16, 3) := by decide +kernel
theorem d_jdk_52m_16_54 : decode jdk_52_method_16_code 54 = .ok (.aload 5, 2) := by decide +kernel
theorem d_jdk_52m_16_56 : decode jdk_52_method_16_code 56 = .ok (.areturn, 1) := by decide +kernel
set_option maxRecDepth 65536 in
set_option maxHeartbeats 40000000 in
theorem rmC3 (l : Launch) (Z : State) (a0 : Array Value) (hw : ∀ d ∈ tables_1, d.before a0 Z = true) (a : Addr) (ka : ClassId) (n : Nat) (z : Int32) (cs : List Int32) (dv : Value) (h0 : Heap) (n0 : Nat) (Z0 : n0 ≤ h0.size) (Su : SU Z h0 z) (VA : Arv Z h0 a ka .char (Int32.ofNat n) (cs.map Value.int) dv) (hl : cs.length = n) (hn : n ≤ 34) (hb16 : ∀ c ∈ cs, ¬ c < 0 ∧ ¬ (65535 : Int32) < c) :
    Ct l (⟨"java/lang/StringUTF16", "compress", "([CII)[B"⟩ : MethodName) jdk_52_method_16_code 6 (some (.array .byte)) ({ frames := 3, cells := 2, slots := 102, locals := 40 } : Room) Z #[(.ref a), (.int (0 : Int32)), (.int (Int32.ofNat n))] h0 (fun v h L => ∃ t kt N2 vs cd, v = some (.ref t) ∧ Fr n0 L ∧ Ext h0 h ∧ h0.size ≤ t ∧ Arv Z h t kt .byte N2 vs (.int 0) ∧ StrChars.Road.CodA cs cd N2 vs) := by
  refine ct_of (Q := fun v h L => ∃ t kt N2 vs cd, v = some (.ref t) ∧ Fr n0 L ∧ Ext h0 h ∧ h0.size ≤ t ∧ Arv Z h t kt .byte N2 vs (.int 0) ∧ StrChars.Road.CodA cs cd N2 vs) (plainFor_of_name pn_0) ?_
  intro p e s m below meth c s₁ X0 hx hby hml hret hnm hlk hown hZ hs0 e0
  have N0 := Fr.nil n0
  rw [show entryFrame m #[(.ref a), (.int (0 : Int32)), (.int (Int32.ofNat n))] 6 = mkF m 0 #[.val (.ref a), .val (.int (0 : Int32)), .val (.int (Int32.ofNat n)), .unset, .unset, .unset] [] from by first | (simp [entryFrame, mkF, argsToLocals, Value.category]; done) | rfl]
  refine w_iloadN X0.here hx (hb hby d_jdk_52m_16_0) rfl (pc' := 1) rfl ?_
  refine w_newarray X0 hx hZ (ty := .byte) (dv := (.int 0)) rfl rfl (tw hw 4 rfl) e0 (n := (Int32.ofNat n)) (hb hby d_jdk_52m_16_1) (n_nn (by omega)) (cap := 34) (by rw [n_nat (by omega)]; omega) (by decide) (by decide) (by decide) (pc' := 3) rfl ?_
  intro T13 h13 d kd gd X13 e13 E13 V
  have ge_d_h0 : h0.size ≤ d := Nat.le_trans (Ext.rfl' : Ext h0 h0).1 (Nat.le_of_eq gd)
  have C14 : Ext h0 h13 := Ext.trs Ext.rfl' E13
  rw [n_nat (by omega)] at V
  have gd : n0 ≤ d := Nat.le_trans Z0 ge_d_h0
  have ne : a ≠ d := Nat.ne_of_lt (Nat.lt_of_lt_of_le VA.lt ge_d_h0)
  refine w_astoreN X13.here hx (hb hby d_jdk_52m_16_3) rfl (l' := #[.val (.ref a), .val (.int (0 : Int32)), .val (.int (Int32.ofNat n)), .val (.ref d), .unset, .unset]) rfl (pc' := 4) rfl ?_
  refine w_aloadN X13.here hx (hb hby d_jdk_52m_16_4) rfl rfl (pc' := 5) rfl ?_
  refine w_iloadN X13.here hx (hb hby d_jdk_52m_16_5) rfl (pc' := 6) rfl ?_
  refine w_aloadN X13.here hx (hb hby d_jdk_52m_16_6) rfl rfl (pc' := 7) rfl ?_
  refine w_iconst X13.here hx (hb hby d_jdk_52m_16_7) (z := 0) rfl (pc' := 8) rfl ?_
  refine w_iloadN X13.here hx (hb hby d_jdk_52m_16_8) rfl (pc' := 9) rfl ?_
  refine w_static X13 hx hZ (y := (⟨"java/lang/StringUTF16", "compress", "([CI[BII)I"⟩ : MethodName)) hown (tw hw 30 rfl) (tw hw 31 rfl) (tw hw 28 rfl) (tw hw 32 rfl) (by decide) (backC (W := 0) (rmC5 l Z a0 hw a d ka kd n cs dv h13 n0 (VA.ext C14) hl (by omega) gd ne V) hZ (tw hw 32 rfl) (tw hw 28 rfl) (by decide) (by decide)) e13 (by rw [hml]; rfl) (argsL := [(.ref a), (.int (0 : Int32)), (.ref d), (.int (0 : Int32)), (.int (Int32.ofNat n))]) (st := []) pd_3 rfl rfl rfl (Nat.le_of_ble_eq_true rfl) (hb hby d_jdk_52m_16_9) (by decide) (by decide) (pc' := 12) rfl ?_
  intro T15 v15 L15 X15 Q15
  obtain ⟨N1, K1, hv⟩ := Q15
  have N2 := Fr.app N0 N1
  have E2 : Ext h0 T15.heap := Ext.kp C14 K1 (allS ge_d_h0 all0)
  rcases hv with ⟨rfl, lo, V1⟩ | ⟨i, hi, rfl, hc⟩
  · show Go _ _ _ _ T15 (mkF m 12 _ [(.int (Int32.ofNat n))])
    refine w_istore X15.here hx (hb hby d_jdk_52m_16_12) (l' := #[.val (.ref a), .val (.int (0 : Int32)), .val (.int (Int32.ofNat n)), .val (.ref d), .val (.int (Int32.ofNat n)), .unset]) rfl (pc' := 14) rfl ?_
    refine w_iload X15.here hx (hb hby d_jdk_52m_16_14) rfl (pc' := 16) rfl ?_
    refine w_iloadN X15.here hx (hb hby d_jdk_52m_16_16) rfl (pc' := 17) rfl ?_
    refine w_icmpYes X15.here hx (hb hby d_jdk_52m_16_17) (teq (show (Int32.ofNat n) = (Int32.ofNat n) from rfl)).1 (pc' := 57) (by decide) (by decide) ?_
    refine w_aloadN X15.here hx (hb hby d_jdk_52m_16_57) rfl rfl (pc' := 58) rfl ?_
    exact endR X15 hx hlk rfl hret rfl (hb hby d_jdk_52m_16_58) (by decide) (by decide) (⟨d, kd, _, _, 0, rfl, N2, E2, ge_d_h0, V1, Or.inl ⟨rfl, by rw [hl], rfl, lo⟩⟩)
  · show Go _ _ _ _ T15 (mkF m 12 _ [(.int (Int32.ofNat i))])
    refine w_istore X15.here hx (hb hby d_jdk_52m_16_12) (l' := #[.val (.ref a), .val (.int (0 : Int32)), .val (.int (Int32.ofNat n)), .val (.ref d), .val (.int (Int32.ofNat i)), .unset]) rfl (pc' := 14) rfl ?_
    refine w_iload X15.here hx (hb hby d_jdk_52m_16_14) rfl (pc' := 16) rfl ?_
    refine w_iloadN X15.here hx (hb hby d_jdk_52m_16_16) rfl (pc' := 17) rfl ?_
    refine w_icmpNo X15.here hx (hb hby d_jdk_52m_16_17) (feq (show ¬ ((Int32.ofNat i) = (Int32.ofNat n)) from n_ne hi (by omega))).1 (pc' := 20) rfl ?_
    refine w_aloadN X15.here hx (hb hby d_jdk_52m_16_20) rfl rfl (pc' := 21) rfl ?_
    refine w_iloadN X15.here hx (hb hby d_jdk_52m_16_21) rfl (pc' := 22) rfl ?_
    refine w_iloadN X15.here hx (hb hby d_jdk_52m_16_22) rfl (pc' := 23) rfl ?_
    refine w_static X15 hx hZ (y := (⟨"java/lang/StringUTF16", "toBytes", "([CII)[B"⟩ : MethodName)) hown (tw hw 253 rfl) (tw hw 254 rfl) (tw hw 28 rfl) (tw hw 255 rfl) (by decide) (backC (W := 0) (rmToB l Z a0 hw a ka n z cs dv T15.heap n0 (Nat.le_trans Z0 E2.1) (Su.ext E2) (VA.ext E2) hl hn) hZ (tw hw 255 rfl) (tw hw 28 rfl) (by decide) (by decide)) rfl (by rw [hml]; rfl) (argsL := [(.ref a), (.int (0 : Int32)), (.int (Int32.ofNat n))]) (st := []) pd_4 rfl rfl rfl (Nat.le_of_ble_eq_true rfl) (hb hby d_jdk_52m_16_23) (by decide) (by decide) (pc' := 26) rfl ?_
    intro T16 v16 L16 X16 Q16
    obtain ⟨b, kb, rfl, N3, E3, gb, V3⟩ := Q16
    show Go _ _ _ _ T16 (mkF m 26 _ [(.ref b)])
    have N4 := Fr.app N2 N3
    have E4 := Ext.trs E2 E3
    refine w_astore X16.here hx (hb hby d_jdk_52m_16_26) rfl (l' := #[.val (.ref a), .val (.int (0 : Int32)), .val (.int (Int32.ofNat n)), .val (.ref d), .val (.int (Int32.ofNat i)), .val (.ref b)]) rfl (pc' := 28) rfl ?_
    refine w_aload X16.here hx (hb hby d_jdk_52m_16_28) rfl rfl (pc' := 30) rfl ?_
    refine w_iload X16.here hx (hb hby d_jdk_52m_16_30) rfl (pc' := 32) rfl ?_
    refine w_static X16 hx hZ (y := (⟨"java/lang/StringUTF16", "getChar", "([BI)C"⟩ : MethodName)) hown (tw hw 269 rfl) (tw hw 270 rfl) (tw hw 28 rfl) (tw hw 271 rfl) (by decide) (backC (W := 0) (rmGet l Z a0 hw b kb n i (StrChars.lo8 (cs.getD i 0)) (StrChars.hi8 (cs.getD i 0)) z _ T16.heap n0 (Su.ext E4) V3 hi (by omega) (StrChars.Road.wide_lo _ cs i (by omega)) (StrChars.Road.wide_hi _ cs i (by omega))) hZ (tw hw 271 rfl) (tw hw 28 rfl) (by decide) (by decide)) rfl (by rw [hml]; rfl) (argsL := [(.ref b), (.int (Int32.ofNat i))]) (st := []) pd_5 rfl rfl rfl (Nat.le_of_ble_eq_true rfl) (hb hby d_jdk_52m_16_32) (by decide) (by decide) (pc' := 35) rfl ?_
    intro T17 v17 L17 X17 Q17
    obtain ⟨rfl, N5, hh⟩ := Q17
    show Go _ _ _ _ T17 (mkF m 35 _ [(.int (StrChars.pairCh (StrChars.lo8 (cs.getD i 0)) (StrChars.hi8 (cs.getD i 0))))])
    have hmem : cs.getD i 0 ∈ cs := by simp [List.getD_eq_getElem?_getD, show i < cs.length by omega]
    refine w_sipush X17.here hx (hb hby d_jdk_52m_16_35) (z := 255) rfl (pc' := 38) rfl ?_
    refine w_icmpYes X17.here hx (hb hby d_jdk_52m_16_38) (tlt (show (255 : Int32) < (StrChars.pairCh (StrChars.lo8 (cs.getD i 0)) (StrChars.hi8 (cs.getD i 0))) from by rw [StrChars.pair_says (hb16 _ hmem).1 (hb16 _ hmem).2]; exact hc)).2.2.1 (pc' := 54) (by decide) (by decide) ?_
    have N6 := Fr.app N4 N5
    rw [← hh] at E4 V3
    refine w_aload X17.here hx (hb hby d_jdk_52m_16_54) rfl rfl (pc' := 56) rfl ?_
    exact endR X17 hx hlk rfl hret rfl (hb hby d_jdk_52m_16_56) (by decide) (by decide) (⟨b, kb, _, _, 1, rfl, N6, E4, Nat.le_trans E2.1 gb, V3, Or.inr ⟨rfl, by rw [hl], rfl, _, hmem, hc⟩⟩)
theorem d_jdk_52m_15_0 : decode jdk_52_method_15_code 0 = .ok (.iload_n 1, 1) := by decide +kernel
theorem d_jdk_52m_15_1 : decode jdk_52_method_15_code 1 = .ok (.aload_n 0, 1) := by decide +kernel
theorem d_jdk_52m_15_2 : decode jdk_52_method_15_code 2 = .ok (.arraylength, 1) := by decide +kernel
theorem d_jdk_52m_15_3 : decode jdk_52_method_15_code 3 = .ok (.isub, 1) := by decide +kernel
theorem d_jdk_52m_15_4 : decode jdk_52_method_15_code 4 = .ok (.bipush 31, 2) := by decide +kernel
theorem d_jdk_52m_15_6 : decode jdk_52_method_15_code 6 = .ok (.iushr, 1) := by decide +kernel
theorem d_jdk_52m_15_7 : decode jdk_52_method_15_code 7 = .ok (.i2b, 1) := by decide +kernel
theorem d_jdk_52m_15_8 : decode jdk_52_method_15_code 8 = .ok (.ireturn, 1) := by decide +kernel
set_option maxRecDepth 65536 in
set_option maxHeartbeats 40000000 in
theorem rmCod (l : Launch) (Z : State) (a0 : Array Value) (hw : ∀ d ∈ tables_1, d.before a0 Z = true) (t : Addr) (kt : ClassId) (N2 cd : Int32) (vs : List Value) (cs : List Int32) (n : Nat) (h0 : Heap) (n0 : Nat) (V : Arv Z h0 t kt .byte N2 vs (.int 0)) (hc : StrChars.Road.CodA cs cd N2 vs) (hl : cs.length = n) (hn : n ≤ 4000) :
    Ct l (⟨"java/lang/StringUTF16", "coderFromArrayLen", "([BI)B"⟩ : MethodName) jdk_52_method_15_code 2 (some .byte) ({ frames := 0, cells := 0, slots := 0, locals := 0 } : Room) Z #[(.ref t), (.int (Int32.ofNat n))] h0 (fun v h L => v = some (.int cd) ∧ Fr n0 L ∧ h = h0) := by
  refine ct_of (Q := fun v h L => v = some (.int cd) ∧ Fr n0 L ∧ h = h0) (plainFor_of_name pn_0) ?_
  intro p e s m below meth c s₁ X0 hx hby hml hret hnm hlk hown hZ hs0 e0
  have N0 := Fr.nil n0
  rw [show entryFrame m #[(.ref t), (.int (Int32.ofNat n))] 2 = mkF m 0 #[.val (.ref t), .val (.int (Int32.ofNat n))] [] from by first | (simp [entryFrame, mkF, argsToLocals, Value.category]; done) | rfl]
  refine w_iloadN X0.here hx (hb hby d_jdk_52m_15_0) rfl (pc' := 1) rfl ?_
  refine w_aloadN X0.here hx (hb hby d_jdk_52m_15_1) rfl rfl (pc' := 2) rfl ?_
  refine w_arraylength X0 hx hZ e0 V (hb hby d_jdk_52m_15_2) (pc' := 3) rfl ?_
  refine w_isub X0.here hx (hb hby d_jdk_52m_15_3) (pc' := 4) rfl ?_
  refine w_bipush X0.here hx (hb hby d_jdk_52m_15_4) (z := 31) rfl (pc' := 6) rfl ?_
  refine w_iushr X0.here hx (hb hby d_jdk_52m_15_6) (pc' := 7) rfl ?_
  rw [cod_len hc hl hn]
  show Go _ _ _ _ s₁ (mkF m 7 _ [(.int cd)])
  refine w_i2b X0.here hx (hb hby d_jdk_52m_15_7) (pc' := 8) rfl ?_
  rw [(cod_cd hc).2]
  show Go _ _ _ _ s₁ (mkF m 8 _ [(.int cd)])
  exact endZ X0 hx hlk hret (by simp) (hb hby d_jdk_52m_15_8) ((cod_cd hc).1) (by decide) (by decide) (by rw [e0]; exact ⟨rfl, N0, rfl⟩)
theorem d_jdk_42m_149_0 : decode jdk_42_method_149_code 0 = .ok (.aload_n 0, 1) := by decide +kernel
theorem d_jdk_42m_149_1 : decode jdk_42_method_149_code 1 = .ok (.invokespecial 1, 3) := by decide +kernel
theorem d_jdk_42m_149_4 : decode jdk_42_method_149_code 4 = .ok (.iload_n 3, 1) := by decide +kernel
theorem d_jdk_42m_149_5 : decode jdk_42_method_149_code 5 = .ok (.ifCond .ne 22, 3) := by decide +kernel
theorem d_jdk_42m_149_27 : decode jdk_42_method_149_code 27 = .ok (.getstatic 38, 3) := by decide +kernel
theorem d_jdk_42m_149_30 : decode jdk_42_method_149_code 30 = .ok (.ifCond .eq 28, 3) := by decide +kernel
theorem d_jdk_42m_149_33 : decode jdk_42_method_149_code 33 = .ok (.aload_n 1, 1) := by decide +kernel
theorem d_jdk_42m_149_34 : decode jdk_42_method_149_code 34 = .ok (.iload_n 2, 1) := by decide +kernel
theorem d_jdk_42m_149_35 : decode jdk_42_method_149_code 35 = .ok (.iload_n 3, 1) := by decide +kernel
theorem d_jdk_42m_149_36 : decode jdk_42_method_149_code 36 = .ok (.invokestatic 177, 3) := by decide +kernel
theorem d_jdk_42m_149_39 : decode jdk_42_method_149_code 39 = .ok (.astore 5, 2) := by decide +kernel
theorem d_jdk_42m_149_41 : decode jdk_42_method_149_code 41 = .ok (.aload_n 0, 1) := by decide +kernel
theorem d_jdk_42m_149_42 : decode jdk_42_method_149_code 42 = .ok (.aload 5, 2) := by decide +kernel
theorem d_jdk_42m_149_44 : decode jdk_42_method_149_code 44 = .ok (.iload_n 3, 1) := by decide +kernel
theorem pd_6 : parseMethodDescriptor "([BI)B" = some ⟨[(.array .byte), .int], some .byte⟩ := by decide +kernel
theorem d_jdk_42m_149_45 : decode jdk_42_method_149_code 45 = .ok (.invokestatic 47, 3) := by decide +kernel
theorem d_jdk_42m_149_48 : decode jdk_42_method_149_code 48 = .ok (.putfield 15, 3) := by decide +kernel
theorem d_jdk_42m_149_51 : decode jdk_42_method_149_code 51 = .ok (.aload_n 0, 1) := by decide +kernel
theorem d_jdk_42m_149_52 : decode jdk_42_method_149_code 52 = .ok (.aload 5, 2) := by decide +kernel
theorem d_jdk_42m_149_54 : decode jdk_42_method_149_code 54 = .ok (.putfield 9, 3) := by decide +kernel
theorem d_jdk_42m_149_57 : decode jdk_42_method_149_code 57 = .ok (.return_, 1) := by decide +kernel
theorem pn_1 : plainName "java/lang/String" = true := by first | (simp [plainName, overriddenIn]; done) | decide +kernel
set_option maxRecDepth 65536 in
set_option maxHeartbeats 40000000 in
theorem rmI4 (l : Launch) (Z : State) (a0 : Array Value) (hw : ∀ d ∈ tables_1, d.before a0 Z = true) (x a : Addr) (ka : ClassId) (n : Nat) (z : Int32) (cs : List Int32) (dv v0 c0 : Value) (h0 : Heap) (n0 : Nat) (Z0 : n0 ≤ h0.size) (gx : n0 ≤ x) (Su : SU Z h0 z) (VA : Arv Z h0 a ka .char (Int32.ofNat n) (cs.map Value.int) dv) (hl : cs.length = n) (hpos : 0 < n) (hn : n ≤ 34) (hb16 : ∀ c ∈ cs, ¬ c < 0 ∧ ¬ (65535 : Int32) < c) (EX : Exa Z h0 x "java/lang/String") (FV : Fld Z h0 x "java/lang/String" "value" "[B" v0) (FC : Fld Z h0 x "java/lang/String" "coder" "B" c0) :
    Ct l (⟨"java/lang/String", "<init>", "([CIILjava/lang/Void;)V"⟩ : MethodName) jdk_42_method_149_code 6 none ({ frames := 4, cells := 2, slots := 102, locals := 57 } : Room) Z #[(.ref x), (.ref a), (.int (0 : Int32)), (.int (Int32.ofNat n)), .null] h0 (fun v h L => v = none ∧ Fr n0 L ∧ Keep h0 h [x] ∧ StrOf Z h x cs) := by
  refine ct_of (Q := fun v h L => v = none ∧ Fr n0 L ∧ Keep h0 h [x] ∧ StrOf Z h x cs) (plainFor_of_name pn_1) ?_
  intro p e s m below meth c s₁ X0 hx hby hml hret hnm hlk hown hZ hs0 e0
  have N0 := Fr.nil n0
  rw [show entryFrame m #[(.ref x), (.ref a), (.int (0 : Int32)), (.int (Int32.ofNat n)), .null] 6 = mkF m 0 #[.val (.ref x), .val (.ref a), .val (.int (0 : Int32)), .val (.int (Int32.ofNat n)), .val .null, .unset] [] from by first | (simp [entryFrame, mkF, argsToLocals, Value.category]; done) | rfl]
  refine w_aloadN X0.here hx (hb hby d_jdk_42m_149_0) rfl rfl (pc' := 1) rfl ?_
  refine w_initO X0 hx hZ hown (tw hw 22 rfl) (tw hw 23 rfl) (tw hw 24 rfl) e0 (by rw [hml]; rfl) (hb hby d_jdk_42m_149_1) (by decide) (W := 0) (Nat.le_of_ble_eq_true rfl) (by decide) (pc' := 4) rfl ?_
  intro T18 X18 e18
  refine w_iloadN X18.here hx (hb hby d_jdk_42m_149_4) rfl (pc' := 5) rfl ?_
  refine w_ifYes X18.here hx (hb hby d_jdk_42m_149_5) (feq (show ¬ ((Int32.ofNat n) = (0 : Int32)) from by have := n_ne (i := 0) (n := n) hpos (by omega); exact fun q => this q.symm)).2 (pc' := 27) (by decide) (by decide) ?_
  refine w_getS X18 hx hZ hown (tw hw 25 rfl) Via.refl e18 Su.1 (hb hby d_jdk_42m_149_27) (pc' := 30) rfl ?_
  intro T19 X19 e19
  refine w_ifNo X19.here hx (hb hby d_jdk_42m_149_30) (feq (show ¬ (z = (0 : Int32)) from Su.2.1)).1 (pc' := 33) rfl ?_
  refine w_aloadN X19.here hx (hb hby d_jdk_42m_149_33) rfl rfl (pc' := 34) rfl ?_
  refine w_iloadN X19.here hx (hb hby d_jdk_42m_149_34) rfl (pc' := 35) rfl ?_
  refine w_iloadN X19.here hx (hb hby d_jdk_42m_149_35) rfl (pc' := 36) rfl ?_
  refine w_static X19 hx hZ (y := (⟨"java/lang/StringUTF16", "compress", "([CII)[B"⟩ : MethodName)) hown (tw hw 26 rfl) (tw hw 27 rfl) (tw hw 28 rfl) (tw hw 29 rfl) (by decide) (backC (W := 0) (rmC3 l Z a0 hw a ka n z cs dv h0 n0 Z0 Su VA hl hn hb16) hZ (tw hw 29 rfl) (tw hw 28 rfl) (by decide) (by decide)) e19 (by rw [hml]; rfl) (argsL := [(.ref a), (.int (0 : Int32)), (.int (Int32.ofNat n))]) (st := []) pd_4 rfl rfl rfl (Nat.le_of_ble_eq_true rfl) (hb hby d_jdk_42m_149_36) (by decide) (by decide) (pc' := 39) rfl ?_
  intro T20 v20 L20 X20 Q20
  obtain ⟨t, kt, N2, vs, cd, rfl, Nc, E1, gt, V1, hc⟩ := Q20
  show Go _ _ _ _ T20 (mkF m 39 _ [(.ref t)])
  have N1 := Fr.app N0 Nc
  refine w_astore X20.here hx (hb hby d_jdk_42m_149_39) rfl (l' := #[.val (.ref x), .val (.ref a), .val (.int (0 : Int32)), .val (.int (Int32.ofNat n)), .val .null, .val (.ref t)]) rfl (pc' := 41) rfl ?_
  refine w_aloadN X20.here hx (hb hby d_jdk_42m_149_41) rfl rfl (pc' := 42) rfl ?_
  refine w_aload X20.here hx (hb hby d_jdk_42m_149_42) rfl rfl (pc' := 44) rfl ?_
  refine w_iloadN X20.here hx (hb hby d_jdk_42m_149_44) rfl (pc' := 45) rfl ?_
  refine w_static X20 hx hZ (y := (⟨"java/lang/StringUTF16", "coderFromArrayLen", "([BI)B"⟩ : MethodName)) hown (tw hw 33 rfl) (tw hw 34 rfl) (tw hw 28 rfl) (tw hw 35 rfl) (by decide) (backC (W := 1) (rmCod l Z a0 hw t kt N2 cd vs cs n T20.heap n0 V1 hc hl (by omega)) hZ (tw hw 35 rfl) (tw hw 28 rfl) (by decide) (by decide)) rfl (by rw [hml]; rfl) (argsL := [(.ref t), (.int (Int32.ofNat n))]) (st := [(.ref x)]) pd_6 rfl rfl rfl (Nat.le_of_ble_eq_true rfl) (hb hby d_jdk_42m_149_45) (by decide) (by decide) (pc' := 48) rfl ?_
  intro T21 v21 L21 X21 Q21
  obtain ⟨rfl, Nd, hh⟩ := Q21
  show Go _ _ _ _ T21 (mkF m 48 _ [(.int cd), (.ref x)])
  have N2' := Fr.app N1 Nd
  rw [← hh] at E1 V1
  have hcd := (cod_cd hc).1
  refine w_putF X21 hx hZ hown (tw hw 36 rfl) Via.refl rfl (FC.ext E1) (EX.ext E1) (Or.inr ⟨(tw hw 6 rfl), rfl, hnm⟩) (tw hw 3 rfl) (ty := .byte) (by decide) (by show narrow .byte _ = _; simp only [narrow]; rw [(cod_cd hc).2]) (by rw [← hcd]; exact fits_nar_byte _) (hb hby d_jdk_42m_149_48) (pc' := 51) rfl ?_
  intro Ta ha Xa ea Wa
  have Na := Fr.snoc Xa N2' gx
  refine w_aloadN Xa.here hx (hb hby d_jdk_42m_149_51) rfl rfl (pc' := 52) rfl ?_
  refine w_aload Xa.here hx (hb hby d_jdk_42m_149_52) rfl rfl (pc' := 54) rfl ?_
  have FV1 := (FV.ext E1).other Wa (Or.inr (slot_ne (Or.inr (tw hw 5 rfl)) (Or.inr (tw hw 6 rfl)) (by decide) (t := (.array .byte)) (t' := .byte) (by decide) (by decide)))
  have FC1 := Fld.same Wa (FC.ext E1)
  have EX1 := (EX.ext E1).wr Wa
  refine w_putF Xa hx hZ hown (tw hw 37 rfl) Via.refl ea FV1 EX1 (Or.inr ⟨(tw hw 5 rfl), rfl, hnm⟩) (tw hw 3 rfl) (ty := (.array .byte)) (by decide) rfl rfl (hb hby d_jdk_42m_149_54) (pc' := 57) rfl ?_
  intro T23 h23 X23 e23 W23
  have Nb := Fr.snoc X23 Na gx
  have ne : t ≠ x := Nat.ne_of_gt (Nat.lt_of_lt_of_le EX.lt gt)
  exact endV X23 hx hlk hret (hb hby d_jdk_42m_149_57) (by decide) (by decide) (by rw [e23]; exact ⟨rfl, Nb, (((Keep.refl h0 [x]).ext E1).wr Wa (Or.inl (List.mem_cons_self ..))).wr W23 (Or.inl (List.mem_cons_self ..)), t, kt, cd, N2, vs, EX1.wr W23, Fld.same W23 FV1, FC1.other W23 (Or.inr (slot_ne (Or.inr (tw hw 6 rfl)) (Or.inr (tw hw 5 rfl)) (by decide) (t := .byte) (t' := (.array .byte)) (by decide) (by decide))), (V1.other Wa ne).other W23 ne, hc, hb16, by omega⟩)
theorem d_jdk_42m_3_0 : decode jdk_42_method_3_code 0 = .ok (.aload_n 0, 1) := by decide +kernel
theorem d_jdk_42m_3_1 : decode jdk_42_method_3_code 1 = .ok (.aload_n 1, 1) := by decide +kernel
theorem d_jdk_42m_3_2 : decode jdk_42_method_3_code 2 = .ok (.iconst 0, 1) := by decide +kernel
theorem d_jdk_42m_3_3 : decode jdk_42_method_3_code 3 = .ok (.aload_n 1, 1) := by decide +kernel
theorem d_jdk_42m_3_4 : decode jdk_42_method_3_code 4 = .ok (.arraylength, 1) := by decide +kernel
theorem d_jdk_42m_3_5 : decode jdk_42_method_3_code 5 = .ok (.aconst_null, 1) := by decide +kernel
theorem pd_7 : parseMethodDescriptor "([CIILjava/lang/Void;)V" = some ⟨[(.array .char), .int, .int, (.object "java/lang/Void")], none⟩ := by decide +kernel
theorem d_jdk_42m_3_6 : decode jdk_42_method_3_code 6 = .ok (.invokespecial 27, 3) := by decide +kernel
theorem d_jdk_42m_3_9 : decode jdk_42_method_3_code 9 = .ok (.return_, 1) := by decide +kernel
set_option maxRecDepth 65536 in
set_option maxHeartbeats 40000000 in
theorem rmI1 (l : Launch) (Z : State) (a0 : Array Value) (hw : ∀ d ∈ tables_1, d.before a0 Z = true) (x a : Addr) (ka : ClassId) (n : Nat) (z : Int32) (cs : List Int32) (dv v0 c0 : Value) (h0 : Heap) (n0 : Nat) (Z0 : n0 ≤ h0.size) (gx : n0 ≤ x) (Su : SU Z h0 z) (VA : Arv Z h0 a ka .char (Int32.ofNat n) (cs.map Value.int) dv) (hl : cs.length = n) (hpos : 0 < n) (hn : n ≤ 34) (hb16 : ∀ c ∈ cs, ¬ c < 0 ∧ ¬ (65535 : Int32) < c) (EX : Exa Z h0 x "java/lang/String") (FV : Fld Z h0 x "java/lang/String" "value" "[B" v0) (FC : Fld Z h0 x "java/lang/String" "coder" "B" c0) :
    Ct l yq5 jdk_42_method_3_code 2 none ({ frames := 5, cells := 2, slots := 102, locals := 74 } : Room) Z #[(.ref x), (.ref a)] h0 (fun v h L => v = none ∧ Fr n0 L ∧ Keep h0 h [x] ∧ StrOf Z h x cs) := by
  refine ct_of (Q := fun v h L => v = none ∧ Fr n0 L ∧ Keep h0 h [x] ∧ StrOf Z h x cs) (plainFor_of_name pn_1) ?_
  intro p e s m below meth c s₁ X0 hx hby hml hret hnm hlk hown hZ hs0 e0
  have N0 := Fr.nil n0
  rw [show entryFrame m #[(.ref x), (.ref a)] 2 = mkF m 0 #[.val (.ref x), .val (.ref a)] [] from by first | (simp [entryFrame, mkF, argsToLocals, Value.category]; done) | rfl]
  refine w_aloadN X0.here hx (hb hby d_jdk_42m_3_0) rfl rfl (pc' := 1) rfl ?_
  refine w_aloadN X0.here hx (hb hby d_jdk_42m_3_1) rfl rfl (pc' := 2) rfl ?_
  refine w_iconst X0.here hx (hb hby d_jdk_42m_3_2) (z := 0) rfl (pc' := 3) rfl ?_
  refine w_aloadN X0.here hx (hb hby d_jdk_42m_3_3) rfl rfl (pc' := 4) rfl ?_
  refine w_arraylength X0 hx hZ e0 VA (hb hby d_jdk_42m_3_4) (pc' := 5) rfl ?_
  refine w_null X0.here hx (hb hby d_jdk_42m_3_5) (pc' := 6) rfl ?_
  refine w_special X0 hx hZ (y := (⟨"java/lang/String", "<init>", "([CIILjava/lang/Void;)V"⟩ : MethodName)) rfl hown (tw hw 18 rfl) (tw hw 19 rfl) (tw hw 21 rfl) (by decide) (backC (W := 0) (rmI4 l Z a0 hw x a ka n z cs dv v0 c0 h0 n0 Z0 gx Su VA hl hpos hn hb16 EX FV FC) hZ (tw hw 21 rfl) (tw hw 2 rfl) (by decide) (by decide)) e0 (by rw [hml]; rfl) (argsL := [(.ref a), (.int (0 : Int32)), (.int (Int32.ofNat n)), .null]) (st := []) pd_7 rfl rfl rfl (Nat.le_of_ble_eq_true rfl) (hb hby d_jdk_42m_3_6) (by decide) (by decide) (pc' := 9) rfl ?_
  intro T24 v24 L24 X24 Q24
  obtain ⟨rfl, N1, K1, G1⟩ := Q24
  show Go _ _ _ _ T24 (mkF m 9 _ [])
  have N2 := Fr.app N0 N1
  exact endV X24 hx hlk hret (hb hby d_jdk_42m_3_9) (by decide) (by decide) (⟨rfl, N2, K1, G1⟩)
theorem d_jdk_43m_3_0 : decode jdk_43_method_3_code 0 = .ok (.iload_n 0, 1) := by decide +kernel
theorem d_jdk_43m_3_1 : decode jdk_43_method_3_code 1 = .ok (.sipush 255, 3) := by decide +kernel
theorem d_jdk_43m_3_4 : decode jdk_43_method_3_code 4 = .ok (.if_icmp .gt 7, 3) := by decide +kernel
theorem d_jdk_43m_3_11 : decode jdk_43_method_3_code 11 = .ok (.iconst 0, 1) := by decide +kernel
theorem d_jdk_43m_3_12 : decode jdk_43_method_3_code 12 = .ok (.ireturn, 1) := by decide +kernel
theorem d_jdk_43m_3_7 : decode jdk_43_method_3_code 7 = .ok (.iconst 1, 1) := by decide +kernel
theorem d_jdk_43m_3_8 : decode jdk_43_method_3_code 8 = .ok (.goto 4, 3) := by decide +kernel
theorem pn_2 : plainName "java/lang/StringLatin1" = true := by first | (simp [plainName, overriddenIn]; done) | decide +kernel
set_option maxRecDepth 65536 in
set_option maxHeartbeats 40000000 in
theorem rmCan (l : Launch) (Z : State) (a0 : Array Value) (hw : ∀ d ∈ tables_1, d.before a0 Z = true) (c1 : Int32) (h0 : Heap) :
    Ct l (⟨"java/lang/StringLatin1", "canEncode", "(C)Z"⟩ : MethodName) jdk_43_method_3_code 1 (some .boolean) ({ frames := 0, cells := 0, slots := 0, locals := 0 } : Room) Z #[(.int c1)] h0 (fun v h L => v = some (.int (if (255 : Int32) < c1 then 0 else 1)) ∧ L = [] ∧ h = h0) := by
  refine ct_of (Q := fun v h L => v = some (.int (if (255 : Int32) < c1 then 0 else 1)) ∧ L = [] ∧ h = h0) (plainFor_of_name pn_2) ?_
  intro p e s m below meth c s₁ X0 hx hby hml hret hnm hlk hown hZ hs0 e0
  rw [show entryFrame m #[(.int c1)] 1 = mkF m 0 #[.val (.int c1)] [] from by first | (simp [entryFrame, mkF, argsToLocals, Value.category]; done) | rfl]
  refine w_iloadN X0.here hx (hb hby d_jdk_43m_3_0) rfl (pc' := 1) rfl ?_
  refine w_sipush X0.here hx (hb hby d_jdk_43m_3_1) (z := 255) rfl (pc' := 4) rfl ?_
  by_cases q : (255 : Int32) < c1
  · refine w_icmpYes X0.here hx (hb hby d_jdk_43m_3_4) (tlt (show (255 : Int32) < c1 from q)).2.2.1 (pc' := 11) (by decide) (by decide) ?_
    refine w_iconst X0.here hx (hb hby d_jdk_43m_3_11) (z := 0) rfl (pc' := 12) rfl ?_
    exact endZ X0 hx hlk hret (by simp) (hb hby d_jdk_43m_3_12) (show nar .boolean (0 : Int32) = (0 : Int32) from rfl) (by decide) (by decide) (by rw [e0]; exact ⟨by rw [if_pos q], rfl, rfl⟩)
  · refine w_icmpNo X0.here hx (hb hby d_jdk_43m_3_4) (flt (show ¬ ((255 : Int32) < c1) from q)).2.2.1 (pc' := 7) rfl ?_
    refine w_iconst X0.here hx (hb hby d_jdk_43m_3_7) (z := 1) rfl (pc' := 8) rfl ?_
    refine w_goto X0.here hx (hb hby d_jdk_43m_3_8) (pc' := 12) (by decide) (by decide) ?_
    exact endZ X0 hx hlk hret (by simp) (hb hby d_jdk_43m_3_12) (show nar .boolean (1 : Int32) = (1 : Int32) from rfl) (by decide) (by decide) (by rw [e0]; exact ⟨by rw [if_neg q], rfl, rfl⟩)
theorem d_jdk_43m_46_0 : decode jdk_43_method_46_code 0 = .ok (.iconst 1, 1) := by decide +kernel
theorem d_jdk_43m_46_1 : decode jdk_43_method_46_code 1 = .ok (.newarray .byte, 2) := by decide +kernel
theorem d_jdk_43m_46_3 : decode jdk_43_method_46_code 3 = .ok (.dup, 1) := by decide +kernel
theorem d_jdk_43m_46_4 : decode jdk_43_method_46_code 4 = .ok (.iconst 0, 1) := by decide +kernel
theorem d_jdk_43m_46_5 : decode jdk_43_method_46_code 5 = .ok (.iload_n 0, 1) := by decide +kernel
theorem d_jdk_43m_46_6 : decode jdk_43_method_46_code 6 = .ok (.i2b, 1) := by decide +kernel
theorem d_jdk_43m_46_7 : decode jdk_43_method_46_code 7 = .ok (.bastore, 1) := by decide +kernel
theorem d_jdk_43m_46_8 : decode jdk_43_method_46_code 8 = .ok (.areturn, 1) := by decide +kernel
set_option maxRecDepth 65536 in
set_option maxHeartbeats 40000000 in
theorem rmTB1 (l : Launch) (Z : State) (a0 : Array Value) (hw : ∀ d ∈ tables_1, d.before a0 Z = true) (c1 : Int32) (h0 : Heap) (n0 : Nat) (Z0 : n0 ≤ h0.size) :
    Ct l (⟨"java/lang/StringLatin1", "toBytes", "(C)[B"⟩ : MethodName) jdk_43_method_46_code 1 (some (.array .byte)) ({ frames := 0, cells := 1, slots := 1, locals := 0 } : Room) Z #[(.int c1)] h0 (fun v h L => ∃ b kb, v = some (.ref b) ∧ Fr n0 L ∧ Ext h0 h ∧ h0.size ≤ b ∧ Arv Z h b kb .byte 1 [.int (StrChars.lo8 c1)] (.int 0)) := by
  refine ct_of (Q := fun v h L => ∃ b kb, v = some (.ref b) ∧ Fr n0 L ∧ Ext h0 h ∧ h0.size ≤ b ∧ Arv Z h b kb .byte 1 [.int (StrChars.lo8 c1)] (.int 0)) (plainFor_of_name pn_2) ?_
  intro p e s m below meth c s₁ X0 hx hby hml hret hnm hlk hown hZ hs0 e0
  have N0 := Fr.nil n0
  rw [show entryFrame m #[(.int c1)] 1 = mkF m 0 #[.val (.int c1)] [] from by first | (simp [entryFrame, mkF, argsToLocals, Value.category]; done) | rfl]
  refine w_iconst X0.here hx (hb hby d_jdk_43m_46_0) (z := 1) rfl (pc' := 1) rfl ?_
  refine w_newarray X0 hx hZ (ty := .byte) (dv := (.int 0)) rfl rfl (tw hw 4 rfl) e0 (n := (1 : Int32)) (hb hby d_jdk_43m_46_1) (by decide) (cap := 1) (by decide) (by decide) (by decide) (by decide) (pc' := 3) rfl ?_
  intro T25 h25 b kb gb X25 e25 E25 V
  have ge_b_h0 : h0.size ≤ b := Nat.le_trans (Ext.rfl' : Ext h0 h0).1 (Nat.le_of_eq gb)
  have C26 : Ext h0 h25 := Ext.trs Ext.rfl' E25
  have gb : n0 ≤ b := Nat.le_trans Z0 ge_b_h0
  refine w_dup X25.here hx (hb hby d_jdk_43m_46_3) rfl (pc' := 4) rfl ?_
  refine w_iconst X25.here hx (hb hby d_jdk_43m_46_4) (z := 0) rfl (pc' := 5) rfl ?_
  refine w_iloadN X25.here hx (hb hby d_jdk_43m_46_5) rfl (pc' := 6) rfl ?_
  refine w_i2b X25.here hx (hb hby d_jdk_43m_46_6) (pc' := 7) rfl ?_
  refine w_bastore X25 hx hZ e25 V ⟨by decide, by decide⟩ 0 rfl (Nat.le_of_ble_eq_true rfl) (hb hby d_jdk_43m_46_7) (pc' := 8) rfl ?_
  intro T27 h27 X27 e27 W27 V
  have C28 : Ext h0 h27 := Ext.wr C26 W27 ge_b_h0
  have N27 := Fr.snoc X27 N0 gb
  have V : Arv Z h27 b kb .byte 1 [.int (StrChars.lo8 c1)] (.int 0) := by have q := V; rw [show (c1.toInt8.toInt32.toInt8.toInt32) = StrChars.lo8 c1 from by simp [StrChars.lo8]] at q; exact q
  exact endR X27 hx hlk rfl hret rfl (hb hby d_jdk_43m_46_8) (by decide) (by decide) (by rw [e27]; exact ⟨b, kb, rfl, N27, C28, ge_b_h0, V⟩)
theorem d_jdk_52m_24_0 : decode jdk_52_method_24_code 0 = .ok (.iconst 2, 1) := by decide +kernel
theorem d_jdk_52m_24_1 : decode jdk_52_method_24_code 1 = .ok (.newarray .byte, 2) := by decide +kernel
theorem d_jdk_52m_24_3 : decode jdk_52_method_24_code 3 = .ok (.astore_n 1, 1) := by decide +kernel
theorem d_jdk_52m_24_4 : decode jdk_52_method_24_code 4 = .ok (.aload_n 1, 1) := by decide +kernel
theorem d_jdk_52m_24_5 : decode jdk_52_method_24_code 5 = .ok (.iconst 0, 1) := by decide +kernel
theorem d_jdk_52m_24_6 : decode jdk_52_method_24_code 6 = .ok (.iload_n 0, 1) := by decide +kernel
theorem d_jdk_52m_24_7 : decode jdk_52_method_24_code 7 = .ok (.invokestatic 111, 3) := by decide +kernel
theorem d_jdk_52m_24_10 : decode jdk_52_method_24_code 10 = .ok (.aload_n 1, 1) := by decide +kernel
theorem d_jdk_52m_24_11 : decode jdk_52_method_24_code 11 = .ok (.areturn, 1) := by decide +kernel
set_option maxRecDepth 65536 in
set_option maxHeartbeats 40000000 in
theorem rmTB2 (l : Launch) (Z : State) (a0 : Array Value) (hw : ∀ d ∈ tables_1, d.before a0 Z = true) (c1 z : Int32) (h0 : Heap) (n0 : Nat) (Z0 : n0 ≤ h0.size) (Su : SU Z h0 z) :
    Ct l (⟨"java/lang/StringUTF16", "toBytes", "(C)[B"⟩ : MethodName) jdk_52_method_24_code 2 (some (.array .byte)) ({ frames := 1, cells := 1, slots := 2, locals := 14 } : Room) Z #[(.int c1)] h0 (fun v h L => ∃ b kb, v = some (.ref b) ∧ Fr n0 L ∧ Ext h0 h ∧ h0.size ≤ b ∧ Arv Z h b kb .byte 2 [.int (StrChars.lo8 c1), .int (StrChars.hi8 c1)] (.int 0)) := by
  refine ct_of (Q := fun v h L => ∃ b kb, v = some (.ref b) ∧ Fr n0 L ∧ Ext h0 h ∧ h0.size ≤ b ∧ Arv Z h b kb .byte 2 [.int (StrChars.lo8 c1), .int (StrChars.hi8 c1)] (.int 0)) (plainFor_of_name pn_0) ?_
  intro p e s m below meth c s₁ X0 hx hby hml hret hnm hlk hown hZ hs0 e0
  have N0 := Fr.nil n0
  rw [show entryFrame m #[(.int c1)] 2 = mkF m 0 #[.val (.int c1), .unset] [] from by first | (simp [entryFrame, mkF, argsToLocals, Value.category]; done) | rfl]
  refine w_iconst X0.here hx (hb hby d_jdk_52m_24_0) (z := 2) rfl (pc' := 1) rfl ?_
  refine w_newarray X0 hx hZ (ty := .byte) (dv := (.int 0)) rfl rfl (tw hw 4 rfl) e0 (n := (2 : Int32)) (hb hby d_jdk_52m_24_1) (by decide) (cap := 2) (by decide) (by decide) (by decide) (by decide) (pc' := 3) rfl ?_
  intro T29 h29 b kb gb X29 e29 E29 V
  have ge_b_h0 : h0.size ≤ b := Nat.le_trans (Ext.rfl' : Ext h0 h0).1 (Nat.le_of_eq gb)
  have C30 : Ext h0 h29 := Ext.trs Ext.rfl' E29
  have gb : n0 ≤ b := Nat.le_trans Z0 ge_b_h0
  refine w_astoreN X29.here hx (hb hby d_jdk_52m_24_3) rfl (l' := #[.val (.int c1), .val (.ref b)]) rfl (pc' := 4) rfl ?_
  refine w_aloadN X29.here hx (hb hby d_jdk_52m_24_4) rfl rfl (pc' := 5) rfl ?_
  refine w_iconst X29.here hx (hb hby d_jdk_52m_24_5) (z := 0) rfl (pc' := 6) rfl ?_
  refine w_iloadN X29.here hx (hb hby d_jdk_52m_24_6) rfl (pc' := 7) rfl ?_
  refine w_static X29 hx hZ (y := yq15) hown (tw hw 263 rfl) (tw hw 264 rfl) (tw hw 28 rfl) (tw hw 265 rfl) (by decide) (backC (W := 0) (rmPut l Z a0 hw b kb 1 0 c1 z _ h29 n0 gb (Su.ext C30) V rfl (by decide) (by decide)) hZ (tw hw 265 rfl) (tw hw 28 rfl) (by decide) (by decide)) e29 (by rw [hml]; rfl) (argsL := [(.ref b), (.int (0 : Int32)), (.int c1)]) (st := []) pd_1 rfl rfl rfl (Nat.le_of_ble_eq_true rfl) (hb hby d_jdk_52m_24_7) (by decide) (by decide) (pc' := 10) rfl ?_
  intro T31 v31 L31 X31 Q31
  obtain ⟨rfl, N1, K1, V1⟩ := Q31
  show Go _ _ _ _ T31 (mkF m 10 _ [])
  refine w_aloadN X31.here hx (hb hby d_jdk_52m_24_10) rfl rfl (pc' := 11) rfl ?_
  exact endR X31 hx hlk rfl hret rfl (hb hby d_jdk_52m_24_11) (by decide) (by decide) (⟨b, kb, rfl, Fr.app N0 N1, Ext.kp C30 K1 (allS ge_b_h0 all0), ge_b_h0, V1⟩)
theorem d_jdk_42m_151_0 : decode jdk_42_method_151_code 0 = .ok (.aload_n 0, 1) := by decide +kernel
theorem d_jdk_42m_151_1 : decode jdk_42_method_151_code 1 = .ok (.invokespecial 1, 3) := by decide +kernel
theorem d_jdk_42m_151_4 : decode jdk_42_method_151_code 4 = .ok (.aload_n 0, 1) := by decide +kernel
theorem d_jdk_42m_151_5 : decode jdk_42_method_151_code 5 = .ok (.aload_n 1, 1) := by decide +kernel
theorem d_jdk_42m_151_6 : decode jdk_42_method_151_code 6 = .ok (.putfield 9, 3) := by decide +kernel
theorem d_jdk_42m_151_9 : decode jdk_42_method_151_code 9 = .ok (.aload_n 0, 1) := by decide +kernel
theorem d_jdk_42m_151_10 : decode jdk_42_method_151_code 10 = .ok (.iload_n 2, 1) := by decide +kernel
theorem d_jdk_42m_151_11 : decode jdk_42_method_151_code 11 = .ok (.putfield 15, 3) := by decide +kernel
theorem d_jdk_42m_151_14 : decode jdk_42_method_151_code 14 = .ok (.return_, 1) := by decide +kernel
set_option maxRecDepth 65536 in
set_option maxHeartbeats 40000000 in
theorem rmSBB (l : Launch) (Z : State) (a0 : Array Value) (hw : ∀ d ∈ tables_1, d.before a0 Z = true) (x t : Addr) (kt : ClassId) (cd N2 : Int32) (vs : List Value) (v0 c0 : Value) (h0 : Heap) (n0 : Nat) (gx : n0 ≤ x) (hcd : nar .byte cd = cd) (hcd2 : cd.toInt8.toInt32 = cd) (EX : Exa Z h0 x "java/lang/String") (FV : Fld Z h0 x "java/lang/String" "value" "[B" v0) (FC : Fld Z h0 x "java/lang/String" "coder" "B" c0) (VT : Arv Z h0 t kt .byte N2 vs (.int 0)) (ntx : t ≠ x) :
    Ct l yq24 jdk_42_method_151_code 3 none ({ frames := 1, cells := 0, slots := 0, locals := 12 } : Room) Z #[(.ref x), (.ref t), (.int cd)] h0 (fun v h L => v = none ∧ Fr n0 L ∧ Keep h0 h [x] ∧ Exa Z h x "java/lang/String" ∧ Fld Z h x "java/lang/String" "value" "[B" (.ref t) ∧ Fld Z h x "java/lang/String" "coder" "B" (.int cd) ∧ Arv Z h t kt .byte N2 vs (.int 0)) := by
  refine ct_of (Q := fun v h L => v = none ∧ Fr n0 L ∧ Keep h0 h [x] ∧ Exa Z h x "java/lang/String" ∧ Fld Z h x "java/lang/String" "value" "[B" (.ref t) ∧ Fld Z h x "java/lang/String" "coder" "B" (.int cd) ∧ Arv Z h t kt .byte N2 vs (.int 0)) (plainFor_of_name pn_1) ?_
  intro p e s m below meth c s₁ X0 hx hby hml hret hnm hlk hown hZ hs0 e0
  have N0 := Fr.nil n0
  rw [show entryFrame m #[(.ref x), (.ref t), (.int cd)] 3 = mkF m 0 #[.val (.ref x), .val (.ref t), .val (.int cd)] [] from by first | (simp [entryFrame, mkF, argsToLocals, Value.category]; done) | rfl]
  refine w_aloadN X0.here hx (hb hby d_jdk_42m_151_0) rfl rfl (pc' := 1) rfl ?_
  refine w_initO X0 hx hZ hown (tw hw 22 rfl) (tw hw 23 rfl) (tw hw 24 rfl) e0 (by rw [hml]; rfl) (hb hby d_jdk_42m_151_1) (by decide) (W := 0) (Nat.le_of_ble_eq_true rfl) (by decide) (pc' := 4) rfl ?_
  intro T32 X32 e32
  refine w_aloadN X32.here hx (hb hby d_jdk_42m_151_4) rfl rfl (pc' := 5) rfl ?_
  refine w_aloadN X32.here hx (hb hby d_jdk_42m_151_5) rfl rfl (pc' := 6) rfl ?_
  refine w_putF X32 hx hZ hown (tw hw 37 rfl) Via.refl e32 FV EX (Or.inr ⟨(tw hw 5 rfl), rfl, hnm⟩) (tw hw 3 rfl) (ty := (.array .byte)) (by decide) rfl rfl (hb hby d_jdk_42m_151_6) (pc' := 9) rfl ?_
  intro T33 h33 X33 e33 W33
  have N1 := Fr.snoc X33 N0 gx
  have EX1 := EX.wr W33
  have FV1 := Fld.same W33 FV
  have FC1 := FC.other W33 (Or.inr (slot_ne (Or.inr (tw hw 6 rfl)) (Or.inr (tw hw 5 rfl)) (by decide) (t := .byte) (t' := (.array .byte)) (by decide) (by decide)))
  have VT1 := VT.other W33 ntx
  refine w_aloadN X33.here hx (hb hby d_jdk_42m_151_9) rfl rfl (pc' := 10) rfl ?_
  refine w_iloadN X33.here hx (hb hby d_jdk_42m_151_10) rfl (pc' := 11) rfl ?_
  refine w_putF X33 hx hZ hown (tw hw 36 rfl) Via.refl e33 FC1 EX1 (Or.inr ⟨(tw hw 6 rfl), rfl, hnm⟩) (tw hw 3 rfl) (ty := .byte) (by decide) (by show narrow .byte _ = _; simp only [narrow]; rw [hcd2]) (by rw [← hcd]; exact fits_nar_byte _) (hb hby d_jdk_42m_151_11) (pc' := 14) rfl ?_
  intro Ta ha Xa ea Wa
  have N2 := Fr.snoc Xa N1 gx
  exact endV Xa hx hlk hret (hb hby d_jdk_42m_151_14) (by decide) (by decide) (by rw [ea]; exact ⟨rfl, N2, (Keep.of_wr W33).wr Wa (Or.inl (List.mem_cons_self ..)), EX1.wr Wa, FV1.other Wa (Or.inr (slot_ne (Or.inr (tw hw 5 rfl)) (Or.inr (tw hw 6 rfl)) (by decide) (t := (.array .byte)) (t' := .byte) (by decide) (by decide))), Fld.same Wa FC1, VT1.other Wa ntx⟩)
theorem d_jdk_42m_139_0 : decode jdk_42_method_139_code 0 = .ok (.getstatic 38, 3) := by decide +kernel
theorem d_jdk_42m_139_3 : decode jdk_42_method_139_code 3 = .ok (.ifCond .eq 23, 3) := by decide +kernel
theorem d_jdk_42m_139_6 : decode jdk_42_method_139_code 6 = .ok (.iload_n 0, 1) := by decide +kernel
theorem pd_8 : parseMethodDescriptor "(C)Z" = some ⟨[.char], some .boolean⟩ := by decide +kernel
theorem d_jdk_42m_139_7 : decode jdk_42_method_139_code 7 = .ok (.invokestatic 1015, 3) := by decide +kernel
theorem d_jdk_42m_139_10 : decode jdk_42_method_139_code 10 = .ok (.ifCond .eq 16, 3) := by decide +kernel
theorem d_jdk_42m_139_26 : decode jdk_42_method_139_code 26 = .ok (.new 10, 3) := by decide +kernel
theorem d_jdk_42m_139_29 : decode jdk_42_method_139_code 29 = .ok (.dup, 1) := by decide +kernel
theorem d_jdk_42m_139_30 : decode jdk_42_method_139_code 30 = .ok (.iload_n 0, 1) := by decide +kernel
theorem pd_9 : parseMethodDescriptor "(C)[B" = some ⟨[.char], some (.array .byte)⟩ := by decide +kernel
theorem d_jdk_42m_139_31 : decode jdk_42_method_139_code 31 = .ok (.invokestatic 1021, 3) := by decide +kernel
theorem d_jdk_42m_139_34 : decode jdk_42_method_139_code 34 = .ok (.iconst 1, 1) := by decide +kernel
theorem pd_10 : parseMethodDescriptor "([BB)V" = some ⟨[(.array .byte), .byte], none⟩ := by decide +kernel
theorem d_jdk_42m_139_35 : decode jdk_42_method_139_code 35 = .ok (.invokespecial 209, 3) := by decide +kernel
theorem d_jdk_42m_139_38 : decode jdk_42_method_139_code 38 = .ok (.areturn, 1) := by decide +kernel
theorem d_jdk_42m_139_13 : decode jdk_42_method_139_code 13 = .ok (.new 10, 3) := by decide +kernel
theorem d_jdk_42m_139_16 : decode jdk_42_method_139_code 16 = .ok (.dup, 1) := by decide +kernel
theorem d_jdk_42m_139_17 : decode jdk_42_method_139_code 17 = .ok (.iload_n 0, 1) := by decide +kernel
theorem d_jdk_42m_139_18 : decode jdk_42_method_139_code 18 = .ok (.invokestatic 1018, 3) := by decide +kernel
theorem d_jdk_42m_139_21 : decode jdk_42_method_139_code 21 = .ok (.iconst 0, 1) := by decide +kernel
theorem d_jdk_42m_139_22 : decode jdk_42_method_139_code 22 = .ok (.invokespecial 209, 3) := by decide +kernel
theorem d_jdk_42m_139_25 : decode jdk_42_method_139_code 25 = .ok (.areturn, 1) := by decide +kernel
set_option maxRecDepth 65536 in
set_option maxHeartbeats 40000000 in
theorem rmVof (l : Launch) (Z : State) (a0 : Array Value) (hw : ∀ d ∈ tables_1, d.before a0 Z = true) (c1 z : Int32) (h0 : Heap) (n0 : Nat) (Z0 : n0 ≤ h0.size) (Su : SU Z h0 z) (hc : ¬ c1 < 0 ∧ ¬ (65535 : Int32) < c1) :
    Ct l (⟨"java/lang/String", "valueOf", "(C)Ljava/lang/String;"⟩ : MethodName) jdk_42_method_139_code 1 (some (.object "java/lang/String")) ({ frames := 2, cells := 2, slots := 6, locals := 29 } : Room) Z #[(.int c1)] h0 (fun v h L => ∃ x, v = some (.ref x) ∧ Fr n0 L ∧ Ext h0 h ∧ StrOf Z h x [c1]) := by
  refine ct_of (Q := fun v h L => ∃ x, v = some (.ref x) ∧ Fr n0 L ∧ Ext h0 h ∧ StrOf Z h x [c1]) (plainFor_of_name pn_1) ?_
  intro p e s m below meth c s₁ X0 hx hby hml hret hnm hlk hown hZ hs0 e0
  have N0 := Fr.nil n0
  rw [show entryFrame m #[(.int c1)] 1 = mkF m 0 #[.val (.int c1)] [] from by first | (simp [entryFrame, mkF, argsToLocals, Value.category]; done) | rfl]
  refine w_getS X0 hx hZ hown (tw hw 25 rfl) Via.refl e0 Su.1 (hb hby d_jdk_42m_139_0) (pc' := 3) rfl ?_
  intro T34 X34 e34
  refine w_ifNo X34.here hx (hb hby d_jdk_42m_139_3) (feq (show ¬ (z = (0 : Int32)) from Su.2.1)).1 (pc' := 6) rfl ?_
  refine w_iloadN X34.here hx (hb hby d_jdk_42m_139_6) rfl (pc' := 7) rfl ?_
  refine w_static X34 hx hZ (y := (⟨"java/lang/StringLatin1", "canEncode", "(C)Z"⟩ : MethodName)) hown (tw hw 304 rfl) (tw hw 305 rfl) (tw hw 250 rfl) (tw hw 306 rfl) (by decide) (backC (W := 0) (rmCan l Z a0 hw c1 h0) hZ (tw hw 306 rfl) (tw hw 250 rfl) (by decide) (by decide)) e34 (by rw [hml]; rfl) (argsL := [(.int c1)]) (st := []) pd_8 rfl rfl rfl (Nat.le_of_ble_eq_true rfl) (hb hby d_jdk_42m_139_7) (by decide) (by decide) (pc' := 10) rfl ?_
  intro T35 v35 L35 X35 Q35
  obtain ⟨rfl, rfl, hh⟩ := Q35
  show Go _ _ _ _ T35 (mkF m 10 _ [(.int (if (255 : Int32) < c1 then 0 else 1))])
  rw [List.append_nil] at X35
  by_cases q : (255 : Int32) < c1
  · rw [if_pos q]
    show Go _ _ _ _ T35 (mkF m 10 _ [(.int (0 : Int32))])
    refine w_ifYes X35.here hx (hb hby d_jdk_42m_139_10) (teq (show (0 : Int32) = (0 : Int32) from by decide)).1 (pc' := 26) (by decide) (by decide) ?_
    refine w_new X35 hx hZ hown (tw hw 247 rfl) (tw hw 3 rfl) (tw hw 2 rfl) hh (hb hby d_jdk_42m_139_26) (by decide) (by decide) (pc' := 29) rfl ?_
    intro T36 h36 x gx X36 e36 E36 A36 D36 U36
    have ge_x_h0 : h0.size ≤ x := Nat.le_trans (Ext.rfl' : Ext h0 h0).1 (Nat.le_of_eq gx)
    have C37 : Ext h0 h36 := Ext.trs Ext.rfl' E36
    have gx : n0 ≤ x := Nat.le_trans Z0 ge_x_h0
    have FV : Fld Z h36 x "java/lang/String" "value" "[B" .null := D36 (Or.inr (tw hw 5 rfl)) (ty := (.array .byte)) (by decide)
    have FC : Fld Z h36 x "java/lang/String" "coder" "B" (.int (0 : Int32)) := D36 (Or.inr (tw hw 6 rfl)) (ty := .byte) (by decide)
    refine w_dup X36.here hx (hb hby d_jdk_42m_139_29) rfl (pc' := 30) rfl ?_
    refine w_iloadN X36.here hx (hb hby d_jdk_42m_139_30) rfl (pc' := 31) rfl ?_
    refine w_static X36 hx hZ (y := (⟨"java/lang/StringUTF16", "toBytes", "(C)[B"⟩ : MethodName)) hown (tw hw 313 rfl) (tw hw 314 rfl) (tw hw 28 rfl) (tw hw 315 rfl) (by decide) (backC (W := 2) (rmTB2 l Z a0 hw c1 z h36 n0 (Nat.le_trans Z0 C37.1) (Su.ext C37)) hZ (tw hw 315 rfl) (tw hw 28 rfl) (by decide) (by decide)) e36 (by rw [hml]; rfl) (argsL := [(.int c1)]) (st := [(.ref x), (.ref x)]) pd_9 rfl rfl rfl (Nat.le_of_ble_eq_true rfl) (hb hby d_jdk_42m_139_31) (by decide) (by decide) (pc' := 34) rfl ?_
    intro T38 v38 L38 X38 Q38
    obtain ⟨t, kt, rfl, N1, E2, gt, VT⟩ := Q38
    show Go _ _ _ _ T38 (mkF m 34 _ [(.ref t), (.ref x), (.ref x)])
    have ntx : t ≠ x := Nat.ne_of_gt (Nat.lt_of_lt_of_le A36.lt gt)
    refine w_iconst X38.here hx (hb hby d_jdk_42m_139_34) (z := 1) rfl (pc' := 35) rfl ?_
    refine w_special X38 hx hZ (y := yq24) rfl hown (tw hw 310 rfl) (tw hw 311 rfl) (tw hw 312 rfl) (by decide) (backC (W := 1) (rmSBB l Z a0 hw x t kt 1 _ _ _ _ T38.heap n0 gx rfl rfl (A36.ext E2) (FV.ext E2) (FC.ext E2) VT ntx) hZ (tw hw 312 rfl) (tw hw 2 rfl) (by decide) (by decide)) rfl (by rw [hml]; rfl) (argsL := [(.ref t), (.int (1 : Int32))]) (st := [(.ref x)]) pd_10 rfl rfl rfl (Nat.le_of_ble_eq_true rfl) (hb hby d_jdk_42m_139_35) (by decide) (by decide) (pc' := 38) rfl ?_
    intro T39 v39 L39 X39 Q39
    obtain ⟨rfl, N2, K2, EX, FV2, FC2, VT2⟩ := Q39
    show Go _ _ _ _ T39 (mkF m 38 _ [(.ref x)])
    exact endR X39 hx hlk rfl hret rfl (hb hby d_jdk_42m_139_38) (by decide) (by decide) (⟨x, rfl, Fr.app (Fr.app N0 N1) N2, Ext.kp (Ext.trs C37 E2) K2 (allS ge_x_h0 all0), t, kt, 1, _, _, EX, FV2, FC2, VT2, Or.inr ⟨rfl, rfl, rfl, c1, List.mem_cons_self .., q⟩, fun d hd => by rw [List.mem_singleton.mp hd]; exact hc, Nat.le_of_ble_eq_true rfl⟩)
  · rw [if_neg q]
    show Go _ _ _ _ T35 (mkF m 10 _ [(.int (1 : Int32))])
    refine w_ifNo X35.here hx (hb hby d_jdk_42m_139_10) (feq (show ¬ ((1 : Int32) = (0 : Int32)) from by decide)).1 (pc' := 13) rfl ?_
    refine w_new X35 hx hZ hown (tw hw 247 rfl) (tw hw 3 rfl) (tw hw 2 rfl) hh (hb hby d_jdk_42m_139_13) (by decide) (by decide) (pc' := 16) rfl ?_
    intro T40 h40 x gx X40 e40 E40 A40 D40 U40
    have ge_x_h0 : h0.size ≤ x := Nat.le_trans (Ext.rfl' : Ext h0 h0).1 (Nat.le_of_eq gx)
    have C41 : Ext h0 h40 := Ext.trs Ext.rfl' E40
    have gx : n0 ≤ x := Nat.le_trans Z0 ge_x_h0
    have FV : Fld Z h40 x "java/lang/String" "value" "[B" .null := D40 (Or.inr (tw hw 5 rfl)) (ty := (.array .byte)) (by decide)
    have FC : Fld Z h40 x "java/lang/String" "coder" "B" (.int (0 : Int32)) := D40 (Or.inr (tw hw 6 rfl)) (ty := .byte) (by decide)
    refine w_dup X40.here hx (hb hby d_jdk_42m_139_16) rfl (pc' := 17) rfl ?_
    refine w_iloadN X40.here hx (hb hby d_jdk_42m_139_17) rfl (pc' := 18) rfl ?_
    refine w_static X40 hx hZ (y := (⟨"java/lang/StringLatin1", "toBytes", "(C)[B"⟩ : MethodName)) hown (tw hw 307 rfl) (tw hw 308 rfl) (tw hw 250 rfl) (tw hw 309 rfl) (by decide) (backC (W := 2) (rmTB1 l Z a0 hw c1 h40 n0 (Nat.le_trans Z0 C41.1)) hZ (tw hw 309 rfl) (tw hw 250 rfl) (by decide) (by decide)) e40 (by rw [hml]; rfl) (argsL := [(.int c1)]) (st := [(.ref x), (.ref x)]) pd_9 rfl rfl rfl (Nat.le_of_ble_eq_true rfl) (hb hby d_jdk_42m_139_18) (by decide) (by decide) (pc' := 21) rfl ?_
    intro T42 v42 L42 X42 Q42
    obtain ⟨t, kt, rfl, N1, E2, gt, VT⟩ := Q42
    show Go _ _ _ _ T42 (mkF m 21 _ [(.ref t), (.ref x), (.ref x)])
    have ntx : t ≠ x := Nat.ne_of_gt (Nat.lt_of_lt_of_le A40.lt gt)
    refine w_iconst X42.here hx (hb hby d_jdk_42m_139_21) (z := 0) rfl (pc' := 22) rfl ?_
    refine w_special X42 hx hZ (y := yq24) rfl hown (tw hw 310 rfl) (tw hw 311 rfl) (tw hw 312 rfl) (by decide) (backC (W := 1) (rmSBB l Z a0 hw x t kt 0 _ _ _ _ T42.heap n0 gx rfl rfl (A40.ext E2) (FV.ext E2) (FC.ext E2) VT ntx) hZ (tw hw 312 rfl) (tw hw 2 rfl) (by decide) (by decide)) rfl (by rw [hml]; rfl) (argsL := [(.ref t), (.int (0 : Int32))]) (st := [(.ref x)]) pd_10 rfl rfl rfl (Nat.le_of_ble_eq_true rfl) (hb hby d_jdk_42m_139_22) (by decide) (by decide) (pc' := 25) rfl ?_
    intro T43 v43 L43 X43 Q43
    obtain ⟨rfl, N2, K2, EX, FV2, FC2, VT2⟩ := Q43
    show Go _ _ _ _ T43 (mkF m 25 _ [(.ref x)])
    exact endR X43 hx hlk rfl hret rfl (hb hby d_jdk_42m_139_25) (by decide) (by decide) (⟨x, rfl, Fr.app (Fr.app N0 N1) N2, Ext.kp (Ext.trs C41 E2) K2 (allS ge_x_h0 all0), t, kt, 0, _, _, EX, FV2, FC2, VT2, Or.inl ⟨rfl, rfl, rfl, fun d hd => by rw [List.mem_singleton.mp hd]; exact q⟩, fun d hd => by rw [List.mem_singleton.mp hd]; exact hc, Nat.le_of_ble_eq_true rfl⟩)

def lobs (cs : List Int32) : List Value := cs.map (fun c => Value.int (StrChars.lo8 c))
theorem lobs_len (cs : List Int32) : (lobs cs).length = cs.length := by simp [lobs]
theorem lobs_app (cs ds : List Int32) : lobs (cs ++ ds) = lobs cs ++ lobs ds := by simp [lobs]
/-- the bytes of a builder's array: the chars, then zeros -/
def padB (cs : List Int32) (N : Nat) : List Value := lobs cs ++ List.replicate (N - cs.length) (.int 0)
theorem padB_len {cs : List Int32} {N : Nat} (h : cs.length ≤ N) : (padB cs N).length = N := by simp [padB, lobs_len]; omega
theorem padB_put {cs ds : List Int32} {N : Nat} (h : cs.length + ds.length ≤ N) : (padB cs N).take cs.length ++ lobs ds ++ (padB cs N).drop (cs.length + ds.length) = padB (cs ++ ds) N := by
  have e1 : (padB cs N).take cs.length = lobs cs := by simp [padB, ← lobs_len cs]
  have e2 : (padB cs N).drop (cs.length + ds.length) = List.replicate (N - (cs.length + ds.length)) (.int 0) := by
    unfold padB
    rw [← List.drop_drop]
    rw [show cs.length = (lobs cs).length from (lobs_len cs).symm, List.drop_left, List.drop_replicate]
    congr 1; rw [lobs_len]; omega
  rw [e1, e2]; simp [padB, lobs_app]
theorem padB_take {cs : List Int32} {N : Nat} : (padB cs N).take cs.length = lobs cs := by simp [padB, ← lobs_len cs]
theorem padB_grow {cs : List Int32} (h : cs.length ≤ 16) : padB cs 16 ++ List.replicate 18 (.int 0) = padB cs 34 := by
  unfold padB
  rw [List.append_assoc, List.replicate_append_replicate]
  congr 2; omega
def LatC (cs : List Int32) : Prop := ∀ c ∈ cs, ¬ c < 0 ∧ ¬ (255 : Int32) < c
theorem LatC.app {cs ds : List Int32} (A : LatC cs) (B : LatC ds) : LatC (cs ++ ds) := fun c q => (List.mem_append.mp q).elim (A c) (B c)
def SbOf (Z : State) (h : Heap) (b t : Addr) (kt : ClassId) (cs : List Int32) (N : Nat) : Prop := Exa Z h b "java/lang/StringBuilder" ∧ Fld Z h b "java/lang/AbstractStringBuilder" "value" "[B" (.ref t) ∧ Fld Z h b "java/lang/AbstractStringBuilder" "coder" "B" (.int 0) ∧ Fld Z h b "java/lang/AbstractStringBuilder" "count" "I" (.int (Int32.ofNat cs.length)) ∧ Arv Z h t kt .byte (Int32.ofNat N) (padB cs N) (.int 0) ∧ cs.length ≤ N ∧ N ≤ 4000 ∧ LatC cs ∧ Fld Z h b "java/lang/AbstractStringBuilder" "maybeLatin1" "Z" (.int 0)
theorem SbOf.ext {Z : State} {h h' : Heap} {b t : Addr} {kt : ClassId} {cs : List Int32} {N : Nat} (F : SbOf Z h b t kt cs N) (E : Ext h h') : SbOf Z h' b t kt cs N := ⟨F.1.ext E, F.2.1.ext E, F.2.2.1.ext E, F.2.2.2.1.ext E, F.2.2.2.2.1.ext E, F.2.2.2.2.2.1, F.2.2.2.2.2.2.1, F.2.2.2.2.2.2.2.1, F.2.2.2.2.2.2.2.2.ext E⟩
theorem SbOf.keep {Z : State} {h h' : Heap} {b t : Addr} {kt : ClassId} {cs : List Int32} {N : Nat} {ws : List Addr} (F : SbOf Z h b t kt cs N) (K : Keep h h' ws) (q1 : b ∉ ws) (q2 : t ∉ ws) : SbOf Z h' b t kt cs N := ⟨F.1.keep K, F.2.1.keep K q1, F.2.2.1.keep K q1, F.2.2.2.1.keep K q1, F.2.2.2.2.1.keep K q2, F.2.2.2.2.2.1, F.2.2.2.2.2.2.1, F.2.2.2.2.2.2.2.1, F.2.2.2.2.2.2.2.2.keep K q1⟩
/-- a String of Latin1 chars -/
def LstOf (Z : State) (h : Heap) (x u : Addr) (ku : ClassId) (cs : List Int32) : Prop := Exa Z h x "java/lang/String" ∧ Fld Z h x "java/lang/String" "value" "[B" (.ref u) ∧ Fld Z h x "java/lang/String" "coder" "B" (.int 0) ∧ Arv Z h u ku .byte (Int32.ofNat cs.length) (lobs cs) (.int 0) ∧ cs.length ≤ 4000 ∧ LatC cs
theorem LstOf.str {Z : State} {h : Heap} {x u : Addr} {ku : ClassId} {cs : List Int32} (F : LstOf Z h x u ku cs) : StrOf Z h x cs := by
  obtain ⟨a, b, c, d, e, f⟩ := F
  exact ⟨u, ku, 0, _, _, a, b, c, d, Or.inl ⟨rfl, rfl, rfl, fun q r => (f q r).2⟩, fun q r => ⟨(f q r).1, fun g => (f q r).2 (by rw [Int32.lt_iff_toInt_lt] at g ⊢; exact Int.lt_trans (by decide) g)⟩, e⟩
theorem LstOf.of {Z : State} {h : Heap} {x : Addr} {cs : List Int32} (F : StrOf Z h x cs) (hl : LatC cs) : ∃ u ku, LstOf Z h x u ku cs := by
  obtain ⟨t, kb, cd, N2, vs, a, b, c, d, e, f, g⟩ := F
  rcases e with ⟨rfl, rfl, rfl, -⟩ | ⟨-, -, -, q, hq, r⟩
  · exact ⟨t, kb, a, b, c, d, g, hl⟩
  · exact absurd r (hl q hq).2
theorem LstOf.ext {Z : State} {h h' : Heap} {x u : Addr} {ku : ClassId} {cs : List Int32} (F : LstOf Z h x u ku cs) (E : Ext h h') : LstOf Z h' x u ku cs := ⟨F.1.ext E, F.2.1.ext E, F.2.2.1.ext E, F.2.2.2.1.ext E, F.2.2.2.2⟩
theorem LstOf.keep {Z : State} {h h' : Heap} {x u : Addr} {ku : ClassId} {cs : List Int32} {ws : List Addr} (F : LstOf Z h x u ku cs) (K : Keep h h' ws) (q1 : x ∉ ws) (q2 : u ∉ ws) : LstOf Z h' x u ku cs := ⟨F.1.keep K, F.2.1.keep K q1, F.2.2.1.keep K q1, F.2.2.2.1.keep K q2, F.2.2.2.2⟩

theorem d_jdk_42m_152_0 : decode jdk_42_method_152_code 0 = .ok (.getstatic 38, 3) := by decide +kernel
theorem d_jdk_42m_152_3 : decode jdk_42_method_152_code 3 = .ok (.ifCond .eq 10, 3) := by decide +kernel
theorem d_jdk_42m_152_6 : decode jdk_42_method_152_code 6 = .ok (.aload_n 0, 1) := by decide +kernel
theorem d_jdk_42m_152_7 : decode jdk_42_method_152_code 7 = .ok (.getfield 15, 3) := by decide +kernel
theorem d_jdk_42m_152_10 : decode jdk_42_method_152_code 10 = .ok (.goto 4, 3) := by decide +kernel
theorem d_jdk_42m_152_14 : decode jdk_42_method_152_code 14 = .ok (.ireturn, 1) := by decide +kernel
set_option maxRecDepth 65536 in
set_option maxHeartbeats 40000000 in
theorem rmCoder (l : Launch) (Z : State) (a0 : Array Value) (hw : ∀ d ∈ tables_1, d.before a0 Z = true) (x : Addr) (z cd : Int32) (h0 : Heap) (SC : Sta Z h0 "java/lang/String" "COMPACT_STRINGS" "Z" (.int z)) (hz : ¬ z = 0) (F : Fld Z h0 x "java/lang/String" "coder" "B" (.int cd)) (hcd : nar .byte cd = cd) :
    Ct l yq0 jdk_42_method_152_code 1 (some .byte) ({ frames := 0, cells := 0, slots := 0, locals := 0 } : Room) Z #[(.ref x)] h0 (fun v h L => v = some (.int cd) ∧ L = [] ∧ h = h0) := by
  refine ct_of (Q := fun v h L => v = some (.int cd) ∧ L = [] ∧ h = h0) (plainFor_of_name pn_1) ?_
  intro p e s m below meth c s₁ X0 hx hby hml hret hnm hlk hown hZ hs0 e0
  rw [show entryFrame m #[(.ref x)] 1 = mkF m 0 #[.val (.ref x)] [] from by first | (simp [entryFrame, mkF, argsToLocals, Value.category]; done) | rfl]
  refine w_getS X0 hx hZ hown (tw hw 25 rfl) Via.refl e0 SC (hb hby d_jdk_42m_152_0) (pc' := 3) rfl ?_
  intro T44 X44 e44
  refine w_ifNo X44.here hx (hb hby d_jdk_42m_152_3) (feq (show ¬ (z = (0 : Int32)) from hz)).1 (pc' := 6) rfl ?_
  refine w_aloadN X44.here hx (hb hby d_jdk_42m_152_6) rfl rfl (pc' := 7) rfl ?_
  refine w_getF X44 hx hZ hown (tw hw 36 rfl) Via.refl e44 F (hb hby d_jdk_42m_152_7) (pc' := 10) rfl ?_
  intro T45 X45 e45
  refine w_goto X45.here hx (hb hby d_jdk_42m_152_10) (pc' := 14) (by decide) (by decide) ?_
  exact endZ X45 hx hlk hret (by simp) (hb hby d_jdk_42m_152_14) (hcd) (by decide) (by decide) (by rw [e45]; exact ⟨rfl, rfl, rfl⟩)
theorem d_jdk_68m_6_0 : decode jdk_68_method_6_code 0 = .ok (.aload_n 0, 1) := by decide +kernel
theorem d_jdk_68m_6_1 : decode jdk_68_method_6_code 1 = .ok (.getfield 79, 3) := by decide +kernel
theorem d_jdk_68m_6_4 : decode jdk_68_method_6_code 4 = .ok (.ireturn, 1) := by decide +kernel
theorem pn_3 : plainName "java/lang/AbstractStringBuilder" = true := by first | (simp [plainName, overriddenIn]; done) | decide +kernel
set_option maxRecDepth 65536 in
set_option maxHeartbeats 40000000 in
theorem rmLenA (l : Launch) (Z : State) (a0 : Array Value) (hw : ∀ d ∈ tables_1, d.before a0 Z = true) (b t : Addr) (kt : ClassId) (cs : List Int32) (N : Nat) (h0 : Heap) (B : SbOf Z h0 b t kt cs N) :
    Ct l yq6 jdk_68_method_6_code 1 (some .int) ({ frames := 0, cells := 0, slots := 0, locals := 0 } : Room) Z #[(.ref b)] h0 (fun v h L => v = some (.int (Int32.ofNat cs.length)) ∧ L = [] ∧ h = h0) := by
  refine ct_of (Q := fun v h L => v = some (.int (Int32.ofNat cs.length)) ∧ L = [] ∧ h = h0) (plainFor_of_name pn_3) ?_
  intro p e s m below meth c s₁ X0 hx hby hml hret hnm hlk hown hZ hs0 e0
  rw [show entryFrame m #[(.ref b)] 1 = mkF m 0 #[.val (.ref b)] [] from by first | (simp [entryFrame, mkF, argsToLocals, Value.category]; done) | rfl]
  refine w_aloadN X0.here hx (hb hby d_jdk_68m_6_0) rfl rfl (pc' := 1) rfl ?_
  refine w_getF X0 hx hZ hown (tw hw 83 rfl) Via.refl e0 B.2.2.2.1 (hb hby d_jdk_68m_6_1) (pc' := 4) rfl ?_
  intro T46 X46 e46
  exact endI X46 hx hlk hret (hb hby d_jdk_68m_6_4) (by decide) (by decide) (by rw [e46]; exact ⟨rfl, rfl, rfl⟩)
theorem d_jdk_67m_93_0 : decode jdk_67_method_93_code 0 = .ok (.aload_n 0, 1) := by decide +kernel
theorem pd_11 : parseMethodDescriptor "()I" = some ⟨[], some .int⟩ := by decide +kernel
theorem d_jdk_67m_93_1 : decode jdk_67_method_93_code 1 = .ok (.invokespecial 343, 3) := by decide +kernel
theorem d_jdk_67m_93_4 : decode jdk_67_method_93_code 4 = .ok (.ireturn, 1) := by decide +kernel
theorem pn_4 : plainName "java/lang/StringBuilder" = true := by first | (simp [plainName, overriddenIn]; done) | decide +kernel
set_option maxRecDepth 65536 in
set_option maxHeartbeats 40000000 in
theorem rmLenS (l : Launch) (Z : State) (a0 : Array Value) (hw : ∀ d ∈ tables_1, d.before a0 Z = true) (b t : Addr) (kt : ClassId) (cs : List Int32) (N : Nat) (h0 : Heap) (B : SbOf Z h0 b t kt cs N) :
    Ct l yq16 jdk_67_method_93_code 1 (some .int) ({ frames := 1, cells := 0, slots := 0, locals := 12 } : Room) Z #[(.ref b)] h0 (fun v h L => v = some (.int (Int32.ofNat cs.length)) ∧ L = [] ∧ h = h0) := by
  refine ct_of (Q := fun v h L => v = some (.int (Int32.ofNat cs.length)) ∧ L = [] ∧ h = h0) (plainFor_of_name pn_4) ?_
  intro p e s m below meth c s₁ X0 hx hby hml hret hnm hlk hown hZ hs0 e0
  rw [show entryFrame m #[(.ref b)] 1 = mkF m 0 #[.val (.ref b)] [] from by first | (simp [entryFrame, mkF, argsToLocals, Value.category]; done) | rfl]
  refine w_aloadN X0.here hx (hb hby d_jdk_67m_93_0) rfl rfl (pc' := 1) rfl ?_
  refine w_super X0 hx hZ (y := yq6) hown (tw hw 156 rfl) (own_same (tw hw 152 rfl) (by decide) (tw hw 88 rfl) rfl) (tw hw 152 rfl) (tw hw 70 rfl) (tw hw 157 rfl) (by decide) (backC (W := 0) (rmLenA l Z a0 hw b t kt cs N h0 B) hZ (tw hw 157 rfl) (tw hw 54 rfl) (by decide) (by decide)) e0 (Ins.self B.1) (by rw [hml]; rfl) (argsL := []) (st := []) pd_11 rfl rfl rfl (Nat.le_of_ble_eq_true rfl) (hb hby d_jdk_67m_93_1) (by decide) (by decide) (pc' := 4) rfl ?_
  intro T47 v47 L47 X47 Q47
  obtain ⟨rfl, rfl, hh⟩ := Q47
  show Go _ _ _ _ T47 (mkF m 4 _ [(.int (Int32.ofNat cs.length))])
  exact endI X47 hx hlk hret (hb hby d_jdk_67m_93_4) (by decide) (by decide) (⟨rfl, rfl, hh⟩)
theorem d_jdk_68m_64_0 : decode jdk_68_method_64_code 0 = .ok (.aload_n 0, 1) := by decide +kernel
theorem d_jdk_68m_64_1 : decode jdk_68_method_64_code 1 = .ok (.getfield 15, 3) := by decide +kernel
theorem d_jdk_68m_64_4 : decode jdk_68_method_64_code 4 = .ok (.areturn, 1) := by decide +kernel
set_option maxRecDepth 65536 in
set_option maxHeartbeats 40000000 in
theorem rmGetV (l : Launch) (Z : State) (a0 : Array Value) (hw : ∀ d ∈ tables_1, d.before a0 Z = true) (b t : Addr) (kt : ClassId) (cs : List Int32) (N : Nat) (h0 : Heap) (B : SbOf Z h0 b t kt cs N) :
    Ct l yq7 jdk_68_method_64_code 1 (some (.array .byte)) ({ frames := 0, cells := 0, slots := 0, locals := 0 } : Room) Z #[(.ref b)] h0 (fun v h L => v = some (.ref t) ∧ L = [] ∧ h = h0) := by
  refine ct_of (Q := fun v h L => v = some (.ref t) ∧ L = [] ∧ h = h0) (plainFor_of_name pn_3) ?_
  intro p e s m below meth c s₁ X0 hx hby hml hret hnm hlk hown hZ hs0 e0
  rw [show entryFrame m #[(.ref b)] 1 = mkF m 0 #[.val (.ref b)] [] from by first | (simp [entryFrame, mkF, argsToLocals, Value.category]; done) | rfl]
  refine w_aloadN X0.here hx (hb hby d_jdk_68m_64_0) rfl rfl (pc' := 1) rfl ?_
  refine w_getF X0 hx hZ hown (tw hw 58 rfl) Via.refl e0 B.2.1 (hb hby d_jdk_68m_64_1) (pc' := 4) rfl ?_
  intro T48 X48 e48
  exact endR X48 hx hlk rfl hret rfl (hb hby d_jdk_68m_64_4) (by decide) (by decide) (by rw [e48]; exact ⟨rfl, rfl, rfl⟩)
theorem d_jdk_68m_68_0 : decode jdk_68_method_68_code 0 = .ok (.getstatic 18, 3) := by decide +kernel
theorem d_jdk_68m_68_3 : decode jdk_68_method_68_code 3 = .ok (.ifCond .eq 14, 3) := by decide +kernel
theorem d_jdk_68m_68_6 : decode jdk_68_method_68_code 6 = .ok (.aload_n 0, 1) := by decide +kernel
theorem d_jdk_68m_68_7 : decode jdk_68_method_68_code 7 = .ok (.getfield 22, 3) := by decide +kernel
theorem d_jdk_68m_68_10 : decode jdk_68_method_68_code 10 = .ok (.ifCond .ne 7, 3) := by decide +kernel
theorem d_jdk_68m_68_13 : decode jdk_68_method_68_code 13 = .ok (.iconst 1, 1) := by decide +kernel
theorem d_jdk_68m_68_14 : decode jdk_68_method_68_code 14 = .ok (.goto 4, 3) := by decide +kernel
theorem d_jdk_68m_68_18 : decode jdk_68_method_68_code 18 = .ok (.ireturn, 1) := by decide +kernel
set_option maxRecDepth 65536 in
set_option maxHeartbeats 40000000 in
theorem rmIsL (l : Launch) (Z : State) (a0 : Array Value) (hw : ∀ d ∈ tables_1, d.before a0 Z = true) (b t : Addr) (kt : ClassId) (cs : List Int32) (N : Nat) (h0 : Heap) (B : SbOf Z h0 b t kt cs N) (z : Int32) (SC : Sta Z h0 "java/lang/String" "COMPACT_STRINGS" "Z" (.int z)) (hz : ¬ z = 0) :
    Ct l yq2 jdk_68_method_68_code 1 (some .boolean) ({ frames := 0, cells := 0, slots := 0, locals := 0 } : Room) Z #[(.ref b)] h0 (fun v h L => v = some (.int 1) ∧ L = [] ∧ h = h0) := by
  refine ct_of (Q := fun v h L => v = some (.int 1) ∧ L = [] ∧ h = h0) (plainFor_of_name pn_3) ?_
  intro p e s m below meth c s₁ X0 hx hby hml hret hnm hlk hown hZ hs0 e0
  rw [show entryFrame m #[(.ref b)] 1 = mkF m 0 #[.val (.ref b)] [] from by first | (simp [entryFrame, mkF, argsToLocals, Value.category]; done) | rfl]
  refine w_getS X0 hx hZ hown (tw hw 57 rfl) Via.refl e0 SC (hb hby d_jdk_68m_68_0) (pc' := 3) rfl ?_
  intro T49 X49 e49
  refine w_ifNo X49.here hx (hb hby d_jdk_68m_68_3) (feq (show ¬ (z = (0 : Int32)) from hz)).1 (pc' := 6) rfl ?_
  refine w_aloadN X49.here hx (hb hby d_jdk_68m_68_6) rfl rfl (pc' := 7) rfl ?_
  refine w_getF X49 hx hZ hown (tw hw 60 rfl) Via.refl e49 B.2.2.1 (hb hby d_jdk_68m_68_7) (pc' := 10) rfl ?_
  intro T50 X50 e50
  refine w_ifNo X50.here hx (hb hby d_jdk_68m_68_10) (teq (show (0 : Int32) = (0 : Int32) from rfl)).2 (pc' := 13) rfl ?_
  refine w_iconst X50.here hx (hb hby d_jdk_68m_68_13) (z := 1) rfl (pc' := 14) rfl ?_
  refine w_goto X50.here hx (hb hby d_jdk_68m_68_14) (pc' := 18) (by decide) (by decide) ?_
  exact endZ X50 hx hlk hret (by simp) (hb hby d_jdk_68m_68_18) (show nar .boolean (1 : Int32) = (1 : Int32) from rfl) (by decide) (by decide) (by rw [e50]; exact ⟨rfl, rfl, rfl⟩)
theorem d_jdk_68m_2_0 : decode jdk_68_method_2_code 0 = .ok (.aload_n 0, 1) := by decide +kernel
theorem d_jdk_68m_2_1 : decode jdk_68_method_2_code 1 = .ok (.invokespecial 3, 3) := by decide +kernel
theorem d_jdk_68m_2_4 : decode jdk_68_method_2_code 4 = .ok (.getstatic 18, 3) := by decide +kernel
theorem d_jdk_68m_2_7 : decode jdk_68_method_2_code 7 = .ok (.ifCond .eq 18, 3) := by decide +kernel
theorem d_jdk_68m_2_10 : decode jdk_68_method_2_code 10 = .ok (.aload_n 0, 1) := by decide +kernel
theorem d_jdk_68m_2_11 : decode jdk_68_method_2_code 11 = .ok (.iload_n 1, 1) := by decide +kernel
theorem d_jdk_68m_2_12 : decode jdk_68_method_2_code 12 = .ok (.newarray .byte, 2) := by decide +kernel
theorem d_jdk_68m_2_14 : decode jdk_68_method_2_code 14 = .ok (.putfield 15, 3) := by decide +kernel
theorem d_jdk_68m_2_17 : decode jdk_68_method_2_code 17 = .ok (.aload_n 0, 1) := by decide +kernel
theorem d_jdk_68m_2_18 : decode jdk_68_method_2_code 18 = .ok (.iconst 0, 1) := by decide +kernel
theorem d_jdk_68m_2_19 : decode jdk_68_method_2_code 19 = .ok (.putfield 22, 3) := by decide +kernel
theorem d_jdk_68m_2_22 : decode jdk_68_method_2_code 22 = .ok (.goto 16, 3) := by decide +kernel
theorem d_jdk_68m_2_38 : decode jdk_68_method_2_code 38 = .ok (.return_, 1) := by decide +kernel
set_option maxRecDepth 65536 in
set_option maxHeartbeats 40000000 in
theorem rmAbi (l : Launch) (Z : State) (a0 : Array Value) (hw : ∀ d ∈ tables_1, d.before a0 Z = true) (b : Addr) (z : Int32) (h0 : Heap) (n0 : Nat) (gb : n0 ≤ b) (SC : Sta Z h0 "java/lang/String" "COMPACT_STRINGS" "Z" (.int z)) (hz : ¬ z = 0) (EX : Exa Z h0 b "java/lang/StringBuilder") (FV : Fld Z h0 b "java/lang/AbstractStringBuilder" "value" "[B" .null) (FC : Fld Z h0 b "java/lang/AbstractStringBuilder" "coder" "B" (.int 0)) (FN : Fld Z h0 b "java/lang/AbstractStringBuilder" "count" "I" (.int 0)) (FX : Fld Z h0 b "java/lang/AbstractStringBuilder" "maybeLatin1" "Z" (.int 0)) :
    Ct l (⟨"java/lang/AbstractStringBuilder", "<init>", "(I)V"⟩ : MethodName) jdk_68_method_2_code 2 none ({ frames := 1, cells := 1, slots := 16, locals := 12 } : Room) Z #[(.ref b), (.int (16 : Int32))] h0 (fun v h L => v = none ∧ Fr n0 L ∧ Keep h0 h [b] ∧ ∃ t kt, h0.size ≤ t ∧ SbOf Z h b t kt [] 16) := by
  refine ct_of (Q := fun v h L => v = none ∧ Fr n0 L ∧ Keep h0 h [b] ∧ ∃ t kt, h0.size ≤ t ∧ SbOf Z h b t kt [] 16) (plainFor_of_name pn_3) ?_
  intro p e s m below meth c s₁ X0 hx hby hml hret hnm hlk hown hZ hs0 e0
  have N0 := Fr.nil n0
  rw [show entryFrame m #[(.ref b), (.int (16 : Int32))] 2 = mkF m 0 #[.val (.ref b), .val (.int (16 : Int32))] [] from by first | (simp [entryFrame, mkF, argsToLocals, Value.category]; done) | rfl]
  refine w_aloadN X0.here hx (hb hby d_jdk_68m_2_0) rfl rfl (pc' := 1) rfl ?_
  refine w_initO X0 hx hZ hown (tw hw 56 rfl) (tw hw 23 rfl) (tw hw 24 rfl) e0 (by rw [hml]; rfl) (hb hby d_jdk_68m_2_1) (by decide) (W := 0) (Nat.le_of_ble_eq_true rfl) (by decide) (pc' := 4) rfl ?_
  intro T51 X51 e51
  refine w_getS X51 hx hZ hown (tw hw 57 rfl) Via.refl e51 SC (hb hby d_jdk_68m_2_4) (pc' := 7) rfl ?_
  intro T52 X52 e52
  refine w_ifNo X52.here hx (hb hby d_jdk_68m_2_7) (feq (show ¬ (z = (0 : Int32)) from hz)).1 (pc' := 10) rfl ?_
  refine w_aloadN X52.here hx (hb hby d_jdk_68m_2_10) rfl rfl (pc' := 11) rfl ?_
  refine w_iloadN X52.here hx (hb hby d_jdk_68m_2_11) rfl (pc' := 12) rfl ?_
  refine w_newarray X52 hx hZ (ty := .byte) (dv := (.int 0)) rfl rfl (tw hw 4 rfl) e52 (n := (16 : Int32)) (hb hby d_jdk_68m_2_12) (by decide) (cap := 16) (by decide) (by decide) (by decide) (by decide) (pc' := 14) rfl ?_
  intro T53 h53 t kt gt X53 e53 E53 V
  have ge_t_h0 : h0.size ≤ t := Nat.le_trans (Ext.rfl' : Ext h0 h0).1 (Nat.le_of_eq gt)
  have C54 : Ext h0 h53 := Ext.trs Ext.rfl' E53
  have ne : t ≠ b := Nat.ne_of_gt (Nat.lt_of_lt_of_le EX.lt ge_t_h0)
  have EX1 := EX.ext C54
  have FV1 := FV.ext C54
  have FC1 := FC.ext C54
  have FN1 := FN.ext C54
  have FX1 := FX.ext C54
  refine w_putF X53 hx hZ hown (tw hw 58 rfl) Via.refl e53 FV1 EX1 (Or.inl (tw hw 59 rfl)) (tw hw 45 rfl) (ty := (.array .byte)) (by decide) rfl rfl (hb hby d_jdk_68m_2_14) (pc' := 17) rfl ?_
  intro T55 h55 X55 e55 W55
  have FX2 := FX1.other W55 (Or.inr (slot_ne (Or.inl (tw hw 300 rfl)) (Or.inl (tw hw 59 rfl)) (by decide) (t := .boolean) (t' := (.array .byte)) (by decide) (by decide)))
  have N1 := Fr.snoc X55 N0 gb
  have EX2 := EX1.wr W55
  have FV2 := Fld.same W55 FV1
  have FC2 := FC1.other W55 (Or.inr (slot_ne (Or.inl (tw hw 61 rfl)) (Or.inl (tw hw 59 rfl)) (by decide) (t := .byte) (t' := (.array .byte)) (by decide) (by decide)))
  have FN2 := FN1.other W55 (Or.inr (slot_ne (Or.inl (tw hw 84 rfl)) (Or.inl (tw hw 59 rfl)) (by decide) (t := .int) (t' := (.array .byte)) (by decide) (by decide)))
  refine w_aloadN X55.here hx (hb hby d_jdk_68m_2_17) rfl rfl (pc' := 18) rfl ?_
  refine w_iconst X55.here hx (hb hby d_jdk_68m_2_18) (z := 0) rfl (pc' := 19) rfl ?_
  refine w_putF X55 hx hZ hown (tw hw 60 rfl) Via.refl e55 FC2 EX2 (Or.inl (tw hw 61 rfl)) (tw hw 45 rfl) (ty := .byte) (by decide) rfl rfl (hb hby d_jdk_68m_2_19) (pc' := 22) rfl ?_
  intro T56 h56 X56 e56 W56
  have N2 := Fr.snoc X56 N1 gb
  refine w_goto X56.here hx (hb hby d_jdk_68m_2_22) (pc' := 38) (by decide) (by decide) ?_
  exact endV X56 hx hlk hret (hb hby d_jdk_68m_2_38) (by decide) (by decide) (by rw [e56]; exact ⟨rfl, N2, (((Keep.refl h0 [b]).ext C54).wr W55 (Or.inl (List.mem_cons_self ..))).wr W56 (Or.inl (List.mem_cons_self ..)), t, kt, ge_t_h0, EX2.wr W56, FV2.other W56 (Or.inr (slot_ne (Or.inl (tw hw 59 rfl)) (Or.inl (tw hw 61 rfl)) (by decide) (t := (.array .byte)) (t' := .byte) (by decide) (by decide))), Fld.same W56 FC2, FN2.other W56 (Or.inr (slot_ne (Or.inl (tw hw 84 rfl)) (Or.inl (tw hw 61 rfl)) (by decide) (t := .int) (t' := .byte) (by decide) (by decide))), (V.other W55 ne).other W56 ne, by decide, by decide, (fun c q => nomatch q), FX2.other W56 (Or.inr (slot_ne (Or.inl (tw hw 300 rfl)) (Or.inl (tw hw 61 rfl)) (by decide) (t := .boolean) (t' := .byte) (by decide) (by decide)))⟩)
theorem d_jdk_67m_1_0 : decode jdk_67_method_1_code 0 = .ok (.aload_n 0, 1) := by decide +kernel
theorem d_jdk_67m_1_1 : decode jdk_67_method_1_code 1 = .ok (.bipush 16, 2) := by decide +kernel
theorem pd_12 : parseMethodDescriptor "(I)V" = some ⟨[.int], none⟩ := by decide +kernel
theorem d_jdk_67m_1_3 : decode jdk_67_method_1_code 3 = .ok (.invokespecial 1, 3) := by decide +kernel
theorem d_jdk_67m_1_6 : decode jdk_67_method_1_code 6 = .ok (.return_, 1) := by decide +kernel
set_option maxRecDepth 65536 in
set_option maxHeartbeats 40000000 in
theorem rmSbI (l : Launch) (Z : State) (a0 : Array Value) (hw : ∀ d ∈ tables_1, d.before a0 Z = true) (b : Addr) (z : Int32) (h0 : Heap) (n0 : Nat) (gb : n0 ≤ b) (SC : Sta Z h0 "java/lang/String" "COMPACT_STRINGS" "Z" (.int z)) (hz : ¬ z = 0) (EX : Exa Z h0 b "java/lang/StringBuilder") (FV : Fld Z h0 b "java/lang/AbstractStringBuilder" "value" "[B" .null) (FC : Fld Z h0 b "java/lang/AbstractStringBuilder" "coder" "B" (.int 0)) (FN : Fld Z h0 b "java/lang/AbstractStringBuilder" "count" "I" (.int 0)) (FX : Fld Z h0 b "java/lang/AbstractStringBuilder" "maybeLatin1" "Z" (.int 0)) :
    Ct l (⟨"java/lang/StringBuilder", "<init>", "()V"⟩ : MethodName) jdk_67_method_1_code 1 none ({ frames := 2, cells := 1, slots := 16, locals := 25 } : Room) Z #[(.ref b)] h0 (fun v h L => v = none ∧ Fr n0 L ∧ Keep h0 h [b] ∧ ∃ t kt, h0.size ≤ t ∧ SbOf Z h b t kt [] 16) := by
  refine ct_of (Q := fun v h L => v = none ∧ Fr n0 L ∧ Keep h0 h [b] ∧ ∃ t kt, h0.size ≤ t ∧ SbOf Z h b t kt [] 16) (plainFor_of_name pn_4) ?_
  intro p e s m below meth c s₁ X0 hx hby hml hret hnm hlk hown hZ hs0 e0
  have N0 := Fr.nil n0
  rw [show entryFrame m #[(.ref b)] 1 = mkF m 0 #[.val (.ref b)] [] from by first | (simp [entryFrame, mkF, argsToLocals, Value.category]; done) | rfl]
  refine w_aloadN X0.here hx (hb hby d_jdk_67m_1_0) rfl rfl (pc' := 1) rfl ?_
  refine w_bipush X0.here hx (hb hby d_jdk_67m_1_1) (z := 16) rfl (pc' := 3) rfl ?_
  refine w_special X0 hx hZ (y := (⟨"java/lang/AbstractStringBuilder", "<init>", "(I)V"⟩ : MethodName)) rfl hown (tw hw 50 rfl) (tw hw 51 rfl) (tw hw 55 rfl) (by decide) (backC (W := 0) (rmAbi l Z a0 hw b z h0 n0 gb SC hz EX FV FC FN FX) hZ (tw hw 55 rfl) (tw hw 54 rfl) (by decide) (by decide)) e0 (by rw [hml]; rfl) (argsL := [(.int (16 : Int32))]) (st := []) pd_12 rfl rfl rfl (Nat.le_of_ble_eq_true rfl) (hb hby d_jdk_67m_1_3) (by decide) (by decide) (pc' := 6) rfl ?_
  intro T57 v57 L57 X57 Q57
  obtain ⟨rfl, N1, K1, G⟩ := Q57
  show Go _ _ _ _ T57 (mkF m 6 _ [])
  have N2 := Fr.app N0 N1
  exact endV X57 hx hlk hret (hb hby d_jdk_67m_1_6) (by decide) (by decide) (⟨rfl, N2, K1, G⟩)
theorem d_jdk_29m_69_0 : decode jdk_29_method_69_code 0 = .ok (.iload_n 0, 1) := by decide +kernel
theorem d_jdk_29m_69_1 : decode jdk_29_method_69_code 1 = .ok (.iload_n 1, 1) := by decide +kernel
theorem d_jdk_29m_69_2 : decode jdk_29_method_69_code 2 = .ok (.if_icmp .gt 7, 3) := by decide +kernel
theorem d_jdk_29m_69_9 : decode jdk_29_method_69_code 9 = .ok (.iload_n 1, 1) := by decide +kernel
theorem d_jdk_29m_69_10 : decode jdk_29_method_69_code 10 = .ok (.ireturn, 1) := by decide +kernel
set_option maxRecDepth 65536 in
set_option maxHeartbeats 40000000 in
theorem rmMinR (l : Launch) (Z : State) (a0 : Array Value) (hw : ∀ d ∈ tables_1, d.before a0 Z = true) (x y : Int32) (h0 : Heap) (hxy : y < x) :
    Ct l yq12 jdk_29_method_69_code 2 (some .int) ({ frames := 0, cells := 0, slots := 0, locals := 0 } : Room) Z #[(.int x), (.int y)] h0 (fun v h L => v = some (.int y) ∧ L = [] ∧ h = h0) := by
  refine ct_of (Q := fun v h L => v = some (.int y) ∧ L = [] ∧ h = h0) (Jvm.Free.JP.mathPlain rfl (by decide +kernel)) ?_
  intro p e s m below meth c s₁ X0 hx hby hml hret hnm hlk hown hZ hs0 e0
  rw [show entryFrame m #[(.int x), (.int y)] 2 = mkF m 0 #[.val (.int x), .val (.int y)] [] from by first | (simp [entryFrame, mkF, argsToLocals, Value.category]; done) | rfl]
  refine w_iloadN X0.here hx (hb hby d_jdk_29m_69_0) rfl (pc' := 1) rfl ?_
  refine w_iloadN X0.here hx (hb hby d_jdk_29m_69_1) rfl (pc' := 2) rfl ?_
  refine w_icmpYes X0.here hx (hb hby d_jdk_29m_69_2) (tlt (show y < x from hxy)).2.2.1 (pc' := 9) (by decide) (by decide) ?_
  refine w_iloadN X0.here hx (hb hby d_jdk_29m_69_9) rfl (pc' := 10) rfl ?_
  exact endI X0 hx hlk hret (hb hby d_jdk_29m_69_10) (by decide) (by decide) (by rw [e0]; exact ⟨rfl, rfl, rfl⟩)
theorem d_jdk_29m_69_5 : decode jdk_29_method_69_code 5 = .ok (.iload_n 0, 1) := by decide +kernel
theorem d_jdk_29m_69_6 : decode jdk_29_method_69_code 6 = .ok (.goto 4, 3) := by decide +kernel
set_option maxRecDepth 65536 in
set_option maxHeartbeats 40000000 in
theorem rmMinL (l : Launch) (Z : State) (a0 : Array Value) (hw : ∀ d ∈ tables_1, d.before a0 Z = true) (x y : Int32) (h0 : Heap) (hxy : ¬ y < x) :
    Ct l yq12 jdk_29_method_69_code 2 (some .int) ({ frames := 0, cells := 0, slots := 0, locals := 0 } : Room) Z #[(.int x), (.int y)] h0 (fun v h L => v = some (.int x) ∧ L = [] ∧ h = h0) := by
  refine ct_of (Q := fun v h L => v = some (.int x) ∧ L = [] ∧ h = h0) (Jvm.Free.JP.mathPlain rfl (by decide +kernel)) ?_
  intro p e s m below meth c s₁ X0 hx hby hml hret hnm hlk hown hZ hs0 e0
  rw [show entryFrame m #[(.int x), (.int y)] 2 = mkF m 0 #[.val (.int x), .val (.int y)] [] from by first | (simp [entryFrame, mkF, argsToLocals, Value.category]; done) | rfl]
  refine w_iloadN X0.here hx (hb hby d_jdk_29m_69_0) rfl (pc' := 1) rfl ?_
  refine w_iloadN X0.here hx (hb hby d_jdk_29m_69_1) rfl (pc' := 2) rfl ?_
  refine w_icmpNo X0.here hx (hb hby d_jdk_29m_69_2) (flt (show ¬ (y < x) from hxy)).2.2.1 (pc' := 5) rfl ?_
  refine w_iloadN X0.here hx (hb hby d_jdk_29m_69_5) rfl (pc' := 6) rfl ?_
  refine w_goto X0.here hx (hb hby d_jdk_29m_69_6) (pc' := 10) (by decide) (by decide) ?_
  exact endI X0 hx hlk hret (hb hby d_jdk_29m_69_10) (by decide) (by decide) (by rw [e0]; exact ⟨rfl, rfl, rfl⟩)
theorem d_jdk_29m_65_0 : decode jdk_29_method_65_code 0 = .ok (.iload_n 0, 1) := by decide +kernel
theorem d_jdk_29m_65_1 : decode jdk_29_method_65_code 1 = .ok (.iload_n 1, 1) := by decide +kernel
theorem d_jdk_29m_65_2 : decode jdk_29_method_65_code 2 = .ok (.if_icmp .lt 7, 3) := by decide +kernel
theorem d_jdk_29m_65_9 : decode jdk_29_method_65_code 9 = .ok (.iload_n 1, 1) := by decide +kernel
theorem d_jdk_29m_65_10 : decode jdk_29_method_65_code 10 = .ok (.ireturn, 1) := by decide +kernel
set_option maxRecDepth 65536 in
set_option maxHeartbeats 40000000 in
theorem rmMaxR (l : Launch) (Z : State) (a0 : Array Value) (hw : ∀ d ∈ tables_1, d.before a0 Z = true) (x y : Int32) (h0 : Heap) (hxy : x < y) :
    Ct l (⟨"java/lang/Math", "max", "(II)I"⟩ : MethodName) jdk_29_method_65_code 2 (some .int) ({ frames := 0, cells := 0, slots := 0, locals := 0 } : Room) Z #[(.int x), (.int y)] h0 (fun v h L => v = some (.int y) ∧ L = [] ∧ h = h0) := by
  refine ct_of (Q := fun v h L => v = some (.int y) ∧ L = [] ∧ h = h0) (Jvm.Free.JP.mathPlain rfl (by decide +kernel)) ?_
  intro p e s m below meth c s₁ X0 hx hby hml hret hnm hlk hown hZ hs0 e0
  rw [show entryFrame m #[(.int x), (.int y)] 2 = mkF m 0 #[.val (.int x), .val (.int y)] [] from by first | (simp [entryFrame, mkF, argsToLocals, Value.category]; done) | rfl]
  refine w_iloadN X0.here hx (hb hby d_jdk_29m_65_0) rfl (pc' := 1) rfl ?_
  refine w_iloadN X0.here hx (hb hby d_jdk_29m_65_1) rfl (pc' := 2) rfl ?_
  refine w_icmpYes X0.here hx (hb hby d_jdk_29m_65_2) (tlt (show x < y from hxy)).1 (pc' := 9) (by decide) (by decide) ?_
  refine w_iloadN X0.here hx (hb hby d_jdk_29m_65_9) rfl (pc' := 10) rfl ?_
  exact endI X0 hx hlk hret (hb hby d_jdk_29m_65_10) (by decide) (by decide) (by rw [e0]; exact ⟨rfl, rfl, rfl⟩)
theorem d_jdk_48m_27_0 : decode jdk_48_method_27_code 0 = .ok (.iload_n 0, 1) := by decide +kernel
theorem d_jdk_48m_27_1 : decode jdk_48_method_27_code 1 = .ok (.iload_n 1, 1) := by decide +kernel
theorem d_jdk_48m_27_2 : decode jdk_48_method_27_code 2 = .ok (.iload_n 2, 1) := by decide +kernel
theorem pd_13 : parseMethodDescriptor "(II)I" = some ⟨[.int, .int], some .int⟩ := by decide +kernel
theorem d_jdk_48m_27_3 : decode jdk_48_method_27_code 3 = .ok (.invokestatic 194, 3) := by decide +kernel
theorem d_jdk_48m_27_6 : decode jdk_48_method_27_code 6 = .ok (.iadd, 1) := by decide +kernel
theorem d_jdk_48m_27_7 : decode jdk_48_method_27_code 7 = .ok (.istore_n 3, 1) := by decide +kernel
theorem d_jdk_48m_27_8 : decode jdk_48_method_27_code 8 = .ok (.iconst 0, 1) := by decide +kernel
theorem d_jdk_48m_27_9 : decode jdk_48_method_27_code 9 = .ok (.iload_n 3, 1) := by decide +kernel
theorem d_jdk_48m_27_10 : decode jdk_48_method_27_code 10 = .ok (.if_icmp .ge 11, 3) := by decide +kernel
theorem d_jdk_48m_27_13 : decode jdk_48_method_27_code 13 = .ok (.iload_n 3, 1) := by decide +kernel
theorem d_jdk_48m_27_14 : decode jdk_48_method_27_code 14 = .ok (.ldc 200, 2) := by decide +kernel
theorem d_jdk_48m_27_16 : decode jdk_48_method_27_code 16 = .ok (.if_icmp .gt 5, 3) := by decide +kernel
theorem d_jdk_48m_27_19 : decode jdk_48_method_27_code 19 = .ok (.iload_n 3, 1) := by decide +kernel
theorem d_jdk_48m_27_20 : decode jdk_48_method_27_code 20 = .ok (.ireturn, 1) := by decide +kernel
theorem pn_5 : plainName "jdk/internal/util/ArraysSupport" = true := by first | (simp [plainName, overriddenIn]; done) | decide +kernel
set_option maxRecDepth 65536 in
set_option maxHeartbeats 40000000 in
theorem rmNewLen (l : Launch) (Z : State) (a0 : Array Value) (hw : ∀ d ∈ tables_1, d.before a0 Z = true) (g : Nat) (h0 : Heap) (hg : g < 18) :
    Ct l (⟨"jdk/internal/util/ArraysSupport", "newLength", "(III)I"⟩ : MethodName) jdk_48_method_27_code 4 (some .int) ({ frames := 1, cells := 0, slots := 0, locals := 14 } : Room) Z #[(.int (16 : Int32)), (.int (Int32.ofNat g)), (.int (18 : Int32))] h0 (fun v h L => v = some (.int 34) ∧ L = [] ∧ h = h0) := by
  refine ct_of (Q := fun v h L => v = some (.int 34) ∧ L = [] ∧ h = h0) (plainFor_of_name pn_5) ?_
  intro p e s m below meth c s₁ X0 hx hby hml hret hnm hlk hown hZ hs0 e0
  rw [show entryFrame m #[(.int (16 : Int32)), (.int (Int32.ofNat g)), (.int (18 : Int32))] 4 = mkF m 0 #[.val (.int (16 : Int32)), .val (.int (Int32.ofNat g)), .val (.int (18 : Int32)), .unset] [] from by first | (simp [entryFrame, mkF, argsToLocals, Value.category]; done) | rfl]
  refine w_iloadN X0.here hx (hb hby d_jdk_48m_27_0) rfl (pc' := 1) rfl ?_
  refine w_iloadN X0.here hx (hb hby d_jdk_48m_27_1) rfl (pc' := 2) rfl ?_
  refine w_iloadN X0.here hx (hb hby d_jdk_48m_27_2) rfl (pc' := 3) rfl ?_
  refine w_static X0 hx hZ (y := (⟨"java/lang/Math", "max", "(II)I"⟩ : MethodName)) hown (tw hw 99 rfl) (tw hw 100 rfl) (tw hw 101 rfl) (tw hw 102 rfl) (by decide) (backC (W := 1) (rmMaxR l Z a0 hw (Int32.ofNat g) 18 h0 (n_lt (n := 18) hg (by decide))) hZ (tw hw 102 rfl) (tw hw 101 rfl) (by decide) (by decide)) e0 (by rw [hml]; rfl) (argsL := [(.int (Int32.ofNat g)), (.int (18 : Int32))]) (st := [(.int (16 : Int32))]) pd_13 rfl rfl rfl (Nat.le_of_ble_eq_true rfl) (hb hby d_jdk_48m_27_3) (by decide) (by decide) (pc' := 6) rfl ?_
  intro T58 v58 L58 X58 Q58
  obtain ⟨rfl, rfl, hh⟩ := Q58
  show Go _ _ _ _ T58 (mkF m 6 _ [(.int (18 : Int32)), (.int (16 : Int32))])
  refine w_iadd X58.here hx (hb hby d_jdk_48m_27_6) (pc' := 7) rfl ?_
  refine w_istoreN X58.here hx (hb hby d_jdk_48m_27_7) (l' := #[.val (.int (16 : Int32)), .val (.int (Int32.ofNat g)), .val (.int (18 : Int32)), .val (.int ((16 : Int32) + (18 : Int32)))]) rfl (pc' := 8) rfl ?_
  refine w_iconst X58.here hx (hb hby d_jdk_48m_27_8) (z := 0) rfl (pc' := 9) rfl ?_
  refine w_iloadN X58.here hx (hb hby d_jdk_48m_27_9) rfl (pc' := 10) rfl ?_
  refine w_icmpNo X58.here hx (hb hby d_jdk_48m_27_10) (tlt (show (0 : Int32) < ((16 : Int32) + (18 : Int32)) from by decide)).2.1 (pc' := 13) rfl ?_
  refine w_iloadN X58.here hx (hb hby d_jdk_48m_27_13) rfl (pc' := 14) rfl ?_
  refine w_ldcI X58 hx hZ hown (tw hw 103 rfl) (hb hby d_jdk_48m_27_14) (pc' := 16) rfl ?_
  refine w_icmpNo X58.here hx (hb hby d_jdk_48m_27_16) (flt (show ¬ ((2147483639 : Int32) < ((16 : Int32) + (18 : Int32))) from by decide)).2.2.1 (pc' := 19) rfl ?_
  refine w_iloadN X58.here hx (hb hby d_jdk_48m_27_19) rfl (pc' := 20) rfl ?_
  exact endI X58 hx hlk hret (hb hby d_jdk_48m_27_20) (by decide) (by decide) (by rw [hh]; exact ⟨rfl, by simp, rfl⟩)
theorem d_jdk_68m_10_0 : decode jdk_68_method_10_code 0 = .ok (.aload_n 0, 1) := by decide +kernel
theorem d_jdk_68m_10_1 : decode jdk_68_method_10_code 1 = .ok (.getfield 15, 3) := by decide +kernel
theorem d_jdk_68m_10_4 : decode jdk_68_method_10_code 4 = .ok (.arraylength, 1) := by decide +kernel
theorem d_jdk_68m_10_5 : decode jdk_68_method_10_code 5 = .ok (.istore_n 2, 1) := by decide +kernel
theorem d_jdk_68m_10_6 : decode jdk_68_method_10_code 6 = .ok (.iload_n 1, 1) := by decide +kernel
theorem d_jdk_68m_10_7 : decode jdk_68_method_10_code 7 = .ok (.aload_n 0, 1) := by decide +kernel
theorem d_jdk_68m_10_8 : decode jdk_68_method_10_code 8 = .ok (.getfield 22, 3) := by decide +kernel
theorem d_jdk_68m_10_11 : decode jdk_68_method_10_code 11 = .ok (.ishl, 1) := by decide +kernel
theorem d_jdk_68m_10_12 : decode jdk_68_method_10_code 12 = .ok (.istore_n 3, 1) := by decide +kernel
theorem d_jdk_68m_10_13 : decode jdk_68_method_10_code 13 = .ok (.iload_n 3, 1) := by decide +kernel
theorem d_jdk_68m_10_14 : decode jdk_68_method_10_code 14 = .ok (.iload_n 2, 1) := by decide +kernel
theorem d_jdk_68m_10_15 : decode jdk_68_method_10_code 15 = .ok (.isub, 1) := by decide +kernel
theorem d_jdk_68m_10_16 : decode jdk_68_method_10_code 16 = .ok (.istore 4, 2) := by decide +kernel
theorem d_jdk_68m_10_18 : decode jdk_68_method_10_code 18 = .ok (.iload_n 2, 1) := by decide +kernel
theorem d_jdk_68m_10_19 : decode jdk_68_method_10_code 19 = .ok (.iload 4, 2) := by decide +kernel
theorem d_jdk_68m_10_21 : decode jdk_68_method_10_code 21 = .ok (.iload_n 2, 1) := by decide +kernel
theorem d_jdk_68m_10_22 : decode jdk_68_method_10_code 22 = .ok (.iconst 2, 1) := by decide +kernel
theorem d_jdk_68m_10_23 : decode jdk_68_method_10_code 23 = .ok (.aload_n 0, 1) := by decide +kernel
theorem d_jdk_68m_10_24 : decode jdk_68_method_10_code 24 = .ok (.getfield 22, 3) := by decide +kernel
theorem d_jdk_68m_10_27 : decode jdk_68_method_10_code 27 = .ok (.ishl, 1) := by decide +kernel
theorem d_jdk_68m_10_28 : decode jdk_68_method_10_code 28 = .ok (.iadd, 1) := by decide +kernel
theorem pd_14 : parseMethodDescriptor "(III)I" = some ⟨[.int, .int, .int], some .int⟩ := by decide +kernel
theorem d_jdk_68m_10_29 : decode jdk_68_method_10_code 29 = .ok (.invokestatic 114, 3) := by decide +kernel
theorem d_jdk_68m_10_32 : decode jdk_68_method_10_code 32 = .ok (.istore 5, 2) := by decide +kernel
theorem d_jdk_68m_10_34 : decode jdk_68_method_10_code 34 = .ok (.iload 5, 2) := by decide +kernel
theorem d_jdk_68m_10_36 : decode jdk_68_method_10_code 36 = .ok (.ldc 39, 2) := by decide +kernel
theorem d_jdk_68m_10_38 : decode jdk_68_method_10_code 38 = .ok (.if_icmp .ne 13, 3) := by decide +kernel
theorem d_jdk_68m_10_51 : decode jdk_68_method_10_code 51 = .ok (.iload 5, 2) := by decide +kernel
theorem d_jdk_68m_10_53 : decode jdk_68_method_10_code 53 = .ok (.aload_n 0, 1) := by decide +kernel
theorem d_jdk_68m_10_54 : decode jdk_68_method_10_code 54 = .ok (.getfield 22, 3) := by decide +kernel
theorem d_jdk_68m_10_57 : decode jdk_68_method_10_code 57 = .ok (.ishr, 1) := by decide +kernel
theorem d_jdk_68m_10_58 : decode jdk_68_method_10_code 58 = .ok (.ireturn, 1) := by decide +kernel
set_option maxRecDepth 65536 in
set_option maxHeartbeats 40000000 in
theorem rmNewCap (l : Launch) (Z : State) (a0 : Array Value) (hw : ∀ d ∈ tables_1, d.before a0 Z = true) (b t : Addr) (kt : ClassId) (cs : List Int32) (mn : Nat) (h0 : Heap) (B : SbOf Z h0 b t kt cs 16) (h1 : 16 < mn) (h2 : mn < 34) :
    Ct l (⟨"java/lang/AbstractStringBuilder", "newCapacity", "(I)I"⟩ : MethodName) jdk_68_method_10_code 6 (some .int) ({ frames := 2, cells := 0, slots := 0, locals := 29 } : Room) Z #[(.ref b), (.int (Int32.ofNat mn))] h0 (fun v h L => v = some (.int 34) ∧ L = [] ∧ h = h0) := by
  refine ct_of (Q := fun v h L => v = some (.int 34) ∧ L = [] ∧ h = h0) (plainFor_of_name pn_3) ?_
  intro p e s m below meth c s₁ X0 hx hby hml hret hnm hlk hown hZ hs0 e0
  rw [show entryFrame m #[(.ref b), (.int (Int32.ofNat mn))] 6 = mkF m 0 #[.val (.ref b), .val (.int (Int32.ofNat mn)), .unset, .unset, .unset, .unset] [] from by first | (simp [entryFrame, mkF, argsToLocals, Value.category]; done) | rfl]
  refine w_aloadN X0.here hx (hb hby d_jdk_68m_10_0) rfl rfl (pc' := 1) rfl ?_
  refine w_getF X0 hx hZ hown (tw hw 58 rfl) Via.refl e0 B.2.1 (hb hby d_jdk_68m_10_1) (pc' := 4) rfl ?_
  intro T59 X59 e59
  refine w_arraylength X59 hx hZ e59 B.2.2.2.2.1 (hb hby d_jdk_68m_10_4) (pc' := 5) rfl ?_
  refine w_istoreN X59.here hx (hb hby d_jdk_68m_10_5) (l' := #[.val (.ref b), .val (.int (Int32.ofNat mn)), .val (.int (16 : Int32)), .unset, .unset, .unset]) rfl (pc' := 6) rfl ?_
  refine w_iloadN X59.here hx (hb hby d_jdk_68m_10_6) rfl (pc' := 7) rfl ?_
  refine w_aloadN X59.here hx (hb hby d_jdk_68m_10_7) rfl rfl (pc' := 8) rfl ?_
  refine w_getF X59 hx hZ hown (tw hw 60 rfl) Via.refl e59 B.2.2.1 (hb hby d_jdk_68m_10_8) (pc' := 11) rfl ?_
  intro T60 X60 e60
  refine w_ishl X60.here hx (hb hby d_jdk_68m_10_11) (pc' := 12) rfl ?_
  rw [n_shl0]
  show Go _ _ _ _ T60 (mkF m 12 _ [(.int (Int32.ofNat mn))])
  refine w_istoreN X60.here hx (hb hby d_jdk_68m_10_12) (l' := #[.val (.ref b), .val (.int (Int32.ofNat mn)), .val (.int (16 : Int32)), .val (.int (Int32.ofNat mn)), .unset, .unset]) rfl (pc' := 13) rfl ?_
  refine w_iloadN X60.here hx (hb hby d_jdk_68m_10_13) rfl (pc' := 14) rfl ?_
  refine w_iloadN X60.here hx (hb hby d_jdk_68m_10_14) rfl (pc' := 15) rfl ?_
  refine w_isub X60.here hx (hb hby d_jdk_68m_10_15) (pc' := 16) rfl ?_
  rw [show Int32.ofNat mn - (16 : Int32) = Int32.ofNat (mn - 16) from n_sub (b := 16) (by omega)]
  show Go _ _ _ _ T60 (mkF m 16 _ [(.int (Int32.ofNat (mn - 16)))])
  refine w_istore X60.here hx (hb hby d_jdk_68m_10_16) (l' := #[.val (.ref b), .val (.int (Int32.ofNat mn)), .val (.int (16 : Int32)), .val (.int (Int32.ofNat mn)), .val (.int (Int32.ofNat (mn - 16))), .unset]) rfl (pc' := 18) rfl ?_
  refine w_iloadN X60.here hx (hb hby d_jdk_68m_10_18) rfl (pc' := 19) rfl ?_
  refine w_iload X60.here hx (hb hby d_jdk_68m_10_19) rfl (pc' := 21) rfl ?_
  refine w_iloadN X60.here hx (hb hby d_jdk_68m_10_21) rfl (pc' := 22) rfl ?_
  refine w_iconst X60.here hx (hb hby d_jdk_68m_10_22) (z := 2) rfl (pc' := 23) rfl ?_
  refine w_aloadN X60.here hx (hb hby d_jdk_68m_10_23) rfl rfl (pc' := 24) rfl ?_
  refine w_getF X60 hx hZ hown (tw hw 60 rfl) Via.refl e60 B.2.2.1 (hb hby d_jdk_68m_10_24) (pc' := 27) rfl ?_
  intro T61 X61 e61
  refine w_ishl X61.here hx (hb hby d_jdk_68m_10_27) (pc' := 28) rfl ?_
  refine w_iadd X61.here hx (hb hby d_jdk_68m_10_28) (pc' := 29) rfl ?_
  show Go _ _ _ _ T61 (mkF m 29 _ [(.int (18 : Int32)), (.int (Int32.ofNat (mn - 16))), (.int (16 : Int32))])
  refine w_static X61 hx hZ (y := (⟨"jdk/internal/util/ArraysSupport", "newLength", "(III)I"⟩ : MethodName)) hown (tw hw 95 rfl) (tw hw 96 rfl) (tw hw 97 rfl) (tw hw 98 rfl) (by decide) (backC (W := 0) (rmNewLen l Z a0 hw (mn - 16) h0 (by omega)) hZ (tw hw 98 rfl) (tw hw 97 rfl) (by decide) (by decide)) e61 (by rw [hml]; rfl) (argsL := [(.int (16 : Int32)), (.int (Int32.ofNat (mn - 16))), (.int (18 : Int32))]) (st := []) pd_14 rfl rfl rfl (Nat.le_of_ble_eq_true rfl) (hb hby d_jdk_68m_10_29) (by decide) (by decide) (pc' := 32) rfl ?_
  intro T62 v62 L62 X62 Q62
  obtain ⟨rfl, rfl, hh⟩ := Q62
  show Go _ _ _ _ T62 (mkF m 32 _ [(.int (34 : Int32))])
  rw [← hh] at B
  refine w_istore X62.here hx (hb hby d_jdk_68m_10_32) (l' := #[.val (.ref b), .val (.int (Int32.ofNat mn)), .val (.int (16 : Int32)), .val (.int (Int32.ofNat mn)), .val (.int (Int32.ofNat (mn - 16))), .val (.int (34 : Int32))]) rfl (pc' := 34) rfl ?_
  refine w_iload X62.here hx (hb hby d_jdk_68m_10_34) rfl (pc' := 36) rfl ?_
  refine w_ldcI X62 hx hZ hown (tw hw 104 rfl) (hb hby d_jdk_68m_10_36) (pc' := 38) rfl ?_
  refine w_icmpYes X62.here hx (hb hby d_jdk_68m_10_38) (feq (show ¬ ((34 : Int32) = (2147483647 : Int32)) from by decide)).2 (pc' := 51) (by decide) (by decide) ?_
  refine w_iload X62.here hx (hb hby d_jdk_68m_10_51) rfl (pc' := 53) rfl ?_
  refine w_aloadN X62.here hx (hb hby d_jdk_68m_10_53) rfl rfl (pc' := 54) rfl ?_
  refine w_getF X62 hx hZ hown (tw hw 60 rfl) Via.refl rfl B.2.2.1 (hb hby d_jdk_68m_10_54) (pc' := 57) rfl ?_
  intro T63 X63 e63
  refine w_ishr X63.here hx (hb hby d_jdk_68m_10_57) (pc' := 58) rfl ?_
  show Go _ _ _ _ T63 (mkF m 58 _ [(.int (34 : Int32))])
  exact endI X63 hx hlk hret (hb hby d_jdk_68m_10_58) (by decide) (by decide) (by rw [e63]; exact ⟨rfl, by simp, hh⟩)
theorem d_jdk_65m_121_0 : decode jdk_65_method_121_code 0 = .ok (.iload_n 1, 1) := by decide +kernel
theorem d_jdk_65m_121_1 : decode jdk_65_method_121_code 1 = .ok (.aload_n 0, 1) := by decide +kernel
theorem d_jdk_65m_121_2 : decode jdk_65_method_121_code 2 = .ok (.arraylength, 1) := by decide +kernel
theorem d_jdk_65m_121_3 : decode jdk_65_method_121_code 3 = .ok (.if_icmp .ne 11, 3) := by decide +kernel
theorem d_jdk_65m_121_14 : decode jdk_65_method_121_code 14 = .ok (.iload_n 1, 1) := by decide +kernel
theorem d_jdk_65m_121_15 : decode jdk_65_method_121_code 15 = .ok (.newarray .byte, 2) := by decide +kernel
theorem d_jdk_65m_121_17 : decode jdk_65_method_121_code 17 = .ok (.astore_n 2, 1) := by decide +kernel
theorem d_jdk_65m_121_18 : decode jdk_65_method_121_code 18 = .ok (.aload_n 0, 1) := by decide +kernel
theorem d_jdk_65m_121_19 : decode jdk_65_method_121_code 19 = .ok (.iconst 0, 1) := by decide +kernel
theorem d_jdk_65m_121_20 : decode jdk_65_method_121_code 20 = .ok (.aload_n 2, 1) := by decide +kernel
theorem d_jdk_65m_121_21 : decode jdk_65_method_121_code 21 = .ok (.iconst 0, 1) := by decide +kernel
theorem d_jdk_65m_121_22 : decode jdk_65_method_121_code 22 = .ok (.aload_n 0, 1) := by decide +kernel
theorem d_jdk_65m_121_23 : decode jdk_65_method_121_code 23 = .ok (.arraylength, 1) := by decide +kernel
theorem d_jdk_65m_121_24 : decode jdk_65_method_121_code 24 = .ok (.iload_n 1, 1) := by decide +kernel
theorem d_jdk_65m_121_25 : decode jdk_65_method_121_code 25 = .ok (.invokestatic 304, 3) := by decide +kernel
theorem d_jdk_65m_121_28 : decode jdk_65_method_121_code 28 = .ok (.invokestatic 150, 3) := by decide +kernel
theorem d_jdk_65m_121_31 : decode jdk_65_method_121_code 31 = .ok (.aload_n 2, 1) := by decide +kernel
theorem d_jdk_65m_121_32 : decode jdk_65_method_121_code 32 = .ok (.areturn, 1) := by decide +kernel
theorem pn_6 : plainName "java/util/Arrays" = true := by first | (simp [plainName, overriddenIn]; done) | decide +kernel
set_option maxRecDepth 65536 in
set_option maxHeartbeats 40000000 in
theorem rmCpOf (l : Launch) (Z : State) (a0 : Array Value) (hw : ∀ d ∈ tables_1, d.before a0 Z = true) (t : Addr) (kt : ClassId) (vs : List Value) (h0 : Heap) (n0 : Nat) (Z0 : n0 ≤ h0.size) (V : Arv Z h0 t kt .byte 16 vs (.int 0)) (hl : vs.length = 16) :
    Ct l (⟨"java/util/Arrays", "copyOf", "([BI)[B"⟩ : MethodName) jdk_65_method_121_code 3 (some (.array .byte)) ({ frames := 1, cells := 1, slots := 34, locals := 18 } : Room) Z #[(.ref t), (.int (34 : Int32))] h0 (fun v h L => ∃ u ku, v = some (.ref u) ∧ Fr n0 L ∧ Ext h0 h ∧ h0.size ≤ u ∧ Arv Z h u ku .byte 34 (vs ++ List.replicate 18 (Value.int 0)) (.int 0)) := by
  refine ct_of (Q := fun v h L => ∃ u ku, v = some (.ref u) ∧ Fr n0 L ∧ Ext h0 h ∧ h0.size ≤ u ∧ Arv Z h u ku .byte 34 (vs ++ List.replicate 18 (Value.int 0)) (.int 0)) (plainFor_of_name pn_6) ?_
  intro p e s m below meth c s₁ X0 hx hby hml hret hnm hlk hown hZ hs0 e0
  have N0 := Fr.nil n0
  rw [show entryFrame m #[(.ref t), (.int (34 : Int32))] 3 = mkF m 0 #[.val (.ref t), .val (.int (34 : Int32)), .unset] [] from by first | (simp [entryFrame, mkF, argsToLocals, Value.category]; done) | rfl]
  refine w_iloadN X0.here hx (hb hby d_jdk_65m_121_0) rfl (pc' := 1) rfl ?_
  refine w_aloadN X0.here hx (hb hby d_jdk_65m_121_1) rfl rfl (pc' := 2) rfl ?_
  refine w_arraylength X0 hx hZ e0 V (hb hby d_jdk_65m_121_2) (pc' := 3) rfl ?_
  refine w_icmpYes X0.here hx (hb hby d_jdk_65m_121_3) (feq (show ¬ ((34 : Int32) = (16 : Int32)) from by decide)).2 (pc' := 14) (by decide) (by decide) ?_
  refine w_iloadN X0.here hx (hb hby d_jdk_65m_121_14) rfl (pc' := 15) rfl ?_
  refine w_newarray X0 hx hZ (ty := .byte) (dv := (.int 0)) rfl rfl (tw hw 4 rfl) e0 (n := (34 : Int32)) (hb hby d_jdk_65m_121_15) (by decide) (cap := 34) (by decide) (by decide) (by decide) (by decide) (pc' := 17) rfl ?_
  intro T64 h64 u ku gu X64 e64 E64 U
  have ge_u_h0 : h0.size ≤ u := Nat.le_trans (Ext.rfl' : Ext h0 h0).1 (Nat.le_of_eq gu)
  have C65 : Ext h0 h64 := Ext.trs Ext.rfl' E64
  have ge : n0 ≤ u := Nat.le_trans Z0 ge_u_h0
  refine w_astoreN X64.here hx (hb hby d_jdk_65m_121_17) rfl (l' := #[.val (.ref t), .val (.int (34 : Int32)), .val (.ref u)]) rfl (pc' := 18) rfl ?_
  refine w_aloadN X64.here hx (hb hby d_jdk_65m_121_18) rfl rfl (pc' := 19) rfl ?_
  refine w_iconst X64.here hx (hb hby d_jdk_65m_121_19) (z := 0) rfl (pc' := 20) rfl ?_
  refine w_aloadN X64.here hx (hb hby d_jdk_65m_121_20) rfl rfl (pc' := 21) rfl ?_
  refine w_iconst X64.here hx (hb hby d_jdk_65m_121_21) (z := 0) rfl (pc' := 22) rfl ?_
  refine w_aloadN X64.here hx (hb hby d_jdk_65m_121_22) rfl rfl (pc' := 23) rfl ?_
  refine w_arraylength X64 hx hZ e64 (V.ext C65) (hb hby d_jdk_65m_121_23) (pc' := 24) rfl ?_
  refine w_iloadN X64.here hx (hb hby d_jdk_65m_121_24) rfl (pc' := 25) rfl ?_
  refine w_static X64 hx hZ (y := yq12) hown (tw hw 109 rfl) (tw hw 110 rfl) (tw hw 101 rfl) (tw hw 111 rfl) (by decide) (backC (W := 4) (rmMinL l Z a0 hw 16 34 h64 (by decide)) hZ (tw hw 111 rfl) (tw hw 101 rfl) (by decide) (by decide)) e64 (by rw [hml]; rfl) (argsL := [(.int (16 : Int32)), (.int (34 : Int32))]) (st := [(.int (0 : Int32)), (.ref u), (.int (0 : Int32)), (.ref t)]) pd_13 rfl rfl rfl (Nat.le_of_ble_eq_true rfl) (hb hby d_jdk_65m_121_25) (by decide) (by decide) (pc' := 28) rfl ?_
  intro T66 v66 L66 X66 Q66
  obtain ⟨rfl, rfl, hh⟩ := Q66
  show Go _ _ _ _ T66 (mkF m 28 _ [(.int (16 : Int32)), (.int (0 : Int32)), (.ref u), (.int (0 : Int32)), (.ref t)])
  rw [List.append_nil] at X66
  refine w_cpA X66 hx hZ hown (tw hw 112 rfl) (tw hw 115 rfl) (tw hw 113 rfl) (tw hw 114 rfl) hh (n := 16) (d := 0) (us := vs.take 16) (V.ext C65) U (Or.inl ⟨rfl, rfl⟩) (by decide) (by decide) rfl (by omega) (by decide) (by omega) N0 ge (by rw [hml]; rfl) (hb hby d_jdk_65m_121_28) (by decide) (W := 0) (Nat.le_of_ble_eq_true rfl) (by decide) (pc' := 31) rfl ?_
  intro T67 h67 L67 X67 e67 N67 K67 V67
  refine w_aloadN X67.here hx (hb hby d_jdk_65m_121_31) rfl rfl (pc' := 32) rfl ?_
  have V2 : Arv Z h67 u ku .byte 34 (vs ++ List.replicate 18 (.int 0)) (.int 0) := by
    have q := V67
    rw [show vs.take 16 = vs from List.take_of_length_le (by omega)] at q
    exact q
  exact endR X67 hx hlk rfl hret rfl (hb hby d_jdk_65m_121_32) (by decide) (by decide) (by rw [e67]; exact ⟨u, ku, rfl, N67, Ext.kp C65 K67 (allS ge_u_h0 all0), ge_u_h0, V2⟩)
theorem d_jdk_68m_9_0 : decode jdk_68_method_9_code 0 = .ok (.aload_n 0, 1) := by decide +kernel
theorem d_jdk_68m_9_1 : decode jdk_68_method_9_code 1 = .ok (.getfield 15, 3) := by decide +kernel
theorem d_jdk_68m_9_4 : decode jdk_68_method_9_code 4 = .ok (.arraylength, 1) := by decide +kernel
theorem d_jdk_68m_9_5 : decode jdk_68_method_9_code 5 = .ok (.aload_n 0, 1) := by decide +kernel
theorem d_jdk_68m_9_6 : decode jdk_68_method_9_code 6 = .ok (.getfield 22, 3) := by decide +kernel
theorem d_jdk_68m_9_9 : decode jdk_68_method_9_code 9 = .ok (.ishr, 1) := by decide +kernel
theorem d_jdk_68m_9_10 : decode jdk_68_method_9_code 10 = .ok (.istore_n 2, 1) := by decide +kernel
theorem d_jdk_68m_9_11 : decode jdk_68_method_9_code 11 = .ok (.iload_n 1, 1) := by decide +kernel
theorem d_jdk_68m_9_12 : decode jdk_68_method_9_code 12 = .ok (.iload_n 2, 1) := by decide +kernel
theorem d_jdk_68m_9_13 : decode jdk_68_method_9_code 13 = .ok (.isub, 1) := by decide +kernel
theorem d_jdk_68m_9_14 : decode jdk_68_method_9_code 14 = .ok (.ifCond .le 24, 3) := by decide +kernel
theorem d_jdk_68m_9_38 : decode jdk_68_method_9_code 38 = .ok (.return_, 1) := by decide +kernel
set_option maxRecDepth 65536 in
set_option maxHeartbeats 40000000 in
theorem rmEnsF (l : Launch) (Z : State) (a0 : Array Value) (hw : ∀ d ∈ tables_1, d.before a0 Z = true) (b t : Addr) (kt : ClassId) (cs : List Int32) (N mn : Nat) (h0 : Heap) (B : SbOf Z h0 b t kt cs N) (hm : mn ≤ N) :
    Ct l yq13 jdk_68_method_9_code 3 none ({ frames := 0, cells := 0, slots := 0, locals := 0 } : Room) Z #[(.ref b), (.int (Int32.ofNat mn))] h0 (fun v h L => v = none ∧ L = [] ∧ h = h0) := by
  refine ct_of (Q := fun v h L => v = none ∧ L = [] ∧ h = h0) (plainFor_of_name pn_3) ?_
  intro p e s m below meth c s₁ X0 hx hby hml hret hnm hlk hown hZ hs0 e0
  rw [show entryFrame m #[(.ref b), (.int (Int32.ofNat mn))] 3 = mkF m 0 #[.val (.ref b), .val (.int (Int32.ofNat mn)), .unset] [] from by first | (simp [entryFrame, mkF, argsToLocals, Value.category]; done) | rfl]
  refine w_aloadN X0.here hx (hb hby d_jdk_68m_9_0) rfl rfl (pc' := 1) rfl ?_
  refine w_getF X0 hx hZ hown (tw hw 58 rfl) Via.refl e0 B.2.1 (hb hby d_jdk_68m_9_1) (pc' := 4) rfl ?_
  intro T68 X68 e68
  refine w_arraylength X68 hx hZ e68 B.2.2.2.2.1 (hb hby d_jdk_68m_9_4) (pc' := 5) rfl ?_
  refine w_aloadN X68.here hx (hb hby d_jdk_68m_9_5) rfl rfl (pc' := 6) rfl ?_
  refine w_getF X68 hx hZ hown (tw hw 60 rfl) Via.refl e68 B.2.2.1 (hb hby d_jdk_68m_9_6) (pc' := 9) rfl ?_
  intro T69 X69 e69
  refine w_ishr X69.here hx (hb hby d_jdk_68m_9_9) (pc' := 10) rfl ?_
  rw [n_shr0]
  show Go _ _ _ _ T69 (mkF m 10 _ [(.int (Int32.ofNat N))])
  refine w_istoreN X69.here hx (hb hby d_jdk_68m_9_10) (l' := #[.val (.ref b), .val (.int (Int32.ofNat mn)), .val (.int (Int32.ofNat N))]) rfl (pc' := 11) rfl ?_
  refine w_iloadN X69.here hx (hb hby d_jdk_68m_9_11) rfl (pc' := 12) rfl ?_
  refine w_iloadN X69.here hx (hb hby d_jdk_68m_9_12) rfl (pc' := 13) rfl ?_
  refine w_isub X69.here hx (hb hby d_jdk_68m_9_13) (pc' := 14) rfl ?_
  refine w_ifYes X69.here hx (hb hby d_jdk_68m_9_14) (flt (show ¬ ((0 : Int32) < ((Int32.ofNat mn) - (Int32.ofNat N))) from n_le0 hm (by have := B.2.2.2.2.2.2.1; omega))).2.2.2 (pc' := 38) (by decide) (by decide) ?_
  exact endV X69 hx hlk hret (hb hby d_jdk_68m_9_38) (by decide) (by decide) (by rw [e69]; exact ⟨rfl, rfl, rfl⟩)
theorem d_jdk_68m_9_17 : decode jdk_68_method_9_code 17 = .ok (.aload_n 0, 1) := by decide +kernel
theorem d_jdk_68m_9_18 : decode jdk_68_method_9_code 18 = .ok (.aload_n 0, 1) := by decide +kernel
theorem d_jdk_68m_9_19 : decode jdk_68_method_9_code 19 = .ok (.getfield 15, 3) := by decide +kernel
theorem d_jdk_68m_9_22 : decode jdk_68_method_9_code 22 = .ok (.aload_n 0, 1) := by decide +kernel
theorem d_jdk_68m_9_23 : decode jdk_68_method_9_code 23 = .ok (.iload_n 1, 1) := by decide +kernel
theorem d_jdk_68m_9_24 : decode jdk_68_method_9_code 24 = .ok (.invokevirtual 104, 3) := by decide +kernel
theorem d_jdk_68m_9_27 : decode jdk_68_method_9_code 27 = .ok (.aload_n 0, 1) := by decide +kernel
theorem d_jdk_68m_9_28 : decode jdk_68_method_9_code 28 = .ok (.getfield 22, 3) := by decide +kernel
theorem d_jdk_68m_9_31 : decode jdk_68_method_9_code 31 = .ok (.ishl, 1) := by decide +kernel
theorem pd_15 : parseMethodDescriptor "([BI)[B" = some ⟨[(.array .byte), .int], some (.array .byte)⟩ := by decide +kernel
theorem d_jdk_68m_9_32 : decode jdk_68_method_9_code 32 = .ok (.invokestatic 108, 3) := by decide +kernel
theorem d_jdk_68m_9_35 : decode jdk_68_method_9_code 35 = .ok (.putfield 15, 3) := by decide +kernel
set_option maxRecDepth 65536 in
set_option maxHeartbeats 40000000 in
theorem rmEnsG (l : Launch) (Z : State) (a0 : Array Value) (hw : ∀ d ∈ tables_1, d.before a0 Z = true) (b t : Addr) (kt : ClassId) (cs : List Int32) (mn : Nat) (h0 : Heap) (n0 : Nat) (Z0 : n0 ≤ h0.size) (gb : n0 ≤ b) (B : SbOf Z h0 b t kt cs 16) (h1 : 16 < mn) (h2 : mn < 34) :
    Ct l yq13 jdk_68_method_9_code 3 none ({ frames := 3, cells := 1, slots := 34, locals := 48 } : Room) Z #[(.ref b), (.int (Int32.ofNat mn))] h0 (fun v h L => v = none ∧ Fr n0 L ∧ Keep h0 h [b] ∧ ∃ u ku, h0.size ≤ u ∧ SbOf Z h b u ku cs 34) := by
  refine ct_of (Q := fun v h L => v = none ∧ Fr n0 L ∧ Keep h0 h [b] ∧ ∃ u ku, h0.size ≤ u ∧ SbOf Z h b u ku cs 34) (plainFor_of_name pn_3) ?_
  intro p e s m below meth c s₁ X0 hx hby hml hret hnm hlk hown hZ hs0 e0
  have N0 := Fr.nil n0
  rw [show entryFrame m #[(.ref b), (.int (Int32.ofNat mn))] 3 = mkF m 0 #[.val (.ref b), .val (.int (Int32.ofNat mn)), .unset] [] from by first | (simp [entryFrame, mkF, argsToLocals, Value.category]; done) | rfl]
  refine w_aloadN X0.here hx (hb hby d_jdk_68m_9_0) rfl rfl (pc' := 1) rfl ?_
  refine w_getF X0 hx hZ hown (tw hw 58 rfl) Via.refl e0 B.2.1 (hb hby d_jdk_68m_9_1) (pc' := 4) rfl ?_
  intro T70 X70 e70
  refine w_arraylength X70 hx hZ e70 B.2.2.2.2.1 (hb hby d_jdk_68m_9_4) (pc' := 5) rfl ?_
  refine w_aloadN X70.here hx (hb hby d_jdk_68m_9_5) rfl rfl (pc' := 6) rfl ?_
  refine w_getF X70 hx hZ hown (tw hw 60 rfl) Via.refl e70 B.2.2.1 (hb hby d_jdk_68m_9_6) (pc' := 9) rfl ?_
  intro T71 X71 e71
  refine w_ishr X71.here hx (hb hby d_jdk_68m_9_9) (pc' := 10) rfl ?_
  show Go _ _ _ _ T71 (mkF m 10 _ [(.int (16 : Int32))])
  refine w_istoreN X71.here hx (hb hby d_jdk_68m_9_10) (l' := #[.val (.ref b), .val (.int (Int32.ofNat mn)), .val (.int (16 : Int32))]) rfl (pc' := 11) rfl ?_
  refine w_iloadN X71.here hx (hb hby d_jdk_68m_9_11) rfl (pc' := 12) rfl ?_
  refine w_iloadN X71.here hx (hb hby d_jdk_68m_9_12) rfl (pc' := 13) rfl ?_
  refine w_isub X71.here hx (hb hby d_jdk_68m_9_13) (pc' := 14) rfl ?_
  refine w_ifNo X71.here hx (hb hby d_jdk_68m_9_14) (tlt (show (0 : Int32) < ((Int32.ofNat mn) - (16 : Int32)) from n_pos (b := 16) h1 (by omega))).2.2.2 (pc' := 17) rfl ?_
  refine w_aloadN X71.here hx (hb hby d_jdk_68m_9_17) rfl rfl (pc' := 18) rfl ?_
  refine w_aloadN X71.here hx (hb hby d_jdk_68m_9_18) rfl rfl (pc' := 19) rfl ?_
  refine w_getF X71 hx hZ hown (tw hw 58 rfl) Via.refl e71 B.2.1 (hb hby d_jdk_68m_9_19) (pc' := 22) rfl ?_
  intro T72 X72 e72
  refine w_aloadN X72.here hx (hb hby d_jdk_68m_9_22) rfl rfl (pc' := 23) rfl ?_
  refine w_iloadN X72.here hx (hb hby d_jdk_68m_9_23) rfl (pc' := 24) rfl ?_
  refine w_private X72 hx hZ (y := (⟨"java/lang/AbstractStringBuilder", "newCapacity", "(I)I"⟩ : MethodName)) hown (tw hw 90 rfl) (tw hw 91 rfl) (tw hw 92 rfl) (tw hw 93 rfl) (tw hw 94 rfl) (by decide) (backC (W := 2) (rmNewCap l Z a0 hw b t kt cs mn h0 B h1 h2) hZ (tw hw 94 rfl) (tw hw 54 rfl) (by decide) (by decide)) e72 B.1 (by rw [hml]; rfl) (argsL := [(.int (Int32.ofNat mn))]) (st := [(.ref t), (.ref b)]) pd_0 rfl rfl rfl (Nat.le_of_ble_eq_true rfl) (hb hby d_jdk_68m_9_24) (by decide) (by decide) (pc' := 27) rfl ?_
  intro T73 v73 L73 X73 Q73
  obtain ⟨rfl, rfl, hh⟩ := Q73
  show Go _ _ _ _ T73 (mkF m 27 _ [(.int (34 : Int32)), (.ref t), (.ref b)])
  rw [List.append_nil] at X73
  rw [← hh] at B
  refine w_aloadN X73.here hx (hb hby d_jdk_68m_9_27) rfl rfl (pc' := 28) rfl ?_
  refine w_getF X73 hx hZ hown (tw hw 60 rfl) Via.refl rfl B.2.2.1 (hb hby d_jdk_68m_9_28) (pc' := 31) rfl ?_
  intro T74 X74 e74
  refine w_ishl X74.here hx (hb hby d_jdk_68m_9_31) (pc' := 32) rfl ?_
  show Go _ _ _ _ T74 (mkF m 32 _ [(.int (34 : Int32)), (.ref t), (.ref b)])
  refine w_static X74 hx hZ (y := (⟨"java/util/Arrays", "copyOf", "([BI)[B"⟩ : MethodName)) hown (tw hw 105 rfl) (tw hw 106 rfl) (tw hw 107 rfl) (tw hw 108 rfl) (by decide) (backC (W := 1) (rmCpOf l Z a0 hw t kt (padB cs 16) T73.heap n0 (by rw [hh]; exact Z0) B.2.2.2.2.1 (padB_len B.2.2.2.2.2.1)) hZ (tw hw 108 rfl) (tw hw 107 rfl) (by decide) (by decide)) e74 (by rw [hml]; rfl) (argsL := [(.ref t), (.int (34 : Int32))]) (st := [(.ref b)]) pd_15 rfl rfl rfl (Nat.le_of_ble_eq_true rfl) (hb hby d_jdk_68m_9_32) (by decide) (by decide) (pc' := 35) rfl ?_
  intro T75 v75 L75 X75 Q75
  obtain ⟨u, ku, rfl, N1, E1, gu, U⟩ := Q75
  show Go _ _ _ _ T75 (mkF m 35 _ [(.ref u), (.ref b)])
  have ne : u ≠ b := Nat.ne_of_gt (Nat.lt_of_lt_of_le B.1.lt gu)
  refine w_putF X75 hx hZ hown (tw hw 58 rfl) Via.refl rfl (B.2.1.ext E1) (B.1.ext E1) (Or.inl (tw hw 59 rfl)) (tw hw 45 rfl) (ty := (.array .byte)) (by decide) rfl rfl (hb hby d_jdk_68m_9_35) (pc' := 38) rfl ?_
  intro T76 h76 X76 e76 W76
  have N2 := Fr.snoc X76 (Fr.app N0 N1) gb
  rw [hh] at E1 gu B
  exact endV X76 hx hlk hret (hb hby d_jdk_68m_9_38) (by decide) (by decide) (by rw [e76]; exact ⟨rfl, N2, ((Keep.refl h0 [b]).ext E1).wr W76 (Or.inl (List.mem_cons_self ..)), u, ku, gu, (B.1.ext E1).wr W76, Fld.same W76 (B.2.1.ext E1), (B.2.2.1.ext E1).other W76 (Or.inr (slot_ne (Or.inl (tw hw 61 rfl)) (Or.inl (tw hw 59 rfl)) (by decide) (t := .byte) (t' := (.array .byte)) (by decide) (by decide))), (B.2.2.2.1.ext E1).other W76 (Or.inr (slot_ne (Or.inl (tw hw 84 rfl)) (Or.inl (tw hw 59 rfl)) (by decide) (t := .int) (t' := (.array .byte)) (by decide) (by decide))), by have q := U.other W76 ne; rw [padB_grow B.2.2.2.2.2.1] at q; exact q, by have := B.2.2.2.2.2.1; omega, by decide, B.2.2.2.2.2.2.2.1, (B.2.2.2.2.2.2.2.2.ext E1).other W76 (Or.inr (slot_ne (Or.inl (tw hw 300 rfl)) (Or.inl (tw hw 59 rfl)) (by decide) (t := .boolean) (t' := (.array .byte)) (by decide) (by decide)))⟩)
theorem d_jdk_68m_71_0 : decode jdk_68_method_71_code 0 = .ok (.getstatic 18, 3) := by decide +kernel
theorem d_jdk_68m_71_3 : decode jdk_68_method_71_code 3 = .ok (.ifCond .eq 18, 3) := by decide +kernel
theorem d_jdk_68m_71_6 : decode jdk_68_method_71_code 6 = .ok (.aload_n 0, 1) := by decide +kernel
theorem d_jdk_68m_71_7 : decode jdk_68_method_71_code 7 = .ok (.getfield 22, 3) := by decide +kernel
theorem d_jdk_68m_71_10 : decode jdk_68_method_71_code 10 = .ok (.aload_n 1, 1) := by decide +kernel
theorem pd_16 : parseMethodDescriptor "()B" = some ⟨[], some .byte⟩ := by decide +kernel
theorem d_jdk_68m_71_11 : decode jdk_68_method_71_code 11 = .ok (.invokevirtual 40, 3) := by decide +kernel
theorem d_jdk_68m_71_14 : decode jdk_68_method_71_code 14 = .ok (.if_icmp .eq 7, 3) := by decide +kernel
theorem d_jdk_68m_71_21 : decode jdk_68_method_71_code 21 = .ok (.return_, 1) := by decide +kernel
set_option maxRecDepth 65536 in
set_option maxHeartbeats 40000000 in
theorem rmInfN (l : Launch) (Z : State) (a0 : Array Value) (hw : ∀ d ∈ tables_1, d.before a0 Z = true) (b t x u : Addr) (kt ku : ClassId) (cs ds : List Int32) (N : Nat) (z : Int32) (h0 : Heap) (SC : Sta Z h0 "java/lang/String" "COMPACT_STRINGS" "Z" (.int z)) (hz : ¬ z = 0) (B : SbOf Z h0 b t kt cs N) (G : LstOf Z h0 x u ku ds) :
    Ct l yq17 jdk_68_method_71_code 2 none ({ frames := 1, cells := 0, slots := 0, locals := 13 } : Room) Z #[(.ref b), (.ref x)] h0 (fun v h L => v = none ∧ L = [] ∧ h = h0) := by
  refine ct_of (Q := fun v h L => v = none ∧ L = [] ∧ h = h0) (plainFor_of_name pn_3) ?_
  intro p e s m below meth c s₁ X0 hx hby hml hret hnm hlk hown hZ hs0 e0
  rw [show entryFrame m #[(.ref b), (.ref x)] 2 = mkF m 0 #[.val (.ref b), .val (.ref x)] [] from by first | (simp [entryFrame, mkF, argsToLocals, Value.category]; done) | rfl]
  refine w_getS X0 hx hZ hown (tw hw 57 rfl) Via.refl e0 SC (hb hby d_jdk_68m_71_0) (pc' := 3) rfl ?_
  intro T77 X77 e77
  refine w_ifNo X77.here hx (hb hby d_jdk_68m_71_3) (feq (show ¬ (z = (0 : Int32)) from hz)).1 (pc' := 6) rfl ?_
  refine w_aloadN X77.here hx (hb hby d_jdk_68m_71_6) rfl rfl (pc' := 7) rfl ?_
  refine w_getF X77 hx hZ hown (tw hw 60 rfl) Via.refl e77 B.2.2.1 (hb hby d_jdk_68m_71_7) (pc' := 10) rfl ?_
  intro T78 X78 e78
  refine w_aloadN X78.here hx (hb hby d_jdk_68m_71_10) rfl rfl (pc' := 11) rfl ?_
  refine w_virtual X78 hx hZ (y := yq0) (z := yq0) hown (tw hw 126 rfl) (tw hw 79 rfl) (notFace_of_selects (args := #[]) (mvT hZ (tw hw 81 rfl))) (tw hw 81 rfl) (tw hw 80 rfl) (by decide) (backC (W := 1) (rmCoder l Z a0 hw x z 0 h0 SC hz G.2.2.1 rfl) hZ (tw hw 82 rfl) (tw hw 2 rfl) (by decide) (by decide)) e78 G.1 (by rw [hml]; rfl) (argsL := []) (st := [(.int (0 : Int32))]) pd_16 rfl rfl rfl (Nat.le_of_ble_eq_true rfl) (hb hby d_jdk_68m_71_11) (by decide) (by decide) (pc' := 14) rfl ?_
  intro T79 v79 L79 X79 Q79
  obtain ⟨rfl, rfl, hh⟩ := Q79
  show Go _ _ _ _ T79 (mkF m 14 _ [(.int (0 : Int32)), (.int (0 : Int32))])
  refine w_icmpYes X79.here hx (hb hby d_jdk_68m_71_14) (teq (show (0 : Int32) = (0 : Int32) from rfl)).1 (pc' := 21) (by decide) (by decide) ?_
  exact endV X79 hx hlk hret (hb hby d_jdk_68m_71_21) (by decide) (by decide) (⟨rfl, by simp, hh⟩)
theorem d_jdk_42m_147_0 : decode jdk_42_method_147_code 0 = .ok (.aload_n 0, 1) := by decide +kernel
theorem d_jdk_42m_147_1 : decode jdk_42_method_147_code 1 = .ok (.invokevirtual 335, 3) := by decide +kernel
theorem d_jdk_42m_147_4 : decode jdk_42_method_147_code 4 = .ok (.iload_n 3, 1) := by decide +kernel
theorem d_jdk_42m_147_5 : decode jdk_42_method_147_code 5 = .ok (.if_icmp .ne 23, 3) := by decide +kernel
theorem d_jdk_42m_147_8 : decode jdk_42_method_147_code 8 = .ok (.aload_n 0, 1) := by decide +kernel
theorem d_jdk_42m_147_9 : decode jdk_42_method_147_code 9 = .ok (.getfield 9, 3) := by decide +kernel
theorem d_jdk_42m_147_12 : decode jdk_42_method_147_code 12 = .ok (.iconst 0, 1) := by decide +kernel
theorem d_jdk_42m_147_13 : decode jdk_42_method_147_code 13 = .ok (.aload_n 1, 1) := by decide +kernel
theorem d_jdk_42m_147_14 : decode jdk_42_method_147_code 14 = .ok (.iload_n 2, 1) := by decide +kernel
theorem d_jdk_42m_147_15 : decode jdk_42_method_147_code 15 = .ok (.iload_n 3, 1) := by decide +kernel
theorem d_jdk_42m_147_16 : decode jdk_42_method_147_code 16 = .ok (.ishl, 1) := by decide +kernel
theorem d_jdk_42m_147_17 : decode jdk_42_method_147_code 17 = .ok (.aload_n 0, 1) := by decide +kernel
theorem d_jdk_42m_147_18 : decode jdk_42_method_147_code 18 = .ok (.getfield 9, 3) := by decide +kernel
theorem d_jdk_42m_147_21 : decode jdk_42_method_147_code 21 = .ok (.arraylength, 1) := by decide +kernel
theorem d_jdk_42m_147_22 : decode jdk_42_method_147_code 22 = .ok (.invokestatic 212, 3) := by decide +kernel
theorem d_jdk_42m_147_25 : decode jdk_42_method_147_code 25 = .ok (.goto 18, 3) := by decide +kernel
theorem d_jdk_42m_147_43 : decode jdk_42_method_147_code 43 = .ok (.return_, 1) := by decide +kernel
set_option maxRecDepth 65536 in
set_option maxHeartbeats 40000000 in
theorem rmGetB (l : Launch) (Z : State) (a0 : Array Value) (hw : ∀ d ∈ tables_1, d.before a0 Z = true) (x u t : Addr) (ku kt : ClassId) (ds : List Int32) (vd : List Value) (q M : Nat) (z : Int32) (h0 : Heap) (n0 : Nat) (ge : n0 ≤ t) (SC : Sta Z h0 "java/lang/String" "COMPACT_STRINGS" "Z" (.int z)) (hz : ¬ z = 0) (G : LstOf Z h0 x u ku ds) (V : Arv Z h0 t kt .byte (Int32.ofNat M) vd (.int 0)) (hM : M ≤ 4000) (hvd : vd.length = M) (hq : q + ds.length ≤ M) :
    Ct l yq8 jdk_42_method_147_code 4 none ({ frames := 1, cells := 0, slots := 0, locals := 18 } : Room) Z #[(.ref x), (.ref t), (.int (Int32.ofNat q)), (.int (0 : Int32))] h0 (fun v h L => v = none ∧ Fr n0 L ∧ Keep h0 h [t] ∧ Arv Z h t kt .byte (Int32.ofNat M) (vd.take q ++ lobs ds ++ vd.drop (q + ds.length)) (.int 0)) := by
  refine ct_of (Q := fun v h L => v = none ∧ Fr n0 L ∧ Keep h0 h [t] ∧ Arv Z h t kt .byte (Int32.ofNat M) (vd.take q ++ lobs ds ++ vd.drop (q + ds.length)) (.int 0)) (plainFor_of_name pn_1) ?_
  intro p e s m below meth c s₁ X0 hx hby hml hret hnm hlk hown hZ hs0 e0
  have N0 := Fr.nil n0
  rw [show entryFrame m #[(.ref x), (.ref t), (.int (Int32.ofNat q)), (.int (0 : Int32))] 4 = mkF m 0 #[.val (.ref x), .val (.ref t), .val (.int (Int32.ofNat q)), .val (.int (0 : Int32))] [] from by first | (simp [entryFrame, mkF, argsToLocals, Value.category]; done) | rfl]
  refine w_aloadN X0.here hx (hb hby d_jdk_42m_147_0) rfl rfl (pc' := 1) rfl ?_
  refine w_virtual X0 hx hZ (y := yq0) (z := yq0) hown (tw hw 78 rfl) (tw hw 79 rfl) (notFace_of_selects (args := #[]) (mvT hZ (tw hw 81 rfl))) (tw hw 81 rfl) (tw hw 80 rfl) (by decide) (backC (W := 0) (rmCoder l Z a0 hw x z 0 h0 SC hz G.2.2.1 rfl) hZ (tw hw 82 rfl) (tw hw 2 rfl) (by decide) (by decide)) e0 G.1 (by rw [hml]; rfl) (argsL := []) (st := []) pd_16 rfl rfl rfl (Nat.le_of_ble_eq_true rfl) (hb hby d_jdk_42m_147_1) (by decide) (by decide) (pc' := 4) rfl ?_
  intro T80 v80 L80 X80 Q80
  obtain ⟨rfl, rfl, hh⟩ := Q80
  show Go _ _ _ _ T80 (mkF m 4 _ [(.int (0 : Int32))])
  rw [List.append_nil] at X80
  refine w_iloadN X80.here hx (hb hby d_jdk_42m_147_4) rfl (pc' := 5) rfl ?_
  refine w_icmpNo X80.here hx (hb hby d_jdk_42m_147_5) (teq (show (0 : Int32) = (0 : Int32) from rfl)).2 (pc' := 8) rfl ?_
  refine w_aloadN X80.here hx (hb hby d_jdk_42m_147_8) rfl rfl (pc' := 9) rfl ?_
  refine w_getF X80 hx hZ hown (tw hw 37 rfl) Via.refl hh G.2.1 (hb hby d_jdk_42m_147_9) (pc' := 12) rfl ?_
  intro T81 X81 e81
  refine w_iconst X81.here hx (hb hby d_jdk_42m_147_12) (z := 0) rfl (pc' := 13) rfl ?_
  refine w_aloadN X81.here hx (hb hby d_jdk_42m_147_13) rfl rfl (pc' := 14) rfl ?_
  refine w_iloadN X81.here hx (hb hby d_jdk_42m_147_14) rfl (pc' := 15) rfl ?_
  refine w_iloadN X81.here hx (hb hby d_jdk_42m_147_15) rfl (pc' := 16) rfl ?_
  refine w_ishl X81.here hx (hb hby d_jdk_42m_147_16) (pc' := 17) rfl ?_
  rw [n_shl0]
  show Go _ _ _ _ T81 (mkF m 17 _ [(.int (Int32.ofNat q)), (.ref t), (.int (0 : Int32)), (.ref u)])
  refine w_aloadN X81.here hx (hb hby d_jdk_42m_147_17) rfl rfl (pc' := 18) rfl ?_
  refine w_getF X81 hx hZ hown (tw hw 37 rfl) Via.refl e81 G.2.1 (hb hby d_jdk_42m_147_18) (pc' := 21) rfl ?_
  intro T82 X82 e82
  refine w_arraylength X82 hx hZ e82 G.2.2.2.1 (hb hby d_jdk_42m_147_21) (pc' := 22) rfl ?_
  refine w_cpA X82 hx hZ hown (tw hw 132 rfl) (tw hw 115 rfl) (tw hw 113 rfl) (tw hw 114 rfl) e82 (n := ds.length) (d := q) (us := (lobs ds).take ds.length) G.2.2.2.1 V (Or.inl ⟨rfl, rfl⟩) (by rw [n_nat (by have := G.2.2.2.2.1; omega)]; omega) (by rw [n_nat (by omega)]; omega) rfl (by rw [lobs_len]; omega) (by omega) (by have := G.2.2.2.2.1; omega) N0 ge (by rw [hml]; rfl) (hb hby d_jdk_42m_147_22) (by decide) (W := 0) (Nat.le_of_ble_eq_true rfl) (by decide) (pc' := 25) rfl ?_
  intro T83 h83 L83 X83 e83 N83 K83 V83
  refine w_goto X83.here hx (hb hby d_jdk_42m_147_25) (pc' := 43) (by decide) (by decide) ?_
  rw [show (lobs ds).take ds.length = lobs ds from List.take_of_length_le (by rw [lobs_len]; omega)] at V83
  exact endV X83 hx hlk hret (hb hby d_jdk_42m_147_43) (by decide) (by decide) (by rw [e83]; exact ⟨rfl, N83, K83, V83⟩)
theorem d_jdk_68m_73_0 : decode jdk_68_method_73_code 0 = .ok (.aload_n 0, 1) := by decide +kernel
theorem d_jdk_68m_73_1 : decode jdk_68_method_73_code 1 = .ok (.aload_n 2, 1) := by decide +kernel
theorem pd_17 : parseMethodDescriptor "(Ljava/lang/String;)V" = some ⟨[(.object "java/lang/String")], none⟩ := by decide +kernel
theorem d_jdk_68m_73_2 : decode jdk_68_method_73_code 2 = .ok (.invokevirtual 397, 3) := by decide +kernel
theorem d_jdk_68m_73_5 : decode jdk_68_method_73_code 5 = .ok (.aload_n 2, 1) := by decide +kernel
theorem d_jdk_68m_73_6 : decode jdk_68_method_73_code 6 = .ok (.aload_n 0, 1) := by decide +kernel
theorem d_jdk_68m_73_7 : decode jdk_68_method_73_code 7 = .ok (.getfield 15, 3) := by decide +kernel
theorem d_jdk_68m_73_10 : decode jdk_68_method_73_code 10 = .ok (.iload_n 1, 1) := by decide +kernel
theorem d_jdk_68m_73_11 : decode jdk_68_method_73_code 11 = .ok (.aload_n 0, 1) := by decide +kernel
theorem d_jdk_68m_73_12 : decode jdk_68_method_73_code 12 = .ok (.getfield 22, 3) := by decide +kernel
theorem pd_18 : parseMethodDescriptor "([BIB)V" = some ⟨[(.array .byte), .int, .byte], none⟩ := by decide +kernel
theorem d_jdk_68m_73_15 : decode jdk_68_method_73_code 15 = .ok (.invokevirtual 399, 3) := by decide +kernel
theorem d_jdk_68m_73_18 : decode jdk_68_method_73_code 18 = .ok (.return_, 1) := by decide +kernel
set_option maxRecDepth 65536 in
set_option maxHeartbeats 40000000 in
theorem rmPutAt (l : Launch) (Z : State) (a0 : Array Value) (hw : ∀ d ∈ tables_1, d.before a0 Z = true) (b t x u : Addr) (kt ku : ClassId) (cs ds : List Int32) (N : Nat) (z : Int32) (h0 : Heap) (n0 : Nat) (gt : n0 ≤ t) (SC : Sta Z h0 "java/lang/String" "COMPACT_STRINGS" "Z" (.int z)) (hz : ¬ z = 0) (B : SbOf Z h0 b t kt cs N) (G : LstOf Z h0 x u ku ds) (hq : cs.length + ds.length ≤ N) :
    Ct l yq14 jdk_68_method_73_code 3 none ({ frames := 2, cells := 0, slots := 0, locals := 33 } : Room) Z #[(.ref b), (.int (Int32.ofNat cs.length)), (.ref x)] h0 (fun v h L => v = none ∧ Fr n0 L ∧ Keep h0 h [t] ∧ Arv Z h t kt .byte (Int32.ofNat N) (padB (cs ++ ds) N) (.int 0)) := by
  refine ct_of (Q := fun v h L => v = none ∧ Fr n0 L ∧ Keep h0 h [t] ∧ Arv Z h t kt .byte (Int32.ofNat N) (padB (cs ++ ds) N) (.int 0)) (plainFor_of_name pn_3) ?_
  intro p e s m below meth c s₁ X0 hx hby hml hret hnm hlk hown hZ hs0 e0
  have N0 := Fr.nil n0
  rw [show entryFrame m #[(.ref b), (.int (Int32.ofNat cs.length)), (.ref x)] 3 = mkF m 0 #[.val (.ref b), .val (.int (Int32.ofNat cs.length)), .val (.ref x)] [] from by first | (simp [entryFrame, mkF, argsToLocals, Value.category]; done) | rfl]
  refine w_aloadN X0.here hx (hb hby d_jdk_68m_73_0) rfl rfl (pc' := 1) rfl ?_
  refine w_aloadN X0.here hx (hb hby d_jdk_68m_73_1) rfl rfl (pc' := 2) rfl ?_
  refine w_private X0 hx hZ (y := yq17) hown (tw hw 121 rfl) (tw hw 122 rfl) (tw hw 123 rfl) (tw hw 124 rfl) (tw hw 125 rfl) (by decide) (backC (W := 0) (rmInfN l Z a0 hw b t x u kt ku cs ds N z h0 SC hz B G) hZ (tw hw 125 rfl) (tw hw 54 rfl) (by decide) (by decide)) e0 B.1 (by rw [hml]; rfl) (argsL := [(.ref x)]) (st := []) pd_17 rfl rfl rfl (Nat.le_of_ble_eq_true rfl) (hb hby d_jdk_68m_73_2) (by decide) (by decide) (pc' := 5) rfl ?_
  intro T84 v84 L84 X84 Q84
  obtain ⟨rfl, rfl, hh⟩ := Q84
  show Go _ _ _ _ T84 (mkF m 5 _ [])
  rw [List.append_nil] at X84
  refine w_aloadN X84.here hx (hb hby d_jdk_68m_73_5) rfl rfl (pc' := 6) rfl ?_
  refine w_aloadN X84.here hx (hb hby d_jdk_68m_73_6) rfl rfl (pc' := 7) rfl ?_
  refine w_getF X84 hx hZ hown (tw hw 58 rfl) Via.refl hh B.2.1 (hb hby d_jdk_68m_73_7) (pc' := 10) rfl ?_
  intro T85 X85 e85
  refine w_iloadN X85.here hx (hb hby d_jdk_68m_73_10) rfl (pc' := 11) rfl ?_
  refine w_aloadN X85.here hx (hb hby d_jdk_68m_73_11) rfl rfl (pc' := 12) rfl ?_
  refine w_getF X85 hx hZ hown (tw hw 60 rfl) Via.refl e85 B.2.2.1 (hb hby d_jdk_68m_73_12) (pc' := 15) rfl ?_
  intro T86 X86 e86
  refine w_virtual X86 hx hZ (y := yq8) (z := yq8) hown (tw hw 127 rfl) (tw hw 128 rfl) (notFace_of_selects (args := #[]) (mvT hZ (tw hw 130 rfl))) (tw hw 130 rfl) (tw hw 129 rfl) (by decide) (backC (W := 0) (rmGetB l Z a0 hw x u t ku kt ds (padB cs N) cs.length N z h0 n0 gt SC hz G B.2.2.2.2.1 B.2.2.2.2.2.2.1 (padB_len B.2.2.2.2.2.1) hq) hZ (tw hw 131 rfl) (tw hw 2 rfl) (by decide) (by decide)) e86 G.1 (by rw [hml]; rfl) (argsL := [(.ref t), (.int (Int32.ofNat cs.length)), (.int (0 : Int32))]) (st := []) pd_18 rfl rfl rfl (Nat.le_of_ble_eq_true rfl) (hb hby d_jdk_68m_73_15) (by decide) (by decide) (pc' := 18) rfl ?_
  intro T87 v87 L87 X87 Q87
  obtain ⟨rfl, N1, K1, V1⟩ := Q87
  show Go _ _ _ _ T87 (mkF m 18 _ [])
  rw [padB_put hq] at V1
  exact endV X87 hx hlk hret (hb hby d_jdk_68m_73_18) (by decide) (by decide) (⟨rfl, Fr.app N0 N1, K1, V1⟩)
theorem staKeep {Z : State} {h h' : Heap} {C n d : String} {v : Value} {ws : List Addr} (S : Sta Z h C n d v) (K : Keep h h' ws) (q : ∀ y ∈ ws, ∀ cell : Cell, h[y]? = some cell → cell.vm.isStatics = false) : Sta Z h' C n d v := by
  obtain ⟨cf, i, k, f, st, cell, h1, h2, h3, h4, h5, h6, h7⟩ := S
  exact ⟨cf, i, k, f, st, cell, h1, h2, h3, h4, K.2.1 _ _ h5 (fun hm => by have := q _ hm _ h5; rw [h6] at this; cases this), h6, h7⟩
theorem d_jdk_68m_22_0 : decode jdk_68_method_22_code 0 = .ok (.aload_n 1, 1) := by decide +kernel
theorem d_jdk_68m_22_1 : decode jdk_68_method_22_code 1 = .ok (.ifnonnull 8, 3) := by decide +kernel
theorem d_jdk_68m_22_9 : decode jdk_68_method_22_code 9 = .ok (.aload_n 1, 1) := by decide +kernel
theorem d_jdk_68m_22_10 : decode jdk_68_method_22_code 10 = .ok (.invokevirtual 32, 3) := by decide +kernel
theorem d_jdk_68m_22_13 : decode jdk_68_method_22_code 13 = .ok (.istore_n 2, 1) := by decide +kernel
theorem d_jdk_68m_22_14 : decode jdk_68_method_22_code 14 = .ok (.aload_n 0, 1) := by decide +kernel
theorem d_jdk_68m_22_15 : decode jdk_68_method_22_code 15 = .ok (.aload_n 0, 1) := by decide +kernel
theorem d_jdk_68m_22_16 : decode jdk_68_method_22_code 16 = .ok (.getfield 79, 3) := by decide +kernel
theorem d_jdk_68m_22_19 : decode jdk_68_method_22_code 19 = .ok (.iload_n 2, 1) := by decide +kernel
theorem d_jdk_68m_22_20 : decode jdk_68_method_22_code 20 = .ok (.iadd, 1) := by decide +kernel
theorem d_jdk_68m_22_21 : decode jdk_68_method_22_code 21 = .ok (.invokevirtual 100, 3) := by decide +kernel
theorem d_jdk_68m_22_24 : decode jdk_68_method_22_code 24 = .ok (.aload_n 0, 1) := by decide +kernel
theorem d_jdk_68m_22_25 : decode jdk_68_method_22_code 25 = .ok (.aload_n 0, 1) := by decide +kernel
theorem d_jdk_68m_22_26 : decode jdk_68_method_22_code 26 = .ok (.getfield 79, 3) := by decide +kernel
theorem d_jdk_68m_22_29 : decode jdk_68_method_22_code 29 = .ok (.aload_n 1, 1) := by decide +kernel
theorem pd_19 : parseMethodDescriptor "(ILjava/lang/String;)V" = some ⟨[.int, (.object "java/lang/String")], none⟩ := by decide +kernel
theorem d_jdk_68m_22_30 : decode jdk_68_method_22_code 30 = .ok (.invokevirtual 208, 3) := by decide +kernel
theorem d_jdk_68m_22_33 : decode jdk_68_method_22_code 33 = .ok (.aload_n 0, 1) := by decide +kernel
theorem d_jdk_68m_22_34 : decode jdk_68_method_22_code 34 = .ok (.dup, 1) := by decide +kernel
theorem d_jdk_68m_22_35 : decode jdk_68_method_22_code 35 = .ok (.getfield 79, 3) := by decide +kernel
theorem d_jdk_68m_22_38 : decode jdk_68_method_22_code 38 = .ok (.iload_n 2, 1) := by decide +kernel
theorem d_jdk_68m_22_39 : decode jdk_68_method_22_code 39 = .ok (.iadd, 1) := by decide +kernel
theorem d_jdk_68m_22_40 : decode jdk_68_method_22_code 40 = .ok (.putfield 79, 3) := by decide +kernel
theorem d_jdk_68m_22_43 : decode jdk_68_method_22_code 43 = .ok (.aload_n 0, 1) := by decide +kernel
theorem d_jdk_68m_22_44 : decode jdk_68_method_22_code 44 = .ok (.areturn, 1) := by decide +kernel
set_option maxRecDepth 65536 in
set_option maxHeartbeats 40000000 in
theorem rmApF (l : Launch) (Z : State) (a0 : Array Value) (hw : ∀ d ∈ tables_1, d.before a0 Z = true) (b t x u : Addr) (kt ku : ClassId) (cs ds : List Int32) (N : Nat) (z : Int32) (h0 : Heap) (n0 : Nat) (Z0 : n0 ≤ h0.size) (gb : n0 ≤ b) (gt : n0 ≤ t) (SC : Sta Z h0 "java/lang/String" "COMPACT_STRINGS" "Z" (.int z)) (hz : ¬ z = 0) (B : SbOf Z h0 b t kt cs N) (G : LstOf Z h0 x u ku ds) (hq : cs.length + ds.length ≤ N) :
    Ct l yq9 jdk_68_method_22_code 3 (some (.object "java/lang/AbstractStringBuilder")) ({ frames := 3, cells := 0, slots := 0, locals := 47 } : Room) Z #[(.ref b), (.ref x)] h0 (fun v h L => v = some (.ref b) ∧ Fr n0 L ∧ Keep h0 h [b, t] ∧ SbOf Z h b t kt (cs ++ ds) N) := by
  refine ct_of (Q := fun v h L => v = some (.ref b) ∧ Fr n0 L ∧ Keep h0 h [b, t] ∧ SbOf Z h b t kt (cs ++ ds) N) (plainFor_of_name pn_3) ?_
  intro p e s m below meth c s₁ X0 hx hby hml hret hnm hlk hown hZ hs0 e0
  have N0 := Fr.nil n0
  rw [show entryFrame m #[(.ref b), (.ref x)] 3 = mkF m 0 #[.val (.ref b), .val (.ref x), .unset] [] from by first | (simp [entryFrame, mkF, argsToLocals, Value.category]; done) | rfl]
  refine w_aloadN X0.here hx (hb hby d_jdk_68m_22_0) rfl rfl (pc' := 1) rfl ?_
  refine w_ifnonnullYes X0.here hx (hb hby d_jdk_68m_22_1) (pc' := 9) (by decide) (by decide) ?_
  refine w_aloadN X0.here hx (hb hby d_jdk_68m_22_9) rfl rfl (pc' := 10) rfl ?_
  refine w_virtual X0 hx hZ (y := yq4) (z := yq4) hown (tw hw 73 rfl) (tw hw 74 rfl) (notFace_of_selects (args := #[]) (mvT hZ (tw hw 76 rfl))) (tw hw 76 rfl) (tw hw 75 rfl) (by decide) (k_len (W := 0) hZ (fun d hd => hw d (own_wLen d hd)) (tw hw 3 rfl) G.str SC hz (by decide) (by decide)) e0 G.1 (by rw [hml]; rfl) (argsL := []) (st := []) pd_11 rfl rfl rfl (Nat.le_of_ble_eq_true rfl) (hb hby d_jdk_68m_22_10) (by decide) (by decide) (pc' := 13) rfl ?_
  intro T88 v88 L88 X88 Q88
  obtain ⟨rfl, rfl, hh⟩ := Q88
  show Go _ _ _ _ T88 (mkF m 13 _ [(.int (Int32.ofNat ds.length))])
  rw [List.append_nil] at X88
  refine w_istoreN X88.here hx (hb hby d_jdk_68m_22_13) (l' := #[.val (.ref b), .val (.ref x), .val (.int (Int32.ofNat ds.length))]) rfl (pc' := 14) rfl ?_
  refine w_aloadN X88.here hx (hb hby d_jdk_68m_22_14) rfl rfl (pc' := 15) rfl ?_
  refine w_aloadN X88.here hx (hb hby d_jdk_68m_22_15) rfl rfl (pc' := 16) rfl ?_
  refine w_getF X88 hx hZ hown (tw hw 83 rfl) Via.refl hh B.2.2.2.1 (hb hby d_jdk_68m_22_16) (pc' := 19) rfl ?_
  intro T89 X89 e89
  refine w_iloadN X89.here hx (hb hby d_jdk_68m_22_19) rfl (pc' := 20) rfl ?_
  refine w_iadd X89.here hx (hb hby d_jdk_68m_22_20) (pc' := 21) rfl ?_
  rw [n_add]
  show Go _ _ _ _ T89 (mkF m 21 _ [(.int (Int32.ofNat (cs.length + ds.length))), (.ref b)])
  refine w_private X89 hx hZ (y := yq13) hown (tw hw 85 rfl) (tw hw 86 rfl) (tw hw 87 rfl) (tw hw 88 rfl) (tw hw 89 rfl) (by decide) (backC (W := 0) (rmEnsF l Z a0 hw b t kt cs N (cs.length + ds.length) h0 B hq) hZ (tw hw 89 rfl) (tw hw 54 rfl) (by decide) (by decide)) e89 B.1 (by rw [hml]; rfl) (argsL := [(.int (Int32.ofNat (cs.length + ds.length)))]) (st := []) pd_12 rfl rfl rfl (Nat.le_of_ble_eq_true rfl) (hb hby d_jdk_68m_22_21) (by decide) (by decide) (pc' := 24) rfl ?_
  intro T90 v90 L90 X90 Q90
  obtain ⟨rfl, rfl, hh2⟩ := Q90
  show Go _ _ _ _ T90 (mkF m 24 _ [])
  rw [List.append_nil] at X90
  have KA : Keep h0 h0 [b, t] := Keep.refl _ _
  refine w_aloadN X90.here hx (hb hby d_jdk_68m_22_24) rfl rfl (pc' := 25) rfl ?_
  refine w_aloadN X90.here hx (hb hby d_jdk_68m_22_25) rfl rfl (pc' := 26) rfl ?_
  refine w_getF X90 hx hZ hown (tw hw 83 rfl) Via.refl hh2 B.2.2.2.1 (hb hby d_jdk_68m_22_26) (pc' := 29) rfl ?_
  intro T91 X91 e91
  refine w_aloadN X91.here hx (hb hby d_jdk_68m_22_29) rfl rfl (pc' := 30) rfl ?_
  refine w_private X91 hx hZ (y := yq14) hown (tw hw 116 rfl) (tw hw 117 rfl) (tw hw 118 rfl) (tw hw 119 rfl) (tw hw 120 rfl) (by decide) (backC (W := 0) (rmPutAt l Z a0 hw b t x u kt ku cs ds N z h0 n0 gt SC hz B G (by omega)) hZ (tw hw 120 rfl) (tw hw 54 rfl) (by decide) (by decide)) e91 B.1 (by rw [hml]; rfl) (argsL := [(.int (Int32.ofNat cs.length)), (.ref x)]) (st := []) pd_19 rfl rfl rfl (Nat.le_of_ble_eq_true rfl) (hb hby d_jdk_68m_22_30) (by decide) (by decide) (pc' := 33) rfl ?_
  intro T92 v92 L92 X92 Q92
  obtain ⟨rfl, N3, K3, V3⟩ := Q92
  show Go _ _ _ _ T92 (mkF m 33 _ [])
  have N4 := Fr.app N0 N3
  have nbt : b ≠ t := B.1.neArv B.2.2.2.2.1 (tw hw 45 rfl)
  have FN3 := B.2.2.2.1.keep K3 (ninS nbt nin0)
  have EX3 := B.1.keep K3
  have FV3 := B.2.1.keep K3 (ninS nbt nin0)
  have FC3 := B.2.2.1.keep K3 (ninS nbt nin0)
  have FX3 := B.2.2.2.2.2.2.2.2.keep K3 (ninS nbt nin0)
  refine w_aloadN X92.here hx (hb hby d_jdk_68m_22_33) rfl rfl (pc' := 34) rfl ?_
  refine w_dup X92.here hx (hb hby d_jdk_68m_22_34) rfl (pc' := 35) rfl ?_
  refine w_getF X92 hx hZ hown (tw hw 83 rfl) Via.refl rfl FN3 (hb hby d_jdk_68m_22_35) (pc' := 38) rfl ?_
  intro T93 X93 e93
  refine w_iloadN X93.here hx (hb hby d_jdk_68m_22_38) rfl (pc' := 39) rfl ?_
  refine w_iadd X93.here hx (hb hby d_jdk_68m_22_39) (pc' := 40) rfl ?_
  rw [n_add]
  show Go _ _ _ _ T93 (mkF m 40 _ [(.int (Int32.ofNat (cs.length + ds.length))), (.ref b)])
  refine w_putF X93 hx hZ hown (tw hw 83 rfl) Via.refl e93 FN3 EX3 (Or.inl (tw hw 84 rfl)) (tw hw 45 rfl) (ty := .int) (by decide) rfl rfl (hb hby d_jdk_68m_22_40) (pc' := 43) rfl ?_
  intro T94 h94 X94 e94 W94
  have N5 := Fr.snoc X94 N4 gb
  refine w_aloadN X94.here hx (hb hby d_jdk_68m_22_43) rfl rfl (pc' := 44) rfl ?_
  exact endR X94 hx hlk rfl hret rfl (hb hby d_jdk_68m_22_44) (by decide) (by decide) (by rw [e94]; exact ⟨rfl, N5, (KA.trans K3 (fun y hy => by rcases List.mem_singleton.mp hy with rfl; exact Or.inl (List.mem_cons_of_mem _ (List.mem_cons_self ..)))).wr W94 (Or.inl (List.mem_cons_self ..)), EX3.wr W94, FV3.other W94 (Or.inr (slot_ne (Or.inl (tw hw 59 rfl)) (Or.inl (tw hw 84 rfl)) (by decide) (t := (.array .byte)) (t' := .int) (by decide) (by decide))), FC3.other W94 (Or.inr (slot_ne (Or.inl (tw hw 61 rfl)) (Or.inl (tw hw 84 rfl)) (by decide) (t := .byte) (t' := .int) (by decide) (by decide))), by rw [List.length_append]; exact Fld.same W94 FN3, V3.other W94 (Ne.symm nbt), by rw [List.length_append]; omega, B.2.2.2.2.2.2.1, B.2.2.2.2.2.2.2.1.app G.2.2.2.2.2, FX3.other W94 (Or.inr (slot_ne (Or.inl (tw hw 300 rfl)) (Or.inl (tw hw 84 rfl)) (by decide) (t := .boolean) (t' := .int) (by decide) (by decide)))⟩)
theorem d_jdk_67m_7_0 : decode jdk_67_method_7_code 0 = .ok (.aload_n 0, 1) := by decide +kernel
theorem d_jdk_67m_7_1 : decode jdk_67_method_7_code 1 = .ok (.aload_n 1, 1) := by decide +kernel
theorem pd_20 : parseMethodDescriptor "(Ljava/lang/String;)Ljava/lang/AbstractStringBuilder;" = some ⟨[(.object "java/lang/String")], some (.object "java/lang/AbstractStringBuilder")⟩ := by decide +kernel
theorem d_jdk_67m_7_2 : decode jdk_67_method_7_code 2 = .ok (.invokespecial 29, 3) := by decide +kernel
theorem d_jdk_67m_7_5 : decode jdk_67_method_7_code 5 = .ok (.pop, 1) := by decide +kernel
theorem d_jdk_67m_7_6 : decode jdk_67_method_7_code 6 = .ok (.aload_n 0, 1) := by decide +kernel
theorem d_jdk_67m_7_7 : decode jdk_67_method_7_code 7 = .ok (.areturn, 1) := by decide +kernel
set_option maxRecDepth 65536 in
set_option maxHeartbeats 40000000 in
theorem rmApFS (l : Launch) (Z : State) (a0 : Array Value) (hw : ∀ d ∈ tables_1, d.before a0 Z = true) (b t x u : Addr) (kt ku : ClassId) (cs ds : List Int32) (N : Nat) (z : Int32) (h0 : Heap) (n0 : Nat) (Z0 : n0 ≤ h0.size) (gb : n0 ≤ b) (gt : n0 ≤ t) (SC : Sta Z h0 "java/lang/String" "COMPACT_STRINGS" "Z" (.int z)) (hz : ¬ z = 0) (B : SbOf Z h0 b t kt cs N) (G : LstOf Z h0 x u ku ds) (hq : cs.length + ds.length ≤ N) :
    Ct l yq1 jdk_67_method_7_code 2 (some (.object "java/lang/StringBuilder")) ({ frames := 4, cells := 0, slots := 0, locals := 61 } : Room) Z #[(.ref b), (.ref x)] h0 (fun v h L => v = some (.ref b) ∧ Fr n0 L ∧ Keep h0 h [b, t] ∧ SbOf Z h b t kt (cs ++ ds) N) := by
  refine ct_of (Q := fun v h L => v = some (.ref b) ∧ Fr n0 L ∧ Keep h0 h [b, t] ∧ SbOf Z h b t kt (cs ++ ds) N) (plainFor_of_name pn_4) ?_
  intro p e s m below meth c s₁ X0 hx hby hml hret hnm hlk hown hZ hs0 e0
  have N0 := Fr.nil n0
  rw [show entryFrame m #[(.ref b), (.ref x)] 2 = mkF m 0 #[.val (.ref b), .val (.ref x)] [] from by first | (simp [entryFrame, mkF, argsToLocals, Value.category]; done) | rfl]
  refine w_aloadN X0.here hx (hb hby d_jdk_67m_7_0) rfl rfl (pc' := 1) rfl ?_
  refine w_aloadN X0.here hx (hb hby d_jdk_67m_7_1) rfl rfl (pc' := 2) rfl ?_
  refine w_super X0 hx hZ (y := yq9) hown (tw hw 68 rfl) (own_same (tw hw 69 rfl) (by decide) (tw hw 88 rfl) rfl) (tw hw 69 rfl) (tw hw 70 rfl) (tw hw 72 rfl) (by decide) (backC (W := 0) (rmApF l Z a0 hw b t x u kt ku cs ds N z h0 n0 Z0 gb gt SC hz B G hq) hZ (tw hw 72 rfl) (tw hw 54 rfl) (by decide) (by decide)) e0 (Ins.self B.1) (by rw [hml]; rfl) (argsL := [(.ref x)]) (st := []) pd_20 rfl rfl rfl (Nat.le_of_ble_eq_true rfl) (hb hby d_jdk_67m_7_2) (by decide) (by decide) (pc' := 5) rfl ?_
  intro T95 v95 L95 X95 Q95
  obtain ⟨rfl, N1, G1⟩ := Q95
  show Go _ _ _ _ T95 (mkF m 5 _ [(.ref b)])
  refine w_pop X95.here hx (hb hby d_jdk_67m_7_5) rfl (pc' := 6) rfl ?_
  refine w_aloadN X95.here hx (hb hby d_jdk_67m_7_6) rfl rfl (pc' := 7) rfl ?_
  exact endR X95 hx hlk rfl hret rfl (hb hby d_jdk_67m_7_7) (by decide) (by decide) (⟨rfl, Fr.app N0 N1, G1⟩)
set_option maxRecDepth 65536 in
set_option maxHeartbeats 40000000 in
theorem rmApG (l : Launch) (Z : State) (a0 : Array Value) (hw : ∀ d ∈ tables_1, d.before a0 Z = true) (b t x u : Addr) (kt ku : ClassId) (cs ds : List Int32)  (z : Int32) (h0 : Heap) (n0 : Nat) (Z0 : n0 ≤ h0.size) (gb : n0 ≤ b) (gt : n0 ≤ t) (SC : Sta Z h0 "java/lang/String" "COMPACT_STRINGS" "Z" (.int z)) (hz : ¬ z = 0) (B : SbOf Z h0 b t kt cs 16) (G : LstOf Z h0 x u ku ds) (hq : 16 < cs.length + ds.length) (hq2 : cs.length + ds.length < 34) (nxb : x ≠ b) (nub : u ≠ b) :
    Ct l yq9 jdk_68_method_22_code 3 (some (.object "java/lang/AbstractStringBuilder")) ({ frames := 4, cells := 1, slots := 34, locals := 62 } : Room) Z #[(.ref b), (.ref x)] h0 (fun v h L => v = some (.ref b) ∧ Fr n0 L ∧ Keep h0 h [b, t] ∧ ∃ t2 kt2, h0.size ≤ t2 ∧ SbOf Z h b t2 kt2 (cs ++ ds) 34) := by
  refine ct_of (Q := fun v h L => v = some (.ref b) ∧ Fr n0 L ∧ Keep h0 h [b, t] ∧ ∃ t2 kt2, h0.size ≤ t2 ∧ SbOf Z h b t2 kt2 (cs ++ ds) 34) (plainFor_of_name pn_3) ?_
  intro p e s m below meth c s₁ X0 hx hby hml hret hnm hlk hown hZ hs0 e0
  have N0 := Fr.nil n0
  rw [show entryFrame m #[(.ref b), (.ref x)] 3 = mkF m 0 #[.val (.ref b), .val (.ref x), .unset] [] from by first | (simp [entryFrame, mkF, argsToLocals, Value.category]; done) | rfl]
  refine w_aloadN X0.here hx (hb hby d_jdk_68m_22_0) rfl rfl (pc' := 1) rfl ?_
  refine w_ifnonnullYes X0.here hx (hb hby d_jdk_68m_22_1) (pc' := 9) (by decide) (by decide) ?_
  refine w_aloadN X0.here hx (hb hby d_jdk_68m_22_9) rfl rfl (pc' := 10) rfl ?_
  refine w_virtual X0 hx hZ (y := yq4) (z := yq4) hown (tw hw 73 rfl) (tw hw 74 rfl) (notFace_of_selects (args := #[]) (mvT hZ (tw hw 76 rfl))) (tw hw 76 rfl) (tw hw 75 rfl) (by decide) (k_len (W := 0) hZ (fun d hd => hw d (own_wLen d hd)) (tw hw 3 rfl) G.str SC hz (by decide) (by decide)) e0 G.1 (by rw [hml]; rfl) (argsL := []) (st := []) pd_11 rfl rfl rfl (Nat.le_of_ble_eq_true rfl) (hb hby d_jdk_68m_22_10) (by decide) (by decide) (pc' := 13) rfl ?_
  intro T96 v96 L96 X96 Q96
  obtain ⟨rfl, rfl, hh⟩ := Q96
  show Go _ _ _ _ T96 (mkF m 13 _ [(.int (Int32.ofNat ds.length))])
  rw [List.append_nil] at X96
  refine w_istoreN X96.here hx (hb hby d_jdk_68m_22_13) (l' := #[.val (.ref b), .val (.ref x), .val (.int (Int32.ofNat ds.length))]) rfl (pc' := 14) rfl ?_
  refine w_aloadN X96.here hx (hb hby d_jdk_68m_22_14) rfl rfl (pc' := 15) rfl ?_
  refine w_aloadN X96.here hx (hb hby d_jdk_68m_22_15) rfl rfl (pc' := 16) rfl ?_
  refine w_getF X96 hx hZ hown (tw hw 83 rfl) Via.refl hh B.2.2.2.1 (hb hby d_jdk_68m_22_16) (pc' := 19) rfl ?_
  intro T97 X97 e97
  refine w_iloadN X97.here hx (hb hby d_jdk_68m_22_19) rfl (pc' := 20) rfl ?_
  refine w_iadd X97.here hx (hb hby d_jdk_68m_22_20) (pc' := 21) rfl ?_
  rw [n_add]
  show Go _ _ _ _ T97 (mkF m 21 _ [(.int (Int32.ofNat (cs.length + ds.length))), (.ref b)])
  refine w_private X97 hx hZ (y := yq13) hown (tw hw 85 rfl) (tw hw 86 rfl) (tw hw 87 rfl) (tw hw 88 rfl) (tw hw 89 rfl) (by decide) (backC (W := 0) (rmEnsG l Z a0 hw b t kt cs (cs.length + ds.length) h0 n0 Z0 gb B hq hq2) hZ (tw hw 89 rfl) (tw hw 54 rfl) (by decide) (by decide)) e97 B.1 (by rw [hml]; rfl) (argsL := [(.int (Int32.ofNat (cs.length + ds.length)))]) (st := []) pd_12 rfl rfl rfl (Nat.le_of_ble_eq_true rfl) (hb hby d_jdk_68m_22_21) (by decide) (by decide) (pc' := 24) rfl ?_
  intro T98 v98 L98 X98 Q98
  obtain ⟨rfl, N1, K1, t2, kt2, gt2, B2⟩ := Q98
  show Go _ _ _ _ T98 (mkF m 24 _ [])
  have N1 := Fr.app N0 N1
  have G2 := G.keep K1 (ninS nxb nin0) (ninS nub nin0)
  have gt2' : n0 ≤ t2 := Nat.le_trans Z0 gt2
  have nut2 : u ≠ t2 := Nat.ne_of_lt (Nat.lt_of_lt_of_le G.2.2.2.1.lt gt2)
  have KA : Keep h0 T98.heap [b, t] := K1.trans (Keep.refl _ []) (fun y hy => nomatch hy) |> fun q => ⟨q.1, fun y cc hy hn => q.2.1 y cc hy (fun hm => hn (by rw [List.mem_singleton.mp hm]; exact List.mem_cons_self ..)), q.2.2⟩
  refine w_aloadN X98.here hx (hb hby d_jdk_68m_22_24) rfl rfl (pc' := 25) rfl ?_
  refine w_aloadN X98.here hx (hb hby d_jdk_68m_22_25) rfl rfl (pc' := 26) rfl ?_
  refine w_getF X98 hx hZ hown (tw hw 83 rfl) Via.refl rfl B2.2.2.2.1 (hb hby d_jdk_68m_22_26) (pc' := 29) rfl ?_
  intro T99 X99 e99
  refine w_aloadN X99.here hx (hb hby d_jdk_68m_22_29) rfl rfl (pc' := 30) rfl ?_
  refine w_private X99 hx hZ (y := yq14) hown (tw hw 116 rfl) (tw hw 117 rfl) (tw hw 118 rfl) (tw hw 119 rfl) (tw hw 120 rfl) (by decide) (backC (W := 0) (rmPutAt l Z a0 hw b t2 x u kt2 ku cs ds 34 z T98.heap n0 gt2' (staKeep SC K1 (fun y hy => by rw [List.mem_singleton.mp hy]; exact B.1.nostat)) hz B2 G2 (by omega)) hZ (tw hw 120 rfl) (tw hw 54 rfl) (by decide) (by decide)) e99 B2.1 (by rw [hml]; rfl) (argsL := [(.int (Int32.ofNat cs.length)), (.ref x)]) (st := []) pd_19 rfl rfl rfl (Nat.le_of_ble_eq_true rfl) (hb hby d_jdk_68m_22_30) (by decide) (by decide) (pc' := 33) rfl ?_
  intro T100 v100 L100 X100 Q100
  obtain ⟨rfl, N3, K3, V3⟩ := Q100
  show Go _ _ _ _ T100 (mkF m 33 _ [])
  have N4 := Fr.app N1 N3
  have nbt : b ≠ t2 := B2.1.neArv B2.2.2.2.2.1 (tw hw 45 rfl)
  have FN3 := B2.2.2.2.1.keep K3 (ninS nbt nin0)
  have EX3 := B2.1.keep K3
  have FV3 := B2.2.1.keep K3 (ninS nbt nin0)
  have FC3 := B2.2.2.1.keep K3 (ninS nbt nin0)
  have FX3 := B2.2.2.2.2.2.2.2.2.keep K3 (ninS nbt nin0)
  refine w_aloadN X100.here hx (hb hby d_jdk_68m_22_33) rfl rfl (pc' := 34) rfl ?_
  refine w_dup X100.here hx (hb hby d_jdk_68m_22_34) rfl (pc' := 35) rfl ?_
  refine w_getF X100 hx hZ hown (tw hw 83 rfl) Via.refl rfl FN3 (hb hby d_jdk_68m_22_35) (pc' := 38) rfl ?_
  intro T101 X101 e101
  refine w_iloadN X101.here hx (hb hby d_jdk_68m_22_38) rfl (pc' := 39) rfl ?_
  refine w_iadd X101.here hx (hb hby d_jdk_68m_22_39) (pc' := 40) rfl ?_
  rw [n_add]
  show Go _ _ _ _ T101 (mkF m 40 _ [(.int (Int32.ofNat (cs.length + ds.length))), (.ref b)])
  refine w_putF X101 hx hZ hown (tw hw 83 rfl) Via.refl e101 FN3 EX3 (Or.inl (tw hw 84 rfl)) (tw hw 45 rfl) (ty := .int) (by decide) rfl rfl (hb hby d_jdk_68m_22_40) (pc' := 43) rfl ?_
  intro T102 h102 X102 e102 W102
  have N5 := Fr.snoc X102 N4 gb
  refine w_aloadN X102.here hx (hb hby d_jdk_68m_22_43) rfl rfl (pc' := 44) rfl ?_
  exact endR X102 hx hlk rfl hret rfl (hb hby d_jdk_68m_22_44) (by decide) (by decide) (by rw [e102]; exact ⟨rfl, N5, (KA.trans K3 (fun y hy => by rcases List.mem_singleton.mp hy with rfl; exact Or.inr gt2)).wr W102 (Or.inl (List.mem_cons_self ..)), t2, kt2, gt2, EX3.wr W102, FV3.other W102 (Or.inr (slot_ne (Or.inl (tw hw 59 rfl)) (Or.inl (tw hw 84 rfl)) (by decide) (t := (.array .byte)) (t' := .int) (by decide) (by decide))), FC3.other W102 (Or.inr (slot_ne (Or.inl (tw hw 61 rfl)) (Or.inl (tw hw 84 rfl)) (by decide) (t := .byte) (t' := .int) (by decide) (by decide))), by rw [List.length_append]; exact Fld.same W102 FN3, V3.other W102 (Ne.symm nbt), by rw [List.length_append]; omega, B2.2.2.2.2.2.2.1, B2.2.2.2.2.2.2.2.1.app G.2.2.2.2.2, FX3.other W102 (Or.inr (slot_ne (Or.inl (tw hw 300 rfl)) (Or.inl (tw hw 84 rfl)) (by decide) (t := .boolean) (t' := .int) (by decide) (by decide)))⟩)
set_option maxRecDepth 65536 in
set_option maxHeartbeats 40000000 in
theorem rmApGS (l : Launch) (Z : State) (a0 : Array Value) (hw : ∀ d ∈ tables_1, d.before a0 Z = true) (b t x u : Addr) (kt ku : ClassId) (cs ds : List Int32)  (z : Int32) (h0 : Heap) (n0 : Nat) (Z0 : n0 ≤ h0.size) (gb : n0 ≤ b) (gt : n0 ≤ t) (SC : Sta Z h0 "java/lang/String" "COMPACT_STRINGS" "Z" (.int z)) (hz : ¬ z = 0) (B : SbOf Z h0 b t kt cs 16) (G : LstOf Z h0 x u ku ds) (hq : 16 < cs.length + ds.length) (hq2 : cs.length + ds.length < 34) (nxb : x ≠ b) (nub : u ≠ b) :
    Ct l yq1 jdk_67_method_7_code 2 (some (.object "java/lang/StringBuilder")) ({ frames := 5, cells := 1, slots := 34, locals := 76 } : Room) Z #[(.ref b), (.ref x)] h0 (fun v h L => v = some (.ref b) ∧ Fr n0 L ∧ Keep h0 h [b, t] ∧ ∃ t2 kt2, h0.size ≤ t2 ∧ SbOf Z h b t2 kt2 (cs ++ ds) 34) := by
  refine ct_of (Q := fun v h L => v = some (.ref b) ∧ Fr n0 L ∧ Keep h0 h [b, t] ∧ ∃ t2 kt2, h0.size ≤ t2 ∧ SbOf Z h b t2 kt2 (cs ++ ds) 34) (plainFor_of_name pn_4) ?_
  intro p e s m below meth c s₁ X0 hx hby hml hret hnm hlk hown hZ hs0 e0
  have N0 := Fr.nil n0
  rw [show entryFrame m #[(.ref b), (.ref x)] 2 = mkF m 0 #[.val (.ref b), .val (.ref x)] [] from by first | (simp [entryFrame, mkF, argsToLocals, Value.category]; done) | rfl]
  refine w_aloadN X0.here hx (hb hby d_jdk_67m_7_0) rfl rfl (pc' := 1) rfl ?_
  refine w_aloadN X0.here hx (hb hby d_jdk_67m_7_1) rfl rfl (pc' := 2) rfl ?_
  refine w_super X0 hx hZ (y := yq9) hown (tw hw 68 rfl) (own_same (tw hw 69 rfl) (by decide) (tw hw 88 rfl) rfl) (tw hw 69 rfl) (tw hw 70 rfl) (tw hw 72 rfl) (by decide) (backC (W := 0) (rmApG l Z a0 hw b t x u kt ku cs ds z h0 n0 Z0 gb gt SC hz B G hq hq2 nxb nub) hZ (tw hw 72 rfl) (tw hw 54 rfl) (by decide) (by decide)) e0 (Ins.self B.1) (by rw [hml]; rfl) (argsL := [(.ref x)]) (st := []) pd_20 rfl rfl rfl (Nat.le_of_ble_eq_true rfl) (hb hby d_jdk_67m_7_2) (by decide) (by decide) (pc' := 5) rfl ?_
  intro T103 v103 L103 X103 Q103
  obtain ⟨rfl, N1, G1⟩ := Q103
  show Go _ _ _ _ T103 (mkF m 5 _ [(.ref b)])
  refine w_pop X103.here hx (hb hby d_jdk_67m_7_5) rfl (pc' := 6) rfl ?_
  refine w_aloadN X103.here hx (hb hby d_jdk_67m_7_6) rfl rfl (pc' := 7) rfl ?_
  exact endR X103 hx hlk rfl hret rfl (hb hby d_jdk_67m_7_7) (by decide) (by decide) (⟨rfl, Fr.app N0 N1, G1⟩)
theorem d_jdk_65m_131_0 : decode jdk_65_method_131_code 0 = .ok (.iload_n 1, 1) := by decide +kernel
theorem d_jdk_65m_131_1 : decode jdk_65_method_131_code 1 = .ok (.iload_n 0, 1) := by decide +kernel
theorem d_jdk_65m_131_2 : decode jdk_65_method_131_code 2 = .ok (.if_icmp .ge 35, 3) := by decide +kernel
theorem d_jdk_65m_131_37 : decode jdk_65_method_131_code 37 = .ok (.return_, 1) := by decide +kernel
set_option maxRecDepth 65536 in
set_option maxHeartbeats 40000000 in
theorem rmChk (l : Launch) (Z : State) (a0 : Array Value) (hw : ∀ d ∈ tables_1, d.before a0 Z = true) (n : Nat) (h0 : Heap) (hn : n < 2 ^ 31) :
    Ct l yq25 jdk_65_method_131_code 2 none ({ frames := 0, cells := 0, slots := 0, locals := 0 } : Room) Z #[(.int (0 : Int32)), (.int (Int32.ofNat n))] h0 (fun v h L => v = none ∧ L = [] ∧ h = h0) := by
  refine ct_of (Q := fun v h L => v = none ∧ L = [] ∧ h = h0) (plainFor_of_name pn_6) ?_
  intro p e s m below meth c s₁ X0 hx hby hml hret hnm hlk hown hZ hs0 e0
  rw [show entryFrame m #[(.int (0 : Int32)), (.int (Int32.ofNat n))] 2 = mkF m 0 #[.val (.int (0 : Int32)), .val (.int (Int32.ofNat n))] [] from by first | (simp [entryFrame, mkF, argsToLocals, Value.category]; done) | rfl]
  refine w_iloadN X0.here hx (hb hby d_jdk_65m_131_0) rfl (pc' := 1) rfl ?_
  refine w_iloadN X0.here hx (hb hby d_jdk_65m_131_1) rfl (pc' := 2) rfl ?_
  refine w_icmpYes X0.here hx (hb hby d_jdk_65m_131_2) (flt (show ¬ ((Int32.ofNat n) < (0 : Int32)) from n_nn hn)).2.1 (pc' := 37) (by decide) (by decide) ?_
  exact endV X0 hx hlk hret (hb hby d_jdk_65m_131_37) (by decide) (by decide) (by rw [e0]; exact ⟨rfl, rfl, rfl⟩)
theorem d_jdk_65m_133_0 : decode jdk_65_method_133_code 0 = .ok (.iload_n 1, 1) := by decide +kernel
theorem d_jdk_65m_133_1 : decode jdk_65_method_133_code 1 = .ok (.iload_n 2, 1) := by decide +kernel
theorem pd_21 : parseMethodDescriptor "(II)V" = some ⟨[.int, .int], none⟩ := by decide +kernel
theorem d_jdk_65m_133_2 : decode jdk_65_method_133_code 2 = .ok (.invokestatic 343, 3) := by decide +kernel
theorem d_jdk_65m_133_5 : decode jdk_65_method_133_code 5 = .ok (.iload_n 2, 1) := by decide +kernel
theorem d_jdk_65m_133_6 : decode jdk_65_method_133_code 6 = .ok (.iload_n 1, 1) := by decide +kernel
theorem d_jdk_65m_133_7 : decode jdk_65_method_133_code 7 = .ok (.isub, 1) := by decide +kernel
theorem d_jdk_65m_133_8 : decode jdk_65_method_133_code 8 = .ok (.istore_n 3, 1) := by decide +kernel
theorem d_jdk_65m_133_9 : decode jdk_65_method_133_code 9 = .ok (.iload_n 3, 1) := by decide +kernel
theorem d_jdk_65m_133_10 : decode jdk_65_method_133_code 10 = .ok (.newarray .byte, 2) := by decide +kernel
theorem d_jdk_65m_133_12 : decode jdk_65_method_133_code 12 = .ok (.astore 4, 2) := by decide +kernel
theorem d_jdk_65m_133_14 : decode jdk_65_method_133_code 14 = .ok (.aload_n 0, 1) := by decide +kernel
theorem d_jdk_65m_133_15 : decode jdk_65_method_133_code 15 = .ok (.iload_n 1, 1) := by decide +kernel
theorem d_jdk_65m_133_16 : decode jdk_65_method_133_code 16 = .ok (.aload 4, 2) := by decide +kernel
theorem d_jdk_65m_133_18 : decode jdk_65_method_133_code 18 = .ok (.iconst 0, 1) := by decide +kernel
theorem d_jdk_65m_133_19 : decode jdk_65_method_133_code 19 = .ok (.aload_n 0, 1) := by decide +kernel
theorem d_jdk_65m_133_20 : decode jdk_65_method_133_code 20 = .ok (.arraylength, 1) := by decide +kernel
theorem d_jdk_65m_133_21 : decode jdk_65_method_133_code 21 = .ok (.iload_n 1, 1) := by decide +kernel
theorem d_jdk_65m_133_22 : decode jdk_65_method_133_code 22 = .ok (.isub, 1) := by decide +kernel
theorem d_jdk_65m_133_23 : decode jdk_65_method_133_code 23 = .ok (.iload_n 3, 1) := by decide +kernel
theorem d_jdk_65m_133_24 : decode jdk_65_method_133_code 24 = .ok (.invokestatic 304, 3) := by decide +kernel
theorem d_jdk_65m_133_27 : decode jdk_65_method_133_code 27 = .ok (.invokestatic 150, 3) := by decide +kernel
theorem d_jdk_65m_133_30 : decode jdk_65_method_133_code 30 = .ok (.aload 4, 2) := by decide +kernel
theorem d_jdk_65m_133_32 : decode jdk_65_method_133_code 32 = .ok (.areturn, 1) := by decide +kernel
set_option maxRecDepth 65536 in
set_option maxHeartbeats 40000000 in
theorem rmRngB (l : Launch) (Z : State) (a0 : Array Value) (hw : ∀ d ∈ tables_1, d.before a0 Z = true) (t : Addr) (kt : ClassId) (cs : List Int32) (N : Nat) (h0 : Heap) (n0 : Nat) (Z0 : n0 ≤ h0.size) (V : Arv Z h0 t kt .byte (Int32.ofNat N) (padB cs N) (.int 0)) (hl : cs.length < N) (hN : N ≤ 4000) (hK : cs.length ≤ 24) :
    Ct l yq18 jdk_65_method_133_code 5 (some (.array .byte)) ({ frames := 1, cells := 1, slots := 24, locals := 18 } : Room) Z #[(.ref t), (.int (0 : Int32)), (.int (Int32.ofNat cs.length))] h0 (fun v h L => ∃ u ku, v = some (.ref u) ∧ Fr n0 L ∧ Ext h0 h ∧ h0.size ≤ u ∧ Arv Z h u ku .byte (Int32.ofNat cs.length) (lobs cs) (.int 0)) := by
  refine ct_of (Q := fun v h L => ∃ u ku, v = some (.ref u) ∧ Fr n0 L ∧ Ext h0 h ∧ h0.size ≤ u ∧ Arv Z h u ku .byte (Int32.ofNat cs.length) (lobs cs) (.int 0)) (plainFor_of_name pn_6) ?_
  intro p e s m below meth c s₁ X0 hx hby hml hret hnm hlk hown hZ hs0 e0
  have N0 := Fr.nil n0
  rw [show entryFrame m #[(.ref t), (.int (0 : Int32)), (.int (Int32.ofNat cs.length))] 5 = mkF m 0 #[.val (.ref t), .val (.int (0 : Int32)), .val (.int (Int32.ofNat cs.length)), .unset, .unset] [] from by first | (simp [entryFrame, mkF, argsToLocals, Value.category]; done) | rfl]
  refine w_iloadN X0.here hx (hb hby d_jdk_65m_133_0) rfl (pc' := 1) rfl ?_
  refine w_iloadN X0.here hx (hb hby d_jdk_65m_133_1) rfl (pc' := 2) rfl ?_
  refine w_static X0 hx hZ (y := yq25) hown (tw hw 169 rfl) (tw hw 170 rfl) (tw hw 107 rfl) (tw hw 171 rfl) (by decide) (backC (W := 0) (rmChk l Z a0 hw cs.length h0 (by omega)) hZ (tw hw 171 rfl) (tw hw 107 rfl) (by decide) (by decide)) e0 (by rw [hml]; rfl) (argsL := [(.int (0 : Int32)), (.int (Int32.ofNat cs.length))]) (st := []) pd_21 rfl rfl rfl (Nat.le_of_ble_eq_true rfl) (hb hby d_jdk_65m_133_2) (by decide) (by decide) (pc' := 5) rfl ?_
  intro T104 v104 L104 X104 Q104
  obtain ⟨rfl, rfl, hh⟩ := Q104
  show Go _ _ _ _ T104 (mkF m 5 _ [])
  rw [List.append_nil] at X104
  refine w_iloadN X104.here hx (hb hby d_jdk_65m_133_5) rfl (pc' := 6) rfl ?_
  refine w_iloadN X104.here hx (hb hby d_jdk_65m_133_6) rfl (pc' := 7) rfl ?_
  refine w_isub X104.here hx (hb hby d_jdk_65m_133_7) (pc' := 8) rfl ?_
  rw [Int32.sub_zero]
  show Go _ _ _ _ T104 (mkF m 8 _ [(.int (Int32.ofNat cs.length))])
  refine w_istoreN X104.here hx (hb hby d_jdk_65m_133_8) (l' := #[.val (.ref t), .val (.int (0 : Int32)), .val (.int (Int32.ofNat cs.length)), .val (.int (Int32.ofNat cs.length)), .unset]) rfl (pc' := 9) rfl ?_
  refine w_iloadN X104.here hx (hb hby d_jdk_65m_133_9) rfl (pc' := 10) rfl ?_
  refine w_newarray X104 hx hZ (ty := .byte) (dv := (.int 0)) rfl rfl (tw hw 4 rfl) hh (n := (Int32.ofNat cs.length)) (hb hby d_jdk_65m_133_10) (n_nn (by omega)) (cap := 24) (by rw [n_nat (by omega)]; omega) (by decide) (by decide) (by decide) (pc' := 12) rfl ?_
  intro T105 h105 u ku gu X105 e105 E105 U
  have ge_u_h0 : h0.size ≤ u := Nat.le_trans (Ext.rfl' : Ext h0 h0).1 (Nat.le_of_eq gu)
  have C106 : Ext h0 h105 := Ext.trs Ext.rfl' E105
  rw [n_nat (by omega)] at U
  have ge : n0 ≤ u := Nat.le_trans Z0 ge_u_h0
  refine w_astore X105.here hx (hb hby d_jdk_65m_133_12) rfl (l' := #[.val (.ref t), .val (.int (0 : Int32)), .val (.int (Int32.ofNat cs.length)), .val (.int (Int32.ofNat cs.length)), .val (.ref u)]) rfl (pc' := 14) rfl ?_
  refine w_aloadN X105.here hx (hb hby d_jdk_65m_133_14) rfl rfl (pc' := 15) rfl ?_
  refine w_iloadN X105.here hx (hb hby d_jdk_65m_133_15) rfl (pc' := 16) rfl ?_
  refine w_aload X105.here hx (hb hby d_jdk_65m_133_16) rfl rfl (pc' := 18) rfl ?_
  refine w_iconst X105.here hx (hb hby d_jdk_65m_133_18) (z := 0) rfl (pc' := 19) rfl ?_
  refine w_aloadN X105.here hx (hb hby d_jdk_65m_133_19) rfl rfl (pc' := 20) rfl ?_
  refine w_arraylength X105 hx hZ e105 (V.ext C106) (hb hby d_jdk_65m_133_20) (pc' := 21) rfl ?_
  refine w_iloadN X105.here hx (hb hby d_jdk_65m_133_21) rfl (pc' := 22) rfl ?_
  refine w_isub X105.here hx (hb hby d_jdk_65m_133_22) (pc' := 23) rfl ?_
  rw [Int32.sub_zero]
  show Go _ _ _ _ T105 (mkF m 23 _ [(.int (Int32.ofNat N)), (.int (0 : Int32)), (.ref u), (.int (0 : Int32)), (.ref t)])
  refine w_iloadN X105.here hx (hb hby d_jdk_65m_133_23) rfl (pc' := 24) rfl ?_
  refine w_static X105 hx hZ (y := yq12) hown (tw hw 109 rfl) (tw hw 110 rfl) (tw hw 101 rfl) (tw hw 111 rfl) (by decide) (backC (W := 4) (rmMinR l Z a0 hw (Int32.ofNat N) (Int32.ofNat cs.length) h105 (n_lt (by omega) (by omega))) hZ (tw hw 111 rfl) (tw hw 101 rfl) (by decide) (by decide)) e105 (by rw [hml]; rfl) (argsL := [(.int (Int32.ofNat N)), (.int (Int32.ofNat cs.length))]) (st := [(.int (0 : Int32)), (.ref u), (.int (0 : Int32)), (.ref t)]) pd_13 rfl rfl rfl (Nat.le_of_ble_eq_true rfl) (hb hby d_jdk_65m_133_24) (by decide) (by decide) (pc' := 27) rfl ?_
  intro T107 v107 L107 X107 Q107
  obtain ⟨rfl, rfl, hh2⟩ := Q107
  show Go _ _ _ _ T107 (mkF m 27 _ [(.int (Int32.ofNat cs.length)), (.int (0 : Int32)), (.ref u), (.int (0 : Int32)), (.ref t)])
  rw [List.append_nil] at X107
  refine w_cpA X107 hx hZ hown (tw hw 112 rfl) (tw hw 115 rfl) (tw hw 113 rfl) (tw hw 114 rfl) hh2 (n := cs.length) (d := 0) (us := (padB cs N).take cs.length) (V.ext C106) U (Or.inl ⟨rfl, rfl⟩) (by rw [n_nat (by omega)]; omega) (by rw [n_nat (by omega)]; omega) rfl (by rw [padB_len (by omega)]; omega) (by simp) (by omega) N0 ge (by rw [hml]; rfl) (hb hby d_jdk_65m_133_27) (by decide) (W := 0) (Nat.le_of_ble_eq_true rfl) (by decide) (pc' := 30) rfl ?_
  intro T108 h108 L108 X108 e108 N108 K108 V108
  refine w_aload X108.here hx (hb hby d_jdk_65m_133_30) rfl rfl (pc' := 32) rfl ?_
  rw [padB_take] at V108
  have V2 : Arv Z h108 u ku .byte (Int32.ofNat cs.length) (lobs cs) (.int 0) := by simpa using V108
  exact endR X108 hx hlk rfl hret rfl (hb hby d_jdk_65m_133_32) (by decide) (by decide) (by rw [e108]; exact ⟨u, ku, rfl, N108, Ext.kp C106 K108 (allS ge_u_h0 all0), ge_u_h0, V2⟩)
theorem d_jdk_65m_132_0 : decode jdk_65_method_132_code 0 = .ok (.iload_n 1, 1) := by decide +kernel
theorem d_jdk_65m_132_1 : decode jdk_65_method_132_code 1 = .ok (.ifCond .ne 9, 3) := by decide +kernel
theorem d_jdk_65m_132_4 : decode jdk_65_method_132_code 4 = .ok (.iload_n 2, 1) := by decide +kernel
theorem d_jdk_65m_132_5 : decode jdk_65_method_132_code 5 = .ok (.aload_n 0, 1) := by decide +kernel
theorem d_jdk_65m_132_6 : decode jdk_65_method_132_code 6 = .ok (.arraylength, 1) := by decide +kernel
theorem d_jdk_65m_132_7 : decode jdk_65_method_132_code 7 = .ok (.if_icmp .eq 10, 3) := by decide +kernel
theorem d_jdk_65m_132_10 : decode jdk_65_method_132_code 10 = .ok (.aload_n 0, 1) := by decide +kernel
theorem d_jdk_65m_132_11 : decode jdk_65_method_132_code 11 = .ok (.iload_n 1, 1) := by decide +kernel
theorem d_jdk_65m_132_12 : decode jdk_65_method_132_code 12 = .ok (.iload_n 2, 1) := by decide +kernel
theorem pd_22 : parseMethodDescriptor "([BII)[B" = some ⟨[(.array .byte), .int, .int], some (.array .byte)⟩ := by decide +kernel
theorem d_jdk_65m_132_13 : decode jdk_65_method_132_code 13 = .ok (.invokestatic 339, 3) := by decide +kernel
theorem d_jdk_65m_132_16 : decode jdk_65_method_132_code 16 = .ok (.areturn, 1) := by decide +kernel
set_option maxRecDepth 65536 in
set_option maxHeartbeats 40000000 in
theorem rmRng (l : Launch) (Z : State) (a0 : Array Value) (hw : ∀ d ∈ tables_1, d.before a0 Z = true) (t : Addr) (kt : ClassId) (cs : List Int32) (N : Nat) (h0 : Heap) (n0 : Nat) (Z0 : n0 ≤ h0.size) (V : Arv Z h0 t kt .byte (Int32.ofNat N) (padB cs N) (.int 0)) (hl : cs.length < N) (hN : N ≤ 4000) (hK : cs.length ≤ 24) :
    Ct l yq19 jdk_65_method_132_code 3 (some (.array .byte)) ({ frames := 2, cells := 1, slots := 24, locals := 34 } : Room) Z #[(.ref t), (.int (0 : Int32)), (.int (Int32.ofNat cs.length))] h0 (fun v h L => ∃ u ku, v = some (.ref u) ∧ Fr n0 L ∧ Ext h0 h ∧ h0.size ≤ u ∧ Arv Z h u ku .byte (Int32.ofNat cs.length) (lobs cs) (.int 0)) := by
  refine ct_of (Q := fun v h L => ∃ u ku, v = some (.ref u) ∧ Fr n0 L ∧ Ext h0 h ∧ h0.size ≤ u ∧ Arv Z h u ku .byte (Int32.ofNat cs.length) (lobs cs) (.int 0)) (plainFor_of_name pn_6) ?_
  intro p e s m below meth c s₁ X0 hx hby hml hret hnm hlk hown hZ hs0 e0
  have N0 := Fr.nil n0
  rw [show entryFrame m #[(.ref t), (.int (0 : Int32)), (.int (Int32.ofNat cs.length))] 3 = mkF m 0 #[.val (.ref t), .val (.int (0 : Int32)), .val (.int (Int32.ofNat cs.length))] [] from by first | (simp [entryFrame, mkF, argsToLocals, Value.category]; done) | rfl]
  refine w_iloadN X0.here hx (hb hby d_jdk_65m_132_0) rfl (pc' := 1) rfl ?_
  refine w_ifNo X0.here hx (hb hby d_jdk_65m_132_1) (teq (show (0 : Int32) = (0 : Int32) from rfl)).2 (pc' := 4) rfl ?_
  refine w_iloadN X0.here hx (hb hby d_jdk_65m_132_4) rfl (pc' := 5) rfl ?_
  refine w_aloadN X0.here hx (hb hby d_jdk_65m_132_5) rfl rfl (pc' := 6) rfl ?_
  refine w_arraylength X0 hx hZ e0 V (hb hby d_jdk_65m_132_6) (pc' := 7) rfl ?_
  refine w_icmpNo X0.here hx (hb hby d_jdk_65m_132_7) (feq (show ¬ ((Int32.ofNat cs.length) = (Int32.ofNat N)) from n_ne hl (by omega))).1 (pc' := 10) rfl ?_
  refine w_aloadN X0.here hx (hb hby d_jdk_65m_132_10) rfl rfl (pc' := 11) rfl ?_
  refine w_iloadN X0.here hx (hb hby d_jdk_65m_132_11) rfl (pc' := 12) rfl ?_
  refine w_iloadN X0.here hx (hb hby d_jdk_65m_132_12) rfl (pc' := 13) rfl ?_
  refine w_static X0 hx hZ (y := yq18) hown (tw hw 166 rfl) (tw hw 167 rfl) (tw hw 107 rfl) (tw hw 168 rfl) (by decide) (backC (W := 0) (rmRngB l Z a0 hw t kt cs N h0 n0 Z0 V hl hN hK) hZ (tw hw 168 rfl) (tw hw 107 rfl) (by decide) (by decide)) e0 (by rw [hml]; rfl) (argsL := [(.ref t), (.int (0 : Int32)), (.int (Int32.ofNat cs.length))]) (st := []) pd_22 rfl rfl rfl (Nat.le_of_ble_eq_true rfl) (hb hby d_jdk_65m_132_13) (by decide) (by decide) (pc' := 16) rfl ?_
  intro T109 v109 L109 X109 Q109
  obtain ⟨u, ku, rfl, N1, G1⟩ := Q109
  show Go _ _ _ _ T109 (mkF m 16 _ [(.ref u)])
  exact endR X109 hx hlk rfl hret rfl (hb hby d_jdk_65m_132_16) (by decide) (by decide) (⟨u, ku, rfl, Fr.app N0 N1, G1⟩)
theorem d_jdk_42m_150_0 : decode jdk_42_method_150_code 0 = .ok (.aload_n 0, 1) := by decide +kernel
theorem d_jdk_42m_150_1 : decode jdk_42_method_150_code 1 = .ok (.invokespecial 1, 3) := by decide +kernel
theorem d_jdk_42m_150_4 : decode jdk_42_method_150_code 4 = .ok (.aload_n 1, 1) := by decide +kernel
theorem pd_23 : parseMethodDescriptor "()[B" = some ⟨[], some (.array .byte)⟩ := by decide +kernel
theorem d_jdk_42m_150_5 : decode jdk_42_method_150_code 5 = .ok (.invokevirtual 552, 3) := by decide +kernel
theorem d_jdk_42m_150_8 : decode jdk_42_method_150_code 8 = .ok (.astore_n 3, 1) := by decide +kernel
theorem d_jdk_42m_150_9 : decode jdk_42_method_150_code 9 = .ok (.aload_n 1, 1) := by decide +kernel
theorem d_jdk_42m_150_10 : decode jdk_42_method_150_code 10 = .ok (.invokevirtual 549, 3) := by decide +kernel
theorem d_jdk_42m_150_13 : decode jdk_42_method_150_code 13 = .ok (.istore 4, 2) := by decide +kernel
theorem d_jdk_42m_150_15 : decode jdk_42_method_150_code 15 = .ok (.aload_n 1, 1) := by decide +kernel
theorem pd_24 : parseMethodDescriptor "()Z" = some ⟨[], some .boolean⟩ := by decide +kernel
theorem d_jdk_42m_150_16 : decode jdk_42_method_150_code 16 = .ok (.invokevirtual 1047, 3) := by decide +kernel
theorem d_jdk_42m_150_19 : decode jdk_42_method_150_code 19 = .ok (.ifCond .eq 22, 3) := by decide +kernel
theorem d_jdk_42m_150_22 : decode jdk_42_method_150_code 22 = .ok (.aload_n 0, 1) := by decide +kernel
theorem d_jdk_42m_150_23 : decode jdk_42_method_150_code 23 = .ok (.iconst 0, 1) := by decide +kernel
theorem d_jdk_42m_150_24 : decode jdk_42_method_150_code 24 = .ok (.putfield 15, 3) := by decide +kernel
theorem d_jdk_42m_150_27 : decode jdk_42_method_150_code 27 = .ok (.aload_n 0, 1) := by decide +kernel
theorem d_jdk_42m_150_28 : decode jdk_42_method_150_code 28 = .ok (.aload_n 3, 1) := by decide +kernel
theorem d_jdk_42m_150_29 : decode jdk_42_method_150_code 29 = .ok (.iconst 0, 1) := by decide +kernel
theorem d_jdk_42m_150_30 : decode jdk_42_method_150_code 30 = .ok (.iload 4, 2) := by decide +kernel
theorem d_jdk_42m_150_32 : decode jdk_42_method_150_code 32 = .ok (.invokestatic 54, 3) := by decide +kernel
theorem d_jdk_42m_150_35 : decode jdk_42_method_150_code 35 = .ok (.putfield 9, 3) := by decide +kernel
theorem d_jdk_42m_150_38 : decode jdk_42_method_150_code 38 = .ok (.goto 59, 3) := by decide +kernel
theorem d_jdk_42m_150_97 : decode jdk_42_method_150_code 97 = .ok (.return_, 1) := by decide +kernel
set_option maxRecDepth 65536 in
set_option maxHeartbeats 40000000 in
theorem rmS2 (l : Launch) (Z : State) (a0 : Array Value) (hw : ∀ d ∈ tables_1, d.before a0 Z = true) (x b t : Addr) (kt : ClassId) (cs : List Int32) (N : Nat) (z : Int32) (c0 v0 : Value) (h0 : Heap) (n0 : Nat) (Z0 : n0 ≤ h0.size) (gx : n0 ≤ x) (SC : Sta Z h0 "java/lang/String" "COMPACT_STRINGS" "Z" (.int z)) (hz : ¬ z = 0) (B : SbOf Z h0 b t kt cs N) (hl : cs.length < N) (hK : cs.length ≤ 24) (EX : Exa Z h0 x "java/lang/String") (FV : Fld Z h0 x "java/lang/String" "value" "[B" v0) (FC : Fld Z h0 x "java/lang/String" "coder" "B" c0) :
    Ct l yq20 jdk_42_method_150_code 5 none ({ frames := 3, cells := 1, slots := 24, locals := 49 } : Room) Z #[(.ref x), (.ref b), .null] h0 (fun v h L => v = none ∧ Fr n0 L ∧ Keep h0 h [x] ∧ ∃ u ku, h0.size ≤ u ∧ LstOf Z h x u ku cs) := by
  refine ct_of (Q := fun v h L => v = none ∧ Fr n0 L ∧ Keep h0 h [x] ∧ ∃ u ku, h0.size ≤ u ∧ LstOf Z h x u ku cs) (plainFor_of_name pn_1) ?_
  intro p e s m below meth c s₁ X0 hx hby hml hret hnm hlk hown hZ hs0 e0
  have N0 := Fr.nil n0
  rw [show entryFrame m #[(.ref x), (.ref b), .null] 5 = mkF m 0 #[.val (.ref x), .val (.ref b), .val .null, .unset, .unset] [] from by first | (simp [entryFrame, mkF, argsToLocals, Value.category]; done) | rfl]
  refine w_aloadN X0.here hx (hb hby d_jdk_42m_150_0) rfl rfl (pc' := 1) rfl ?_
  refine w_initO X0 hx hZ hown (tw hw 22 rfl) (tw hw 23 rfl) (tw hw 24 rfl) e0 (by rw [hml]; rfl) (hb hby d_jdk_42m_150_1) (by decide) (W := 0) (Nat.le_of_ble_eq_true rfl) (by decide) (pc' := 4) rfl ?_
  intro T110 X110 e110
  refine w_aloadN X110.here hx (hb hby d_jdk_42m_150_4) rfl rfl (pc' := 5) rfl ?_
  refine w_virtual X110 hx hZ (y := yq7) (z := yq7) hown (tw hw 145 rfl) (tw hw 146 rfl) (notFace_of_selects (args := #[]) (mvT hZ (tw hw 148 rfl))) (tw hw 148 rfl) (tw hw 147 rfl) (by decide) (backC (W := 0) (rmGetV l Z a0 hw b t kt cs N h0 B) hZ (tw hw 149 rfl) (tw hw 54 rfl) (by decide) (by decide)) e110 B.1 (by rw [hml]; rfl) (argsL := []) (st := []) pd_23 rfl rfl rfl (Nat.le_of_ble_eq_true rfl) (hb hby d_jdk_42m_150_5) (by decide) (by decide) (pc' := 8) rfl ?_
  intro T111 v111 L111 X111 Q111
  obtain ⟨rfl, rfl, hh⟩ := Q111
  show Go _ _ _ _ T111 (mkF m 8 _ [(.ref t)])
  rw [List.append_nil] at X111
  refine w_astoreN X111.here hx (hb hby d_jdk_42m_150_8) rfl (l' := #[.val (.ref x), .val (.ref b), .val .null, .val (.ref t), .unset]) rfl (pc' := 9) rfl ?_
  refine w_aloadN X111.here hx (hb hby d_jdk_42m_150_9) rfl rfl (pc' := 10) rfl ?_
  refine w_virtual X111 hx hZ (y := yq6) (z := yq16) hown (tw hw 150 rfl) (tw hw 151 rfl) (own_nf (a0 := #[]) (mvT hZ (tw hw 88 rfl)) rfl) (tw hw 153 rfl) (tw hw 154 rfl) (by decide) (backC (W := 0) (rmLenS l Z a0 hw b t kt cs N h0 B) hZ (tw hw 155 rfl) (tw hw 46 rfl) (by decide) (by decide)) hh B.1 (by rw [hml]; rfl) (argsL := []) (st := []) pd_11 rfl rfl rfl (Nat.le_of_ble_eq_true rfl) (hb hby d_jdk_42m_150_10) (by decide) (by decide) (pc' := 13) rfl ?_
  intro T112 v112 L112 X112 Q112
  obtain ⟨rfl, rfl, hh2⟩ := Q112
  show Go _ _ _ _ T112 (mkF m 13 _ [(.int (Int32.ofNat cs.length))])
  rw [List.append_nil] at X112
  refine w_istore X112.here hx (hb hby d_jdk_42m_150_13) (l' := #[.val (.ref x), .val (.ref b), .val .null, .val (.ref t), .val (.int (Int32.ofNat cs.length))]) rfl (pc' := 15) rfl ?_
  refine w_aloadN X112.here hx (hb hby d_jdk_42m_150_15) rfl rfl (pc' := 16) rfl ?_
  refine w_virtual X112 hx hZ (y := yq2) (z := yq2) hown (tw hw 158 rfl) (tw hw 159 rfl) (notFace_of_selects (args := #[]) (mvT hZ (tw hw 161 rfl))) (tw hw 161 rfl) (tw hw 160 rfl) (by decide) (backC (W := 0) (rmIsL l Z a0 hw b t kt cs N h0 B z SC hz) hZ (tw hw 162 rfl) (tw hw 54 rfl) (by decide) (by decide)) hh2 B.1 (by rw [hml]; rfl) (argsL := []) (st := []) pd_24 rfl rfl rfl (Nat.le_of_ble_eq_true rfl) (hb hby d_jdk_42m_150_16) (by decide) (by decide) (pc' := 19) rfl ?_
  intro T113 v113 L113 X113 Q113
  obtain ⟨rfl, rfl, hh3⟩ := Q113
  show Go _ _ _ _ T113 (mkF m 19 _ [(.int (1 : Int32))])
  rw [List.append_nil] at X113
  refine w_ifNo X113.here hx (hb hby d_jdk_42m_150_19) (feq (show ¬ ((1 : Int32) = (0 : Int32)) from by decide)).1 (pc' := 22) rfl ?_
  refine w_aloadN X113.here hx (hb hby d_jdk_42m_150_22) rfl rfl (pc' := 23) rfl ?_
  refine w_iconst X113.here hx (hb hby d_jdk_42m_150_23) (z := 0) rfl (pc' := 24) rfl ?_
  refine w_putF X113 hx hZ hown (tw hw 36 rfl) Via.refl hh3 FC EX (Or.inr ⟨(tw hw 6 rfl), rfl, hnm⟩) (tw hw 3 rfl) (ty := .byte) (by decide) rfl rfl (hb hby d_jdk_42m_150_24) (pc' := 27) rfl ?_
  intro T114 h114 X114 e114 W114
  have N1 := Fr.snoc X114 N0 gx
  have EX1 := EX.wr W114
  have FC1 := Fld.same W114 FC
  have FV1 := FV.other W114 (Or.inr (slot_ne (Or.inr (tw hw 5 rfl)) (Or.inr (tw hw 6 rfl)) (by decide) (t := (.array .byte)) (t' := .byte) (by decide) (by decide)))
  have V1 := B.2.2.2.2.1.other W114 (Ne.symm (EX.neArv B.2.2.2.2.1 (tw hw 3 rfl)))
  have K1 := Keep.of_wr W114
  refine w_aloadN X114.here hx (hb hby d_jdk_42m_150_27) rfl rfl (pc' := 28) rfl ?_
  refine w_aloadN X114.here hx (hb hby d_jdk_42m_150_28) rfl rfl (pc' := 29) rfl ?_
  refine w_iconst X114.here hx (hb hby d_jdk_42m_150_29) (z := 0) rfl (pc' := 30) rfl ?_
  refine w_iload X114.here hx (hb hby d_jdk_42m_150_30) rfl (pc' := 32) rfl ?_
  have es : h114.size = h0.size := W114.size
  refine w_static X114 hx hZ (y := yq19) hown (tw hw 163 rfl) (tw hw 164 rfl) (tw hw 107 rfl) (tw hw 165 rfl) (by decide) (backC (W := 1) (rmRng l Z a0 hw t kt cs N h114 n0 (by rw [es]; exact Z0) V1 hl B.2.2.2.2.2.2.1 hK) hZ (tw hw 165 rfl) (tw hw 107 rfl) (by decide) (by decide)) e114 (by rw [hml]; rfl) (argsL := [(.ref t), (.int (0 : Int32)), (.int (Int32.ofNat cs.length))]) (st := [(.ref x)]) pd_22 rfl rfl rfl (Nat.le_of_ble_eq_true rfl) (hb hby d_jdk_42m_150_32) (by decide) (by decide) (pc' := 35) rfl ?_
  intro T115 v115 L115 X115 Q115
  obtain ⟨u, ku, rfl, N2, E2, gu, U⟩ := Q115
  show Go _ _ _ _ T115 (mkF m 35 _ [(.ref u), (.ref x)])
  have N3 := Fr.app N1 N2
  refine w_putF X115 hx hZ hown (tw hw 37 rfl) Via.refl rfl (FV1.ext E2) (EX1.ext E2) (Or.inr ⟨(tw hw 5 rfl), rfl, hnm⟩) (tw hw 3 rfl) (ty := (.array .byte)) (by decide) rfl rfl (hb hby d_jdk_42m_150_35) (pc' := 38) rfl ?_
  intro T116 h116 X116 e116 W116
  have N4 := Fr.snoc X116 N3 gx
  have nux : u ≠ x := Nat.ne_of_gt (Nat.lt_of_lt_of_le EX1.lt gu)
  refine w_goto X116.here hx (hb hby d_jdk_42m_150_38) (pc' := 97) (by decide) (by decide) ?_
  have LS : LstOf Z h116 x u ku cs := ⟨(EX1.ext E2).wr W116, Fld.same W116 (FV1.ext E2), (FC1.ext E2).other W116 (Or.inr (slot_ne (Or.inr (tw hw 6 rfl)) (Or.inr (tw hw 5 rfl)) (by decide) (t := .byte) (t' := (.array .byte)) (by decide) (by decide))), U.other W116 nux, by have := B.2.2.2.2.2.2.1; omega, B.2.2.2.2.2.2.2.1⟩
  exact endV X116 hx hlk hret (hb hby d_jdk_42m_150_97) (by decide) (by decide) (by rw [e116]; exact ⟨rfl, N4, (K1.ext E2).wr W116 (Or.inl (List.mem_cons_self ..)), u, ku, by rw [← es]; exact gu, LS⟩)
theorem d_jdk_42m_53_0 : decode jdk_42_method_53_code 0 = .ok (.aload_n 0, 1) := by decide +kernel
theorem d_jdk_42m_53_1 : decode jdk_42_method_53_code 1 = .ok (.aload_n 1, 1) := by decide +kernel
theorem d_jdk_42m_53_2 : decode jdk_42_method_53_code 2 = .ok (.aconst_null, 1) := by decide +kernel
theorem pd_25 : parseMethodDescriptor "(Ljava/lang/AbstractStringBuilder;Ljava/lang/Void;)V" = some ⟨[(.object "java/lang/AbstractStringBuilder"), (.object "java/lang/Void")], none⟩ := by decide +kernel
theorem d_jdk_42m_53_3 : decode jdk_42_method_53_code 3 = .ok (.invokespecial 489, 3) := by decide +kernel
theorem d_jdk_42m_53_6 : decode jdk_42_method_53_code 6 = .ok (.return_, 1) := by decide +kernel
set_option maxRecDepth 65536 in
set_option maxHeartbeats 40000000 in
theorem rmS1 (l : Launch) (Z : State) (a0 : Array Value) (hw : ∀ d ∈ tables_1, d.before a0 Z = true) (x b t : Addr) (kt : ClassId) (cs : List Int32) (N : Nat) (z : Int32) (c0 v0 : Value) (h0 : Heap) (n0 : Nat) (Z0 : n0 ≤ h0.size) (gx : n0 ≤ x) (SC : Sta Z h0 "java/lang/String" "COMPACT_STRINGS" "Z" (.int z)) (hz : ¬ z = 0) (B : SbOf Z h0 b t kt cs N) (hl : cs.length < N) (hK : cs.length ≤ 24) (EX : Exa Z h0 x "java/lang/String") (FV : Fld Z h0 x "java/lang/String" "value" "[B" v0) (FC : Fld Z h0 x "java/lang/String" "coder" "B" c0) :
    Ct l yq21 jdk_42_method_53_code 2 none ({ frames := 4, cells := 1, slots := 24, locals := 65 } : Room) Z #[(.ref x), (.ref b)] h0 (fun v h L => v = none ∧ Fr n0 L ∧ Keep h0 h [x] ∧ ∃ u ku, h0.size ≤ u ∧ LstOf Z h x u ku cs) := by
  refine ct_of (Q := fun v h L => v = none ∧ Fr n0 L ∧ Keep h0 h [x] ∧ ∃ u ku, h0.size ≤ u ∧ LstOf Z h x u ku cs) (plainFor_of_name pn_1) ?_
  intro p e s m below meth c s₁ X0 hx hby hml hret hnm hlk hown hZ hs0 e0
  have N0 := Fr.nil n0
  rw [show entryFrame m #[(.ref x), (.ref b)] 2 = mkF m 0 #[.val (.ref x), .val (.ref b)] [] from by first | (simp [entryFrame, mkF, argsToLocals, Value.category]; done) | rfl]
  refine w_aloadN X0.here hx (hb hby d_jdk_42m_53_0) rfl rfl (pc' := 1) rfl ?_
  refine w_aloadN X0.here hx (hb hby d_jdk_42m_53_1) rfl rfl (pc' := 2) rfl ?_
  refine w_null X0.here hx (hb hby d_jdk_42m_53_2) (pc' := 3) rfl ?_
  refine w_special X0 hx hZ (y := yq20) rfl hown (tw hw 142 rfl) (tw hw 143 rfl) (tw hw 144 rfl) (by decide) (backC (W := 0) (rmS2 l Z a0 hw x b t kt cs N z c0 v0 h0 n0 Z0 gx SC hz B hl hK EX FV FC) hZ (tw hw 144 rfl) (tw hw 2 rfl) (by decide) (by decide)) e0 (by rw [hml]; rfl) (argsL := [(.ref b), .null]) (st := []) pd_25 rfl rfl rfl (Nat.le_of_ble_eq_true rfl) (hb hby d_jdk_42m_53_3) (by decide) (by decide) (pc' := 6) rfl ?_
  intro T117 v117 L117 X117 Q117
  obtain ⟨rfl, N1, G1⟩ := Q117
  show Go _ _ _ _ T117 (mkF m 6 _ [])
  exact endV X117 hx hlk hret (hb hby d_jdk_42m_53_6) (by decide) (by decide) (⟨rfl, Fr.app N0 N1, G1⟩)
theorem d_jdk_67m_42_0 : decode jdk_67_method_42_code 0 = .ok (.new 18, 3) := by decide +kernel
theorem d_jdk_67m_42_3 : decode jdk_67_method_42_code 3 = .ok (.dup, 1) := by decide +kernel
theorem d_jdk_67m_42_4 : decode jdk_67_method_42_code 4 = .ok (.aload_n 0, 1) := by decide +kernel
theorem pd_26 : parseMethodDescriptor "(Ljava/lang/StringBuilder;)V" = some ⟨[(.object "java/lang/StringBuilder")], none⟩ := by decide +kernel
theorem d_jdk_67m_42_5 : decode jdk_67_method_42_code 5 = .ok (.invokespecial 137, 3) := by decide +kernel
theorem d_jdk_67m_42_8 : decode jdk_67_method_42_code 8 = .ok (.areturn, 1) := by decide +kernel
set_option maxRecDepth 65536 in
set_option maxHeartbeats 40000000 in
theorem rmToS (l : Launch) (Z : State) (a0 : Array Value) (hw : ∀ d ∈ tables_1, d.before a0 Z = true) (b t : Addr) (kt : ClassId) (cs : List Int32) (N : Nat) (z : Int32) (h0 : Heap) (n0 : Nat) (Z0 : n0 ≤ h0.size) (SC : Sta Z h0 "java/lang/String" "COMPACT_STRINGS" "Z" (.int z)) (hz : ¬ z = 0) (B : SbOf Z h0 b t kt cs N) (hl : cs.length < N) (hK : cs.length ≤ 24) :
    Ct l yq10 jdk_67_method_42_code 1 (some (.object "java/lang/String")) ({ frames := 5, cells := 2, slots := 28, locals := 79 } : Room) Z #[(.ref b)] h0 (fun v h L => ∃ x u ku, v = some (.ref x) ∧ Fr n0 L ∧ Ext h0 h ∧ h0.size ≤ x ∧ h0.size ≤ u ∧ LstOf Z h x u ku cs) := by
  refine ct_of (Q := fun v h L => ∃ x u ku, v = some (.ref x) ∧ Fr n0 L ∧ Ext h0 h ∧ h0.size ≤ x ∧ h0.size ≤ u ∧ LstOf Z h x u ku cs) (plainFor_of_name pn_4) ?_
  intro p e s m below meth c s₁ X0 hx hby hml hret hnm hlk hown hZ hs0 e0
  have N0 := Fr.nil n0
  rw [show entryFrame m #[(.ref b)] 1 = mkF m 0 #[.val (.ref b)] [] from by first | (simp [entryFrame, mkF, argsToLocals, Value.category]; done) | rfl]
  refine w_new X0 hx hZ hown (tw hw 138 rfl) (tw hw 3 rfl) (tw hw 2 rfl) e0 (hb hby d_jdk_67m_42_0) (by decide) (by decide) (pc' := 3) rfl ?_
  intro T118 h118 x gx X118 e118 E118 A118 D118 U118
  have ge_x_h0 : h0.size ≤ x := Nat.le_trans (Ext.rfl' : Ext h0 h0).1 (Nat.le_of_eq gx)
  have C119 : Ext h0 h118 := Ext.trs Ext.rfl' E118
  have gx0 : n0 ≤ x := Nat.le_trans Z0 ge_x_h0
  have FV : Fld Z h118 x "java/lang/String" "value" "[B" .null := D118 (Or.inr (tw hw 5 rfl)) (ty := (.array .byte)) (by decide)
  have FC : Fld Z h118 x "java/lang/String" "coder" "B" (.int (0 : Int32)) := D118 (Or.inr (tw hw 6 rfl)) (ty := .byte) (by decide)
  refine w_dup X118.here hx (hb hby d_jdk_67m_42_3) rfl (pc' := 4) rfl ?_
  refine w_aloadN X118.here hx (hb hby d_jdk_67m_42_4) rfl rfl (pc' := 5) rfl ?_
  refine w_special X118 hx hZ (y := yq21) rfl hown (tw hw 139 rfl) (tw hw 140 rfl) (tw hw 141 rfl) (by decide) (backC (W := 1) (rmS1 l Z a0 hw x b t kt cs N z _ _ h118 n0 (Nat.le_trans Z0 C119.1) gx0 (SC.ext C119) hz (B.ext C119) hl hK A118 FV FC) hZ (tw hw 141 rfl) (tw hw 2 rfl) (by decide) (by decide)) e118 (by rw [hml]; rfl) (argsL := [(.ref b)]) (st := [(.ref x)]) pd_26 rfl rfl rfl (Nat.le_of_ble_eq_true rfl) (hb hby d_jdk_67m_42_5) (by decide) (by decide) (pc' := 8) rfl ?_
  intro T120 v120 L120 X120 Q120
  obtain ⟨rfl, N1, K1, u, ku, gu, LS⟩ := Q120
  show Go _ _ _ _ T120 (mkF m 8 _ [(.ref x)])
  exact endR X120 hx hlk rfl hret rfl (hb hby d_jdk_67m_42_8) (by decide) (by decide) (⟨x, u, ku, rfl, Fr.app N0 N1, Ext.kp C119 K1 (allS ge_x_h0 all0), ge_x_h0, Nat.le_trans C119.1 gu, LS⟩)

theorem wide_app2 (cs ds : List Int32) : StrChars.Road.wideBytes (cs ++ ds) = StrChars.Road.wideBytes cs ++ StrChars.Road.wideBytes ds := by
  induction cs with
  | nil => rfl
  | cons d r ih => simp [StrChars.Road.wideBytes] at ih ⊢; exact ih
/-- two bytes a char, then zeros -/
def padW (cs : List Int32) (N : Nat) : List Value := StrChars.Road.wideBytes cs ++ List.replicate (N - 2 * cs.length) (.int 0)
theorem padW_len {cs : List Int32} {N : Nat} (h : 2 * cs.length ≤ N) : (padW cs N).length = N := by simp [padW, wide_len]; omega
theorem padW_nil (N : Nat) : padW [] N = List.replicate N (.int 0) := by simp [padW, StrChars.Road.wideBytes]
theorem padW_set {cs : List Int32} {i N : Nat} (h : i < cs.length) (hN : 2 * cs.length ≤ N) : ((padW (cs.take i) N).set (2 * i) (.int (StrChars.lo8 (cs.getD i 0)))).set (2 * i + 1) (.int (StrChars.hi8 (cs.getD i 0))) = padW (cs.take (i + 1)) N := by
  have lt : (cs.take i).length = i := by simp; omega
  have lt2 : (cs.take (i + 1)).length = i + 1 := by simp; omega
  have e : N - 2 * i = (N - 2 * (i + 1) + 1) + 1 := by omega
  have l1 : (StrChars.Road.wideBytes (cs.take i)).length = 2 * i := by rw [wide_len, lt]
  unfold padW
  rw [lt, lt2, e, List.replicate_succ, List.replicate_succ, set_app _ _ _ _ _ l1]
  rw [show StrChars.Road.wideBytes (cs.take i) ++ Value.int (StrChars.lo8 (cs.getD i 0)) :: Value.int 0 :: List.replicate (N - 2 * (i + 1)) (Value.int 0) = (StrChars.Road.wideBytes (cs.take i) ++ [Value.int (StrChars.lo8 (cs.getD i 0))]) ++ Value.int 0 :: List.replicate (N - 2 * (i + 1)) (Value.int 0) from by simp]
  rw [set_app _ _ _ _ _ (by simp [l1]), take_succ' h, wide_app]
  simp
theorem padW_put {cs ds : List Int32} {N : Nat} (h : 2 * (cs.length + ds.length) ≤ N) : (padW cs N).take (2 * cs.length) ++ StrChars.Road.wideBytes ds ++ (padW cs N).drop (2 * cs.length + 2 * ds.length) = padW (cs ++ ds) N := by
  have e1 : (padW cs N).take (2 * cs.length) = StrChars.Road.wideBytes cs := by simp [padW, ← wide_len cs]
  have e2 : (padW cs N).drop (2 * cs.length + 2 * ds.length) = List.replicate (N - 2 * (cs.length + ds.length)) (.int 0) := by
    unfold padW
    rw [← List.drop_drop, show 2 * cs.length = (StrChars.Road.wideBytes cs).length from (wide_len cs).symm, List.drop_left, List.drop_replicate]
    congr 1; rw [wide_len]; omega
  rw [e1, e2]; simp [padW, wide_app2]
theorem padW_take {cs : List Int32} {N : Nat} : (padW cs N).take (2 * cs.length) = StrChars.Road.wideBytes cs := by simp [padW, ← wide_len cs]
def SbW (Z : State) (h : Heap) (b t : Addr) (kt : ClassId) (cs : List Int32) (N : Nat) : Prop := Exa Z h b "java/lang/StringBuilder" ∧ Fld Z h b "java/lang/AbstractStringBuilder" "value" "[B" (.ref t) ∧ Fld Z h b "java/lang/AbstractStringBuilder" "coder" "B" (.int 1) ∧ Fld Z h b "java/lang/AbstractStringBuilder" "count" "I" (.int (Int32.ofNat cs.length)) ∧ Arv Z h t kt .byte (Int32.ofNat N) (padW cs N) (.int 0) ∧ 2 * cs.length ≤ N ∧ N ≤ 4000 ∧ Fld Z h b "java/lang/AbstractStringBuilder" "maybeLatin1" "Z" (.int 0)
theorem SbW.ext {Z : State} {h h' : Heap} {b t : Addr} {kt : ClassId} {cs : List Int32} {N : Nat} (F : SbW Z h b t kt cs N) (E : Ext h h') : SbW Z h' b t kt cs N := ⟨F.1.ext E, F.2.1.ext E, F.2.2.1.ext E, F.2.2.2.1.ext E, F.2.2.2.2.1.ext E, F.2.2.2.2.2.1, F.2.2.2.2.2.2.1, F.2.2.2.2.2.2.2.ext E⟩
/-- a String that isn't Latin1 -/
def WstOf (Z : State) (h : Heap) (x u : Addr) (ku : ClassId) (cs : List Int32) : Prop := Exa Z h x "java/lang/String" ∧ Fld Z h x "java/lang/String" "value" "[B" (.ref u) ∧ Fld Z h x "java/lang/String" "coder" "B" (.int 1) ∧ Arv Z h u ku .byte (Int32.ofNat (2 * cs.length)) (StrChars.Road.wideBytes cs) (.int 0) ∧ (∃ c, c ∈ cs ∧ (255 : Int32) < c) ∧ (∀ c ∈ cs, ¬ c < 0 ∧ ¬ (65535 : Int32) < c) ∧ cs.length ≤ 1000
theorem WstOf.str {Z : State} {h : Heap} {x u : Addr} {ku : ClassId} {cs : List Int32} (F : WstOf Z h x u ku cs) : StrOf Z h x cs := by
  obtain ⟨a, b, c, d, ⟨e, e1, e2⟩, f, g⟩ := F
  exact ⟨u, ku, 1, _, _, a, b, c, d, Or.inr ⟨rfl, rfl, rfl, e, e1, e2⟩, f, by omega⟩
theorem WstOf.of {Z : State} {h : Heap} {x : Addr} {cs : List Int32} (F : StrOf Z h x cs) (hw : ¬ LatC cs) (hl : cs.length ≤ 1000) : ∃ u ku, WstOf Z h x u ku cs := by
  obtain ⟨t, kb, cd, N2, vs, a, b, c, d, e, f, g⟩ := F
  rcases e with ⟨rfl, rfl, rfl, k⟩ | ⟨rfl, rfl, rfl, k, k1, k2⟩
  · exact absurd (fun q r => ⟨(f q r).1, k q r⟩) hw
  · exact ⟨t, kb, a, b, c, d, ⟨k, k1, k2⟩, f, hl⟩
theorem WstOf.keep {Z : State} {h h' : Heap} {x u : Addr} {ku : ClassId} {cs : List Int32} {ws : List Addr} (F : WstOf Z h x u ku cs) (K : Keep h h' ws) (q1 : x ∉ ws) (q2 : u ∉ ws) : WstOf Z h' x u ku cs := ⟨F.1.keep K, F.2.1.keep K q1, F.2.2.1.keep K q1, F.2.2.2.1.keep K q2, F.2.2.2.2⟩
theorem WstOf.ext {Z : State} {h h' : Heap} {x u : Addr} {ku : ClassId} {cs : List Int32} (F : WstOf Z h x u ku cs) (E : Ext h h') : WstOf Z h' x u ku cs := ⟨F.1.ext E, F.2.1.ext E, F.2.2.1.ext E, F.2.2.2.1.ext E, F.2.2.2.2⟩
theorem n_shr1 {n : Nat} (h : n < 2 ^ 31) : Int32.ofNat n >>> ((1 : Int32) &&& 31) = Int32.ofNat (n / 2) := by
  have q := c_ishr (Int32.ofNat n) 1 1 (by decide)
  rw [n_toInt h] at q
  apply Int32.toInt_inj.mp
  rw [n_toInt (by omega)]
  omega
theorem padB_at {cs : List Int32} {i N : Nat} (h : i < cs.length) : (padB cs N).getD i (.int 0) = .int (StrChars.lo8 (cs.getD i 0)) := by
  have h2 : i < (lobs cs).length := by rw [lobs_len]; exact h
  unfold padB
  rw [List.getD_eq_getElem?_getD, List.getElem?_append_left h2]
  simp [lobs, List.getD_eq_getElem?_getD, h]
theorem SU.keep {Z : State} {h h' : Heap} {z : Int32} {ws : List Addr} (F : SU Z h z) (K : Keep h h' ws) (q : ∀ y ∈ ws, ∀ cell : Cell, h[y]? = some cell → cell.vm.isStatics = false) : SU Z h' z := ⟨staKeep F.1 K q, F.2.1, staKeep F.2.2.1 K q, staKeep F.2.2.2.1 K q, staKeep F.2.2.2.2 K q⟩
theorem ior_nn {a b : Nat} (ha : a < 2 ^ 31) (hb : b < 2 ^ 31) : ¬ ((Int32.ofNat a ||| (0 : Int32)) ||| Int32.ofNat b) < 0 := by
  intro q
  have hm := (Jvm.Free.XT.neg32 _).mp q
  have e : ((Int32.ofNat a ||| (0 : Int32)) ||| Int32.ofNat b).toBitVec = (BitVec.ofNat 32 a ||| 0) ||| BitVec.ofNat 32 b := rfl
  rw [e] at hm
  have m1 : (BitVec.ofNat 32 a).msb = false := by rw [BitVec.msb_eq_false_iff_two_mul_lt]; simp; omega
  have m2 : (BitVec.ofNat 32 b).msb = false := by rw [BitVec.msb_eq_false_iff_two_mul_lt]; simp; omega
  simp [BitVec.msb_or, m1, m2] at hm

theorem d_jdk_52m_6_0 : decode jdk_52_method_6_code 0 = .ok (.aload_n 0, 1) := by decide +kernel
theorem d_jdk_52m_6_1 : decode jdk_52_method_6_code 1 = .ok (.arraylength, 1) := by decide +kernel
theorem d_jdk_52m_6_2 : decode jdk_52_method_6_code 2 = .ok (.iconst 1, 1) := by decide +kernel
theorem d_jdk_52m_6_3 : decode jdk_52_method_6_code 3 = .ok (.ishr, 1) := by decide +kernel
theorem d_jdk_52m_6_4 : decode jdk_52_method_6_code 4 = .ok (.ireturn, 1) := by decide +kernel
set_option maxRecDepth 65536 in
set_option maxHeartbeats 40000000 in
theorem rmUlen (l : Launch) (Z : State) (a0 : Array Value) (hw : ∀ d ∈ tables_1, d.before a0 Z = true) (t : Addr) (kt : ClassId) (N : Nat) (vs : List Value) (h0 : Heap) (V : Arv Z h0 t kt .byte (Int32.ofNat N) vs (.int 0)) (hN : N < 2 ^ 31) :
    Ct l (⟨"java/lang/StringUTF16", "length", "([B)I"⟩ : MethodName) jdk_52_method_6_code 1 (some .int) ({ frames := 0, cells := 0, slots := 0, locals := 0 } : Room) Z #[(.ref t)] h0 (fun v h L => v = some (.int (Int32.ofNat (N / 2))) ∧ L = [] ∧ h = h0) := by
  refine ct_of (Q := fun v h L => v = some (.int (Int32.ofNat (N / 2))) ∧ L = [] ∧ h = h0) (plainFor_of_name pn_0) ?_
  intro p e s m below meth c s₁ X0 hx hby hml hret hnm hlk hown hZ hs0 e0
  rw [show entryFrame m #[(.ref t)] 1 = mkF m 0 #[.val (.ref t)] [] from by first | (simp [entryFrame, mkF, argsToLocals, Value.category]; done) | rfl]
  refine w_aloadN X0.here hx (hb hby d_jdk_52m_6_0) rfl rfl (pc' := 1) rfl ?_
  refine w_arraylength X0 hx hZ e0 V (hb hby d_jdk_52m_6_1) (pc' := 2) rfl ?_
  refine w_iconst X0.here hx (hb hby d_jdk_52m_6_2) (z := 1) rfl (pc' := 3) rfl ?_
  refine w_ishr X0.here hx (hb hby d_jdk_52m_6_3) (pc' := 4) rfl ?_
  rw [n_shr1 hN]
  show Go _ _ _ _ s₁ (mkF m 4 _ [(.int (Int32.ofNat (N / 2)))])
  exact endI X0 hx hlk hret (hb hby d_jdk_52m_6_4) (by decide) (by decide) (by rw [e0]; exact ⟨rfl, rfl, rfl⟩)
theorem d_jdk_41m_13_0 : decode jdk_41_method_13_code 0 = .ok (.iload_n 2, 1) := by decide +kernel
theorem d_jdk_41m_13_1 : decode jdk_41_method_13_code 1 = .ok (.iload_n 0, 1) := by decide +kernel
theorem d_jdk_41m_13_2 : decode jdk_41_method_13_code 2 = .ok (.ior, 1) := by decide +kernel
theorem d_jdk_41m_13_3 : decode jdk_41_method_13_code 3 = .ok (.iload_n 1, 1) := by decide +kernel
theorem d_jdk_41m_13_4 : decode jdk_41_method_13_code 4 = .ok (.ior, 1) := by decide +kernel
theorem d_jdk_41m_13_5 : decode jdk_41_method_13_code 5 = .ok (.ifCond .lt 10, 3) := by decide +kernel
theorem d_jdk_41m_13_8 : decode jdk_41_method_13_code 8 = .ok (.iload_n 1, 1) := by decide +kernel
theorem d_jdk_41m_13_9 : decode jdk_41_method_13_code 9 = .ok (.iload_n 2, 1) := by decide +kernel
theorem d_jdk_41m_13_10 : decode jdk_41_method_13_code 10 = .ok (.iload_n 0, 1) := by decide +kernel
theorem d_jdk_41m_13_11 : decode jdk_41_method_13_code 11 = .ok (.isub, 1) := by decide +kernel
theorem d_jdk_41m_13_12 : decode jdk_41_method_13_code 12 = .ok (.if_icmp .le 11, 3) := by decide +kernel
theorem d_jdk_41m_13_23 : decode jdk_41_method_13_code 23 = .ok (.iload_n 0, 1) := by decide +kernel
theorem d_jdk_41m_13_24 : decode jdk_41_method_13_code 24 = .ok (.ireturn, 1) := by decide +kernel
theorem pn_7 : plainName "jdk/internal/util/Preconditions" = true := by first | (simp [plainName, overriddenIn]; done) | decide +kernel
set_option maxRecDepth 65536 in
set_option maxHeartbeats 40000000 in
theorem rmCfiN (l : Launch) (Z : State) (a0 : Array Value) (hw : ∀ d ∈ tables_1, d.before a0 Z = true) (n m1 : Nat) (h0 : Heap) (hn : n ≤ m1) (hm : m1 < 2 ^ 31) :
    Ct l yq22 jdk_41_method_13_code 4 (some .int) ({ frames := 0, cells := 0, slots := 0, locals := 0 } : Room) Z #[(.int (0 : Int32)), (.int (Int32.ofNat n)), (.int (Int32.ofNat m1)), .null] h0 (fun v h L => v = some (.int 0) ∧ L = [] ∧ h = h0) := by
  refine ct_of (Q := fun v h L => v = some (.int 0) ∧ L = [] ∧ h = h0) (plainFor_of_name pn_7) ?_
  intro p e s m below meth c s₁ X0 hx hby hml hret hnm hlk hown hZ hs0 e0
  rw [show entryFrame m #[(.int (0 : Int32)), (.int (Int32.ofNat n)), (.int (Int32.ofNat m1)), .null] 4 = mkF m 0 #[.val (.int (0 : Int32)), .val (.int (Int32.ofNat n)), .val (.int (Int32.ofNat m1)), .val .null] [] from by first | (simp [entryFrame, mkF, argsToLocals, Value.category]; done) | rfl]
  refine w_iloadN X0.here hx (hb hby d_jdk_41m_13_0) rfl (pc' := 1) rfl ?_
  refine w_iloadN X0.here hx (hb hby d_jdk_41m_13_1) rfl (pc' := 2) rfl ?_
  refine w_ior X0.here hx (hb hby d_jdk_41m_13_2) (pc' := 3) rfl ?_
  refine w_iloadN X0.here hx (hb hby d_jdk_41m_13_3) rfl (pc' := 4) rfl ?_
  refine w_ior X0.here hx (hb hby d_jdk_41m_13_4) (pc' := 5) rfl ?_
  refine w_ifNo X0.here hx (hb hby d_jdk_41m_13_5) (flt (show ¬ ((((Int32.ofNat m1) ||| (0 : Int32)) ||| (Int32.ofNat n)) < (0 : Int32)) from ior_nn (by omega) (by omega))).1 (pc' := 8) rfl ?_
  refine w_iloadN X0.here hx (hb hby d_jdk_41m_13_8) rfl (pc' := 9) rfl ?_
  refine w_iloadN X0.here hx (hb hby d_jdk_41m_13_9) rfl (pc' := 10) rfl ?_
  refine w_iloadN X0.here hx (hb hby d_jdk_41m_13_10) rfl (pc' := 11) rfl ?_
  refine w_isub X0.here hx (hb hby d_jdk_41m_13_11) (pc' := 12) rfl ?_
  rw [Int32.sub_zero]
  show Go _ _ _ _ s₁ (mkF m 12 _ [(.int (Int32.ofNat m1)), (.int (Int32.ofNat n))])
  refine w_icmpYes X0.here hx (hb hby d_jdk_41m_13_12) (flt (show ¬ ((Int32.ofNat m1) < (Int32.ofNat n)) from n_nlt hn (by omega))).2.2.2 (pc' := 23) (by decide) (by decide) ?_
  refine w_iloadN X0.here hx (hb hby d_jdk_41m_13_23) rfl (pc' := 24) rfl ?_
  exact endI X0 hx hlk hret (hb hby d_jdk_41m_13_24) (by decide) (by decide) (by rw [e0]; exact ⟨rfl, rfl, rfl⟩)
set_option maxRecDepth 65536 in
set_option maxHeartbeats 40000000 in
theorem rmCfiR (l : Launch) (Z : State) (a0 : Array Value) (hw : ∀ d ∈ tables_1, d.before a0 Z = true) (n m1 : Nat) (fa : Addr) (h0 : Heap) (hn : n ≤ m1) (hm : m1 < 2 ^ 31) :
    Ct l yq22 jdk_41_method_13_code 4 (some .int) ({ frames := 0, cells := 0, slots := 0, locals := 0 } : Room) Z #[(.int (0 : Int32)), (.int (Int32.ofNat n)), (.int (Int32.ofNat m1)), (.ref fa)] h0 (fun v h L => v = some (.int 0) ∧ L = [] ∧ h = h0) := by
  refine ct_of (Q := fun v h L => v = some (.int 0) ∧ L = [] ∧ h = h0) (plainFor_of_name pn_7) ?_
  intro p e s m below meth c s₁ X0 hx hby hml hret hnm hlk hown hZ hs0 e0
  rw [show entryFrame m #[(.int (0 : Int32)), (.int (Int32.ofNat n)), (.int (Int32.ofNat m1)), (.ref fa)] 4 = mkF m 0 #[.val (.int (0 : Int32)), .val (.int (Int32.ofNat n)), .val (.int (Int32.ofNat m1)), .val (.ref fa)] [] from by first | (simp [entryFrame, mkF, argsToLocals, Value.category]; done) | rfl]
  refine w_iloadN X0.here hx (hb hby d_jdk_41m_13_0) rfl (pc' := 1) rfl ?_
  refine w_iloadN X0.here hx (hb hby d_jdk_41m_13_1) rfl (pc' := 2) rfl ?_
  refine w_ior X0.here hx (hb hby d_jdk_41m_13_2) (pc' := 3) rfl ?_
  refine w_iloadN X0.here hx (hb hby d_jdk_41m_13_3) rfl (pc' := 4) rfl ?_
  refine w_ior X0.here hx (hb hby d_jdk_41m_13_4) (pc' := 5) rfl ?_
  refine w_ifNo X0.here hx (hb hby d_jdk_41m_13_5) (flt (show ¬ ((((Int32.ofNat m1) ||| (0 : Int32)) ||| (Int32.ofNat n)) < (0 : Int32)) from ior_nn (by omega) (by omega))).1 (pc' := 8) rfl ?_
  refine w_iloadN X0.here hx (hb hby d_jdk_41m_13_8) rfl (pc' := 9) rfl ?_
  refine w_iloadN X0.here hx (hb hby d_jdk_41m_13_9) rfl (pc' := 10) rfl ?_
  refine w_iloadN X0.here hx (hb hby d_jdk_41m_13_10) rfl (pc' := 11) rfl ?_
  refine w_isub X0.here hx (hb hby d_jdk_41m_13_11) (pc' := 12) rfl ?_
  rw [Int32.sub_zero]
  show Go _ _ _ _ s₁ (mkF m 12 _ [(.int (Int32.ofNat m1)), (.int (Int32.ofNat n))])
  refine w_icmpYes X0.here hx (hb hby d_jdk_41m_13_12) (flt (show ¬ ((Int32.ofNat m1) < (Int32.ofNat n)) from n_nlt hn (by omega))).2.2.2 (pc' := 23) (by decide) (by decide) ?_
  refine w_iloadN X0.here hx (hb hby d_jdk_41m_13_23) rfl (pc' := 24) rfl ?_
  exact endI X0 hx hlk hret (hb hby d_jdk_41m_13_24) (by decide) (by decide) (by rw [e0]; exact ⟨rfl, rfl, rfl⟩)
theorem d_jdk_42m_157_0 : decode jdk_42_method_157_code 0 = .ok (.iload_n 0, 1) := by decide +kernel
theorem d_jdk_42m_157_1 : decode jdk_42_method_157_code 1 = .ok (.iload_n 1, 1) := by decide +kernel
theorem d_jdk_42m_157_2 : decode jdk_42_method_157_code 2 = .ok (.iload_n 2, 1) := by decide +kernel
theorem d_jdk_42m_157_3 : decode jdk_42_method_157_code 3 = .ok (.getstatic 1053, 3) := by decide +kernel
theorem pd_27 : parseMethodDescriptor "(IIILjava/util/function/BiFunction;)I" = some ⟨[.int, .int, .int, (.object "java/util/function/BiFunction")], some .int⟩ := by decide +kernel
theorem d_jdk_42m_157_6 : decode jdk_42_method_157_code 6 = .ok (.invokestatic 1065, 3) := by decide +kernel
theorem d_jdk_42m_157_9 : decode jdk_42_method_157_code 9 = .ok (.ireturn, 1) := by decide +kernel
set_option maxRecDepth 65536 in
set_option maxHeartbeats 40000000 in
theorem rmCbs (l : Launch) (Z : State) (a0 : Array Value) (hw : ∀ d ∈ tables_1, d.before a0 Z = true) (n m1 : Nat) (fm : Value) (hfm : fm.isRef = true) (h0 : Heap) (hn : n ≤ m1) (hm : m1 < 2 ^ 31) (Fm : Sta Z h0 "jdk/internal/util/Preconditions" "SIOOBE_FORMATTER" "Ljava/util/function/BiFunction;" fm) :
    Ct l (⟨"java/lang/String", "checkBoundsOffCount", "(III)I"⟩ : MethodName) jdk_42_method_157_code 3 (some .int) ({ frames := 1, cells := 0, slots := 0, locals := 15 } : Room) Z #[(.int (0 : Int32)), (.int (Int32.ofNat n)), (.int (Int32.ofNat m1))] h0 (fun v h L => v = some (.int 0) ∧ L = [] ∧ h = h0) := by
  refine ct_of (Q := fun v h L => v = some (.int 0) ∧ L = [] ∧ h = h0) (plainFor_of_name pn_1) ?_
  intro p e s m below meth c s₁ X0 hx hby hml hret hnm hlk hown hZ hs0 e0
  rw [show entryFrame m #[(.int (0 : Int32)), (.int (Int32.ofNat n)), (.int (Int32.ofNat m1))] 3 = mkF m 0 #[.val (.int (0 : Int32)), .val (.int (Int32.ofNat n)), .val (.int (Int32.ofNat m1))] [] from by first | (simp [entryFrame, mkF, argsToLocals, Value.category]; done) | rfl]
  refine w_iloadN X0.here hx (hb hby d_jdk_42m_157_0) rfl (pc' := 1) rfl ?_
  refine w_iloadN X0.here hx (hb hby d_jdk_42m_157_1) rfl (pc' := 2) rfl ?_
  refine w_iloadN X0.here hx (hb hby d_jdk_42m_157_2) rfl (pc' := 3) rfl ?_
  rcases ref_cases hfm with rfl | ⟨fa, rfl⟩
  · refine w_getS X0 hx hZ hown (tw hw 294 rfl) Via.refl e0 Fm (hb hby d_jdk_42m_157_3) (pc' := 6) rfl ?_
    intro T121 X121 e121
    refine w_static X121 hx hZ (y := yq22) hown (tw hw 296 rfl) (tw hw 297 rfl) (tw hw 295 rfl) (tw hw 298 rfl) (by decide) (backC (W := 0) (rmCfiN l Z a0 hw n m1 h0 hn hm) hZ (tw hw 298 rfl) (tw hw 295 rfl) (by decide) (by decide)) e121 (by rw [hml]; rfl) (argsL := [(.int (0 : Int32)), (.int (Int32.ofNat n)), (.int (Int32.ofNat m1)), .null]) (st := []) pd_27 rfl rfl rfl (Nat.le_of_ble_eq_true rfl) (hb hby d_jdk_42m_157_6) (by decide) (by decide) (pc' := 9) rfl ?_
    intro T122 v122 L122 X122 Q122
    obtain ⟨rfl, rfl, hh⟩ := Q122
    show Go _ _ _ _ T122 (mkF m 9 _ [(.int (0 : Int32))])
    rw [List.append_nil] at X122
    exact endI X122 hx hlk hret (hb hby d_jdk_42m_157_9) (by decide) (by decide) (by rw [hh]; exact ⟨rfl, rfl, rfl⟩)
  · refine w_getS X0 hx hZ hown (tw hw 294 rfl) Via.refl e0 Fm (hb hby d_jdk_42m_157_3) (pc' := 6) rfl ?_
    intro T123 X123 e123
    refine w_static X123 hx hZ (y := yq22) hown (tw hw 296 rfl) (tw hw 297 rfl) (tw hw 295 rfl) (tw hw 298 rfl) (by decide) (backC (W := 0) (rmCfiR l Z a0 hw n m1 fa h0 hn hm) hZ (tw hw 298 rfl) (tw hw 295 rfl) (by decide) (by decide)) e123 (by rw [hml]; rfl) (argsL := [(.int (0 : Int32)), (.int (Int32.ofNat n)), (.int (Int32.ofNat m1)), (.ref fa)]) (st := []) pd_27 rfl rfl rfl (Nat.le_of_ble_eq_true rfl) (hb hby d_jdk_42m_157_6) (by decide) (by decide) (pc' := 9) rfl ?_
    intro T124 v124 L124 X124 Q124
    obtain ⟨rfl, rfl, hh⟩ := Q124
    show Go _ _ _ _ T124 (mkF m 9 _ [(.int (0 : Int32))])
    rw [List.append_nil] at X124
    exact endI X124 hx hlk hret (hb hby d_jdk_42m_157_9) (by decide) (by decide) (by rw [hh]; exact ⟨rfl, rfl, rfl⟩)
theorem d_jdk_52m_94_0 : decode jdk_52_method_94_code 0 = .ok (.iload_n 0, 1) := by decide +kernel
theorem d_jdk_52m_94_1 : decode jdk_52_method_94_code 1 = .ok (.iload_n 1, 1) := by decide +kernel
theorem d_jdk_52m_94_2 : decode jdk_52_method_94_code 2 = .ok (.aload_n 2, 1) := by decide +kernel
theorem pd_28 : parseMethodDescriptor "([B)I" = some ⟨[(.array .byte)], some .int⟩ := by decide +kernel
theorem d_jdk_52m_94_3 : decode jdk_52_method_94_code 3 = .ok (.invokestatic 48, 3) := by decide +kernel
theorem d_jdk_52m_94_6 : decode jdk_52_method_94_code 6 = .ok (.invokestatic 419, 3) := by decide +kernel
theorem d_jdk_52m_94_9 : decode jdk_52_method_94_code 9 = .ok (.pop, 1) := by decide +kernel
theorem d_jdk_52m_94_10 : decode jdk_52_method_94_code 10 = .ok (.return_, 1) := by decide +kernel
set_option maxRecDepth 65536 in
set_option maxHeartbeats 40000000 in
theorem rmCbu (l : Launch) (Z : State) (a0 : Array Value) (hw : ∀ d ∈ tables_1, d.before a0 Z = true) (n N : Nat) (t : Addr) (kt : ClassId) (vs : List Value) (fm : Value) (hfm : fm.isRef = true) (h0 : Heap) (V : Arv Z h0 t kt .byte (Int32.ofNat N) vs (.int 0)) (hn : 2 * n ≤ N) (hN : N ≤ 4000) (Fm : Sta Z h0 "jdk/internal/util/Preconditions" "SIOOBE_FORMATTER" "Ljava/util/function/BiFunction;" fm) :
    Ct l (⟨"java/lang/StringUTF16", "checkBoundsOffCount", "(II[B)V"⟩ : MethodName) jdk_52_method_94_code 3 none ({ frames := 2, cells := 0, slots := 0, locals := 29 } : Room) Z #[(.int (0 : Int32)), (.int (Int32.ofNat n)), (.ref t)] h0 (fun v h L => v = none ∧ L = [] ∧ h = h0) := by
  refine ct_of (Q := fun v h L => v = none ∧ L = [] ∧ h = h0) (plainFor_of_name pn_0) ?_
  intro p e s m below meth c s₁ X0 hx hby hml hret hnm hlk hown hZ hs0 e0
  rw [show entryFrame m #[(.int (0 : Int32)), (.int (Int32.ofNat n)), (.ref t)] 3 = mkF m 0 #[.val (.int (0 : Int32)), .val (.int (Int32.ofNat n)), .val (.ref t)] [] from by first | (simp [entryFrame, mkF, argsToLocals, Value.category]; done) | rfl]
  refine w_iloadN X0.here hx (hb hby d_jdk_52m_94_0) rfl (pc' := 1) rfl ?_
  refine w_iloadN X0.here hx (hb hby d_jdk_52m_94_1) rfl (pc' := 2) rfl ?_
  refine w_aloadN X0.here hx (hb hby d_jdk_52m_94_2) rfl rfl (pc' := 3) rfl ?_
  refine w_static X0 hx hZ (y := (⟨"java/lang/StringUTF16", "length", "([B)I"⟩ : MethodName)) hown (tw hw 288 rfl) (tw hw 289 rfl) (tw hw 28 rfl) (tw hw 290 rfl) (by decide) (backC (W := 2) (rmUlen l Z a0 hw t kt N vs h0 V (by omega)) hZ (tw hw 290 rfl) (tw hw 28 rfl) (by decide) (by decide)) e0 (by rw [hml]; rfl) (argsL := [(.ref t)]) (st := [(.int (Int32.ofNat n)), (.int (0 : Int32))]) pd_28 rfl rfl rfl (Nat.le_of_ble_eq_true rfl) (hb hby d_jdk_52m_94_3) (by decide) (by decide) (pc' := 6) rfl ?_
  intro T125 v125 L125 X125 Q125
  obtain ⟨rfl, rfl, hh⟩ := Q125
  show Go _ _ _ _ T125 (mkF m 6 _ [(.int (Int32.ofNat (N / 2))), (.int (Int32.ofNat n)), (.int (0 : Int32))])
  rw [List.append_nil] at X125
  refine w_static X125 hx hZ (y := (⟨"java/lang/String", "checkBoundsOffCount", "(III)I"⟩ : MethodName)) hown (tw hw 291 rfl) (tw hw 292 rfl) (tw hw 2 rfl) (tw hw 293 rfl) (by decide) (backC (W := 0) (rmCbs l Z a0 hw n (N / 2) fm hfm h0 (by omega) (by omega) Fm) hZ (tw hw 293 rfl) (tw hw 2 rfl) (by decide) (by decide)) hh (by rw [hml]; rfl) (argsL := [(.int (0 : Int32)), (.int (Int32.ofNat n)), (.int (Int32.ofNat (N / 2)))]) (st := []) pd_14 rfl rfl rfl (Nat.le_of_ble_eq_true rfl) (hb hby d_jdk_52m_94_6) (by decide) (by decide) (pc' := 9) rfl ?_
  intro T126 v126 L126 X126 Q126
  obtain ⟨rfl, rfl, hh2⟩ := Q126
  show Go _ _ _ _ T126 (mkF m 9 _ [(.int (0 : Int32))])
  rw [List.append_nil] at X126
  refine w_pop X126.here hx (hb hby d_jdk_52m_94_9) rfl (pc' := 10) rfl ?_
  exact endV X126 hx hlk hret (hb hby d_jdk_52m_94_10) (by decide) (by decide) (by rw [hh2]; exact ⟨rfl, rfl, rfl⟩)
theorem d_jdk_52m_86_10 : decode jdk_52_method_86_code 10 = .ok (.iload 5, 2) := by decide +kernel
theorem d_jdk_52m_86_12 : decode jdk_52_method_86_code 12 = .ok (.iload 4, 2) := by decide +kernel
theorem d_jdk_52m_86_14 : decode jdk_52_method_86_code 14 = .ok (.if_icmp .ge 27, 3) := by decide +kernel
theorem d_jdk_52m_86_17 : decode jdk_52_method_86_code 17 = .ok (.aload_n 2, 1) := by decide +kernel
theorem d_jdk_52m_86_18 : decode jdk_52_method_86_code 18 = .ok (.iload_n 3, 1) := by decide +kernel
theorem d_jdk_52m_86_19 : decode jdk_52_method_86_code 19 = .ok (.iinc 3 1, 3) := by decide +kernel
theorem d_jdk_52m_86_22 : decode jdk_52_method_86_code 22 = .ok (.aload_n 0, 1) := by decide +kernel
theorem d_jdk_52m_86_23 : decode jdk_52_method_86_code 23 = .ok (.iload_n 1, 1) := by decide +kernel
theorem d_jdk_52m_86_24 : decode jdk_52_method_86_code 24 = .ok (.iinc 1 1, 3) := by decide +kernel
theorem d_jdk_52m_86_27 : decode jdk_52_method_86_code 27 = .ok (.baload, 1) := by decide +kernel
theorem d_jdk_52m_86_28 : decode jdk_52_method_86_code 28 = .ok (.sipush 255, 3) := by decide +kernel
theorem d_jdk_52m_86_31 : decode jdk_52_method_86_code 31 = .ok (.iand, 1) := by decide +kernel
theorem d_jdk_52m_86_32 : decode jdk_52_method_86_code 32 = .ok (.invokestatic 111, 3) := by decide +kernel
theorem d_jdk_52m_86_35 : decode jdk_52_method_86_code 35 = .ok (.iinc 5 1, 3) := by decide +kernel
theorem d_jdk_52m_86_38 : decode jdk_52_method_86_code 38 = .ok (.goto (-28), 3) := by decide +kernel
set_option maxRecDepth 65536 in
set_option maxHeartbeats 40000000 in
theorem lpInf {p : Program} {l : Launch} {e : Env} {R : Room} {s : State} {m : MethodId} {args : Array Value} {below : List Frame} {meth : Method} {c : Code} {cells slots : Nat} {P : State → Prop} (Z : State) (a0 : Array Value) (hw : ∀ d ∈ tables_1, d.before a0 Z = true) (hx : p.tables.exec = Jvm.exec) (hby : c.code = jdk_52_method_86_code) (hml : c.maxLocals = 6) (hown : s.vm.findClass "java/lang/StringUTF16" = some m.cls) (hZ : Z.Warmed39 s.vm) (t u : Addr) (kt ku : ClassId) (N Nt n0 : Nat) (z : Int32) (cs : List Int32) (h0 : Heap) (hfr : 1 ≤ R.frames) (hlo : 0 + (3 + 11) + 0 ≤ R.locals) (hcl : cells ≤ R.cells) (hsl : slots ≤ R.slots) (Su : SU Z h0 z) (VT : Arv Z h0 t kt .byte (Int32.ofNat Nt) (padB cs Nt) (.int 0)) (hla : LatC cs) (hNt : cs.length ≤ Nt) (hNt4 : Nt ≤ 2000) (hN : 2 * cs.length ≤ N) (hNe : 2 * (N / 2) = N) (hN4 : N ≤ 4000) (gu : n0 ≤ u) (ne : t ≠ u) (Vn : ∀ y ∈ [u], ∀ cell : Cell, h0[y]? = some cell → cell.vm.isStatics = false) (out : ∀ (T : State) (h : Heap) (locs : List Loc) (X0 : Stand p l e R s m args below meth c T locs cells slots) (e0 : T.heap = h) (N0 : Fr n0 locs) (K : Keep h0 h [u]) (V : Arv Z h u ku .byte (Int32.ofNat N) (padW cs N) (.int 0)), Go p.tables e below P T (mkF m 41 #[.val (.ref t), .val (.int (Int32.ofNat cs.length)), .val (.ref u), .val (.int (Int32.ofNat cs.length)), .val (.int (Int32.ofNat cs.length)), .val (.int (Int32.ofNat cs.length))] [])) :
    ∀ (k i : Nat), i + k = cs.length → ∀ (T : State) (h : Heap) (locs : List Loc) (X0 : Stand p l e R s m args below meth c T locs cells slots) (e0 : T.heap = h) (N0 : Fr n0 locs) (K : Keep h0 h [u]) (V : Arv Z h u ku .byte (Int32.ofNat N) (padW (cs.take i) N) (.int 0)), Go p.tables e below P T (mkF m 10 #[.val (.ref t), .val (.int (Int32.ofNat i)), .val (.ref u), .val (.int (Int32.ofNat i)), .val (.int (Int32.ofNat cs.length)), .val (.int (Int32.ofNat i))] []) := by
  intro k
  induction k with
  | zero =>
    intro i hik T h locs X0 e0 N0 K V
    have hi2 : i = cs.length := by omega
    refine w_iload X0.here hx (hb hby d_jdk_52m_86_10) rfl (pc' := 12) rfl ?_
    refine w_iload X0.here hx (hb hby d_jdk_52m_86_12) rfl (pc' := 14) rfl ?_
    refine w_icmpYes X0.here hx (hb hby d_jdk_52m_86_14) (flt (show ¬ ((Int32.ofNat i) < (Int32.ofNat cs.length)) from n_nlt (by omega) (by omega))).2.1 (pc' := 41) (by decide) (by decide) ?_
    rw [hi2]
    exact out T h locs X0 e0 N0 K (by rw [hi2, List.take_length] at V; exact V)
  | succ k ih =>
    intro i hik T h locs X0 e0 N0 K V
    refine w_iload X0.here hx (hb hby d_jdk_52m_86_10) rfl (pc' := 12) rfl ?_
    refine w_iload X0.here hx (hb hby d_jdk_52m_86_12) rfl (pc' := 14) rfl ?_
    refine w_icmpNo X0.here hx (hb hby d_jdk_52m_86_14) (tlt (show (Int32.ofNat i) < (Int32.ofNat cs.length) from n_lt (by omega) (by omega))).2.1 (pc' := 17) rfl ?_
    refine w_aloadN X0.here hx (hb hby d_jdk_52m_86_17) rfl rfl (pc' := 18) rfl ?_
    refine w_iloadN X0.here hx (hb hby d_jdk_52m_86_18) rfl (pc' := 19) rfl ?_
    refine w_iinc X0.here hx (hb hby d_jdk_52m_86_19) rfl (z := 1) rfl (l' := #[.val (.ref t), .val (.int (Int32.ofNat i)), .val (.ref u), .val (.int ((Int32.ofNat i) + (1 : Int32))), .val (.int (Int32.ofNat cs.length)), .val (.int (Int32.ofNat i))]) rfl (pc' := 22) rfl ?_
    refine w_aloadN X0.here hx (hb hby d_jdk_52m_86_22) rfl rfl (pc' := 23) rfl ?_
    refine w_iloadN X0.here hx (hb hby d_jdk_52m_86_23) rfl (pc' := 24) rfl ?_
    refine w_iinc X0.here hx (hb hby d_jdk_52m_86_24) rfl (z := 1) rfl (l' := #[.val (.ref t), .val (.int ((Int32.ofNat i) + (1 : Int32))), .val (.ref u), .val (.int ((Int32.ofNat i) + (1 : Int32))), .val (.int (Int32.ofNat cs.length)), .val (.int (Int32.ofNat i))]) rfl (pc' := 27) rfl ?_
    have hci : cs.getD i 0 ∈ cs := by simp [List.getD_eq_getElem?_getD, show i < cs.length by omega]
    refine w_baload X0 hx hZ e0 (VT.keep K (ninS ne nin0)) (in_rng (by omega) (by omega)) (v := (.int (StrChars.lo8 (cs.getD i 0)))) (by rw [n_nat (by omega)]; exact padB_at (by omega)) (hb hby d_jdk_52m_86_27) (pc' := 28) rfl ?_
    refine w_sipush X0.here hx (hb hby d_jdk_52m_86_28) (z := 255) rfl (pc' := 31) rfl ?_
    refine w_iand X0.here hx (hb hby d_jdk_52m_86_31) (pc' := 32) rfl ?_
    rw [StrChars.lo8_mask (hla _ hci).1 (hla _ hci).2]
    show Go _ _ _ _ T (mkF m 32 _ [(.int (cs.getD i 0)), (.int (Int32.ofNat i)), (.ref u)])
    refine w_static X0 hx hZ (y := yq15) hown (tw hw 263 rfl) (tw hw 264 rfl) (tw hw 28 rfl) (tw hw 265 rfl) (by decide) (backC (W := 0) (rmPut l Z a0 hw u ku (N / 2) i (cs.getD i 0) z _ h n0 gu (SU.keep Su K Vn) (by rw [show 2 * (N / 2) = N by omega]; exact V) (by rw [padW_len (by simp; omega)]; omega) (by omega) (by omega)) hZ (tw hw 265 rfl) (tw hw 28 rfl) hfr hlo) e0 (by rw [hml]; rfl) (argsL := [(.ref u), (.int (Int32.ofNat i)), (.int (cs.getD i 0))]) (st := []) pd_1 rfl rfl rfl (Nat.le_of_ble_eq_true rfl) (hb hby d_jdk_52m_86_32) (by omega) (by omega) (pc' := 35) rfl ?_
    intro T127 v127 L127 X127 Q127
    obtain ⟨rfl, N1, K1, V1⟩ := Q127
    show Go _ _ _ _ T127 (mkF m 35 _ [])
    have N2 := Fr.app N0 N1
    rw [show 2 * (N / 2) = N by omega, padW_set (by omega) (by omega)] at V1
    refine w_iinc X127.here hx (hb hby d_jdk_52m_86_35) rfl (z := 1) rfl (l' := #[.val (.ref t), .val (.int ((Int32.ofNat i) + (1 : Int32))), .val (.ref u), .val (.int ((Int32.ofNat i) + (1 : Int32))), .val (.int (Int32.ofNat cs.length)), .val (.int ((Int32.ofNat i) + (1 : Int32)))]) rfl (pc' := 38) rfl ?_
    refine w_goto X127.here hx (hb hby d_jdk_52m_86_38) (pc' := 10) (by decide) (by decide) ?_
    rw [n_succ]
    exact ih (i + 1) (by omega) _ _ _ X127 rfl N2 (K.trans K1 (allS (Or.inl (List.mem_cons_self ..)) all0)) V1
theorem d_jdk_52m_86_0 : decode jdk_52_method_86_code 0 = .ok (.iload_n 3, 1) := by decide +kernel
theorem d_jdk_52m_86_1 : decode jdk_52_method_86_code 1 = .ok (.iload 4, 2) := by decide +kernel
theorem d_jdk_52m_86_3 : decode jdk_52_method_86_code 3 = .ok (.aload_n 2, 1) := by decide +kernel
theorem pd_29 : parseMethodDescriptor "(II[B)V" = some ⟨[.int, .int, (.array .byte)], none⟩ := by decide +kernel
theorem d_jdk_52m_86_4 : decode jdk_52_method_86_code 4 = .ok (.invokestatic 173, 3) := by decide +kernel
theorem d_jdk_52m_86_7 : decode jdk_52_method_86_code 7 = .ok (.iconst 0, 1) := by decide +kernel
theorem d_jdk_52m_86_8 : decode jdk_52_method_86_code 8 = .ok (.istore 5, 2) := by decide +kernel
theorem d_jdk_52m_86_41 : decode jdk_52_method_86_code 41 = .ok (.return_, 1) := by decide +kernel
set_option maxRecDepth 65536 in
set_option maxHeartbeats 40000000 in
theorem rmInfU (l : Launch) (Z : State) (a0 : Array Value) (hw : ∀ d ∈ tables_1, d.before a0 Z = true) (t u : Addr) (kt ku : ClassId) (N Nt : Nat) (z : Int32) (cs : List Int32) (fm : Value) (hfm : fm.isRef = true) (h0 : Heap) (n0 : Nat) (gu : n0 ≤ u) (Su : SU Z h0 z) (Fm : Sta Z h0 "jdk/internal/util/Preconditions" "SIOOBE_FORMATTER" "Ljava/util/function/BiFunction;" fm) (VT : Arv Z h0 t kt .byte (Int32.ofNat Nt) (padB cs Nt) (.int 0)) (VU : Arv Z h0 u ku .byte (Int32.ofNat N) (List.replicate N (.int 0)) (.int 0)) (hla : LatC cs) (hNt : cs.length ≤ Nt) (hNt4 : Nt ≤ 2000) (hN : 2 * cs.length ≤ N) (hNe : 2 * (N / 2) = N) (hN4 : N ≤ 4000) (ne : t ≠ u) :
    Ct l (⟨"java/lang/StringUTF16", "inflate", "([BI[BII)V"⟩ : MethodName) jdk_52_method_86_code 6 none ({ frames := 3, cells := 0, slots := 0, locals := 43 } : Room) Z #[(.ref t), (.int (0 : Int32)), (.ref u), (.int (0 : Int32)), (.int (Int32.ofNat cs.length))] h0 (fun v h L => v = none ∧ Fr n0 L ∧ Keep h0 h [u] ∧ Arv Z h u ku .byte (Int32.ofNat N) (padW cs N) (.int 0)) := by
  refine ct_of (Q := fun v h L => v = none ∧ Fr n0 L ∧ Keep h0 h [u] ∧ Arv Z h u ku .byte (Int32.ofNat N) (padW cs N) (.int 0)) (plainFor_of_name pn_0) ?_
  intro p e s m below meth c s₁ X0 hx hby hml hret hnm hlk hown hZ hs0 e0
  have N0 := Fr.nil n0
  rw [show entryFrame m #[(.ref t), (.int (0 : Int32)), (.ref u), (.int (0 : Int32)), (.int (Int32.ofNat cs.length))] 6 = mkF m 0 #[.val (.ref t), .val (.int (0 : Int32)), .val (.ref u), .val (.int (0 : Int32)), .val (.int (Int32.ofNat cs.length)), .unset] [] from by first | (simp [entryFrame, mkF, argsToLocals, Value.category]; done) | rfl]
  refine w_iloadN X0.here hx (hb hby d_jdk_52m_86_0) rfl (pc' := 1) rfl ?_
  refine w_iload X0.here hx (hb hby d_jdk_52m_86_1) rfl (pc' := 3) rfl ?_
  refine w_aloadN X0.here hx (hb hby d_jdk_52m_86_3) rfl rfl (pc' := 4) rfl ?_
  refine w_static X0 hx hZ (y := (⟨"java/lang/StringUTF16", "checkBoundsOffCount", "(II[B)V"⟩ : MethodName)) hown (tw hw 285 rfl) (tw hw 286 rfl) (tw hw 28 rfl) (tw hw 287 rfl) (by decide) (backC (W := 0) (rmCbu l Z a0 hw cs.length N u ku _ fm hfm h0 VU hN hN4 Fm) hZ (tw hw 287 rfl) (tw hw 28 rfl) (by decide) (by decide)) e0 (by rw [hml]; rfl) (argsL := [(.int (0 : Int32)), (.int (Int32.ofNat cs.length)), (.ref u)]) (st := []) pd_29 rfl rfl rfl (Nat.le_of_ble_eq_true rfl) (hb hby d_jdk_52m_86_4) (by decide) (by decide) (pc' := 7) rfl ?_
  intro T128 v128 L128 X128 Q128
  obtain ⟨rfl, rfl, hh⟩ := Q128
  show Go _ _ _ _ T128 (mkF m 7 _ [])
  rw [List.append_nil] at X128
  refine w_iconst X128.here hx (hb hby d_jdk_52m_86_7) (z := 0) rfl (pc' := 8) rfl ?_
  refine w_istore X128.here hx (hb hby d_jdk_52m_86_8) (l' := #[.val (.ref t), .val (.int (0 : Int32)), .val (.ref u), .val (.int (0 : Int32)), .val (.int (Int32.ofNat cs.length)), .val (.int (0 : Int32))]) rfl (pc' := 10) rfl ?_
  refine lpInf Z a0 hw hx hby hml hown hZ t u kt ku N Nt n0 z cs h0 (by decide) (by decide) (by decide) (by decide) Su VT hla hNt hNt4 hN hNe hN4 gu ne (allS VU.nostat all0) ?_ cs.length 0 (by omega) _ _ _ X128 hh N0 (Keep.refl _ _) (by rw [List.take_zero, padW_nil]; exact VU)
  intro T h locs X e1 N1 K1 V1
  exact endV X hx hlk hret (hb hby d_jdk_52m_86_41) (by decide) (by decide) (by rw [e1]; exact ⟨rfl, N1, K1, V1⟩)
theorem d_jdk_43m_50_0 : decode jdk_43_method_50_code 0 = .ok (.aload_n 0, 1) := by decide +kernel
theorem d_jdk_43m_50_1 : decode jdk_43_method_50_code 1 = .ok (.iload_n 1, 1) := by decide +kernel
theorem d_jdk_43m_50_2 : decode jdk_43_method_50_code 2 = .ok (.aload_n 2, 1) := by decide +kernel
theorem d_jdk_43m_50_3 : decode jdk_43_method_50_code 3 = .ok (.iload_n 3, 1) := by decide +kernel
theorem d_jdk_43m_50_4 : decode jdk_43_method_50_code 4 = .ok (.iload 4, 2) := by decide +kernel
theorem pd_30 : parseMethodDescriptor "([BI[BII)V" = some ⟨[(.array .byte), .int, (.array .byte), .int, .int], none⟩ := by decide +kernel
theorem d_jdk_43m_50_6 : decode jdk_43_method_50_code 6 = .ok (.invokestatic 240, 3) := by decide +kernel
theorem d_jdk_43m_50_9 : decode jdk_43_method_50_code 9 = .ok (.return_, 1) := by decide +kernel
set_option maxRecDepth 65536 in
set_option maxHeartbeats 40000000 in
theorem rmInfL (l : Launch) (Z : State) (a0 : Array Value) (hw : ∀ d ∈ tables_1, d.before a0 Z = true) (t u : Addr) (kt ku : ClassId) (N Nt : Nat) (z : Int32) (cs : List Int32) (fm : Value) (hfm : fm.isRef = true) (h0 : Heap) (n0 : Nat) (gu : n0 ≤ u) (Su : SU Z h0 z) (Fm : Sta Z h0 "jdk/internal/util/Preconditions" "SIOOBE_FORMATTER" "Ljava/util/function/BiFunction;" fm) (VT : Arv Z h0 t kt .byte (Int32.ofNat Nt) (padB cs Nt) (.int 0)) (VU : Arv Z h0 u ku .byte (Int32.ofNat N) (List.replicate N (.int 0)) (.int 0)) (hla : LatC cs) (hNt : cs.length ≤ Nt) (hNt4 : Nt ≤ 2000) (hN : 2 * cs.length ≤ N) (hNe : 2 * (N / 2) = N) (hN4 : N ≤ 4000) (ne : t ≠ u) :
    Ct l (⟨"java/lang/StringLatin1", "inflate", "([BI[BII)V"⟩ : MethodName) jdk_43_method_50_code 5 none ({ frames := 4, cells := 0, slots := 0, locals := 60 } : Room) Z #[(.ref t), (.int (0 : Int32)), (.ref u), (.int (0 : Int32)), (.int (Int32.ofNat cs.length))] h0 (fun v h L => v = none ∧ Fr n0 L ∧ Keep h0 h [u] ∧ Arv Z h u ku .byte (Int32.ofNat N) (padW cs N) (.int 0)) := by
  refine ct_of (Q := fun v h L => v = none ∧ Fr n0 L ∧ Keep h0 h [u] ∧ Arv Z h u ku .byte (Int32.ofNat N) (padW cs N) (.int 0)) (plainFor_of_name pn_2) ?_
  intro p e s m below meth c s₁ X0 hx hby hml hret hnm hlk hown hZ hs0 e0
  have N0 := Fr.nil n0
  rw [show entryFrame m #[(.ref t), (.int (0 : Int32)), (.ref u), (.int (0 : Int32)), (.int (Int32.ofNat cs.length))] 5 = mkF m 0 #[.val (.ref t), .val (.int (0 : Int32)), .val (.ref u), .val (.int (0 : Int32)), .val (.int (Int32.ofNat cs.length))] [] from by first | (simp [entryFrame, mkF, argsToLocals, Value.category]; done) | rfl]
  refine w_aloadN X0.here hx (hb hby d_jdk_43m_50_0) rfl rfl (pc' := 1) rfl ?_
  refine w_iloadN X0.here hx (hb hby d_jdk_43m_50_1) rfl (pc' := 2) rfl ?_
  refine w_aloadN X0.here hx (hb hby d_jdk_43m_50_2) rfl rfl (pc' := 3) rfl ?_
  refine w_iloadN X0.here hx (hb hby d_jdk_43m_50_3) rfl (pc' := 4) rfl ?_
  refine w_iload X0.here hx (hb hby d_jdk_43m_50_4) rfl (pc' := 6) rfl ?_
  refine w_static X0 hx hZ (y := (⟨"java/lang/StringUTF16", "inflate", "([BI[BII)V"⟩ : MethodName)) hown (tw hw 282 rfl) (tw hw 283 rfl) (tw hw 28 rfl) (tw hw 284 rfl) (by decide) (backC (W := 0) (rmInfU l Z a0 hw t u kt ku N Nt z cs fm hfm h0 n0 gu Su Fm VT VU hla hNt hNt4 hN hNe hN4 ne) hZ (tw hw 284 rfl) (tw hw 28 rfl) (by decide) (by decide)) e0 (by rw [hml]; rfl) (argsL := [(.ref t), (.int (0 : Int32)), (.ref u), (.int (0 : Int32)), (.int (Int32.ofNat cs.length))]) (st := []) pd_30 rfl rfl rfl (Nat.le_of_ble_eq_true rfl) (hb hby d_jdk_43m_50_6) (by decide) (by decide) (pc' := 9) rfl ?_
  intro T129 v129 L129 X129 Q129
  obtain ⟨rfl, N1, G1⟩ := Q129
  show Go _ _ _ _ T129 (mkF m 9 _ [])
  exact endV X129 hx hlk hret (hb hby d_jdk_43m_50_9) (by decide) (by decide) (⟨rfl, Fr.app N0 N1, G1⟩)
theorem d_jdk_68m_11_0 : decode jdk_68_method_11_code 0 = .ok (.aload_n 0, 1) := by decide +kernel
theorem d_jdk_68m_11_1 : decode jdk_68_method_11_code 1 = .ok (.invokevirtual 83, 3) := by decide +kernel
theorem d_jdk_68m_11_4 : decode jdk_68_method_11_code 4 = .ok (.ifCond .ne 4, 3) := by decide +kernel
theorem d_jdk_68m_11_8 : decode jdk_68_method_11_code 8 = .ok (.aload_n 0, 1) := by decide +kernel
theorem d_jdk_68m_11_9 : decode jdk_68_method_11_code 9 = .ok (.getfield 15, 3) := by decide +kernel
theorem d_jdk_68m_11_12 : decode jdk_68_method_11_code 12 = .ok (.arraylength, 1) := by decide +kernel
theorem d_jdk_68m_11_13 : decode jdk_68_method_11_code 13 = .ok (.invokestatic 26, 3) := by decide +kernel
theorem d_jdk_68m_11_16 : decode jdk_68_method_11_code 16 = .ok (.astore_n 1, 1) := by decide +kernel
theorem d_jdk_68m_11_17 : decode jdk_68_method_11_code 17 = .ok (.aload_n 0, 1) := by decide +kernel
theorem d_jdk_68m_11_18 : decode jdk_68_method_11_code 18 = .ok (.getfield 15, 3) := by decide +kernel
theorem d_jdk_68m_11_21 : decode jdk_68_method_11_code 21 = .ok (.iconst 0, 1) := by decide +kernel
theorem d_jdk_68m_11_22 : decode jdk_68_method_11_code 22 = .ok (.aload_n 1, 1) := by decide +kernel
theorem d_jdk_68m_11_23 : decode jdk_68_method_11_code 23 = .ok (.iconst 0, 1) := by decide +kernel
theorem d_jdk_68m_11_24 : decode jdk_68_method_11_code 24 = .ok (.aload_n 0, 1) := by decide +kernel
theorem d_jdk_68m_11_25 : decode jdk_68_method_11_code 25 = .ok (.getfield 79, 3) := by decide +kernel
theorem d_jdk_68m_11_28 : decode jdk_68_method_11_code 28 = .ok (.invokestatic 125, 3) := by decide +kernel
theorem d_jdk_68m_11_31 : decode jdk_68_method_11_code 31 = .ok (.aload_n 0, 1) := by decide +kernel
theorem d_jdk_68m_11_32 : decode jdk_68_method_11_code 32 = .ok (.aload_n 1, 1) := by decide +kernel
theorem d_jdk_68m_11_33 : decode jdk_68_method_11_code 33 = .ok (.putfield 15, 3) := by decide +kernel
theorem d_jdk_68m_11_36 : decode jdk_68_method_11_code 36 = .ok (.aload_n 0, 1) := by decide +kernel
theorem d_jdk_68m_11_37 : decode jdk_68_method_11_code 37 = .ok (.iconst 1, 1) := by decide +kernel
theorem d_jdk_68m_11_38 : decode jdk_68_method_11_code 38 = .ok (.putfield 22, 3) := by decide +kernel
theorem d_jdk_68m_11_41 : decode jdk_68_method_11_code 41 = .ok (.return_, 1) := by decide +kernel
set_option maxRecDepth 65536 in
set_option maxHeartbeats 40000000 in
theorem rmInfB (l : Launch) (Z : State) (a0 : Array Value) (hw : ∀ d ∈ tables_1, d.before a0 Z = true) (b t : Addr) (kt : ClassId) (cs : List Int32) (z : Int32) (fm : Value) (hfm : fm.isRef = true) (h0 : Heap) (n0 : Nat) (Z0 : n0 ≤ h0.size) (gb : n0 ≤ b) (Su : SU Z h0 z) (Fm : Sta Z h0 "jdk/internal/util/Preconditions" "SIOOBE_FORMATTER" "Ljava/util/function/BiFunction;" fm) (B : SbOf Z h0 b t kt cs 34) :
    Ct l (⟨"java/lang/AbstractStringBuilder", "inflate", "()V"⟩ : MethodName) jdk_68_method_11_code 2 none ({ frames := 5, cells := 1, slots := 68, locals := 76 } : Room) Z #[(.ref b)] h0 (fun v h L => v = none ∧ Fr n0 L ∧ Keep h0 h [b] ∧ ∃ u ku, h0.size ≤ u ∧ SbW Z h b u ku cs 68) := by
  refine ct_of (Q := fun v h L => v = none ∧ Fr n0 L ∧ Keep h0 h [b] ∧ ∃ u ku, h0.size ≤ u ∧ SbW Z h b u ku cs 68) (plainFor_of_name pn_3) ?_
  intro p e s m below meth c s₁ X0 hx hby hml hret hnm hlk hown hZ hs0 e0
  have N0 := Fr.nil n0
  rw [show entryFrame m #[(.ref b)] 2 = mkF m 0 #[.val (.ref b), .unset] [] from by first | (simp [entryFrame, mkF, argsToLocals, Value.category]; done) | rfl]
  refine w_aloadN X0.here hx (hb hby d_jdk_68m_11_0) rfl rfl (pc' := 1) rfl ?_
  refine w_virtual X0 hx hZ (y := yq2) (z := yq2) hown (tw hw 277 rfl) (tw hw 159 rfl) (notFace_of_selects (args := #[]) (mvT hZ (tw hw 161 rfl))) (tw hw 161 rfl) (tw hw 160 rfl) (by decide) (backC (W := 0) (rmIsL l Z a0 hw b t kt cs 34 h0 B z Su.1 Su.2.1) hZ (tw hw 162 rfl) (tw hw 54 rfl) (by decide) (by decide)) e0 B.1 (by rw [hml]; rfl) (argsL := []) (st := []) pd_24 rfl rfl rfl (Nat.le_of_ble_eq_true rfl) (hb hby d_jdk_68m_11_1) (by decide) (by decide) (pc' := 4) rfl ?_
  intro T130 v130 L130 X130 Q130
  obtain ⟨rfl, rfl, hh⟩ := Q130
  show Go _ _ _ _ T130 (mkF m 4 _ [(.int (1 : Int32))])
  rw [List.append_nil] at X130
  refine w_ifYes X130.here hx (hb hby d_jdk_68m_11_4) (feq (show ¬ ((1 : Int32) = (0 : Int32)) from by decide)).2 (pc' := 8) (by decide) (by decide) ?_
  refine w_aloadN X130.here hx (hb hby d_jdk_68m_11_8) rfl rfl (pc' := 9) rfl ?_
  refine w_getF X130 hx hZ hown (tw hw 58 rfl) Via.refl hh B.2.1 (hb hby d_jdk_68m_11_9) (pc' := 12) rfl ?_
  intro T131 X131 e131
  refine w_arraylength X131 hx hZ e131 B.2.2.2.2.1 (hb hby d_jdk_68m_11_12) (pc' := 13) rfl ?_
  refine w_static X131 hx hZ (y := yq23) hown (tw hw 278 rfl) (tw hw 257 rfl) (tw hw 28 rfl) (tw hw 258 rfl) (by decide) (backC (W := 0) (rmNBF l Z a0 hw 34 h0 n0 (by decide)) hZ (tw hw 258 rfl) (tw hw 28 rfl) (by decide) (by decide)) e131 (by rw [hml]; rfl) (argsL := [(.int (Int32.ofNat 34))]) (st := []) pd_2 rfl rfl rfl (Nat.le_of_ble_eq_true rfl) (hb hby d_jdk_68m_11_13) (by decide) (by decide) (pc' := 16) rfl ?_
  intro T132 v132 L132 X132 Q132
  obtain ⟨u, ku, rfl, N1, E1, gu, VU⟩ := Q132
  show Go _ _ _ _ T132 (mkF m 16 _ [(.ref u)])
  have N2 := Fr.app N0 N1
  have gu0 : n0 ≤ u := Nat.le_trans Z0 gu
  have B1 := B.ext E1
  have ntu : t ≠ u := Nat.ne_of_lt (Nat.lt_of_lt_of_le B.2.2.2.2.1.lt gu)
  have nbu : b ≠ u := Nat.ne_of_lt (Nat.lt_of_lt_of_le B.1.lt gu)
  refine w_astoreN X132.here hx (hb hby d_jdk_68m_11_16) rfl (l' := #[.val (.ref b), .val (.ref u)]) rfl (pc' := 17) rfl ?_
  refine w_aloadN X132.here hx (hb hby d_jdk_68m_11_17) rfl rfl (pc' := 18) rfl ?_
  refine w_getF X132 hx hZ hown (tw hw 58 rfl) Via.refl rfl B1.2.1 (hb hby d_jdk_68m_11_18) (pc' := 21) rfl ?_
  intro T133 X133 e133
  refine w_iconst X133.here hx (hb hby d_jdk_68m_11_21) (z := 0) rfl (pc' := 22) rfl ?_
  refine w_aloadN X133.here hx (hb hby d_jdk_68m_11_22) rfl rfl (pc' := 23) rfl ?_
  refine w_iconst X133.here hx (hb hby d_jdk_68m_11_23) (z := 0) rfl (pc' := 24) rfl ?_
  refine w_aloadN X133.here hx (hb hby d_jdk_68m_11_24) rfl rfl (pc' := 25) rfl ?_
  refine w_getF X133 hx hZ hown (tw hw 83 rfl) Via.refl e133 B1.2.2.2.1 (hb hby d_jdk_68m_11_25) (pc' := 28) rfl ?_
  intro T134 X134 e134
  refine w_static X134 hx hZ (y := (⟨"java/lang/StringLatin1", "inflate", "([BI[BII)V"⟩ : MethodName)) hown (tw hw 279 rfl) (tw hw 280 rfl) (tw hw 250 rfl) (tw hw 281 rfl) (by decide) (backC (W := 0) (rmInfL l Z a0 hw t u kt ku 68 34 z cs fm hfm T132.heap n0 gu0 (Su.ext E1) (Fm.ext E1) B1.2.2.2.2.1 VU B1.2.2.2.2.2.2.2.1 B1.2.2.2.2.2.1 (by decide) (by have := B1.2.2.2.2.2.1; omega) (by decide) (by decide) ntu) hZ (tw hw 281 rfl) (tw hw 250 rfl) (by decide) (by decide)) e134 (by rw [hml]; rfl) (argsL := [(.ref t), (.int (0 : Int32)), (.ref u), (.int (0 : Int32)), (.int (Int32.ofNat cs.length))]) (st := []) pd_30 rfl rfl rfl (Nat.le_of_ble_eq_true rfl) (hb hby d_jdk_68m_11_28) (by decide) (by decide) (pc' := 31) rfl ?_
  intro T135 v135 L135 X135 Q135
  obtain ⟨rfl, N3, K3, V3⟩ := Q135
  show Go _ _ _ _ T135 (mkF m 31 _ [])
  have N4 := Fr.app N2 N3
  have EX3 := B1.1.keep K3
  have FV3 := B1.2.1.keep K3 (ninS nbu nin0)
  have FC3 := B1.2.2.1.keep K3 (ninS nbu nin0)
  have FN3 := B1.2.2.2.1.keep K3 (ninS nbu nin0)
  have FX3 := B1.2.2.2.2.2.2.2.2.keep K3 (ninS nbu nin0)
  refine w_aloadN X135.here hx (hb hby d_jdk_68m_11_31) rfl rfl (pc' := 32) rfl ?_
  refine w_aloadN X135.here hx (hb hby d_jdk_68m_11_32) rfl rfl (pc' := 33) rfl ?_
  refine w_putF X135 hx hZ hown (tw hw 58 rfl) Via.refl rfl FV3 EX3 (Or.inl (tw hw 59 rfl)) (tw hw 45 rfl) (ty := (.array .byte)) (by decide) rfl rfl (hb hby d_jdk_68m_11_33) (pc' := 36) rfl ?_
  intro T136 h136 X136 e136 W136
  have N5 := Fr.snoc X136 N4 gb
  have EX4 := EX3.wr W136
  have FV4 := Fld.same W136 FV3
  have FC4 := FC3.other W136 (Or.inr (slot_ne (Or.inl (tw hw 61 rfl)) (Or.inl (tw hw 59 rfl)) (by decide) (t := .byte) (t' := (.array .byte)) (by decide) (by decide)))
  have FN4 := FN3.other W136 (Or.inr (slot_ne (Or.inl (tw hw 84 rfl)) (Or.inl (tw hw 59 rfl)) (by decide) (t := .int) (t' := (.array .byte)) (by decide) (by decide)))
  have FX4 := FX3.other W136 (Or.inr (slot_ne (Or.inl (tw hw 300 rfl)) (Or.inl (tw hw 59 rfl)) (by decide) (t := .boolean) (t' := (.array .byte)) (by decide) (by decide)))
  have V4 := V3.other W136 (Ne.symm nbu)
  refine w_aloadN X136.here hx (hb hby d_jdk_68m_11_36) rfl rfl (pc' := 37) rfl ?_
  refine w_iconst X136.here hx (hb hby d_jdk_68m_11_37) (z := 1) rfl (pc' := 38) rfl ?_
  refine w_putF X136 hx hZ hown (tw hw 60 rfl) Via.refl e136 FC4 EX4 (Or.inl (tw hw 61 rfl)) (tw hw 45 rfl) (ty := .byte) (by decide) rfl rfl (hb hby d_jdk_68m_11_38) (pc' := 41) rfl ?_
  intro T137 h137 X137 e137 W137
  have N6 := Fr.snoc X137 N5 gb
  exact endV X137 hx hlk hret (hb hby d_jdk_68m_11_41) (by decide) (by decide) (by rw [e137]; exact ⟨rfl, N6, ((((Keep.refl h0 [b]).ext E1).trans K3 (allS (Or.inr gu) all0)).wr W136 (Or.inl (List.mem_cons_self ..))).wr W137 (Or.inl (List.mem_cons_self ..)), u, ku, gu, EX4.wr W137, FV4.other W137 (Or.inr (slot_ne (Or.inl (tw hw 59 rfl)) (Or.inl (tw hw 61 rfl)) (by decide) (t := (.array .byte)) (t' := .byte) (by decide) (by decide))), Fld.same W137 FC4, FN4.other W137 (Or.inr (slot_ne (Or.inl (tw hw 84 rfl)) (Or.inl (tw hw 61 rfl)) (by decide) (t := .int) (t' := .byte) (by decide) (by decide))), V4.other W137 (Ne.symm nbu), by have := B.2.2.2.2.2.1; omega, by decide, FX4.other W137 (Or.inr (slot_ne (Or.inl (tw hw 300 rfl)) (Or.inl (tw hw 61 rfl)) (by decide) (t := .boolean) (t' := .byte) (by decide) (by decide)))⟩)
theorem d_jdk_68m_71_17 : decode jdk_68_method_71_code 17 = .ok (.aload_n 0, 1) := by decide +kernel
theorem pd_31 : parseMethodDescriptor "()V" = some ⟨[], none⟩ := by decide +kernel
theorem d_jdk_68m_71_18 : decode jdk_68_method_71_code 18 = .ok (.invokevirtual 195, 3) := by decide +kernel
set_option maxRecDepth 65536 in
set_option maxHeartbeats 40000000 in
theorem rmInfY (l : Launch) (Z : State) (a0 : Array Value) (hw : ∀ d ∈ tables_1, d.before a0 Z = true) (b t x u : Addr) (ku : ClassId) (ds : List Int32) (kt : ClassId) (cs : List Int32) (z : Int32) (fm : Value) (hfm : fm.isRef = true) (h0 : Heap) (n0 : Nat) (Z0 : n0 ≤ h0.size) (gb : n0 ≤ b) (Su : SU Z h0 z) (Fm : Sta Z h0 "jdk/internal/util/Preconditions" "SIOOBE_FORMATTER" "Ljava/util/function/BiFunction;" fm) (B : SbOf Z h0 b t kt cs 34) (G : WstOf Z h0 x u ku ds) :
    Ct l yq17 jdk_68_method_71_code 2 none ({ frames := 6, cells := 1, slots := 68, locals := 89 } : Room) Z #[(.ref b), (.ref x)] h0 (fun v h L => v = none ∧ Fr n0 L ∧ Keep h0 h [b] ∧ ∃ u ku, h0.size ≤ u ∧ SbW Z h b u ku cs 68) := by
  refine ct_of (Q := fun v h L => v = none ∧ Fr n0 L ∧ Keep h0 h [b] ∧ ∃ u ku, h0.size ≤ u ∧ SbW Z h b u ku cs 68) (plainFor_of_name pn_3) ?_
  intro p e s m below meth c s₁ X0 hx hby hml hret hnm hlk hown hZ hs0 e0
  have N0 := Fr.nil n0
  rw [show entryFrame m #[(.ref b), (.ref x)] 2 = mkF m 0 #[.val (.ref b), .val (.ref x)] [] from by first | (simp [entryFrame, mkF, argsToLocals, Value.category]; done) | rfl]
  refine w_getS X0 hx hZ hown (tw hw 57 rfl) Via.refl e0 Su.1 (hb hby d_jdk_68m_71_0) (pc' := 3) rfl ?_
  intro T138 X138 e138
  refine w_ifNo X138.here hx (hb hby d_jdk_68m_71_3) (feq (show ¬ (z = (0 : Int32)) from Su.2.1)).1 (pc' := 6) rfl ?_
  refine w_aloadN X138.here hx (hb hby d_jdk_68m_71_6) rfl rfl (pc' := 7) rfl ?_
  refine w_getF X138 hx hZ hown (tw hw 60 rfl) Via.refl e138 B.2.2.1 (hb hby d_jdk_68m_71_7) (pc' := 10) rfl ?_
  intro T139 X139 e139
  refine w_aloadN X139.here hx (hb hby d_jdk_68m_71_10) rfl rfl (pc' := 11) rfl ?_
  refine w_virtual X139 hx hZ (y := yq0) (z := yq0) hown (tw hw 126 rfl) (tw hw 79 rfl) (notFace_of_selects (args := #[]) (mvT hZ (tw hw 81 rfl))) (tw hw 81 rfl) (tw hw 80 rfl) (by decide) (backC (W := 1) (rmCoder l Z a0 hw x z 1 h0 Su.1 Su.2.1 G.2.2.1 rfl) hZ (tw hw 82 rfl) (tw hw 2 rfl) (by decide) (by decide)) e139 G.1 (by rw [hml]; rfl) (argsL := []) (st := [(.int (0 : Int32))]) pd_16 rfl rfl rfl (Nat.le_of_ble_eq_true rfl) (hb hby d_jdk_68m_71_11) (by decide) (by decide) (pc' := 14) rfl ?_
  intro T140 v140 L140 X140 Q140
  obtain ⟨rfl, rfl, hh⟩ := Q140
  show Go _ _ _ _ T140 (mkF m 14 _ [(.int (1 : Int32)), (.int (0 : Int32))])
  rw [List.append_nil] at X140
  refine w_icmpNo X140.here hx (hb hby d_jdk_68m_71_14) (feq (show ¬ ((0 : Int32) = (1 : Int32)) from by decide)).1 (pc' := 17) rfl ?_
  refine w_aloadN X140.here hx (hb hby d_jdk_68m_71_17) rfl rfl (pc' := 18) rfl ?_
  refine w_private X140 hx hZ (y := (⟨"java/lang/AbstractStringBuilder", "inflate", "()V"⟩ : MethodName)) hown (tw hw 272 rfl) (tw hw 273 rfl) (tw hw 274 rfl) (tw hw 275 rfl) (tw hw 276 rfl) (by decide) (backC (W := 0) (rmInfB l Z a0 hw b t kt cs z fm hfm h0 n0 Z0 gb Su Fm B) hZ (tw hw 276 rfl) (tw hw 54 rfl) (by decide) (by decide)) hh B.1 (by rw [hml]; rfl) (argsL := []) (st := []) pd_31 rfl rfl rfl (Nat.le_of_ble_eq_true rfl) (hb hby d_jdk_68m_71_18) (by decide) (by decide) (pc' := 21) rfl ?_
  intro T141 v141 L141 X141 Q141
  obtain ⟨rfl, N1, G1⟩ := Q141
  show Go _ _ _ _ T141 (mkF m 21 _ [])
  exact endV X141 hx hlk hret (hb hby d_jdk_68m_71_21) (by decide) (by decide) (⟨rfl, Fr.app N0 N1, G1⟩)
set_option maxRecDepth 65536 in
set_option maxHeartbeats 40000000 in
theorem rmGetW (l : Launch) (Z : State) (a0 : Array Value) (hw : ∀ d ∈ tables_1, d.before a0 Z = true) (x u t : Addr) (ku kt : ClassId) (ds : List Int32) (vd : List Value) (q M : Nat) (z : Int32) (h0 : Heap) (n0 : Nat) (ge : n0 ≤ t) (SC : Sta Z h0 "java/lang/String" "COMPACT_STRINGS" "Z" (.int z)) (hz : ¬ z = 0) (G : WstOf Z h0 x u ku ds) (V : Arv Z h0 t kt .byte (Int32.ofNat M) vd (.int 0)) (hM : M ≤ 4000) (hvd : vd.length = M) (hq : 2 * q + 2 * ds.length ≤ M) :
    Ct l yq8 jdk_42_method_147_code 4 none ({ frames := 1, cells := 0, slots := 0, locals := 18 } : Room) Z #[(.ref x), (.ref t), (.int (Int32.ofNat q)), (.int (1 : Int32))] h0 (fun v h L => v = none ∧ Fr n0 L ∧ Keep h0 h [t] ∧ Arv Z h t kt .byte (Int32.ofNat M) (vd.take (2 * q) ++ StrChars.Road.wideBytes ds ++ vd.drop (2 * q + 2 * ds.length)) (.int 0)) := by
  refine ct_of (Q := fun v h L => v = none ∧ Fr n0 L ∧ Keep h0 h [t] ∧ Arv Z h t kt .byte (Int32.ofNat M) (vd.take (2 * q) ++ StrChars.Road.wideBytes ds ++ vd.drop (2 * q + 2 * ds.length)) (.int 0)) (plainFor_of_name pn_1) ?_
  intro p e s m below meth c s₁ X0 hx hby hml hret hnm hlk hown hZ hs0 e0
  have N0 := Fr.nil n0
  rw [show entryFrame m #[(.ref x), (.ref t), (.int (Int32.ofNat q)), (.int (1 : Int32))] 4 = mkF m 0 #[.val (.ref x), .val (.ref t), .val (.int (Int32.ofNat q)), .val (.int (1 : Int32))] [] from by first | (simp [entryFrame, mkF, argsToLocals, Value.category]; done) | rfl]
  refine w_aloadN X0.here hx (hb hby d_jdk_42m_147_0) rfl rfl (pc' := 1) rfl ?_
  refine w_virtual X0 hx hZ (y := yq0) (z := yq0) hown (tw hw 78 rfl) (tw hw 79 rfl) (notFace_of_selects (args := #[]) (mvT hZ (tw hw 81 rfl))) (tw hw 81 rfl) (tw hw 80 rfl) (by decide) (backC (W := 0) (rmCoder l Z a0 hw x z 1 h0 SC hz G.2.2.1 rfl) hZ (tw hw 82 rfl) (tw hw 2 rfl) (by decide) (by decide)) e0 G.1 (by rw [hml]; rfl) (argsL := []) (st := []) pd_16 rfl rfl rfl (Nat.le_of_ble_eq_true rfl) (hb hby d_jdk_42m_147_1) (by decide) (by decide) (pc' := 4) rfl ?_
  intro T142 v142 L142 X142 Q142
  obtain ⟨rfl, rfl, hh⟩ := Q142
  show Go _ _ _ _ T142 (mkF m 4 _ [(.int (1 : Int32))])
  rw [List.append_nil] at X142
  refine w_iloadN X142.here hx (hb hby d_jdk_42m_147_4) rfl (pc' := 5) rfl ?_
  refine w_icmpNo X142.here hx (hb hby d_jdk_42m_147_5) (teq (show (1 : Int32) = (1 : Int32) from rfl)).2 (pc' := 8) rfl ?_
  refine w_aloadN X142.here hx (hb hby d_jdk_42m_147_8) rfl rfl (pc' := 9) rfl ?_
  refine w_getF X142 hx hZ hown (tw hw 37 rfl) Via.refl hh G.2.1 (hb hby d_jdk_42m_147_9) (pc' := 12) rfl ?_
  intro T143 X143 e143
  refine w_iconst X143.here hx (hb hby d_jdk_42m_147_12) (z := 0) rfl (pc' := 13) rfl ?_
  refine w_aloadN X143.here hx (hb hby d_jdk_42m_147_13) rfl rfl (pc' := 14) rfl ?_
  refine w_iloadN X143.here hx (hb hby d_jdk_42m_147_14) rfl (pc' := 15) rfl ?_
  refine w_iloadN X143.here hx (hb hby d_jdk_42m_147_15) rfl (pc' := 16) rfl ?_
  refine w_ishl X143.here hx (hb hby d_jdk_42m_147_16) (pc' := 17) rfl ?_
  rw [n_shl1 (by omega)]
  show Go _ _ _ _ T143 (mkF m 17 _ [(.int (Int32.ofNat (2 * q))), (.ref t), (.int (0 : Int32)), (.ref u)])
  refine w_aloadN X143.here hx (hb hby d_jdk_42m_147_17) rfl rfl (pc' := 18) rfl ?_
  refine w_getF X143 hx hZ hown (tw hw 37 rfl) Via.refl e143 G.2.1 (hb hby d_jdk_42m_147_18) (pc' := 21) rfl ?_
  intro T144 X144 e144
  refine w_arraylength X144 hx hZ e144 G.2.2.2.1 (hb hby d_jdk_42m_147_21) (pc' := 22) rfl ?_
  refine w_cpA X144 hx hZ hown (tw hw 132 rfl) (tw hw 115 rfl) (tw hw 113 rfl) (tw hw 114 rfl) e144 (n := (2 * ds.length)) (d := (2 * q)) (us := (StrChars.Road.wideBytes ds).take (2 * ds.length)) G.2.2.2.1 V (Or.inl ⟨rfl, rfl⟩) (by rw [n_nat (by have := G.2.2.2.2.2.2; omega)]; omega) (by rw [n_nat (by omega)]; omega) rfl (by rw [wide_len]; omega) (by omega) (by have := G.2.2.2.2.2.2; omega) N0 ge (by rw [hml]; rfl) (hb hby d_jdk_42m_147_22) (by decide) (W := 0) (Nat.le_of_ble_eq_true rfl) (by decide) (pc' := 25) rfl ?_
  intro T145 h145 L145 X145 e145 N145 K145 V145
  refine w_goto X145.here hx (hb hby d_jdk_42m_147_25) (pc' := 43) (by decide) (by decide) ?_
  rw [show (StrChars.Road.wideBytes ds).take (2 * ds.length) = StrChars.Road.wideBytes ds from List.take_of_length_le (by rw [wide_len]; omega)] at V145
  exact endV X145 hx hlk hret (hb hby d_jdk_42m_147_43) (by decide) (by decide) (by rw [e145]; exact ⟨rfl, N145, K145, V145⟩)
set_option maxRecDepth 65536 in
set_option maxHeartbeats 40000000 in
theorem rmPutW (l : Launch) (Z : State) (a0 : Array Value) (hw : ∀ d ∈ tables_1, d.before a0 Z = true) (b t x u : Addr) (ku : ClassId) (ds : List Int32) (kt : ClassId) (cs : List Int32) (z : Int32) (fm : Value) (hfm : fm.isRef = true) (h0 : Heap) (n0 : Nat) (Z0 : n0 ≤ h0.size) (gb : n0 ≤ b) (Su : SU Z h0 z) (Fm : Sta Z h0 "jdk/internal/util/Preconditions" "SIOOBE_FORMATTER" "Ljava/util/function/BiFunction;" fm) (B : SbOf Z h0 b t kt cs 34) (G : WstOf Z h0 x u ku ds) (nxb : x ≠ b) (nub : u ≠ b) (hq : cs.length + ds.length ≤ 34) :
    Ct l yq14 jdk_68_method_73_code 3 none ({ frames := 7, cells := 1, slots := 68, locals := 102 } : Room) Z #[(.ref b), (.int (Int32.ofNat cs.length)), (.ref x)] h0 (fun v h L => v = none ∧ Fr n0 L ∧ Keep h0 h [b] ∧ ∃ v kv, h0.size ≤ v ∧ Exa Z h b "java/lang/StringBuilder" ∧ Fld Z h b "java/lang/AbstractStringBuilder" "value" "[B" (.ref v) ∧ Fld Z h b "java/lang/AbstractStringBuilder" "coder" "B" (.int 1) ∧ Fld Z h b "java/lang/AbstractStringBuilder" "count" "I" (.int (Int32.ofNat cs.length)) ∧ Arv Z h v kv .byte (Int32.ofNat 68) (padW (cs ++ ds) 68) (.int 0) ∧ Fld Z h b "java/lang/AbstractStringBuilder" "maybeLatin1" "Z" (.int 0)) := by
  refine ct_of (Q := fun v h L => v = none ∧ Fr n0 L ∧ Keep h0 h [b] ∧ ∃ v kv, h0.size ≤ v ∧ Exa Z h b "java/lang/StringBuilder" ∧ Fld Z h b "java/lang/AbstractStringBuilder" "value" "[B" (.ref v) ∧ Fld Z h b "java/lang/AbstractStringBuilder" "coder" "B" (.int 1) ∧ Fld Z h b "java/lang/AbstractStringBuilder" "count" "I" (.int (Int32.ofNat cs.length)) ∧ Arv Z h v kv .byte (Int32.ofNat 68) (padW (cs ++ ds) 68) (.int 0) ∧ Fld Z h b "java/lang/AbstractStringBuilder" "maybeLatin1" "Z" (.int 0)) (plainFor_of_name pn_3) ?_
  intro p e s m below meth c s₁ X0 hx hby hml hret hnm hlk hown hZ hs0 e0
  have N0 := Fr.nil n0
  rw [show entryFrame m #[(.ref b), (.int (Int32.ofNat cs.length)), (.ref x)] 3 = mkF m 0 #[.val (.ref b), .val (.int (Int32.ofNat cs.length)), .val (.ref x)] [] from by first | (simp [entryFrame, mkF, argsToLocals, Value.category]; done) | rfl]
  refine w_aloadN X0.here hx (hb hby d_jdk_68m_73_0) rfl rfl (pc' := 1) rfl ?_
  refine w_aloadN X0.here hx (hb hby d_jdk_68m_73_1) rfl rfl (pc' := 2) rfl ?_
  refine w_private X0 hx hZ (y := yq17) hown (tw hw 121 rfl) (tw hw 122 rfl) (tw hw 123 rfl) (tw hw 124 rfl) (tw hw 125 rfl) (by decide) (backC (W := 0) (rmInfY l Z a0 hw b t x u ku ds kt cs z fm hfm h0 n0 Z0 gb Su Fm B G) hZ (tw hw 125 rfl) (tw hw 54 rfl) (by decide) (by decide)) e0 B.1 (by rw [hml]; rfl) (argsL := [(.ref x)]) (st := []) pd_17 rfl rfl rfl (Nat.le_of_ble_eq_true rfl) (hb hby d_jdk_68m_73_2) (by decide) (by decide) (pc' := 5) rfl ?_
  intro T146 v146 L146 X146 Q146
  obtain ⟨rfl, N1, K1, v, kv, gv, W1⟩ := Q146
  show Go _ _ _ _ T146 (mkF m 5 _ [])
  have N2 := Fr.app N0 N1
  have G1 := G.keep K1 (ninS nxb nin0) (ninS nub nin0)
  have Su1 := SU.keep Su K1 (allS B.1.nostat all0)
  have gv0 : n0 ≤ v := Nat.le_trans Z0 gv
  refine w_aloadN X146.here hx (hb hby d_jdk_68m_73_5) rfl rfl (pc' := 6) rfl ?_
  refine w_aloadN X146.here hx (hb hby d_jdk_68m_73_6) rfl rfl (pc' := 7) rfl ?_
  refine w_getF X146 hx hZ hown (tw hw 58 rfl) Via.refl rfl W1.2.1 (hb hby d_jdk_68m_73_7) (pc' := 10) rfl ?_
  intro T147 X147 e147
  refine w_iloadN X147.here hx (hb hby d_jdk_68m_73_10) rfl (pc' := 11) rfl ?_
  refine w_aloadN X147.here hx (hb hby d_jdk_68m_73_11) rfl rfl (pc' := 12) rfl ?_
  refine w_getF X147 hx hZ hown (tw hw 60 rfl) Via.refl e147 W1.2.2.1 (hb hby d_jdk_68m_73_12) (pc' := 15) rfl ?_
  intro T148 X148 e148
  refine w_virtual X148 hx hZ (y := yq8) (z := yq8) hown (tw hw 127 rfl) (tw hw 128 rfl) (notFace_of_selects (args := #[]) (mvT hZ (tw hw 130 rfl))) (tw hw 130 rfl) (tw hw 129 rfl) (by decide) (backC (W := 0) (rmGetW l Z a0 hw x u v ku kv ds (padW cs 68) cs.length 68 z T146.heap n0 gv0 Su1.1 Su1.2.1 G1 W1.2.2.2.2.1 (by decide) (padW_len W1.2.2.2.2.2.1) (by omega)) hZ (tw hw 131 rfl) (tw hw 2 rfl) (by decide) (by decide)) e148 G1.1 (by rw [hml]; rfl) (argsL := [(.ref v), (.int (Int32.ofNat cs.length)), (.int (1 : Int32))]) (st := []) pd_18 rfl rfl rfl (Nat.le_of_ble_eq_true rfl) (hb hby d_jdk_68m_73_15) (by decide) (by decide) (pc' := 18) rfl ?_
  intro T149 v149 L149 X149 Q149
  obtain ⟨rfl, N3, K3, V3⟩ := Q149
  show Go _ _ _ _ T149 (mkF m 18 _ [])
  rw [padW_put (by omega)] at V3
  have nbv : b ≠ v := W1.1.neArv W1.2.2.2.2.1 (tw hw 45 rfl)
  exact endV X149 hx hlk hret (hb hby d_jdk_68m_73_18) (by decide) (by decide) (⟨rfl, Fr.app N2 N3, K1.trans K3 (allS (Or.inr gv) all0), v, kv, gv, W1.1.keep K3, W1.2.1.keep K3 (ninS nbv nin0), W1.2.2.1.keep K3 (ninS nbv nin0), W1.2.2.2.1.keep K3 (ninS nbv nin0), V3, W1.2.2.2.2.2.2.2.keep K3 (ninS nbv nin0)⟩)
set_option maxRecDepth 65536 in
set_option maxHeartbeats 40000000 in
theorem rmApW (l : Launch) (Z : State) (a0 : Array Value) (hw : ∀ d ∈ tables_1, d.before a0 Z = true) (b t x u : Addr) (ku : ClassId) (ds : List Int32) (kt : ClassId) (cs : List Int32) (z : Int32) (fm : Value) (hfm : fm.isRef = true) (h0 : Heap) (n0 : Nat) (Z0 : n0 ≤ h0.size) (gb : n0 ≤ b) (Su : SU Z h0 z) (Fm : Sta Z h0 "jdk/internal/util/Preconditions" "SIOOBE_FORMATTER" "Ljava/util/function/BiFunction;" fm) (B : SbOf Z h0 b t kt cs 34) (G : WstOf Z h0 x u ku ds) (nxb : x ≠ b) (nub : u ≠ b) (hq : cs.length + ds.length ≤ 34) :
    Ct l yq9 jdk_68_method_22_code 3 (some (.object "java/lang/AbstractStringBuilder")) ({ frames := 8, cells := 1, slots := 68, locals := 116 } : Room) Z #[(.ref b), (.ref x)] h0 (fun v h L => v = some (.ref b) ∧ Fr n0 L ∧ Keep h0 h [b] ∧ ∃ v kv, h0.size ≤ v ∧ SbW Z h b v kv (cs ++ ds) 68) := by
  refine ct_of (Q := fun v h L => v = some (.ref b) ∧ Fr n0 L ∧ Keep h0 h [b] ∧ ∃ v kv, h0.size ≤ v ∧ SbW Z h b v kv (cs ++ ds) 68) (plainFor_of_name pn_3) ?_
  intro p e s m below meth c s₁ X0 hx hby hml hret hnm hlk hown hZ hs0 e0
  have N0 := Fr.nil n0
  rw [show entryFrame m #[(.ref b), (.ref x)] 3 = mkF m 0 #[.val (.ref b), .val (.ref x), .unset] [] from by first | (simp [entryFrame, mkF, argsToLocals, Value.category]; done) | rfl]
  refine w_aloadN X0.here hx (hb hby d_jdk_68m_22_0) rfl rfl (pc' := 1) rfl ?_
  refine w_ifnonnullYes X0.here hx (hb hby d_jdk_68m_22_1) (pc' := 9) (by decide) (by decide) ?_
  refine w_aloadN X0.here hx (hb hby d_jdk_68m_22_9) rfl rfl (pc' := 10) rfl ?_
  refine w_virtual X0 hx hZ (y := yq4) (z := yq4) hown (tw hw 73 rfl) (tw hw 74 rfl) (notFace_of_selects (args := #[]) (mvT hZ (tw hw 76 rfl))) (tw hw 76 rfl) (tw hw 75 rfl) (by decide) (k_len (W := 0) hZ (fun d hd => hw d (own_wLen d hd)) (tw hw 3 rfl) G.str Su.1 Su.2.1 (by decide) (by decide)) e0 G.1 (by rw [hml]; rfl) (argsL := []) (st := []) pd_11 rfl rfl rfl (Nat.le_of_ble_eq_true rfl) (hb hby d_jdk_68m_22_10) (by decide) (by decide) (pc' := 13) rfl ?_
  intro T150 v150 L150 X150 Q150
  obtain ⟨rfl, rfl, hh⟩ := Q150
  show Go _ _ _ _ T150 (mkF m 13 _ [(.int (Int32.ofNat ds.length))])
  rw [List.append_nil] at X150
  refine w_istoreN X150.here hx (hb hby d_jdk_68m_22_13) (l' := #[.val (.ref b), .val (.ref x), .val (.int (Int32.ofNat ds.length))]) rfl (pc' := 14) rfl ?_
  refine w_aloadN X150.here hx (hb hby d_jdk_68m_22_14) rfl rfl (pc' := 15) rfl ?_
  refine w_aloadN X150.here hx (hb hby d_jdk_68m_22_15) rfl rfl (pc' := 16) rfl ?_
  refine w_getF X150 hx hZ hown (tw hw 83 rfl) Via.refl hh B.2.2.2.1 (hb hby d_jdk_68m_22_16) (pc' := 19) rfl ?_
  intro T151 X151 e151
  refine w_iloadN X151.here hx (hb hby d_jdk_68m_22_19) rfl (pc' := 20) rfl ?_
  refine w_iadd X151.here hx (hb hby d_jdk_68m_22_20) (pc' := 21) rfl ?_
  rw [n_add]
  show Go _ _ _ _ T151 (mkF m 21 _ [(.int (Int32.ofNat (cs.length + ds.length))), (.ref b)])
  refine w_private X151 hx hZ (y := yq13) hown (tw hw 85 rfl) (tw hw 86 rfl) (tw hw 87 rfl) (tw hw 88 rfl) (tw hw 89 rfl) (by decide) (backC (W := 0) (rmEnsF l Z a0 hw b t kt cs 34 (cs.length + ds.length) h0 B hq) hZ (tw hw 89 rfl) (tw hw 54 rfl) (by decide) (by decide)) e151 B.1 (by rw [hml]; rfl) (argsL := [(.int (Int32.ofNat (cs.length + ds.length)))]) (st := []) pd_12 rfl rfl rfl (Nat.le_of_ble_eq_true rfl) (hb hby d_jdk_68m_22_21) (by decide) (by decide) (pc' := 24) rfl ?_
  intro T152 v152 L152 X152 Q152
  obtain ⟨rfl, rfl, hh2⟩ := Q152
  show Go _ _ _ _ T152 (mkF m 24 _ [])
  rw [List.append_nil] at X152
  refine w_aloadN X152.here hx (hb hby d_jdk_68m_22_24) rfl rfl (pc' := 25) rfl ?_
  refine w_aloadN X152.here hx (hb hby d_jdk_68m_22_25) rfl rfl (pc' := 26) rfl ?_
  refine w_getF X152 hx hZ hown (tw hw 83 rfl) Via.refl hh2 B.2.2.2.1 (hb hby d_jdk_68m_22_26) (pc' := 29) rfl ?_
  intro T153 X153 e153
  refine w_aloadN X153.here hx (hb hby d_jdk_68m_22_29) rfl rfl (pc' := 30) rfl ?_
  refine w_private X153 hx hZ (y := yq14) hown (tw hw 116 rfl) (tw hw 117 rfl) (tw hw 118 rfl) (tw hw 119 rfl) (tw hw 120 rfl) (by decide) (backC (W := 0) (rmPutW l Z a0 hw b t x u ku ds kt cs z fm hfm h0 n0 Z0 gb Su Fm B G nxb nub hq) hZ (tw hw 120 rfl) (tw hw 54 rfl) (by decide) (by decide)) e153 B.1 (by rw [hml]; rfl) (argsL := [(.int (Int32.ofNat cs.length)), (.ref x)]) (st := []) pd_19 rfl rfl rfl (Nat.le_of_ble_eq_true rfl) (hb hby d_jdk_68m_22_30) (by decide) (by decide) (pc' := 33) rfl ?_
  intro T154 v154 L154 X154 Q154
  obtain ⟨rfl, N1, K1, v, kv, gv, EX3, FV3, FC3, FN3, V3, FX3⟩ := Q154
  show Go _ _ _ _ T154 (mkF m 33 _ [])
  have N2 := Fr.app N0 N1
  have nbv : b ≠ v := EX3.neArv V3 (tw hw 45 rfl)
  refine w_aloadN X154.here hx (hb hby d_jdk_68m_22_33) rfl rfl (pc' := 34) rfl ?_
  refine w_dup X154.here hx (hb hby d_jdk_68m_22_34) rfl (pc' := 35) rfl ?_
  refine w_getF X154 hx hZ hown (tw hw 83 rfl) Via.refl rfl FN3 (hb hby d_jdk_68m_22_35) (pc' := 38) rfl ?_
  intro T155 X155 e155
  refine w_iloadN X155.here hx (hb hby d_jdk_68m_22_38) rfl (pc' := 39) rfl ?_
  refine w_iadd X155.here hx (hb hby d_jdk_68m_22_39) (pc' := 40) rfl ?_
  rw [n_add]
  show Go _ _ _ _ T155 (mkF m 40 _ [(.int (Int32.ofNat (cs.length + ds.length))), (.ref b)])
  refine w_putF X155 hx hZ hown (tw hw 83 rfl) Via.refl e155 FN3 EX3 (Or.inl (tw hw 84 rfl)) (tw hw 45 rfl) (ty := .int) (by decide) rfl rfl (hb hby d_jdk_68m_22_40) (pc' := 43) rfl ?_
  intro T156 h156 X156 e156 W156
  have N3 := Fr.snoc X156 N2 gb
  refine w_aloadN X156.here hx (hb hby d_jdk_68m_22_43) rfl rfl (pc' := 44) rfl ?_
  exact endR X156 hx hlk rfl hret rfl (hb hby d_jdk_68m_22_44) (by decide) (by decide) (by rw [e156]; exact ⟨rfl, N3, K1.wr W156 (Or.inl (List.mem_cons_self ..)), v, kv, gv, EX3.wr W156, FV3.other W156 (Or.inr (slot_ne (Or.inl (tw hw 59 rfl)) (Or.inl (tw hw 84 rfl)) (by decide) (t := (.array .byte)) (t' := .int) (by decide) (by decide))), FC3.other W156 (Or.inr (slot_ne (Or.inl (tw hw 61 rfl)) (Or.inl (tw hw 84 rfl)) (by decide) (t := .byte) (t' := .int) (by decide) (by decide))), by rw [List.length_append]; exact Fld.same W156 FN3, V3.other W156 (Ne.symm nbv), by rw [List.length_append]; omega, by decide, FX3.other W156 (Or.inr (slot_ne (Or.inl (tw hw 300 rfl)) (Or.inl (tw hw 84 rfl)) (by decide) (t := .boolean) (t' := .int) (by decide) (by decide)))⟩)
set_option maxRecDepth 65536 in
set_option maxHeartbeats 40000000 in
theorem rmApWS (l : Launch) (Z : State) (a0 : Array Value) (hw : ∀ d ∈ tables_1, d.before a0 Z = true) (b t x u : Addr) (ku : ClassId) (ds : List Int32) (kt : ClassId) (cs : List Int32) (z : Int32) (fm : Value) (hfm : fm.isRef = true) (h0 : Heap) (n0 : Nat) (Z0 : n0 ≤ h0.size) (gb : n0 ≤ b) (Su : SU Z h0 z) (Fm : Sta Z h0 "jdk/internal/util/Preconditions" "SIOOBE_FORMATTER" "Ljava/util/function/BiFunction;" fm) (B : SbOf Z h0 b t kt cs 34) (G : WstOf Z h0 x u ku ds) (nxb : x ≠ b) (nub : u ≠ b) (hq : cs.length + ds.length ≤ 34) :
    Ct l yq1 jdk_67_method_7_code 2 (some (.object "java/lang/StringBuilder")) ({ frames := 9, cells := 1, slots := 68, locals := 130 } : Room) Z #[(.ref b), (.ref x)] h0 (fun v h L => v = some (.ref b) ∧ Fr n0 L ∧ Keep h0 h [b] ∧ ∃ v kv, h0.size ≤ v ∧ SbW Z h b v kv (cs ++ ds) 68) := by
  refine ct_of (Q := fun v h L => v = some (.ref b) ∧ Fr n0 L ∧ Keep h0 h [b] ∧ ∃ v kv, h0.size ≤ v ∧ SbW Z h b v kv (cs ++ ds) 68) (plainFor_of_name pn_4) ?_
  intro p e s m below meth c s₁ X0 hx hby hml hret hnm hlk hown hZ hs0 e0
  have N0 := Fr.nil n0
  rw [show entryFrame m #[(.ref b), (.ref x)] 2 = mkF m 0 #[.val (.ref b), .val (.ref x)] [] from by first | (simp [entryFrame, mkF, argsToLocals, Value.category]; done) | rfl]
  refine w_aloadN X0.here hx (hb hby d_jdk_67m_7_0) rfl rfl (pc' := 1) rfl ?_
  refine w_aloadN X0.here hx (hb hby d_jdk_67m_7_1) rfl rfl (pc' := 2) rfl ?_
  refine w_super X0 hx hZ (y := yq9) hown (tw hw 68 rfl) (own_same (tw hw 69 rfl) (by decide) (tw hw 88 rfl) rfl) (tw hw 69 rfl) (tw hw 70 rfl) (tw hw 72 rfl) (by decide) (backC (W := 0) (rmApW l Z a0 hw b t x u ku ds kt cs z fm hfm h0 n0 Z0 gb Su Fm B G nxb nub hq) hZ (tw hw 72 rfl) (tw hw 54 rfl) (by decide) (by decide)) e0 (Ins.self B.1) (by rw [hml]; rfl) (argsL := [(.ref x)]) (st := []) pd_20 rfl rfl rfl (Nat.le_of_ble_eq_true rfl) (hb hby d_jdk_67m_7_2) (by decide) (by decide) (pc' := 5) rfl ?_
  intro T157 v157 L157 X157 Q157
  obtain ⟨rfl, N1, G1⟩ := Q157
  show Go _ _ _ _ T157 (mkF m 5 _ [(.ref b)])
  refine w_pop X157.here hx (hb hby d_jdk_67m_7_5) rfl (pc' := 6) rfl ?_
  refine w_aloadN X157.here hx (hb hby d_jdk_67m_7_6) rfl rfl (pc' := 7) rfl ?_
  exact endR X157 hx hlk rfl hret rfl (hb hby d_jdk_67m_7_7) (by decide) (by decide) (⟨rfl, Fr.app N0 N1, G1⟩)
set_option maxRecDepth 65536 in
set_option maxHeartbeats 40000000 in
theorem rmRngBW (l : Launch) (Z : State) (a0 : Array Value) (hw : ∀ d ∈ tables_1, d.before a0 Z = true) (t : Addr) (kt : ClassId) (cs : List Int32) (N : Nat) (h0 : Heap) (n0 : Nat) (Z0 : n0 ≤ h0.size) (V : Arv Z h0 t kt .byte (Int32.ofNat N) (padW cs N) (.int 0)) (hl : 2 * cs.length < N) (hN : N ≤ 4000) (hK : cs.length ≤ 24) :
    Ct l yq18 jdk_65_method_133_code 5 (some (.array .byte)) ({ frames := 1, cells := 1, slots := 48, locals := 18 } : Room) Z #[(.ref t), (.int (0 : Int32)), (.int (Int32.ofNat (2 * cs.length)))] h0 (fun v h L => ∃ u ku, v = some (.ref u) ∧ Fr n0 L ∧ Ext h0 h ∧ h0.size ≤ u ∧ Arv Z h u ku .byte (Int32.ofNat (2 * cs.length)) (StrChars.Road.wideBytes cs) (.int 0)) := by
  refine ct_of (Q := fun v h L => ∃ u ku, v = some (.ref u) ∧ Fr n0 L ∧ Ext h0 h ∧ h0.size ≤ u ∧ Arv Z h u ku .byte (Int32.ofNat (2 * cs.length)) (StrChars.Road.wideBytes cs) (.int 0)) (plainFor_of_name pn_6) ?_
  intro p e s m below meth c s₁ X0 hx hby hml hret hnm hlk hown hZ hs0 e0
  have N0 := Fr.nil n0
  rw [show entryFrame m #[(.ref t), (.int (0 : Int32)), (.int (Int32.ofNat (2 * cs.length)))] 5 = mkF m 0 #[.val (.ref t), .val (.int (0 : Int32)), .val (.int (Int32.ofNat (2 * cs.length))), .unset, .unset] [] from by first | (simp [entryFrame, mkF, argsToLocals, Value.category]; done) | rfl]
  refine w_iloadN X0.here hx (hb hby d_jdk_65m_133_0) rfl (pc' := 1) rfl ?_
  refine w_iloadN X0.here hx (hb hby d_jdk_65m_133_1) rfl (pc' := 2) rfl ?_
  refine w_static X0 hx hZ (y := yq25) hown (tw hw 169 rfl) (tw hw 170 rfl) (tw hw 107 rfl) (tw hw 171 rfl) (by decide) (backC (W := 0) (rmChk l Z a0 hw (2 * cs.length) h0 (by omega)) hZ (tw hw 171 rfl) (tw hw 107 rfl) (by decide) (by decide)) e0 (by rw [hml]; rfl) (argsL := [(.int (0 : Int32)), (.int (Int32.ofNat (2 * cs.length)))]) (st := []) pd_21 rfl rfl rfl (Nat.le_of_ble_eq_true rfl) (hb hby d_jdk_65m_133_2) (by decide) (by decide) (pc' := 5) rfl ?_
  intro T158 v158 L158 X158 Q158
  obtain ⟨rfl, rfl, hh⟩ := Q158
  show Go _ _ _ _ T158 (mkF m 5 _ [])
  rw [List.append_nil] at X158
  refine w_iloadN X158.here hx (hb hby d_jdk_65m_133_5) rfl (pc' := 6) rfl ?_
  refine w_iloadN X158.here hx (hb hby d_jdk_65m_133_6) rfl (pc' := 7) rfl ?_
  refine w_isub X158.here hx (hb hby d_jdk_65m_133_7) (pc' := 8) rfl ?_
  rw [Int32.sub_zero]
  show Go _ _ _ _ T158 (mkF m 8 _ [(.int (Int32.ofNat (2 * cs.length)))])
  refine w_istoreN X158.here hx (hb hby d_jdk_65m_133_8) (l' := #[.val (.ref t), .val (.int (0 : Int32)), .val (.int (Int32.ofNat (2 * cs.length))), .val (.int (Int32.ofNat (2 * cs.length))), .unset]) rfl (pc' := 9) rfl ?_
  refine w_iloadN X158.here hx (hb hby d_jdk_65m_133_9) rfl (pc' := 10) rfl ?_
  refine w_newarray X158 hx hZ (ty := .byte) (dv := (.int 0)) rfl rfl (tw hw 4 rfl) hh (n := (Int32.ofNat (2 * cs.length))) (hb hby d_jdk_65m_133_10) (n_nn (by omega)) (cap := 48) (by rw [n_nat (by omega)]; omega) (by decide) (by decide) (by decide) (pc' := 12) rfl ?_
  intro T159 h159 u ku gu X159 e159 E159 U
  have ge_u_h0 : h0.size ≤ u := Nat.le_trans (Ext.rfl' : Ext h0 h0).1 (Nat.le_of_eq gu)
  have C160 : Ext h0 h159 := Ext.trs Ext.rfl' E159
  rw [n_nat (by omega)] at U
  have ge : n0 ≤ u := Nat.le_trans Z0 ge_u_h0
  refine w_astore X159.here hx (hb hby d_jdk_65m_133_12) rfl (l' := #[.val (.ref t), .val (.int (0 : Int32)), .val (.int (Int32.ofNat (2 * cs.length))), .val (.int (Int32.ofNat (2 * cs.length))), .val (.ref u)]) rfl (pc' := 14) rfl ?_
  refine w_aloadN X159.here hx (hb hby d_jdk_65m_133_14) rfl rfl (pc' := 15) rfl ?_
  refine w_iloadN X159.here hx (hb hby d_jdk_65m_133_15) rfl (pc' := 16) rfl ?_
  refine w_aload X159.here hx (hb hby d_jdk_65m_133_16) rfl rfl (pc' := 18) rfl ?_
  refine w_iconst X159.here hx (hb hby d_jdk_65m_133_18) (z := 0) rfl (pc' := 19) rfl ?_
  refine w_aloadN X159.here hx (hb hby d_jdk_65m_133_19) rfl rfl (pc' := 20) rfl ?_
  refine w_arraylength X159 hx hZ e159 (V.ext C160) (hb hby d_jdk_65m_133_20) (pc' := 21) rfl ?_
  refine w_iloadN X159.here hx (hb hby d_jdk_65m_133_21) rfl (pc' := 22) rfl ?_
  refine w_isub X159.here hx (hb hby d_jdk_65m_133_22) (pc' := 23) rfl ?_
  rw [Int32.sub_zero]
  show Go _ _ _ _ T159 (mkF m 23 _ [(.int (Int32.ofNat N)), (.int (0 : Int32)), (.ref u), (.int (0 : Int32)), (.ref t)])
  refine w_iloadN X159.here hx (hb hby d_jdk_65m_133_23) rfl (pc' := 24) rfl ?_
  refine w_static X159 hx hZ (y := yq12) hown (tw hw 109 rfl) (tw hw 110 rfl) (tw hw 101 rfl) (tw hw 111 rfl) (by decide) (backC (W := 4) (rmMinR l Z a0 hw (Int32.ofNat N) (Int32.ofNat (2 * cs.length)) h159 (n_lt (by omega) (by omega))) hZ (tw hw 111 rfl) (tw hw 101 rfl) (by decide) (by decide)) e159 (by rw [hml]; rfl) (argsL := [(.int (Int32.ofNat N)), (.int (Int32.ofNat (2 * cs.length)))]) (st := [(.int (0 : Int32)), (.ref u), (.int (0 : Int32)), (.ref t)]) pd_13 rfl rfl rfl (Nat.le_of_ble_eq_true rfl) (hb hby d_jdk_65m_133_24) (by decide) (by decide) (pc' := 27) rfl ?_
  intro T161 v161 L161 X161 Q161
  obtain ⟨rfl, rfl, hh2⟩ := Q161
  show Go _ _ _ _ T161 (mkF m 27 _ [(.int (Int32.ofNat (2 * cs.length))), (.int (0 : Int32)), (.ref u), (.int (0 : Int32)), (.ref t)])
  rw [List.append_nil] at X161
  refine w_cpA X161 hx hZ hown (tw hw 112 rfl) (tw hw 115 rfl) (tw hw 113 rfl) (tw hw 114 rfl) hh2 (n := (2 * cs.length)) (d := 0) (us := (padW cs N).take (2 * cs.length)) (V.ext C160) U (Or.inl ⟨rfl, rfl⟩) (by rw [n_nat (by omega)]; omega) (by rw [n_nat (by omega)]; omega) rfl (by rw [padW_len (by omega)]; omega) (by simp) (by omega) N0 ge (by rw [hml]; rfl) (hb hby d_jdk_65m_133_27) (by decide) (W := 0) (Nat.le_of_ble_eq_true rfl) (by decide) (pc' := 30) rfl ?_
  intro T162 h162 L162 X162 e162 N162 K162 V162
  refine w_aload X162.here hx (hb hby d_jdk_65m_133_30) rfl rfl (pc' := 32) rfl ?_
  rw [padW_take] at V162
  have V2 : Arv Z h162 u ku .byte (Int32.ofNat (2 * cs.length)) (StrChars.Road.wideBytes cs) (.int 0) := by simpa using V162
  exact endR X162 hx hlk rfl hret rfl (hb hby d_jdk_65m_133_32) (by decide) (by decide) (by rw [e162]; exact ⟨u, ku, rfl, N162, Ext.kp C160 K162 (allS ge_u_h0 all0), ge_u_h0, V2⟩)
set_option maxRecDepth 65536 in
set_option maxHeartbeats 40000000 in
theorem rmRngW (l : Launch) (Z : State) (a0 : Array Value) (hw : ∀ d ∈ tables_1, d.before a0 Z = true) (t : Addr) (kt : ClassId) (cs : List Int32) (N : Nat) (h0 : Heap) (n0 : Nat) (Z0 : n0 ≤ h0.size) (V : Arv Z h0 t kt .byte (Int32.ofNat N) (padW cs N) (.int 0)) (hl : 2 * cs.length < N) (hN : N ≤ 4000) (hK : cs.length ≤ 24) :
    Ct l yq19 jdk_65_method_132_code 3 (some (.array .byte)) ({ frames := 2, cells := 1, slots := 48, locals := 34 } : Room) Z #[(.ref t), (.int (0 : Int32)), (.int (Int32.ofNat (2 * cs.length)))] h0 (fun v h L => ∃ u ku, v = some (.ref u) ∧ Fr n0 L ∧ Ext h0 h ∧ h0.size ≤ u ∧ Arv Z h u ku .byte (Int32.ofNat (2 * cs.length)) (StrChars.Road.wideBytes cs) (.int 0)) := by
  refine ct_of (Q := fun v h L => ∃ u ku, v = some (.ref u) ∧ Fr n0 L ∧ Ext h0 h ∧ h0.size ≤ u ∧ Arv Z h u ku .byte (Int32.ofNat (2 * cs.length)) (StrChars.Road.wideBytes cs) (.int 0)) (plainFor_of_name pn_6) ?_
  intro p e s m below meth c s₁ X0 hx hby hml hret hnm hlk hown hZ hs0 e0
  have N0 := Fr.nil n0
  rw [show entryFrame m #[(.ref t), (.int (0 : Int32)), (.int (Int32.ofNat (2 * cs.length)))] 3 = mkF m 0 #[.val (.ref t), .val (.int (0 : Int32)), .val (.int (Int32.ofNat (2 * cs.length)))] [] from by first | (simp [entryFrame, mkF, argsToLocals, Value.category]; done) | rfl]
  refine w_iloadN X0.here hx (hb hby d_jdk_65m_132_0) rfl (pc' := 1) rfl ?_
  refine w_ifNo X0.here hx (hb hby d_jdk_65m_132_1) (teq (show (0 : Int32) = (0 : Int32) from rfl)).2 (pc' := 4) rfl ?_
  refine w_iloadN X0.here hx (hb hby d_jdk_65m_132_4) rfl (pc' := 5) rfl ?_
  refine w_aloadN X0.here hx (hb hby d_jdk_65m_132_5) rfl rfl (pc' := 6) rfl ?_
  refine w_arraylength X0 hx hZ e0 V (hb hby d_jdk_65m_132_6) (pc' := 7) rfl ?_
  refine w_icmpNo X0.here hx (hb hby d_jdk_65m_132_7) (feq (show ¬ ((Int32.ofNat (2 * cs.length)) = (Int32.ofNat N)) from n_ne hl (by omega))).1 (pc' := 10) rfl ?_
  refine w_aloadN X0.here hx (hb hby d_jdk_65m_132_10) rfl rfl (pc' := 11) rfl ?_
  refine w_iloadN X0.here hx (hb hby d_jdk_65m_132_11) rfl (pc' := 12) rfl ?_
  refine w_iloadN X0.here hx (hb hby d_jdk_65m_132_12) rfl (pc' := 13) rfl ?_
  refine w_static X0 hx hZ (y := yq18) hown (tw hw 166 rfl) (tw hw 167 rfl) (tw hw 107 rfl) (tw hw 168 rfl) (by decide) (backC (W := 0) (rmRngBW l Z a0 hw t kt cs N h0 n0 Z0 V hl hN hK) hZ (tw hw 168 rfl) (tw hw 107 rfl) (by decide) (by decide)) e0 (by rw [hml]; rfl) (argsL := [(.ref t), (.int (0 : Int32)), (.int (Int32.ofNat (2 * cs.length)))]) (st := []) pd_22 rfl rfl rfl (Nat.le_of_ble_eq_true rfl) (hb hby d_jdk_65m_132_13) (by decide) (by decide) (pc' := 16) rfl ?_
  intro T163 v163 L163 X163 Q163
  obtain ⟨u, ku, rfl, N1, G1⟩ := Q163
  show Go _ _ _ _ T163 (mkF m 16 _ [(.ref u)])
  exact endR X163 hx hlk rfl hret rfl (hb hby d_jdk_65m_132_16) (by decide) (by decide) (⟨u, ku, rfl, Fr.app N0 N1, G1⟩)
set_option maxRecDepth 65536 in
set_option maxHeartbeats 40000000 in
theorem rmLenAW (l : Launch) (Z : State) (a0 : Array Value) (hw : ∀ d ∈ tables_1, d.before a0 Z = true) (b t : Addr) (kt : ClassId) (cs : List Int32) (N : Nat) (h0 : Heap) (B : SbW Z h0 b t kt cs N) :
    Ct l yq6 jdk_68_method_6_code 1 (some .int) ({ frames := 0, cells := 0, slots := 0, locals := 0 } : Room) Z #[(.ref b)] h0 (fun v h L => v = some (.int (Int32.ofNat cs.length)) ∧ L = [] ∧ h = h0) := by
  refine ct_of (Q := fun v h L => v = some (.int (Int32.ofNat cs.length)) ∧ L = [] ∧ h = h0) (plainFor_of_name pn_3) ?_
  intro p e s m below meth c s₁ X0 hx hby hml hret hnm hlk hown hZ hs0 e0
  rw [show entryFrame m #[(.ref b)] 1 = mkF m 0 #[.val (.ref b)] [] from by first | (simp [entryFrame, mkF, argsToLocals, Value.category]; done) | rfl]
  refine w_aloadN X0.here hx (hb hby d_jdk_68m_6_0) rfl rfl (pc' := 1) rfl ?_
  refine w_getF X0 hx hZ hown (tw hw 83 rfl) Via.refl e0 B.2.2.2.1 (hb hby d_jdk_68m_6_1) (pc' := 4) rfl ?_
  intro T164 X164 e164
  exact endI X164 hx hlk hret (hb hby d_jdk_68m_6_4) (by decide) (by decide) (by rw [e164]; exact ⟨rfl, rfl, rfl⟩)
set_option maxRecDepth 65536 in
set_option maxHeartbeats 40000000 in
theorem rmLenSW (l : Launch) (Z : State) (a0 : Array Value) (hw : ∀ d ∈ tables_1, d.before a0 Z = true) (b t : Addr) (kt : ClassId) (cs : List Int32) (N : Nat) (h0 : Heap) (B : SbW Z h0 b t kt cs N) :
    Ct l yq16 jdk_67_method_93_code 1 (some .int) ({ frames := 1, cells := 0, slots := 0, locals := 12 } : Room) Z #[(.ref b)] h0 (fun v h L => v = some (.int (Int32.ofNat cs.length)) ∧ L = [] ∧ h = h0) := by
  refine ct_of (Q := fun v h L => v = some (.int (Int32.ofNat cs.length)) ∧ L = [] ∧ h = h0) (plainFor_of_name pn_4) ?_
  intro p e s m below meth c s₁ X0 hx hby hml hret hnm hlk hown hZ hs0 e0
  rw [show entryFrame m #[(.ref b)] 1 = mkF m 0 #[.val (.ref b)] [] from by first | (simp [entryFrame, mkF, argsToLocals, Value.category]; done) | rfl]
  refine w_aloadN X0.here hx (hb hby d_jdk_67m_93_0) rfl rfl (pc' := 1) rfl ?_
  refine w_super X0 hx hZ (y := yq6) hown (tw hw 156 rfl) (own_same (tw hw 152 rfl) (by decide) (tw hw 88 rfl) rfl) (tw hw 152 rfl) (tw hw 70 rfl) (tw hw 157 rfl) (by decide) (backC (W := 0) (rmLenAW l Z a0 hw b t kt cs N h0 B) hZ (tw hw 157 rfl) (tw hw 54 rfl) (by decide) (by decide)) e0 (Ins.self B.1) (by rw [hml]; rfl) (argsL := []) (st := []) pd_11 rfl rfl rfl (Nat.le_of_ble_eq_true rfl) (hb hby d_jdk_67m_93_1) (by decide) (by decide) (pc' := 4) rfl ?_
  intro T165 v165 L165 X165 Q165
  obtain ⟨rfl, rfl, hh⟩ := Q165
  show Go _ _ _ _ T165 (mkF m 4 _ [(.int (Int32.ofNat cs.length))])
  rw [List.append_nil] at X165
  exact endI X165 hx hlk hret (hb hby d_jdk_67m_93_4) (by decide) (by decide) (by rw [hh]; exact ⟨rfl, rfl, rfl⟩)
set_option maxRecDepth 65536 in
set_option maxHeartbeats 40000000 in
theorem rmGetVW (l : Launch) (Z : State) (a0 : Array Value) (hw : ∀ d ∈ tables_1, d.before a0 Z = true) (b t : Addr) (kt : ClassId) (cs : List Int32) (N : Nat) (h0 : Heap) (B : SbW Z h0 b t kt cs N) :
    Ct l yq7 jdk_68_method_64_code 1 (some (.array .byte)) ({ frames := 0, cells := 0, slots := 0, locals := 0 } : Room) Z #[(.ref b)] h0 (fun v h L => v = some (.ref t) ∧ L = [] ∧ h = h0) := by
  refine ct_of (Q := fun v h L => v = some (.ref t) ∧ L = [] ∧ h = h0) (plainFor_of_name pn_3) ?_
  intro p e s m below meth c s₁ X0 hx hby hml hret hnm hlk hown hZ hs0 e0
  rw [show entryFrame m #[(.ref b)] 1 = mkF m 0 #[.val (.ref b)] [] from by first | (simp [entryFrame, mkF, argsToLocals, Value.category]; done) | rfl]
  refine w_aloadN X0.here hx (hb hby d_jdk_68m_64_0) rfl rfl (pc' := 1) rfl ?_
  refine w_getF X0 hx hZ hown (tw hw 58 rfl) Via.refl e0 B.2.1 (hb hby d_jdk_68m_64_1) (pc' := 4) rfl ?_
  intro T166 X166 e166
  exact endR X166 hx hlk rfl hret rfl (hb hby d_jdk_68m_64_4) (by decide) (by decide) (by rw [e166]; exact ⟨rfl, rfl, rfl⟩)
theorem d_jdk_68m_68_17 : decode jdk_68_method_68_code 17 = .ok (.iconst 0, 1) := by decide +kernel
set_option maxRecDepth 65536 in
set_option maxHeartbeats 40000000 in
theorem rmIsLW (l : Launch) (Z : State) (a0 : Array Value) (hw : ∀ d ∈ tables_1, d.before a0 Z = true) (b t : Addr) (kt : ClassId) (cs : List Int32) (N : Nat) (h0 : Heap) (B : SbW Z h0 b t kt cs N) (z : Int32) (SC : Sta Z h0 "java/lang/String" "COMPACT_STRINGS" "Z" (.int z)) (hz : ¬ z = 0) :
    Ct l yq2 jdk_68_method_68_code 1 (some .boolean) ({ frames := 0, cells := 0, slots := 0, locals := 0 } : Room) Z #[(.ref b)] h0 (fun v h L => v = some (.int 0) ∧ L = [] ∧ h = h0) := by
  refine ct_of (Q := fun v h L => v = some (.int 0) ∧ L = [] ∧ h = h0) (plainFor_of_name pn_3) ?_
  intro p e s m below meth c s₁ X0 hx hby hml hret hnm hlk hown hZ hs0 e0
  rw [show entryFrame m #[(.ref b)] 1 = mkF m 0 #[.val (.ref b)] [] from by first | (simp [entryFrame, mkF, argsToLocals, Value.category]; done) | rfl]
  refine w_getS X0 hx hZ hown (tw hw 57 rfl) Via.refl e0 SC (hb hby d_jdk_68m_68_0) (pc' := 3) rfl ?_
  intro T167 X167 e167
  refine w_ifNo X167.here hx (hb hby d_jdk_68m_68_3) (feq (show ¬ (z = (0 : Int32)) from hz)).1 (pc' := 6) rfl ?_
  refine w_aloadN X167.here hx (hb hby d_jdk_68m_68_6) rfl rfl (pc' := 7) rfl ?_
  refine w_getF X167 hx hZ hown (tw hw 60 rfl) Via.refl e167 B.2.2.1 (hb hby d_jdk_68m_68_7) (pc' := 10) rfl ?_
  intro T168 X168 e168
  refine w_ifYes X168.here hx (hb hby d_jdk_68m_68_10) (feq (show ¬ ((1 : Int32) = (0 : Int32)) from by decide)).2 (pc' := 17) (by decide) (by decide) ?_
  refine w_iconst X168.here hx (hb hby d_jdk_68m_68_17) (z := 0) rfl (pc' := 18) rfl ?_
  exact endZ X168 hx hlk hret (by simp) (hb hby d_jdk_68m_68_18) (show nar .boolean (0 : Int32) = (0 : Int32) from rfl) (by decide) (by decide) (by rw [e168]; exact ⟨rfl, rfl, rfl⟩)
theorem d_jdk_42m_150_41 : decode jdk_42_method_150_code 41 = .ok (.getstatic 38, 3) := by decide +kernel
theorem d_jdk_42m_150_44 : decode jdk_42_method_150_code 44 = .ok (.ifCond .eq 35, 3) := by decide +kernel
theorem d_jdk_42m_150_47 : decode jdk_42_method_150_code 47 = .ok (.aload_n 1, 1) := by decide +kernel
theorem d_jdk_42m_150_48 : decode jdk_42_method_150_code 48 = .ok (.getfield 1048, 3) := by decide +kernel
theorem d_jdk_42m_150_51 : decode jdk_42_method_150_code 51 = .ok (.ifCond .eq 28, 3) := by decide +kernel
theorem d_jdk_42m_150_79 : decode jdk_42_method_150_code 79 = .ok (.aload_n 0, 1) := by decide +kernel
theorem d_jdk_42m_150_80 : decode jdk_42_method_150_code 80 = .ok (.iconst 1, 1) := by decide +kernel
theorem d_jdk_42m_150_81 : decode jdk_42_method_150_code 81 = .ok (.putfield 15, 3) := by decide +kernel
theorem d_jdk_42m_150_84 : decode jdk_42_method_150_code 84 = .ok (.aload_n 0, 1) := by decide +kernel
theorem d_jdk_42m_150_85 : decode jdk_42_method_150_code 85 = .ok (.aload_n 3, 1) := by decide +kernel
theorem d_jdk_42m_150_86 : decode jdk_42_method_150_code 86 = .ok (.iconst 0, 1) := by decide +kernel
theorem d_jdk_42m_150_87 : decode jdk_42_method_150_code 87 = .ok (.iload 4, 2) := by decide +kernel
theorem d_jdk_42m_150_89 : decode jdk_42_method_150_code 89 = .ok (.iconst 1, 1) := by decide +kernel
theorem d_jdk_42m_150_90 : decode jdk_42_method_150_code 90 = .ok (.ishl, 1) := by decide +kernel
theorem d_jdk_42m_150_91 : decode jdk_42_method_150_code 91 = .ok (.invokestatic 54, 3) := by decide +kernel
theorem d_jdk_42m_150_94 : decode jdk_42_method_150_code 94 = .ok (.putfield 9, 3) := by decide +kernel
set_option maxRecDepth 65536 in
set_option maxHeartbeats 40000000 in
theorem rmS2W (l : Launch) (Z : State) (a0 : Array Value) (hw : ∀ d ∈ tables_1, d.before a0 Z = true) (x b t : Addr) (kt : ClassId) (cs : List Int32) (N : Nat) (z : Int32) (c0 v0 : Value) (h0 : Heap) (n0 : Nat) (Z0 : n0 ≤ h0.size) (gx : n0 ≤ x) (SC : Sta Z h0 "java/lang/String" "COMPACT_STRINGS" "Z" (.int z)) (hz : ¬ z = 0) (B : SbW Z h0 b t kt cs N) (hl : 2 * cs.length < N) (hK : cs.length ≤ 24) (hwd : ∃ c, c ∈ cs ∧ (255 : Int32) < c) (hrg : ∀ c ∈ cs, ¬ c < 0 ∧ ¬ (65535 : Int32) < c) (EX : Exa Z h0 x "java/lang/String") (FV : Fld Z h0 x "java/lang/String" "value" "[B" v0) (FC : Fld Z h0 x "java/lang/String" "coder" "B" c0) :
    Ct l yq20 jdk_42_method_150_code 5 none ({ frames := 3, cells := 1, slots := 48, locals := 49 } : Room) Z #[(.ref x), (.ref b), .null] h0 (fun v h L => v = none ∧ Fr n0 L ∧ Keep h0 h [x] ∧ ∃ u ku, h0.size ≤ u ∧ WstOf Z h x u ku cs) := by
  refine ct_of (Q := fun v h L => v = none ∧ Fr n0 L ∧ Keep h0 h [x] ∧ ∃ u ku, h0.size ≤ u ∧ WstOf Z h x u ku cs) (plainFor_of_name pn_1) ?_
  intro p e s m below meth c s₁ X0 hx hby hml hret hnm hlk hown hZ hs0 e0
  have N0 := Fr.nil n0
  rw [show entryFrame m #[(.ref x), (.ref b), .null] 5 = mkF m 0 #[.val (.ref x), .val (.ref b), .val .null, .unset, .unset] [] from by first | (simp [entryFrame, mkF, argsToLocals, Value.category]; done) | rfl]
  refine w_aloadN X0.here hx (hb hby d_jdk_42m_150_0) rfl rfl (pc' := 1) rfl ?_
  refine w_initO X0 hx hZ hown (tw hw 22 rfl) (tw hw 23 rfl) (tw hw 24 rfl) e0 (by rw [hml]; rfl) (hb hby d_jdk_42m_150_1) (by decide) (W := 0) (Nat.le_of_ble_eq_true rfl) (by decide) (pc' := 4) rfl ?_
  intro T169 X169 e169
  refine w_aloadN X169.here hx (hb hby d_jdk_42m_150_4) rfl rfl (pc' := 5) rfl ?_
  refine w_virtual X169 hx hZ (y := yq7) (z := yq7) hown (tw hw 145 rfl) (tw hw 146 rfl) (notFace_of_selects (args := #[]) (mvT hZ (tw hw 148 rfl))) (tw hw 148 rfl) (tw hw 147 rfl) (by decide) (backC (W := 0) (rmGetVW l Z a0 hw b t kt cs N h0 B) hZ (tw hw 149 rfl) (tw hw 54 rfl) (by decide) (by decide)) e169 B.1 (by rw [hml]; rfl) (argsL := []) (st := []) pd_23 rfl rfl rfl (Nat.le_of_ble_eq_true rfl) (hb hby d_jdk_42m_150_5) (by decide) (by decide) (pc' := 8) rfl ?_
  intro T170 v170 L170 X170 Q170
  obtain ⟨rfl, rfl, hh⟩ := Q170
  show Go _ _ _ _ T170 (mkF m 8 _ [(.ref t)])
  rw [List.append_nil] at X170
  refine w_astoreN X170.here hx (hb hby d_jdk_42m_150_8) rfl (l' := #[.val (.ref x), .val (.ref b), .val .null, .val (.ref t), .unset]) rfl (pc' := 9) rfl ?_
  refine w_aloadN X170.here hx (hb hby d_jdk_42m_150_9) rfl rfl (pc' := 10) rfl ?_
  refine w_virtual X170 hx hZ (y := yq6) (z := yq16) hown (tw hw 150 rfl) (tw hw 151 rfl) (own_nf (a0 := #[]) (mvT hZ (tw hw 88 rfl)) rfl) (tw hw 153 rfl) (tw hw 154 rfl) (by decide) (backC (W := 0) (rmLenSW l Z a0 hw b t kt cs N h0 B) hZ (tw hw 155 rfl) (tw hw 46 rfl) (by decide) (by decide)) hh B.1 (by rw [hml]; rfl) (argsL := []) (st := []) pd_11 rfl rfl rfl (Nat.le_of_ble_eq_true rfl) (hb hby d_jdk_42m_150_10) (by decide) (by decide) (pc' := 13) rfl ?_
  intro T171 v171 L171 X171 Q171
  obtain ⟨rfl, rfl, hh2⟩ := Q171
  show Go _ _ _ _ T171 (mkF m 13 _ [(.int (Int32.ofNat cs.length))])
  rw [List.append_nil] at X171
  refine w_istore X171.here hx (hb hby d_jdk_42m_150_13) (l' := #[.val (.ref x), .val (.ref b), .val .null, .val (.ref t), .val (.int (Int32.ofNat cs.length))]) rfl (pc' := 15) rfl ?_
  refine w_aloadN X171.here hx (hb hby d_jdk_42m_150_15) rfl rfl (pc' := 16) rfl ?_
  refine w_virtual X171 hx hZ (y := yq2) (z := yq2) hown (tw hw 158 rfl) (tw hw 159 rfl) (notFace_of_selects (args := #[]) (mvT hZ (tw hw 161 rfl))) (tw hw 161 rfl) (tw hw 160 rfl) (by decide) (backC (W := 0) (rmIsLW l Z a0 hw b t kt cs N h0 B z SC hz) hZ (tw hw 162 rfl) (tw hw 54 rfl) (by decide) (by decide)) hh2 B.1 (by rw [hml]; rfl) (argsL := []) (st := []) pd_24 rfl rfl rfl (Nat.le_of_ble_eq_true rfl) (hb hby d_jdk_42m_150_16) (by decide) (by decide) (pc' := 19) rfl ?_
  intro T172 v172 L172 X172 Q172
  obtain ⟨rfl, rfl, hh3⟩ := Q172
  show Go _ _ _ _ T172 (mkF m 19 _ [(.int (0 : Int32))])
  rw [List.append_nil] at X172
  refine w_ifYes X172.here hx (hb hby d_jdk_42m_150_19) (teq (show (0 : Int32) = (0 : Int32) from rfl)).1 (pc' := 41) (by decide) (by decide) ?_
  refine w_getS X172 hx hZ hown (tw hw 25 rfl) Via.refl hh3 SC (hb hby d_jdk_42m_150_41) (pc' := 44) rfl ?_
  intro T173 X173 e173
  refine w_ifNo X173.here hx (hb hby d_jdk_42m_150_44) (feq (show ¬ (z = (0 : Int32)) from hz)).1 (pc' := 47) rfl ?_
  refine w_aloadN X173.here hx (hb hby d_jdk_42m_150_47) rfl rfl (pc' := 48) rfl ?_
  refine w_getF X173 hx hZ hown (tw hw 299 rfl) Via.refl e173 B.2.2.2.2.2.2.2 (hb hby d_jdk_42m_150_48) (pc' := 51) rfl ?_
  intro T174 X174 e174
  refine w_ifYes X174.here hx (hb hby d_jdk_42m_150_51) (teq (show (0 : Int32) = (0 : Int32) from rfl)).1 (pc' := 79) (by decide) (by decide) ?_
  refine w_aloadN X174.here hx (hb hby d_jdk_42m_150_79) rfl rfl (pc' := 80) rfl ?_
  refine w_iconst X174.here hx (hb hby d_jdk_42m_150_80) (z := 1) rfl (pc' := 81) rfl ?_
  refine w_putF X174 hx hZ hown (tw hw 36 rfl) Via.refl e174 FC EX (Or.inr ⟨(tw hw 6 rfl), rfl, hnm⟩) (tw hw 3 rfl) (ty := .byte) (by decide) rfl rfl (hb hby d_jdk_42m_150_81) (pc' := 84) rfl ?_
  intro T175 h175 X175 e175 W175
  have N1 := Fr.snoc X175 N0 gx
  have EX1 := EX.wr W175
  have FC1 := Fld.same W175 FC
  have FV1 := FV.other W175 (Or.inr (slot_ne (Or.inr (tw hw 5 rfl)) (Or.inr (tw hw 6 rfl)) (by decide) (t := (.array .byte)) (t' := .byte) (by decide) (by decide)))
  have V1 := B.2.2.2.2.1.other W175 (Ne.symm (EX.neArv B.2.2.2.2.1 (tw hw 3 rfl)))
  have K1 := Keep.of_wr W175
  have es : h175.size = h0.size := W175.size
  refine w_aloadN X175.here hx (hb hby d_jdk_42m_150_84) rfl rfl (pc' := 85) rfl ?_
  refine w_aloadN X175.here hx (hb hby d_jdk_42m_150_85) rfl rfl (pc' := 86) rfl ?_
  refine w_iconst X175.here hx (hb hby d_jdk_42m_150_86) (z := 0) rfl (pc' := 87) rfl ?_
  refine w_iload X175.here hx (hb hby d_jdk_42m_150_87) rfl (pc' := 89) rfl ?_
  refine w_iconst X175.here hx (hb hby d_jdk_42m_150_89) (z := 1) rfl (pc' := 90) rfl ?_
  refine w_ishl X175.here hx (hb hby d_jdk_42m_150_90) (pc' := 91) rfl ?_
  rw [n_shl1 (by have := B.2.2.2.2.2.1; have := B.2.2.2.2.2.2.1; omega)]
  show Go _ _ _ _ T175 (mkF m 91 _ [(.int (Int32.ofNat (2 * cs.length))), (.int (0 : Int32)), (.ref t), (.ref x)])
  refine w_static X175 hx hZ (y := yq19) hown (tw hw 163 rfl) (tw hw 164 rfl) (tw hw 107 rfl) (tw hw 165 rfl) (by decide) (backC (W := 1) (rmRngW l Z a0 hw t kt cs N h175 n0 (by rw [es]; exact Z0) V1 hl B.2.2.2.2.2.2.1 hK) hZ (tw hw 165 rfl) (tw hw 107 rfl) (by decide) (by decide)) e175 (by rw [hml]; rfl) (argsL := [(.ref t), (.int (0 : Int32)), (.int (Int32.ofNat (2 * cs.length)))]) (st := [(.ref x)]) pd_22 rfl rfl rfl (Nat.le_of_ble_eq_true rfl) (hb hby d_jdk_42m_150_91) (by decide) (by decide) (pc' := 94) rfl ?_
  intro T176 v176 L176 X176 Q176
  obtain ⟨u, ku, rfl, N2, E2, gu, U⟩ := Q176
  show Go _ _ _ _ T176 (mkF m 94 _ [(.ref u), (.ref x)])
  have N3 := Fr.app N1 N2
  refine w_putF X176 hx hZ hown (tw hw 37 rfl) Via.refl rfl (FV1.ext E2) (EX1.ext E2) (Or.inr ⟨(tw hw 5 rfl), rfl, hnm⟩) (tw hw 3 rfl) (ty := (.array .byte)) (by decide) rfl rfl (hb hby d_jdk_42m_150_94) (pc' := 97) rfl ?_
  intro T177 h177 X177 e177 W177
  have N4 := Fr.snoc X177 N3 gx
  have nux : u ≠ x := Nat.ne_of_gt (Nat.lt_of_lt_of_le EX1.lt gu)
  have LS : WstOf Z h177 x u ku cs := ⟨(EX1.ext E2).wr W177, Fld.same W177 (FV1.ext E2), (FC1.ext E2).other W177 (Or.inr (slot_ne (Or.inr (tw hw 6 rfl)) (Or.inr (tw hw 5 rfl)) (by decide) (t := .byte) (t' := (.array .byte)) (by decide) (by decide))), U.other W177 nux, hwd, hrg, by omega⟩
  exact endV X177 hx hlk hret (hb hby d_jdk_42m_150_97) (by decide) (by decide) (by rw [e177]; exact ⟨rfl, N4, (K1.ext E2).wr W177 (Or.inl (List.mem_cons_self ..)), u, ku, by rw [← es]; exact gu, LS⟩)
set_option maxRecDepth 65536 in
set_option maxHeartbeats 40000000 in
theorem rmS1W (l : Launch) (Z : State) (a0 : Array Value) (hw : ∀ d ∈ tables_1, d.before a0 Z = true) (x b t : Addr) (kt : ClassId) (cs : List Int32) (N : Nat) (z : Int32) (c0 v0 : Value) (h0 : Heap) (n0 : Nat) (Z0 : n0 ≤ h0.size) (gx : n0 ≤ x) (SC : Sta Z h0 "java/lang/String" "COMPACT_STRINGS" "Z" (.int z)) (hz : ¬ z = 0) (B : SbW Z h0 b t kt cs N) (hl : 2 * cs.length < N) (hK : cs.length ≤ 24) (hwd : ∃ c, c ∈ cs ∧ (255 : Int32) < c) (hrg : ∀ c ∈ cs, ¬ c < 0 ∧ ¬ (65535 : Int32) < c) (EX : Exa Z h0 x "java/lang/String") (FV : Fld Z h0 x "java/lang/String" "value" "[B" v0) (FC : Fld Z h0 x "java/lang/String" "coder" "B" c0) :
    Ct l yq21 jdk_42_method_53_code 2 none ({ frames := 4, cells := 1, slots := 48, locals := 65 } : Room) Z #[(.ref x), (.ref b)] h0 (fun v h L => v = none ∧ Fr n0 L ∧ Keep h0 h [x] ∧ ∃ u ku, h0.size ≤ u ∧ WstOf Z h x u ku cs) := by
  refine ct_of (Q := fun v h L => v = none ∧ Fr n0 L ∧ Keep h0 h [x] ∧ ∃ u ku, h0.size ≤ u ∧ WstOf Z h x u ku cs) (plainFor_of_name pn_1) ?_
  intro p e s m below meth c s₁ X0 hx hby hml hret hnm hlk hown hZ hs0 e0
  have N0 := Fr.nil n0
  rw [show entryFrame m #[(.ref x), (.ref b)] 2 = mkF m 0 #[.val (.ref x), .val (.ref b)] [] from by first | (simp [entryFrame, mkF, argsToLocals, Value.category]; done) | rfl]
  refine w_aloadN X0.here hx (hb hby d_jdk_42m_53_0) rfl rfl (pc' := 1) rfl ?_
  refine w_aloadN X0.here hx (hb hby d_jdk_42m_53_1) rfl rfl (pc' := 2) rfl ?_
  refine w_null X0.here hx (hb hby d_jdk_42m_53_2) (pc' := 3) rfl ?_
  refine w_special X0 hx hZ (y := yq20) rfl hown (tw hw 142 rfl) (tw hw 143 rfl) (tw hw 144 rfl) (by decide) (backC (W := 0) (rmS2W l Z a0 hw x b t kt cs N z c0 v0 h0 n0 Z0 gx SC hz B hl hK hwd hrg EX FV FC) hZ (tw hw 144 rfl) (tw hw 2 rfl) (by decide) (by decide)) e0 (by rw [hml]; rfl) (argsL := [(.ref b), .null]) (st := []) pd_25 rfl rfl rfl (Nat.le_of_ble_eq_true rfl) (hb hby d_jdk_42m_53_3) (by decide) (by decide) (pc' := 6) rfl ?_
  intro T178 v178 L178 X178 Q178
  obtain ⟨rfl, N1, G1⟩ := Q178
  show Go _ _ _ _ T178 (mkF m 6 _ [])
  exact endV X178 hx hlk hret (hb hby d_jdk_42m_53_6) (by decide) (by decide) (⟨rfl, Fr.app N0 N1, G1⟩)
set_option maxRecDepth 65536 in
set_option maxHeartbeats 40000000 in
theorem rmToSW (l : Launch) (Z : State) (a0 : Array Value) (hw : ∀ d ∈ tables_1, d.before a0 Z = true) (b t : Addr) (kt : ClassId) (cs : List Int32) (N : Nat) (z : Int32) (h0 : Heap) (n0 : Nat) (Z0 : n0 ≤ h0.size) (SC : Sta Z h0 "java/lang/String" "COMPACT_STRINGS" "Z" (.int z)) (hz : ¬ z = 0) (B : SbW Z h0 b t kt cs N) (hl : 2 * cs.length < N) (hK : cs.length ≤ 24) (hwd : ∃ c, c ∈ cs ∧ (255 : Int32) < c) (hrg : ∀ c ∈ cs, ¬ c < 0 ∧ ¬ (65535 : Int32) < c) :
    Ct l yq10 jdk_67_method_42_code 1 (some (.object "java/lang/String")) ({ frames := 5, cells := 2, slots := 52, locals := 79 } : Room) Z #[(.ref b)] h0 (fun v h L => ∃ x u ku, v = some (.ref x) ∧ Fr n0 L ∧ Ext h0 h ∧ h0.size ≤ x ∧ h0.size ≤ u ∧ WstOf Z h x u ku cs) := by
  refine ct_of (Q := fun v h L => ∃ x u ku, v = some (.ref x) ∧ Fr n0 L ∧ Ext h0 h ∧ h0.size ≤ x ∧ h0.size ≤ u ∧ WstOf Z h x u ku cs) (plainFor_of_name pn_4) ?_
  intro p e s m below meth c s₁ X0 hx hby hml hret hnm hlk hown hZ hs0 e0
  have N0 := Fr.nil n0
  rw [show entryFrame m #[(.ref b)] 1 = mkF m 0 #[.val (.ref b)] [] from by first | (simp [entryFrame, mkF, argsToLocals, Value.category]; done) | rfl]
  refine w_new X0 hx hZ hown (tw hw 138 rfl) (tw hw 3 rfl) (tw hw 2 rfl) e0 (hb hby d_jdk_67m_42_0) (by decide) (by decide) (pc' := 3) rfl ?_
  intro T179 h179 x gx X179 e179 E179 A179 D179 U179
  have ge_x_h0 : h0.size ≤ x := Nat.le_trans (Ext.rfl' : Ext h0 h0).1 (Nat.le_of_eq gx)
  have C180 : Ext h0 h179 := Ext.trs Ext.rfl' E179
  have gx0 : n0 ≤ x := Nat.le_trans Z0 ge_x_h0
  have FV : Fld Z h179 x "java/lang/String" "value" "[B" .null := D179 (Or.inr (tw hw 5 rfl)) (ty := (.array .byte)) (by decide)
  have FC : Fld Z h179 x "java/lang/String" "coder" "B" (.int (0 : Int32)) := D179 (Or.inr (tw hw 6 rfl)) (ty := .byte) (by decide)
  refine w_dup X179.here hx (hb hby d_jdk_67m_42_3) rfl (pc' := 4) rfl ?_
  refine w_aloadN X179.here hx (hb hby d_jdk_67m_42_4) rfl rfl (pc' := 5) rfl ?_
  refine w_special X179 hx hZ (y := yq21) rfl hown (tw hw 139 rfl) (tw hw 140 rfl) (tw hw 141 rfl) (by decide) (backC (W := 1) (rmS1W l Z a0 hw x b t kt cs N z _ _ h179 n0 (Nat.le_trans Z0 C180.1) gx0 (SC.ext C180) hz (B.ext C180) hl hK hwd hrg A179 FV FC) hZ (tw hw 141 rfl) (tw hw 2 rfl) (by decide) (by decide)) e179 (by rw [hml]; rfl) (argsL := [(.ref b)]) (st := [(.ref x)]) pd_26 rfl rfl rfl (Nat.le_of_ble_eq_true rfl) (hb hby d_jdk_67m_42_5) (by decide) (by decide) (pc' := 8) rfl ?_
  intro T181 v181 L181 X181 Q181
  obtain ⟨rfl, N1, K1, u, ku, gu, LS⟩ := Q181
  show Go _ _ _ _ T181 (mkF m 8 _ [(.ref x)])
  exact endR X181 hx hlk rfl hret rfl (hb hby d_jdk_67m_42_8) (by decide) (by decide) (⟨x, u, ku, rfl, Fr.app N0 N1, Ext.kp C180 K1 (allS ge_x_h0 all0), ge_x_h0, Nat.le_trans C180.1 gu, LS⟩)
def preL : List Int32 := [117, 110, 101, 120, 112, 101, 99, 116, 101, 100, 32, 97, 114, 103, 117, 109, 101, 110, 116, 58, 32]
theorem preL_lat : LatC preL := by show ∀ c ∈ preL, ¬ c < 0 ∧ ¬ (255 : Int32) < c; decide
theorem preL_rng {ds : List Int32} (h : ∀ c ∈ ds, ¬ c < 0 ∧ ¬ (65535 : Int32) < c) : ∀ c ∈ preL ++ ds, ¬ c < 0 ∧ ¬ (65535 : Int32) < c := fun c hc => (List.mem_append.mp hc).elim (fun q => ⟨(preL_lat c q).1, fun g => (preL_lat c q).2 (by rw [Int32.lt_iff_toInt_lt] at g ⊢; exact Int.lt_trans (by decide) g)⟩) (h c)
theorem d_method_3_0 : decode method_3_code 0 = .ok (.iload_n 0, 1) := by decide +kernel
theorem d_method_3_1 : decode method_3_code 1 = .ok (.ifCond .ne 135, 3) := by decide +kernel
theorem d_method_3_4 : decode method_3_code 4 = .ok (.new 11, 3) := by decide +kernel
theorem d_method_3_7 : decode method_3_code 7 = .ok (.dup, 1) := by decide +kernel
theorem d_method_3_8 : decode method_3_code 8 = .ok (.bipush 21, 2) := by decide +kernel
theorem d_method_3_10 : decode method_3_code 10 = .ok (.newarray .char, 2) := by decide +kernel
theorem d_method_3_12 : decode method_3_code 12 = .ok (.dup, 1) := by decide +kernel
theorem d_method_3_13 : decode method_3_code 13 = .ok (.iconst 0, 1) := by decide +kernel
theorem d_method_3_14 : decode method_3_code 14 = .ok (.bipush 117, 2) := by decide +kernel
theorem d_method_3_16 : decode method_3_code 16 = .ok (.castore, 1) := by decide +kernel
theorem d_method_3_17 : decode method_3_code 17 = .ok (.dup, 1) := by decide +kernel
theorem d_method_3_18 : decode method_3_code 18 = .ok (.iconst 1, 1) := by decide +kernel
theorem d_method_3_19 : decode method_3_code 19 = .ok (.bipush 110, 2) := by decide +kernel
theorem d_method_3_21 : decode method_3_code 21 = .ok (.castore, 1) := by decide +kernel
theorem d_method_3_22 : decode method_3_code 22 = .ok (.dup, 1) := by decide +kernel
theorem d_method_3_23 : decode method_3_code 23 = .ok (.iconst 2, 1) := by decide +kernel
theorem d_method_3_24 : decode method_3_code 24 = .ok (.bipush 101, 2) := by decide +kernel
theorem d_method_3_26 : decode method_3_code 26 = .ok (.castore, 1) := by decide +kernel
theorem d_method_3_27 : decode method_3_code 27 = .ok (.dup, 1) := by decide +kernel
theorem d_method_3_28 : decode method_3_code 28 = .ok (.iconst 3, 1) := by decide +kernel
theorem d_method_3_29 : decode method_3_code 29 = .ok (.bipush 120, 2) := by decide +kernel
theorem d_method_3_31 : decode method_3_code 31 = .ok (.castore, 1) := by decide +kernel
theorem d_method_3_32 : decode method_3_code 32 = .ok (.dup, 1) := by decide +kernel
theorem d_method_3_33 : decode method_3_code 33 = .ok (.iconst 4, 1) := by decide +kernel
theorem d_method_3_34 : decode method_3_code 34 = .ok (.bipush 112, 2) := by decide +kernel
theorem d_method_3_36 : decode method_3_code 36 = .ok (.castore, 1) := by decide +kernel
theorem d_method_3_37 : decode method_3_code 37 = .ok (.dup, 1) := by decide +kernel
theorem d_method_3_38 : decode method_3_code 38 = .ok (.iconst 5, 1) := by decide +kernel
theorem d_method_3_39 : decode method_3_code 39 = .ok (.bipush 101, 2) := by decide +kernel
theorem d_method_3_41 : decode method_3_code 41 = .ok (.castore, 1) := by decide +kernel
theorem d_method_3_42 : decode method_3_code 42 = .ok (.dup, 1) := by decide +kernel
theorem d_method_3_43 : decode method_3_code 43 = .ok (.bipush 6, 2) := by decide +kernel
theorem d_method_3_45 : decode method_3_code 45 = .ok (.bipush 99, 2) := by decide +kernel
theorem d_method_3_47 : decode method_3_code 47 = .ok (.castore, 1) := by decide +kernel
theorem d_method_3_48 : decode method_3_code 48 = .ok (.dup, 1) := by decide +kernel
theorem d_method_3_49 : decode method_3_code 49 = .ok (.bipush 7, 2) := by decide +kernel
theorem d_method_3_51 : decode method_3_code 51 = .ok (.bipush 116, 2) := by decide +kernel
theorem d_method_3_53 : decode method_3_code 53 = .ok (.castore, 1) := by decide +kernel
theorem d_method_3_54 : decode method_3_code 54 = .ok (.dup, 1) := by decide +kernel
theorem d_method_3_55 : decode method_3_code 55 = .ok (.bipush 8, 2) := by decide +kernel
theorem d_method_3_57 : decode method_3_code 57 = .ok (.bipush 101, 2) := by decide +kernel
theorem d_method_3_59 : decode method_3_code 59 = .ok (.castore, 1) := by decide +kernel
theorem d_method_3_60 : decode method_3_code 60 = .ok (.dup, 1) := by decide +kernel
theorem d_method_3_61 : decode method_3_code 61 = .ok (.bipush 9, 2) := by decide +kernel
theorem d_method_3_63 : decode method_3_code 63 = .ok (.bipush 100, 2) := by decide +kernel
theorem d_method_3_65 : decode method_3_code 65 = .ok (.castore, 1) := by decide +kernel
theorem d_method_3_66 : decode method_3_code 66 = .ok (.dup, 1) := by decide +kernel
theorem d_method_3_67 : decode method_3_code 67 = .ok (.bipush 10, 2) := by decide +kernel
theorem d_method_3_69 : decode method_3_code 69 = .ok (.bipush 32, 2) := by decide +kernel
theorem d_method_3_71 : decode method_3_code 71 = .ok (.castore, 1) := by decide +kernel
theorem d_method_3_72 : decode method_3_code 72 = .ok (.dup, 1) := by decide +kernel
theorem d_method_3_73 : decode method_3_code 73 = .ok (.bipush 11, 2) := by decide +kernel
theorem d_method_3_75 : decode method_3_code 75 = .ok (.bipush 97, 2) := by decide +kernel
theorem d_method_3_77 : decode method_3_code 77 = .ok (.castore, 1) := by decide +kernel
theorem d_method_3_78 : decode method_3_code 78 = .ok (.dup, 1) := by decide +kernel
theorem d_method_3_79 : decode method_3_code 79 = .ok (.bipush 12, 2) := by decide +kernel
theorem d_method_3_81 : decode method_3_code 81 = .ok (.bipush 114, 2) := by decide +kernel
theorem d_method_3_83 : decode method_3_code 83 = .ok (.castore, 1) := by decide +kernel
theorem d_method_3_84 : decode method_3_code 84 = .ok (.dup, 1) := by decide +kernel
theorem d_method_3_85 : decode method_3_code 85 = .ok (.bipush 13, 2) := by decide +kernel
theorem d_method_3_87 : decode method_3_code 87 = .ok (.bipush 103, 2) := by decide +kernel
theorem d_method_3_89 : decode method_3_code 89 = .ok (.castore, 1) := by decide +kernel
theorem d_method_3_90 : decode method_3_code 90 = .ok (.dup, 1) := by decide +kernel
theorem d_method_3_91 : decode method_3_code 91 = .ok (.bipush 14, 2) := by decide +kernel
theorem d_method_3_93 : decode method_3_code 93 = .ok (.bipush 117, 2) := by decide +kernel
theorem d_method_3_95 : decode method_3_code 95 = .ok (.castore, 1) := by decide +kernel
theorem d_method_3_96 : decode method_3_code 96 = .ok (.dup, 1) := by decide +kernel
theorem d_method_3_97 : decode method_3_code 97 = .ok (.bipush 15, 2) := by decide +kernel
theorem d_method_3_99 : decode method_3_code 99 = .ok (.bipush 109, 2) := by decide +kernel
theorem d_method_3_101 : decode method_3_code 101 = .ok (.castore, 1) := by decide +kernel
theorem d_method_3_102 : decode method_3_code 102 = .ok (.dup, 1) := by decide +kernel
theorem d_method_3_103 : decode method_3_code 103 = .ok (.bipush 16, 2) := by decide +kernel
theorem d_method_3_105 : decode method_3_code 105 = .ok (.bipush 101, 2) := by decide +kernel
theorem d_method_3_107 : decode method_3_code 107 = .ok (.castore, 1) := by decide +kernel
theorem d_method_3_108 : decode method_3_code 108 = .ok (.dup, 1) := by decide +kernel
theorem d_method_3_109 : decode method_3_code 109 = .ok (.bipush 17, 2) := by decide +kernel
theorem d_method_3_111 : decode method_3_code 111 = .ok (.bipush 110, 2) := by decide +kernel
theorem d_method_3_113 : decode method_3_code 113 = .ok (.castore, 1) := by decide +kernel
theorem d_method_3_114 : decode method_3_code 114 = .ok (.dup, 1) := by decide +kernel
theorem d_method_3_115 : decode method_3_code 115 = .ok (.bipush 18, 2) := by decide +kernel
theorem d_method_3_117 : decode method_3_code 117 = .ok (.bipush 116, 2) := by decide +kernel
theorem d_method_3_119 : decode method_3_code 119 = .ok (.castore, 1) := by decide +kernel
theorem d_method_3_120 : decode method_3_code 120 = .ok (.dup, 1) := by decide +kernel
theorem d_method_3_121 : decode method_3_code 121 = .ok (.bipush 19, 2) := by decide +kernel
theorem d_method_3_123 : decode method_3_code 123 = .ok (.bipush 58, 2) := by decide +kernel
theorem d_method_3_125 : decode method_3_code 125 = .ok (.castore, 1) := by decide +kernel
theorem d_method_3_126 : decode method_3_code 126 = .ok (.dup, 1) := by decide +kernel
theorem d_method_3_127 : decode method_3_code 127 = .ok (.bipush 20, 2) := by decide +kernel
theorem d_method_3_129 : decode method_3_code 129 = .ok (.bipush 32, 2) := by decide +kernel
theorem d_method_3_131 : decode method_3_code 131 = .ok (.castore, 1) := by decide +kernel
theorem pd_32 : parseMethodDescriptor "([C)V" = some ⟨[(.array .char)], none⟩ := by decide +kernel
theorem d_method_3_132 : decode method_3_code 132 = .ok (.invokespecial 16, 3) := by decide +kernel
theorem d_method_3_135 : decode method_3_code 135 = .ok (.areturn, 1) := by decide +kernel
theorem pn_8 : plainName "com/example/jarshelf/jarshelf/cli/UsageExceptionUnexpectedArgumentPinLaw" = true := by first | (simp [plainName, overriddenIn]; done) | decide +kernel
set_option maxRecDepth 65536 in
set_option maxHeartbeats 40000000 in
theorem rmExp0 (l : Launch) (Z : State) (a0 : Array Value) (hw : ∀ d ∈ tables_1, d.before a0 Z = true) (c0 c1 c2 z : Int32) (h0 : Heap) (n0 : Nat) (Z0 : n0 ≤ h0.size) (Su : SU Z h0 z) (hc0 : ¬ c0 < 0 ∧ ¬ (65535 : Int32) < c0) (hc1 : ¬ c1 < 0 ∧ ¬ (65535 : Int32) < c1) (hc2 : ¬ c2 < 0 ∧ ¬ (65535 : Int32) < c2) :
    Ct l yq3 method_3_code 4 (some (.object "java/lang/String")) ({ frames := 6, cells := 4, slots := 127, locals := 88 } : Room) Z #[(.int (0 : Int32)), (.int c0), (.int c1), (.int c2)] h0 (fun v h L => ∃ x, v = some (.ref x) ∧ Fr n0 L ∧ Ext h0 h ∧ StrOf Z h x (preL ++ [])) := by
  refine ct_of (Q := fun v h L => ∃ x, v = some (.ref x) ∧ Fr n0 L ∧ Ext h0 h ∧ StrOf Z h x (preL ++ [])) (plainFor_of_name pn_8) ?_
  intro p e s m below meth c s₁ X0 hx hby hml hret hnm hlk hown hZ hs0 e0
  have N0 := Fr.nil n0
  rw [show entryFrame m #[(.int (0 : Int32)), (.int c0), (.int c1), (.int c2)] 4 = mkF m 0 #[.val (.int (0 : Int32)), .val (.int c0), .val (.int c1), .val (.int c2)] [] from by first | (simp [entryFrame, mkF, argsToLocals, Value.category]; done) | rfl]
  refine w_iloadN X0.here hx (hb hby d_method_3_0) rfl (pc' := 1) rfl ?_
  refine w_ifNo X0.here hx (hb hby d_method_3_1) (teq (show (0 : Int32) = (0 : Int32) from rfl)).2 (pc' := 4) rfl ?_
  refine w_new X0 hx hZ hown (tw hw 13 rfl) (tw hw 3 rfl) (tw hw 2 rfl) e0 (hb hby d_method_3_4) (by decide) (by decide) (pc' := 7) rfl ?_
  intro T182 h182 x gx X182 e182 E182 A182 D182 U182
  have ge_x_h0 : h0.size ≤ x := Nat.le_trans (Ext.rfl' : Ext h0 h0).1 (Nat.le_of_eq gx)
  have C183 : Ext h0 h182 := Ext.trs Ext.rfl' E182
  have gx : n0 ≤ x := Nat.le_trans Z0 ge_x_h0
  have FV : Fld Z h182 x "java/lang/String" "value" "[B" .null := D182 (Or.inr (tw hw 5 rfl)) (ty := (.array .byte)) (by decide)
  have FC : Fld Z h182 x "java/lang/String" "coder" "B" (.int (0 : Int32)) := D182 (Or.inr (tw hw 6 rfl)) (ty := .byte) (by decide)
  refine w_dup X182.here hx (hb hby d_method_3_7) rfl (pc' := 8) rfl ?_
  refine w_bipush X182.here hx (hb hby d_method_3_8) (z := 21) rfl (pc' := 10) rfl ?_
  refine w_newarray X182 hx hZ (ty := .char) (dv := (.int 0)) rfl rfl (tw hw 14 rfl) e182 (n := (21 : Int32)) (hb hby d_method_3_10) (by decide) (cap := 21) (by decide) (by decide) (by decide) (by decide) (pc' := 12) rfl ?_
  intro T184 h184 b kb gb X184 e184 E184 V
  have ge_b_h0 : h0.size ≤ b := Nat.le_trans (C183 : Ext h0 h182).1 (Nat.le_of_eq gb)
  have ge_b_h182 : h182.size ≤ b := Nat.le_trans (Ext.rfl' : Ext h182 h182).1 (Nat.le_of_eq gb)
  have C185 : Ext h0 h184 := Ext.trs C183 E184
  have C186 : Ext h182 h184 := Ext.trs Ext.rfl' E184
  have gb : n0 ≤ b := Nat.le_trans Z0 ge_b_h0
  refine w_dup X184.here hx (hb hby d_method_3_12) rfl (pc' := 13) rfl ?_
  refine w_iconst X184.here hx (hb hby d_method_3_13) (z := 0) rfl (pc' := 14) rfl ?_
  refine w_bipush X184.here hx (hb hby d_method_3_14) (z := 117) rfl (pc' := 16) rfl ?_
  refine w_castore X184 hx hZ e184 V ⟨by decide, by decide⟩ 0 rfl (Nat.le_of_ble_eq_true rfl) (hb hby d_method_3_16) (pc' := 17) rfl ?_
  intro T187 h187 X187 e187 W187 V
  have C188 : Ext h0 h187 := Ext.wr C185 W187 ge_b_h0
  have C189 : Ext h182 h187 := Ext.wr C186 W187 ge_b_h182
  have N187 := Fr.snoc X187 N0 gb
  refine w_dup X187.here hx (hb hby d_method_3_17) rfl (pc' := 18) rfl ?_
  refine w_iconst X187.here hx (hb hby d_method_3_18) (z := 1) rfl (pc' := 19) rfl ?_
  refine w_bipush X187.here hx (hb hby d_method_3_19) (z := 110) rfl (pc' := 21) rfl ?_
  refine w_castore X187 hx hZ e187 V ⟨by decide, by decide⟩ 1 rfl (Nat.le_of_ble_eq_true rfl) (hb hby d_method_3_21) (pc' := 22) rfl ?_
  intro T190 h190 X190 e190 W190 V
  have C191 : Ext h0 h190 := Ext.wr C188 W190 ge_b_h0
  have C192 : Ext h182 h190 := Ext.wr C189 W190 ge_b_h182
  have N190 := Fr.snoc X190 N187 gb
  refine w_dup X190.here hx (hb hby d_method_3_22) rfl (pc' := 23) rfl ?_
  refine w_iconst X190.here hx (hb hby d_method_3_23) (z := 2) rfl (pc' := 24) rfl ?_
  refine w_bipush X190.here hx (hb hby d_method_3_24) (z := 101) rfl (pc' := 26) rfl ?_
  refine w_castore X190 hx hZ e190 V ⟨by decide, by decide⟩ 2 rfl (Nat.le_of_ble_eq_true rfl) (hb hby d_method_3_26) (pc' := 27) rfl ?_
  intro T193 h193 X193 e193 W193 V
  have C194 : Ext h0 h193 := Ext.wr C191 W193 ge_b_h0
  have C195 : Ext h182 h193 := Ext.wr C192 W193 ge_b_h182
  have N193 := Fr.snoc X193 N190 gb
  refine w_dup X193.here hx (hb hby d_method_3_27) rfl (pc' := 28) rfl ?_
  refine w_iconst X193.here hx (hb hby d_method_3_28) (z := 3) rfl (pc' := 29) rfl ?_
  refine w_bipush X193.here hx (hb hby d_method_3_29) (z := 120) rfl (pc' := 31) rfl ?_
  refine w_castore X193 hx hZ e193 V ⟨by decide, by decide⟩ 3 rfl (Nat.le_of_ble_eq_true rfl) (hb hby d_method_3_31) (pc' := 32) rfl ?_
  intro T196 h196 X196 e196 W196 V
  have C197 : Ext h0 h196 := Ext.wr C194 W196 ge_b_h0
  have C198 : Ext h182 h196 := Ext.wr C195 W196 ge_b_h182
  have N196 := Fr.snoc X196 N193 gb
  refine w_dup X196.here hx (hb hby d_method_3_32) rfl (pc' := 33) rfl ?_
  refine w_iconst X196.here hx (hb hby d_method_3_33) (z := 4) rfl (pc' := 34) rfl ?_
  refine w_bipush X196.here hx (hb hby d_method_3_34) (z := 112) rfl (pc' := 36) rfl ?_
  refine w_castore X196 hx hZ e196 V ⟨by decide, by decide⟩ 4 rfl (Nat.le_of_ble_eq_true rfl) (hb hby d_method_3_36) (pc' := 37) rfl ?_
  intro T199 h199 X199 e199 W199 V
  have C200 : Ext h0 h199 := Ext.wr C197 W199 ge_b_h0
  have C201 : Ext h182 h199 := Ext.wr C198 W199 ge_b_h182
  have N199 := Fr.snoc X199 N196 gb
  refine w_dup X199.here hx (hb hby d_method_3_37) rfl (pc' := 38) rfl ?_
  refine w_iconst X199.here hx (hb hby d_method_3_38) (z := 5) rfl (pc' := 39) rfl ?_
  refine w_bipush X199.here hx (hb hby d_method_3_39) (z := 101) rfl (pc' := 41) rfl ?_
  refine w_castore X199 hx hZ e199 V ⟨by decide, by decide⟩ 5 rfl (Nat.le_of_ble_eq_true rfl) (hb hby d_method_3_41) (pc' := 42) rfl ?_
  intro T202 h202 X202 e202 W202 V
  have C203 : Ext h0 h202 := Ext.wr C200 W202 ge_b_h0
  have C204 : Ext h182 h202 := Ext.wr C201 W202 ge_b_h182
  have N202 := Fr.snoc X202 N199 gb
  refine w_dup X202.here hx (hb hby d_method_3_42) rfl (pc' := 43) rfl ?_
  refine w_bipush X202.here hx (hb hby d_method_3_43) (z := 6) rfl (pc' := 45) rfl ?_
  refine w_bipush X202.here hx (hb hby d_method_3_45) (z := 99) rfl (pc' := 47) rfl ?_
  refine w_castore X202 hx hZ e202 V ⟨by decide, by decide⟩ 6 rfl (Nat.le_of_ble_eq_true rfl) (hb hby d_method_3_47) (pc' := 48) rfl ?_
  intro T205 h205 X205 e205 W205 V
  have C206 : Ext h0 h205 := Ext.wr C203 W205 ge_b_h0
  have C207 : Ext h182 h205 := Ext.wr C204 W205 ge_b_h182
  have N205 := Fr.snoc X205 N202 gb
  refine w_dup X205.here hx (hb hby d_method_3_48) rfl (pc' := 49) rfl ?_
  refine w_bipush X205.here hx (hb hby d_method_3_49) (z := 7) rfl (pc' := 51) rfl ?_
  refine w_bipush X205.here hx (hb hby d_method_3_51) (z := 116) rfl (pc' := 53) rfl ?_
  refine w_castore X205 hx hZ e205 V ⟨by decide, by decide⟩ 7 rfl (Nat.le_of_ble_eq_true rfl) (hb hby d_method_3_53) (pc' := 54) rfl ?_
  intro T208 h208 X208 e208 W208 V
  have C209 : Ext h0 h208 := Ext.wr C206 W208 ge_b_h0
  have C210 : Ext h182 h208 := Ext.wr C207 W208 ge_b_h182
  have N208 := Fr.snoc X208 N205 gb
  refine w_dup X208.here hx (hb hby d_method_3_54) rfl (pc' := 55) rfl ?_
  refine w_bipush X208.here hx (hb hby d_method_3_55) (z := 8) rfl (pc' := 57) rfl ?_
  refine w_bipush X208.here hx (hb hby d_method_3_57) (z := 101) rfl (pc' := 59) rfl ?_
  refine w_castore X208 hx hZ e208 V ⟨by decide, by decide⟩ 8 rfl (Nat.le_of_ble_eq_true rfl) (hb hby d_method_3_59) (pc' := 60) rfl ?_
  intro T211 h211 X211 e211 W211 V
  have C212 : Ext h0 h211 := Ext.wr C209 W211 ge_b_h0
  have C213 : Ext h182 h211 := Ext.wr C210 W211 ge_b_h182
  have N211 := Fr.snoc X211 N208 gb
  refine w_dup X211.here hx (hb hby d_method_3_60) rfl (pc' := 61) rfl ?_
  refine w_bipush X211.here hx (hb hby d_method_3_61) (z := 9) rfl (pc' := 63) rfl ?_
  refine w_bipush X211.here hx (hb hby d_method_3_63) (z := 100) rfl (pc' := 65) rfl ?_
  refine w_castore X211 hx hZ e211 V ⟨by decide, by decide⟩ 9 rfl (Nat.le_of_ble_eq_true rfl) (hb hby d_method_3_65) (pc' := 66) rfl ?_
  intro T214 h214 X214 e214 W214 V
  have C215 : Ext h0 h214 := Ext.wr C212 W214 ge_b_h0
  have C216 : Ext h182 h214 := Ext.wr C213 W214 ge_b_h182
  have N214 := Fr.snoc X214 N211 gb
  refine w_dup X214.here hx (hb hby d_method_3_66) rfl (pc' := 67) rfl ?_
  refine w_bipush X214.here hx (hb hby d_method_3_67) (z := 10) rfl (pc' := 69) rfl ?_
  refine w_bipush X214.here hx (hb hby d_method_3_69) (z := 32) rfl (pc' := 71) rfl ?_
  refine w_castore X214 hx hZ e214 V ⟨by decide, by decide⟩ 10 rfl (Nat.le_of_ble_eq_true rfl) (hb hby d_method_3_71) (pc' := 72) rfl ?_
  intro T217 h217 X217 e217 W217 V
  have C218 : Ext h0 h217 := Ext.wr C215 W217 ge_b_h0
  have C219 : Ext h182 h217 := Ext.wr C216 W217 ge_b_h182
  have N217 := Fr.snoc X217 N214 gb
  refine w_dup X217.here hx (hb hby d_method_3_72) rfl (pc' := 73) rfl ?_
  refine w_bipush X217.here hx (hb hby d_method_3_73) (z := 11) rfl (pc' := 75) rfl ?_
  refine w_bipush X217.here hx (hb hby d_method_3_75) (z := 97) rfl (pc' := 77) rfl ?_
  refine w_castore X217 hx hZ e217 V ⟨by decide, by decide⟩ 11 rfl (Nat.le_of_ble_eq_true rfl) (hb hby d_method_3_77) (pc' := 78) rfl ?_
  intro T220 h220 X220 e220 W220 V
  have C221 : Ext h0 h220 := Ext.wr C218 W220 ge_b_h0
  have C222 : Ext h182 h220 := Ext.wr C219 W220 ge_b_h182
  have N220 := Fr.snoc X220 N217 gb
  refine w_dup X220.here hx (hb hby d_method_3_78) rfl (pc' := 79) rfl ?_
  refine w_bipush X220.here hx (hb hby d_method_3_79) (z := 12) rfl (pc' := 81) rfl ?_
  refine w_bipush X220.here hx (hb hby d_method_3_81) (z := 114) rfl (pc' := 83) rfl ?_
  refine w_castore X220 hx hZ e220 V ⟨by decide, by decide⟩ 12 rfl (Nat.le_of_ble_eq_true rfl) (hb hby d_method_3_83) (pc' := 84) rfl ?_
  intro T223 h223 X223 e223 W223 V
  have C224 : Ext h0 h223 := Ext.wr C221 W223 ge_b_h0
  have C225 : Ext h182 h223 := Ext.wr C222 W223 ge_b_h182
  have N223 := Fr.snoc X223 N220 gb
  refine w_dup X223.here hx (hb hby d_method_3_84) rfl (pc' := 85) rfl ?_
  refine w_bipush X223.here hx (hb hby d_method_3_85) (z := 13) rfl (pc' := 87) rfl ?_
  refine w_bipush X223.here hx (hb hby d_method_3_87) (z := 103) rfl (pc' := 89) rfl ?_
  refine w_castore X223 hx hZ e223 V ⟨by decide, by decide⟩ 13 rfl (Nat.le_of_ble_eq_true rfl) (hb hby d_method_3_89) (pc' := 90) rfl ?_
  intro T226 h226 X226 e226 W226 V
  have C227 : Ext h0 h226 := Ext.wr C224 W226 ge_b_h0
  have C228 : Ext h182 h226 := Ext.wr C225 W226 ge_b_h182
  have N226 := Fr.snoc X226 N223 gb
  refine w_dup X226.here hx (hb hby d_method_3_90) rfl (pc' := 91) rfl ?_
  refine w_bipush X226.here hx (hb hby d_method_3_91) (z := 14) rfl (pc' := 93) rfl ?_
  refine w_bipush X226.here hx (hb hby d_method_3_93) (z := 117) rfl (pc' := 95) rfl ?_
  refine w_castore X226 hx hZ e226 V ⟨by decide, by decide⟩ 14 rfl (Nat.le_of_ble_eq_true rfl) (hb hby d_method_3_95) (pc' := 96) rfl ?_
  intro T229 h229 X229 e229 W229 V
  have C230 : Ext h0 h229 := Ext.wr C227 W229 ge_b_h0
  have C231 : Ext h182 h229 := Ext.wr C228 W229 ge_b_h182
  have N229 := Fr.snoc X229 N226 gb
  refine w_dup X229.here hx (hb hby d_method_3_96) rfl (pc' := 97) rfl ?_
  refine w_bipush X229.here hx (hb hby d_method_3_97) (z := 15) rfl (pc' := 99) rfl ?_
  refine w_bipush X229.here hx (hb hby d_method_3_99) (z := 109) rfl (pc' := 101) rfl ?_
  refine w_castore X229 hx hZ e229 V ⟨by decide, by decide⟩ 15 rfl (Nat.le_of_ble_eq_true rfl) (hb hby d_method_3_101) (pc' := 102) rfl ?_
  intro T232 h232 X232 e232 W232 V
  have C233 : Ext h0 h232 := Ext.wr C230 W232 ge_b_h0
  have C234 : Ext h182 h232 := Ext.wr C231 W232 ge_b_h182
  have N232 := Fr.snoc X232 N229 gb
  refine w_dup X232.here hx (hb hby d_method_3_102) rfl (pc' := 103) rfl ?_
  refine w_bipush X232.here hx (hb hby d_method_3_103) (z := 16) rfl (pc' := 105) rfl ?_
  refine w_bipush X232.here hx (hb hby d_method_3_105) (z := 101) rfl (pc' := 107) rfl ?_
  refine w_castore X232 hx hZ e232 V ⟨by decide, by decide⟩ 16 rfl (Nat.le_of_ble_eq_true rfl) (hb hby d_method_3_107) (pc' := 108) rfl ?_
  intro T235 h235 X235 e235 W235 V
  have C236 : Ext h0 h235 := Ext.wr C233 W235 ge_b_h0
  have C237 : Ext h182 h235 := Ext.wr C234 W235 ge_b_h182
  have N235 := Fr.snoc X235 N232 gb
  refine w_dup X235.here hx (hb hby d_method_3_108) rfl (pc' := 109) rfl ?_
  refine w_bipush X235.here hx (hb hby d_method_3_109) (z := 17) rfl (pc' := 111) rfl ?_
  refine w_bipush X235.here hx (hb hby d_method_3_111) (z := 110) rfl (pc' := 113) rfl ?_
  refine w_castore X235 hx hZ e235 V ⟨by decide, by decide⟩ 17 rfl (Nat.le_of_ble_eq_true rfl) (hb hby d_method_3_113) (pc' := 114) rfl ?_
  intro T238 h238 X238 e238 W238 V
  have C239 : Ext h0 h238 := Ext.wr C236 W238 ge_b_h0
  have C240 : Ext h182 h238 := Ext.wr C237 W238 ge_b_h182
  have N238 := Fr.snoc X238 N235 gb
  refine w_dup X238.here hx (hb hby d_method_3_114) rfl (pc' := 115) rfl ?_
  refine w_bipush X238.here hx (hb hby d_method_3_115) (z := 18) rfl (pc' := 117) rfl ?_
  refine w_bipush X238.here hx (hb hby d_method_3_117) (z := 116) rfl (pc' := 119) rfl ?_
  refine w_castore X238 hx hZ e238 V ⟨by decide, by decide⟩ 18 rfl (Nat.le_of_ble_eq_true rfl) (hb hby d_method_3_119) (pc' := 120) rfl ?_
  intro T241 h241 X241 e241 W241 V
  have C242 : Ext h0 h241 := Ext.wr C239 W241 ge_b_h0
  have C243 : Ext h182 h241 := Ext.wr C240 W241 ge_b_h182
  have N241 := Fr.snoc X241 N238 gb
  refine w_dup X241.here hx (hb hby d_method_3_120) rfl (pc' := 121) rfl ?_
  refine w_bipush X241.here hx (hb hby d_method_3_121) (z := 19) rfl (pc' := 123) rfl ?_
  refine w_bipush X241.here hx (hb hby d_method_3_123) (z := 58) rfl (pc' := 125) rfl ?_
  refine w_castore X241 hx hZ e241 V ⟨by decide, by decide⟩ 19 rfl (Nat.le_of_ble_eq_true rfl) (hb hby d_method_3_125) (pc' := 126) rfl ?_
  intro T244 h244 X244 e244 W244 V
  have C245 : Ext h0 h244 := Ext.wr C242 W244 ge_b_h0
  have C246 : Ext h182 h244 := Ext.wr C243 W244 ge_b_h182
  have N244 := Fr.snoc X244 N241 gb
  refine w_dup X244.here hx (hb hby d_method_3_126) rfl (pc' := 127) rfl ?_
  refine w_bipush X244.here hx (hb hby d_method_3_127) (z := 20) rfl (pc' := 129) rfl ?_
  refine w_bipush X244.here hx (hb hby d_method_3_129) (z := 32) rfl (pc' := 131) rfl ?_
  refine w_castore X244 hx hZ e244 V ⟨by decide, by decide⟩ 20 rfl (Nat.le_of_ble_eq_true rfl) (hb hby d_method_3_131) (pc' := 132) rfl ?_
  intro T247 h247 X247 e247 W247 V
  have C248 : Ext h0 h247 := Ext.wr C245 W247 ge_b_h0
  have C249 : Ext h182 h247 := Ext.wr C246 W247 ge_b_h182
  have N247 := Fr.snoc X247 N244 gb
  have V : Arv Z h247 b kb .char (Int32.ofNat 21) ((preL ++ []).map Value.int) (.int 0) := by have q := V; exact q
  refine w_special X247 hx hZ (y := yq5) rfl hown (tw hw 15 rfl) (tw hw 16 rfl) (tw hw 17 rfl) (by decide) (backC (W := 1) (rmI1 l Z a0 hw x b kb 21 z (preL ++ []) _ _ _ h247 n0 (Nat.le_trans Z0 C248.1) gx (Su.ext C248) V rfl (by decide) (by decide) (preL_rng (fun c hc => by exact nomatch hc)) (A182.ext C249) (FV.ext C249) (FC.ext C249)) hZ (tw hw 17 rfl) (tw hw 2 rfl) (by decide) (by decide)) e247 (by rw [hml]; rfl) (argsL := [(.ref b)]) (st := [(.ref x)]) pd_32 rfl rfl rfl (Nat.le_of_ble_eq_true rfl) (hb hby d_method_3_132) (by decide) (by decide) (pc' := 135) rfl ?_
  intro T250 v250 L250 X250 Q250
  obtain ⟨rfl, N1, K1, G1⟩ := Q250
  show Go _ _ _ _ T250 (mkF m 135 _ [(.ref x)])
  exact endR X250 hx hlk rfl hret rfl (hb hby d_method_3_135) (by decide) (by decide) (⟨x, rfl, Fr.app N247 N1, Ext.kp C248 K1 (allS ge_x_h0 all0), G1⟩)
theorem d_method_3_136 : decode method_3_code 136 = .ok (.iload_n 0, 1) := by decide +kernel
theorem d_method_3_137 : decode method_3_code 137 = .ok (.iconst 1, 1) := by decide +kernel
theorem d_method_3_138 : decode method_3_code 138 = .ok (.if_icmp .ne 140, 3) := by decide +kernel
theorem d_method_3_141 : decode method_3_code 141 = .ok (.new 11, 3) := by decide +kernel
theorem d_method_3_144 : decode method_3_code 144 = .ok (.dup, 1) := by decide +kernel
theorem d_method_3_145 : decode method_3_code 145 = .ok (.bipush 22, 2) := by decide +kernel
theorem d_method_3_147 : decode method_3_code 147 = .ok (.newarray .char, 2) := by decide +kernel
theorem d_method_3_149 : decode method_3_code 149 = .ok (.dup, 1) := by decide +kernel
theorem d_method_3_150 : decode method_3_code 150 = .ok (.iconst 0, 1) := by decide +kernel
theorem d_method_3_151 : decode method_3_code 151 = .ok (.bipush 117, 2) := by decide +kernel
theorem d_method_3_153 : decode method_3_code 153 = .ok (.castore, 1) := by decide +kernel
theorem d_method_3_154 : decode method_3_code 154 = .ok (.dup, 1) := by decide +kernel
theorem d_method_3_155 : decode method_3_code 155 = .ok (.iconst 1, 1) := by decide +kernel
theorem d_method_3_156 : decode method_3_code 156 = .ok (.bipush 110, 2) := by decide +kernel
theorem d_method_3_158 : decode method_3_code 158 = .ok (.castore, 1) := by decide +kernel
theorem d_method_3_159 : decode method_3_code 159 = .ok (.dup, 1) := by decide +kernel
theorem d_method_3_160 : decode method_3_code 160 = .ok (.iconst 2, 1) := by decide +kernel
theorem d_method_3_161 : decode method_3_code 161 = .ok (.bipush 101, 2) := by decide +kernel
theorem d_method_3_163 : decode method_3_code 163 = .ok (.castore, 1) := by decide +kernel
theorem d_method_3_164 : decode method_3_code 164 = .ok (.dup, 1) := by decide +kernel
theorem d_method_3_165 : decode method_3_code 165 = .ok (.iconst 3, 1) := by decide +kernel
theorem d_method_3_166 : decode method_3_code 166 = .ok (.bipush 120, 2) := by decide +kernel
theorem d_method_3_168 : decode method_3_code 168 = .ok (.castore, 1) := by decide +kernel
theorem d_method_3_169 : decode method_3_code 169 = .ok (.dup, 1) := by decide +kernel
theorem d_method_3_170 : decode method_3_code 170 = .ok (.iconst 4, 1) := by decide +kernel
theorem d_method_3_171 : decode method_3_code 171 = .ok (.bipush 112, 2) := by decide +kernel
theorem d_method_3_173 : decode method_3_code 173 = .ok (.castore, 1) := by decide +kernel
theorem d_method_3_174 : decode method_3_code 174 = .ok (.dup, 1) := by decide +kernel
theorem d_method_3_175 : decode method_3_code 175 = .ok (.iconst 5, 1) := by decide +kernel
theorem d_method_3_176 : decode method_3_code 176 = .ok (.bipush 101, 2) := by decide +kernel
theorem d_method_3_178 : decode method_3_code 178 = .ok (.castore, 1) := by decide +kernel
theorem d_method_3_179 : decode method_3_code 179 = .ok (.dup, 1) := by decide +kernel
theorem d_method_3_180 : decode method_3_code 180 = .ok (.bipush 6, 2) := by decide +kernel
theorem d_method_3_182 : decode method_3_code 182 = .ok (.bipush 99, 2) := by decide +kernel
theorem d_method_3_184 : decode method_3_code 184 = .ok (.castore, 1) := by decide +kernel
theorem d_method_3_185 : decode method_3_code 185 = .ok (.dup, 1) := by decide +kernel
theorem d_method_3_186 : decode method_3_code 186 = .ok (.bipush 7, 2) := by decide +kernel
theorem d_method_3_188 : decode method_3_code 188 = .ok (.bipush 116, 2) := by decide +kernel
theorem d_method_3_190 : decode method_3_code 190 = .ok (.castore, 1) := by decide +kernel
theorem d_method_3_191 : decode method_3_code 191 = .ok (.dup, 1) := by decide +kernel
theorem d_method_3_192 : decode method_3_code 192 = .ok (.bipush 8, 2) := by decide +kernel
theorem d_method_3_194 : decode method_3_code 194 = .ok (.bipush 101, 2) := by decide +kernel
theorem d_method_3_196 : decode method_3_code 196 = .ok (.castore, 1) := by decide +kernel
theorem d_method_3_197 : decode method_3_code 197 = .ok (.dup, 1) := by decide +kernel
theorem d_method_3_198 : decode method_3_code 198 = .ok (.bipush 9, 2) := by decide +kernel
theorem d_method_3_200 : decode method_3_code 200 = .ok (.bipush 100, 2) := by decide +kernel
theorem d_method_3_202 : decode method_3_code 202 = .ok (.castore, 1) := by decide +kernel
theorem d_method_3_203 : decode method_3_code 203 = .ok (.dup, 1) := by decide +kernel
theorem d_method_3_204 : decode method_3_code 204 = .ok (.bipush 10, 2) := by decide +kernel
theorem d_method_3_206 : decode method_3_code 206 = .ok (.bipush 32, 2) := by decide +kernel
theorem d_method_3_208 : decode method_3_code 208 = .ok (.castore, 1) := by decide +kernel
theorem d_method_3_209 : decode method_3_code 209 = .ok (.dup, 1) := by decide +kernel
theorem d_method_3_210 : decode method_3_code 210 = .ok (.bipush 11, 2) := by decide +kernel
theorem d_method_3_212 : decode method_3_code 212 = .ok (.bipush 97, 2) := by decide +kernel
theorem d_method_3_214 : decode method_3_code 214 = .ok (.castore, 1) := by decide +kernel
theorem d_method_3_215 : decode method_3_code 215 = .ok (.dup, 1) := by decide +kernel
theorem d_method_3_216 : decode method_3_code 216 = .ok (.bipush 12, 2) := by decide +kernel
theorem d_method_3_218 : decode method_3_code 218 = .ok (.bipush 114, 2) := by decide +kernel
theorem d_method_3_220 : decode method_3_code 220 = .ok (.castore, 1) := by decide +kernel
theorem d_method_3_221 : decode method_3_code 221 = .ok (.dup, 1) := by decide +kernel
theorem d_method_3_222 : decode method_3_code 222 = .ok (.bipush 13, 2) := by decide +kernel
theorem d_method_3_224 : decode method_3_code 224 = .ok (.bipush 103, 2) := by decide +kernel
theorem d_method_3_226 : decode method_3_code 226 = .ok (.castore, 1) := by decide +kernel
theorem d_method_3_227 : decode method_3_code 227 = .ok (.dup, 1) := by decide +kernel
theorem d_method_3_228 : decode method_3_code 228 = .ok (.bipush 14, 2) := by decide +kernel
theorem d_method_3_230 : decode method_3_code 230 = .ok (.bipush 117, 2) := by decide +kernel
theorem d_method_3_232 : decode method_3_code 232 = .ok (.castore, 1) := by decide +kernel
theorem d_method_3_233 : decode method_3_code 233 = .ok (.dup, 1) := by decide +kernel
theorem d_method_3_234 : decode method_3_code 234 = .ok (.bipush 15, 2) := by decide +kernel
theorem d_method_3_236 : decode method_3_code 236 = .ok (.bipush 109, 2) := by decide +kernel
theorem d_method_3_238 : decode method_3_code 238 = .ok (.castore, 1) := by decide +kernel
theorem d_method_3_239 : decode method_3_code 239 = .ok (.dup, 1) := by decide +kernel
theorem d_method_3_240 : decode method_3_code 240 = .ok (.bipush 16, 2) := by decide +kernel
theorem d_method_3_242 : decode method_3_code 242 = .ok (.bipush 101, 2) := by decide +kernel
theorem d_method_3_244 : decode method_3_code 244 = .ok (.castore, 1) := by decide +kernel
theorem d_method_3_245 : decode method_3_code 245 = .ok (.dup, 1) := by decide +kernel
theorem d_method_3_246 : decode method_3_code 246 = .ok (.bipush 17, 2) := by decide +kernel
theorem d_method_3_248 : decode method_3_code 248 = .ok (.bipush 110, 2) := by decide +kernel
theorem d_method_3_250 : decode method_3_code 250 = .ok (.castore, 1) := by decide +kernel
theorem d_method_3_251 : decode method_3_code 251 = .ok (.dup, 1) := by decide +kernel
theorem d_method_3_252 : decode method_3_code 252 = .ok (.bipush 18, 2) := by decide +kernel
theorem d_method_3_254 : decode method_3_code 254 = .ok (.bipush 116, 2) := by decide +kernel
theorem d_method_3_256 : decode method_3_code 256 = .ok (.castore, 1) := by decide +kernel
theorem d_method_3_257 : decode method_3_code 257 = .ok (.dup, 1) := by decide +kernel
theorem d_method_3_258 : decode method_3_code 258 = .ok (.bipush 19, 2) := by decide +kernel
theorem d_method_3_260 : decode method_3_code 260 = .ok (.bipush 58, 2) := by decide +kernel
theorem d_method_3_262 : decode method_3_code 262 = .ok (.castore, 1) := by decide +kernel
theorem d_method_3_263 : decode method_3_code 263 = .ok (.dup, 1) := by decide +kernel
theorem d_method_3_264 : decode method_3_code 264 = .ok (.bipush 20, 2) := by decide +kernel
theorem d_method_3_266 : decode method_3_code 266 = .ok (.bipush 32, 2) := by decide +kernel
theorem d_method_3_268 : decode method_3_code 268 = .ok (.castore, 1) := by decide +kernel
theorem d_method_3_269 : decode method_3_code 269 = .ok (.dup, 1) := by decide +kernel
theorem d_method_3_270 : decode method_3_code 270 = .ok (.bipush 21, 2) := by decide +kernel
theorem d_method_3_272 : decode method_3_code 272 = .ok (.iload_n 1, 1) := by decide +kernel
theorem d_method_3_273 : decode method_3_code 273 = .ok (.castore, 1) := by decide +kernel
theorem d_method_3_274 : decode method_3_code 274 = .ok (.invokespecial 16, 3) := by decide +kernel
theorem d_method_3_277 : decode method_3_code 277 = .ok (.areturn, 1) := by decide +kernel
set_option maxRecDepth 65536 in
set_option maxHeartbeats 40000000 in
theorem rmExp1 (l : Launch) (Z : State) (a0 : Array Value) (hw : ∀ d ∈ tables_1, d.before a0 Z = true) (c0 c1 c2 z : Int32) (h0 : Heap) (n0 : Nat) (Z0 : n0 ≤ h0.size) (Su : SU Z h0 z) (hc0 : ¬ c0 < 0 ∧ ¬ (65535 : Int32) < c0) (hc1 : ¬ c1 < 0 ∧ ¬ (65535 : Int32) < c1) (hc2 : ¬ c2 < 0 ∧ ¬ (65535 : Int32) < c2) :
    Ct l yq3 method_3_code 4 (some (.object "java/lang/String")) ({ frames := 6, cells := 4, slots := 128, locals := 88 } : Room) Z #[(.int (1 : Int32)), (.int c0), (.int c1), (.int c2)] h0 (fun v h L => ∃ x, v = some (.ref x) ∧ Fr n0 L ∧ Ext h0 h ∧ StrOf Z h x (preL ++ [c0])) := by
  refine ct_of (Q := fun v h L => ∃ x, v = some (.ref x) ∧ Fr n0 L ∧ Ext h0 h ∧ StrOf Z h x (preL ++ [c0])) (plainFor_of_name pn_8) ?_
  intro p e s m below meth c s₁ X0 hx hby hml hret hnm hlk hown hZ hs0 e0
  have N0 := Fr.nil n0
  rw [show entryFrame m #[(.int (1 : Int32)), (.int c0), (.int c1), (.int c2)] 4 = mkF m 0 #[.val (.int (1 : Int32)), .val (.int c0), .val (.int c1), .val (.int c2)] [] from by first | (simp [entryFrame, mkF, argsToLocals, Value.category]; done) | rfl]
  refine w_iloadN X0.here hx (hb hby d_method_3_0) rfl (pc' := 1) rfl ?_
  refine w_ifYes X0.here hx (hb hby d_method_3_1) (feq (show ¬ ((1 : Int32) = (0 : Int32)) from by decide)).2 (pc' := 136) (by decide) (by decide) ?_
  refine w_iloadN X0.here hx (hb hby d_method_3_136) rfl (pc' := 137) rfl ?_
  refine w_iconst X0.here hx (hb hby d_method_3_137) (z := 1) rfl (pc' := 138) rfl ?_
  refine w_icmpNo X0.here hx (hb hby d_method_3_138) (teq (show (1 : Int32) = (1 : Int32) from rfl)).2 (pc' := 141) rfl ?_
  refine w_new X0 hx hZ hown (tw hw 13 rfl) (tw hw 3 rfl) (tw hw 2 rfl) e0 (hb hby d_method_3_141) (by decide) (by decide) (pc' := 144) rfl ?_
  intro T251 h251 x gx X251 e251 E251 A251 D251 U251
  have ge_x_h0 : h0.size ≤ x := Nat.le_trans (Ext.rfl' : Ext h0 h0).1 (Nat.le_of_eq gx)
  have C252 : Ext h0 h251 := Ext.trs Ext.rfl' E251
  have gx : n0 ≤ x := Nat.le_trans Z0 ge_x_h0
  have FV : Fld Z h251 x "java/lang/String" "value" "[B" .null := D251 (Or.inr (tw hw 5 rfl)) (ty := (.array .byte)) (by decide)
  have FC : Fld Z h251 x "java/lang/String" "coder" "B" (.int (0 : Int32)) := D251 (Or.inr (tw hw 6 rfl)) (ty := .byte) (by decide)
  refine w_dup X251.here hx (hb hby d_method_3_144) rfl (pc' := 145) rfl ?_
  refine w_bipush X251.here hx (hb hby d_method_3_145) (z := 22) rfl (pc' := 147) rfl ?_
  refine w_newarray X251 hx hZ (ty := .char) (dv := (.int 0)) rfl rfl (tw hw 14 rfl) e251 (n := (22 : Int32)) (hb hby d_method_3_147) (by decide) (cap := 22) (by decide) (by decide) (by decide) (by decide) (pc' := 149) rfl ?_
  intro T253 h253 b kb gb X253 e253 E253 V
  have ge_b_h0 : h0.size ≤ b := Nat.le_trans (C252 : Ext h0 h251).1 (Nat.le_of_eq gb)
  have ge_b_h251 : h251.size ≤ b := Nat.le_trans (Ext.rfl' : Ext h251 h251).1 (Nat.le_of_eq gb)
  have C254 : Ext h0 h253 := Ext.trs C252 E253
  have C255 : Ext h251 h253 := Ext.trs Ext.rfl' E253
  have gb : n0 ≤ b := Nat.le_trans Z0 ge_b_h0
  refine w_dup X253.here hx (hb hby d_method_3_149) rfl (pc' := 150) rfl ?_
  refine w_iconst X253.here hx (hb hby d_method_3_150) (z := 0) rfl (pc' := 151) rfl ?_
  refine w_bipush X253.here hx (hb hby d_method_3_151) (z := 117) rfl (pc' := 153) rfl ?_
  refine w_castore X253 hx hZ e253 V ⟨by decide, by decide⟩ 0 rfl (Nat.le_of_ble_eq_true rfl) (hb hby d_method_3_153) (pc' := 154) rfl ?_
  intro T256 h256 X256 e256 W256 V
  have C257 : Ext h0 h256 := Ext.wr C254 W256 ge_b_h0
  have C258 : Ext h251 h256 := Ext.wr C255 W256 ge_b_h251
  have N256 := Fr.snoc X256 N0 gb
  refine w_dup X256.here hx (hb hby d_method_3_154) rfl (pc' := 155) rfl ?_
  refine w_iconst X256.here hx (hb hby d_method_3_155) (z := 1) rfl (pc' := 156) rfl ?_
  refine w_bipush X256.here hx (hb hby d_method_3_156) (z := 110) rfl (pc' := 158) rfl ?_
  refine w_castore X256 hx hZ e256 V ⟨by decide, by decide⟩ 1 rfl (Nat.le_of_ble_eq_true rfl) (hb hby d_method_3_158) (pc' := 159) rfl ?_
  intro T259 h259 X259 e259 W259 V
  have C260 : Ext h0 h259 := Ext.wr C257 W259 ge_b_h0
  have C261 : Ext h251 h259 := Ext.wr C258 W259 ge_b_h251
  have N259 := Fr.snoc X259 N256 gb
  refine w_dup X259.here hx (hb hby d_method_3_159) rfl (pc' := 160) rfl ?_
  refine w_iconst X259.here hx (hb hby d_method_3_160) (z := 2) rfl (pc' := 161) rfl ?_
  refine w_bipush X259.here hx (hb hby d_method_3_161) (z := 101) rfl (pc' := 163) rfl ?_
  refine w_castore X259 hx hZ e259 V ⟨by decide, by decide⟩ 2 rfl (Nat.le_of_ble_eq_true rfl) (hb hby d_method_3_163) (pc' := 164) rfl ?_
  intro T262 h262 X262 e262 W262 V
  have C263 : Ext h0 h262 := Ext.wr C260 W262 ge_b_h0
  have C264 : Ext h251 h262 := Ext.wr C261 W262 ge_b_h251
  have N262 := Fr.snoc X262 N259 gb
  refine w_dup X262.here hx (hb hby d_method_3_164) rfl (pc' := 165) rfl ?_
  refine w_iconst X262.here hx (hb hby d_method_3_165) (z := 3) rfl (pc' := 166) rfl ?_
  refine w_bipush X262.here hx (hb hby d_method_3_166) (z := 120) rfl (pc' := 168) rfl ?_
  refine w_castore X262 hx hZ e262 V ⟨by decide, by decide⟩ 3 rfl (Nat.le_of_ble_eq_true rfl) (hb hby d_method_3_168) (pc' := 169) rfl ?_
  intro T265 h265 X265 e265 W265 V
  have C266 : Ext h0 h265 := Ext.wr C263 W265 ge_b_h0
  have C267 : Ext h251 h265 := Ext.wr C264 W265 ge_b_h251
  have N265 := Fr.snoc X265 N262 gb
  refine w_dup X265.here hx (hb hby d_method_3_169) rfl (pc' := 170) rfl ?_
  refine w_iconst X265.here hx (hb hby d_method_3_170) (z := 4) rfl (pc' := 171) rfl ?_
  refine w_bipush X265.here hx (hb hby d_method_3_171) (z := 112) rfl (pc' := 173) rfl ?_
  refine w_castore X265 hx hZ e265 V ⟨by decide, by decide⟩ 4 rfl (Nat.le_of_ble_eq_true rfl) (hb hby d_method_3_173) (pc' := 174) rfl ?_
  intro T268 h268 X268 e268 W268 V
  have C269 : Ext h0 h268 := Ext.wr C266 W268 ge_b_h0
  have C270 : Ext h251 h268 := Ext.wr C267 W268 ge_b_h251
  have N268 := Fr.snoc X268 N265 gb
  refine w_dup X268.here hx (hb hby d_method_3_174) rfl (pc' := 175) rfl ?_
  refine w_iconst X268.here hx (hb hby d_method_3_175) (z := 5) rfl (pc' := 176) rfl ?_
  refine w_bipush X268.here hx (hb hby d_method_3_176) (z := 101) rfl (pc' := 178) rfl ?_
  refine w_castore X268 hx hZ e268 V ⟨by decide, by decide⟩ 5 rfl (Nat.le_of_ble_eq_true rfl) (hb hby d_method_3_178) (pc' := 179) rfl ?_
  intro T271 h271 X271 e271 W271 V
  have C272 : Ext h0 h271 := Ext.wr C269 W271 ge_b_h0
  have C273 : Ext h251 h271 := Ext.wr C270 W271 ge_b_h251
  have N271 := Fr.snoc X271 N268 gb
  refine w_dup X271.here hx (hb hby d_method_3_179) rfl (pc' := 180) rfl ?_
  refine w_bipush X271.here hx (hb hby d_method_3_180) (z := 6) rfl (pc' := 182) rfl ?_
  refine w_bipush X271.here hx (hb hby d_method_3_182) (z := 99) rfl (pc' := 184) rfl ?_
  refine w_castore X271 hx hZ e271 V ⟨by decide, by decide⟩ 6 rfl (Nat.le_of_ble_eq_true rfl) (hb hby d_method_3_184) (pc' := 185) rfl ?_
  intro T274 h274 X274 e274 W274 V
  have C275 : Ext h0 h274 := Ext.wr C272 W274 ge_b_h0
  have C276 : Ext h251 h274 := Ext.wr C273 W274 ge_b_h251
  have N274 := Fr.snoc X274 N271 gb
  refine w_dup X274.here hx (hb hby d_method_3_185) rfl (pc' := 186) rfl ?_
  refine w_bipush X274.here hx (hb hby d_method_3_186) (z := 7) rfl (pc' := 188) rfl ?_
  refine w_bipush X274.here hx (hb hby d_method_3_188) (z := 116) rfl (pc' := 190) rfl ?_
  refine w_castore X274 hx hZ e274 V ⟨by decide, by decide⟩ 7 rfl (Nat.le_of_ble_eq_true rfl) (hb hby d_method_3_190) (pc' := 191) rfl ?_
  intro T277 h277 X277 e277 W277 V
  have C278 : Ext h0 h277 := Ext.wr C275 W277 ge_b_h0
  have C279 : Ext h251 h277 := Ext.wr C276 W277 ge_b_h251
  have N277 := Fr.snoc X277 N274 gb
  refine w_dup X277.here hx (hb hby d_method_3_191) rfl (pc' := 192) rfl ?_
  refine w_bipush X277.here hx (hb hby d_method_3_192) (z := 8) rfl (pc' := 194) rfl ?_
  refine w_bipush X277.here hx (hb hby d_method_3_194) (z := 101) rfl (pc' := 196) rfl ?_
  refine w_castore X277 hx hZ e277 V ⟨by decide, by decide⟩ 8 rfl (Nat.le_of_ble_eq_true rfl) (hb hby d_method_3_196) (pc' := 197) rfl ?_
  intro T280 h280 X280 e280 W280 V
  have C281 : Ext h0 h280 := Ext.wr C278 W280 ge_b_h0
  have C282 : Ext h251 h280 := Ext.wr C279 W280 ge_b_h251
  have N280 := Fr.snoc X280 N277 gb
  refine w_dup X280.here hx (hb hby d_method_3_197) rfl (pc' := 198) rfl ?_
  refine w_bipush X280.here hx (hb hby d_method_3_198) (z := 9) rfl (pc' := 200) rfl ?_
  refine w_bipush X280.here hx (hb hby d_method_3_200) (z := 100) rfl (pc' := 202) rfl ?_
  refine w_castore X280 hx hZ e280 V ⟨by decide, by decide⟩ 9 rfl (Nat.le_of_ble_eq_true rfl) (hb hby d_method_3_202) (pc' := 203) rfl ?_
  intro T283 h283 X283 e283 W283 V
  have C284 : Ext h0 h283 := Ext.wr C281 W283 ge_b_h0
  have C285 : Ext h251 h283 := Ext.wr C282 W283 ge_b_h251
  have N283 := Fr.snoc X283 N280 gb
  refine w_dup X283.here hx (hb hby d_method_3_203) rfl (pc' := 204) rfl ?_
  refine w_bipush X283.here hx (hb hby d_method_3_204) (z := 10) rfl (pc' := 206) rfl ?_
  refine w_bipush X283.here hx (hb hby d_method_3_206) (z := 32) rfl (pc' := 208) rfl ?_
  refine w_castore X283 hx hZ e283 V ⟨by decide, by decide⟩ 10 rfl (Nat.le_of_ble_eq_true rfl) (hb hby d_method_3_208) (pc' := 209) rfl ?_
  intro T286 h286 X286 e286 W286 V
  have C287 : Ext h0 h286 := Ext.wr C284 W286 ge_b_h0
  have C288 : Ext h251 h286 := Ext.wr C285 W286 ge_b_h251
  have N286 := Fr.snoc X286 N283 gb
  refine w_dup X286.here hx (hb hby d_method_3_209) rfl (pc' := 210) rfl ?_
  refine w_bipush X286.here hx (hb hby d_method_3_210) (z := 11) rfl (pc' := 212) rfl ?_
  refine w_bipush X286.here hx (hb hby d_method_3_212) (z := 97) rfl (pc' := 214) rfl ?_
  refine w_castore X286 hx hZ e286 V ⟨by decide, by decide⟩ 11 rfl (Nat.le_of_ble_eq_true rfl) (hb hby d_method_3_214) (pc' := 215) rfl ?_
  intro T289 h289 X289 e289 W289 V
  have C290 : Ext h0 h289 := Ext.wr C287 W289 ge_b_h0
  have C291 : Ext h251 h289 := Ext.wr C288 W289 ge_b_h251
  have N289 := Fr.snoc X289 N286 gb
  refine w_dup X289.here hx (hb hby d_method_3_215) rfl (pc' := 216) rfl ?_
  refine w_bipush X289.here hx (hb hby d_method_3_216) (z := 12) rfl (pc' := 218) rfl ?_
  refine w_bipush X289.here hx (hb hby d_method_3_218) (z := 114) rfl (pc' := 220) rfl ?_
  refine w_castore X289 hx hZ e289 V ⟨by decide, by decide⟩ 12 rfl (Nat.le_of_ble_eq_true rfl) (hb hby d_method_3_220) (pc' := 221) rfl ?_
  intro T292 h292 X292 e292 W292 V
  have C293 : Ext h0 h292 := Ext.wr C290 W292 ge_b_h0
  have C294 : Ext h251 h292 := Ext.wr C291 W292 ge_b_h251
  have N292 := Fr.snoc X292 N289 gb
  refine w_dup X292.here hx (hb hby d_method_3_221) rfl (pc' := 222) rfl ?_
  refine w_bipush X292.here hx (hb hby d_method_3_222) (z := 13) rfl (pc' := 224) rfl ?_
  refine w_bipush X292.here hx (hb hby d_method_3_224) (z := 103) rfl (pc' := 226) rfl ?_
  refine w_castore X292 hx hZ e292 V ⟨by decide, by decide⟩ 13 rfl (Nat.le_of_ble_eq_true rfl) (hb hby d_method_3_226) (pc' := 227) rfl ?_
  intro T295 h295 X295 e295 W295 V
  have C296 : Ext h0 h295 := Ext.wr C293 W295 ge_b_h0
  have C297 : Ext h251 h295 := Ext.wr C294 W295 ge_b_h251
  have N295 := Fr.snoc X295 N292 gb
  refine w_dup X295.here hx (hb hby d_method_3_227) rfl (pc' := 228) rfl ?_
  refine w_bipush X295.here hx (hb hby d_method_3_228) (z := 14) rfl (pc' := 230) rfl ?_
  refine w_bipush X295.here hx (hb hby d_method_3_230) (z := 117) rfl (pc' := 232) rfl ?_
  refine w_castore X295 hx hZ e295 V ⟨by decide, by decide⟩ 14 rfl (Nat.le_of_ble_eq_true rfl) (hb hby d_method_3_232) (pc' := 233) rfl ?_
  intro T298 h298 X298 e298 W298 V
  have C299 : Ext h0 h298 := Ext.wr C296 W298 ge_b_h0
  have C300 : Ext h251 h298 := Ext.wr C297 W298 ge_b_h251
  have N298 := Fr.snoc X298 N295 gb
  refine w_dup X298.here hx (hb hby d_method_3_233) rfl (pc' := 234) rfl ?_
  refine w_bipush X298.here hx (hb hby d_method_3_234) (z := 15) rfl (pc' := 236) rfl ?_
  refine w_bipush X298.here hx (hb hby d_method_3_236) (z := 109) rfl (pc' := 238) rfl ?_
  refine w_castore X298 hx hZ e298 V ⟨by decide, by decide⟩ 15 rfl (Nat.le_of_ble_eq_true rfl) (hb hby d_method_3_238) (pc' := 239) rfl ?_
  intro T301 h301 X301 e301 W301 V
  have C302 : Ext h0 h301 := Ext.wr C299 W301 ge_b_h0
  have C303 : Ext h251 h301 := Ext.wr C300 W301 ge_b_h251
  have N301 := Fr.snoc X301 N298 gb
  refine w_dup X301.here hx (hb hby d_method_3_239) rfl (pc' := 240) rfl ?_
  refine w_bipush X301.here hx (hb hby d_method_3_240) (z := 16) rfl (pc' := 242) rfl ?_
  refine w_bipush X301.here hx (hb hby d_method_3_242) (z := 101) rfl (pc' := 244) rfl ?_
  refine w_castore X301 hx hZ e301 V ⟨by decide, by decide⟩ 16 rfl (Nat.le_of_ble_eq_true rfl) (hb hby d_method_3_244) (pc' := 245) rfl ?_
  intro T304 h304 X304 e304 W304 V
  have C305 : Ext h0 h304 := Ext.wr C302 W304 ge_b_h0
  have C306 : Ext h251 h304 := Ext.wr C303 W304 ge_b_h251
  have N304 := Fr.snoc X304 N301 gb
  refine w_dup X304.here hx (hb hby d_method_3_245) rfl (pc' := 246) rfl ?_
  refine w_bipush X304.here hx (hb hby d_method_3_246) (z := 17) rfl (pc' := 248) rfl ?_
  refine w_bipush X304.here hx (hb hby d_method_3_248) (z := 110) rfl (pc' := 250) rfl ?_
  refine w_castore X304 hx hZ e304 V ⟨by decide, by decide⟩ 17 rfl (Nat.le_of_ble_eq_true rfl) (hb hby d_method_3_250) (pc' := 251) rfl ?_
  intro T307 h307 X307 e307 W307 V
  have C308 : Ext h0 h307 := Ext.wr C305 W307 ge_b_h0
  have C309 : Ext h251 h307 := Ext.wr C306 W307 ge_b_h251
  have N307 := Fr.snoc X307 N304 gb
  refine w_dup X307.here hx (hb hby d_method_3_251) rfl (pc' := 252) rfl ?_
  refine w_bipush X307.here hx (hb hby d_method_3_252) (z := 18) rfl (pc' := 254) rfl ?_
  refine w_bipush X307.here hx (hb hby d_method_3_254) (z := 116) rfl (pc' := 256) rfl ?_
  refine w_castore X307 hx hZ e307 V ⟨by decide, by decide⟩ 18 rfl (Nat.le_of_ble_eq_true rfl) (hb hby d_method_3_256) (pc' := 257) rfl ?_
  intro T310 h310 X310 e310 W310 V
  have C311 : Ext h0 h310 := Ext.wr C308 W310 ge_b_h0
  have C312 : Ext h251 h310 := Ext.wr C309 W310 ge_b_h251
  have N310 := Fr.snoc X310 N307 gb
  refine w_dup X310.here hx (hb hby d_method_3_257) rfl (pc' := 258) rfl ?_
  refine w_bipush X310.here hx (hb hby d_method_3_258) (z := 19) rfl (pc' := 260) rfl ?_
  refine w_bipush X310.here hx (hb hby d_method_3_260) (z := 58) rfl (pc' := 262) rfl ?_
  refine w_castore X310 hx hZ e310 V ⟨by decide, by decide⟩ 19 rfl (Nat.le_of_ble_eq_true rfl) (hb hby d_method_3_262) (pc' := 263) rfl ?_
  intro T313 h313 X313 e313 W313 V
  have C314 : Ext h0 h313 := Ext.wr C311 W313 ge_b_h0
  have C315 : Ext h251 h313 := Ext.wr C312 W313 ge_b_h251
  have N313 := Fr.snoc X313 N310 gb
  refine w_dup X313.here hx (hb hby d_method_3_263) rfl (pc' := 264) rfl ?_
  refine w_bipush X313.here hx (hb hby d_method_3_264) (z := 20) rfl (pc' := 266) rfl ?_
  refine w_bipush X313.here hx (hb hby d_method_3_266) (z := 32) rfl (pc' := 268) rfl ?_
  refine w_castore X313 hx hZ e313 V ⟨by decide, by decide⟩ 20 rfl (Nat.le_of_ble_eq_true rfl) (hb hby d_method_3_268) (pc' := 269) rfl ?_
  intro T316 h316 X316 e316 W316 V
  have C317 : Ext h0 h316 := Ext.wr C314 W316 ge_b_h0
  have C318 : Ext h251 h316 := Ext.wr C315 W316 ge_b_h251
  have N316 := Fr.snoc X316 N313 gb
  refine w_dup X316.here hx (hb hby d_method_3_269) rfl (pc' := 270) rfl ?_
  refine w_bipush X316.here hx (hb hby d_method_3_270) (z := 21) rfl (pc' := 272) rfl ?_
  refine w_iloadN X316.here hx (hb hby d_method_3_272) rfl (pc' := 273) rfl ?_
  refine w_castore X316 hx hZ e316 V ⟨by decide, by decide⟩ 21 rfl (Nat.le_of_ble_eq_true rfl) (hb hby d_method_3_273) (pc' := 274) rfl ?_
  intro T319 h319 X319 e319 W319 V
  have C320 : Ext h0 h319 := Ext.wr C317 W319 ge_b_h0
  have C321 : Ext h251 h319 := Ext.wr C318 W319 ge_b_h251
  have N319 := Fr.snoc X319 N316 gb
  have V : Arv Z h319 b kb .char (Int32.ofNat 22) ((preL ++ [c0]).map Value.int) (.int 0) := by have q := V; rw [nar_c hc0] at q; exact q
  refine w_special X319 hx hZ (y := yq5) rfl hown (tw hw 15 rfl) (tw hw 16 rfl) (tw hw 17 rfl) (by decide) (backC (W := 1) (rmI1 l Z a0 hw x b kb 22 z (preL ++ [c0]) _ _ _ h319 n0 (Nat.le_trans Z0 C320.1) gx (Su.ext C320) V rfl (by decide) (by decide) (preL_rng (fun c hc => by simp only [List.mem_cons, List.not_mem_nil, or_false] at hc; rcases hc with rfl <;> assumption)) (A251.ext C321) (FV.ext C321) (FC.ext C321)) hZ (tw hw 17 rfl) (tw hw 2 rfl) (by decide) (by decide)) e319 (by rw [hml]; rfl) (argsL := [(.ref b)]) (st := [(.ref x)]) pd_32 rfl rfl rfl (Nat.le_of_ble_eq_true rfl) (hb hby d_method_3_274) (by decide) (by decide) (pc' := 277) rfl ?_
  intro T322 v322 L322 X322 Q322
  obtain ⟨rfl, N1, K1, G1⟩ := Q322
  show Go _ _ _ _ T322 (mkF m 277 _ [(.ref x)])
  exact endR X322 hx hlk rfl hret rfl (hb hby d_method_3_277) (by decide) (by decide) (⟨x, rfl, Fr.app N319 N1, Ext.kp C320 K1 (allS ge_x_h0 all0), G1⟩)
theorem d_method_3_278 : decode method_3_code 278 = .ok (.iload_n 0, 1) := by decide +kernel
theorem d_method_3_279 : decode method_3_code 279 = .ok (.iconst 2, 1) := by decide +kernel
theorem d_method_3_280 : decode method_3_code 280 = .ok (.if_icmp .ne 145, 3) := by decide +kernel
theorem d_method_3_283 : decode method_3_code 283 = .ok (.new 11, 3) := by decide +kernel
theorem d_method_3_286 : decode method_3_code 286 = .ok (.dup, 1) := by decide +kernel
theorem d_method_3_287 : decode method_3_code 287 = .ok (.bipush 23, 2) := by decide +kernel
theorem d_method_3_289 : decode method_3_code 289 = .ok (.newarray .char, 2) := by decide +kernel
theorem d_method_3_291 : decode method_3_code 291 = .ok (.dup, 1) := by decide +kernel
theorem d_method_3_292 : decode method_3_code 292 = .ok (.iconst 0, 1) := by decide +kernel
theorem d_method_3_293 : decode method_3_code 293 = .ok (.bipush 117, 2) := by decide +kernel
theorem d_method_3_295 : decode method_3_code 295 = .ok (.castore, 1) := by decide +kernel
theorem d_method_3_296 : decode method_3_code 296 = .ok (.dup, 1) := by decide +kernel
theorem d_method_3_297 : decode method_3_code 297 = .ok (.iconst 1, 1) := by decide +kernel
theorem d_method_3_298 : decode method_3_code 298 = .ok (.bipush 110, 2) := by decide +kernel
theorem d_method_3_300 : decode method_3_code 300 = .ok (.castore, 1) := by decide +kernel
theorem d_method_3_301 : decode method_3_code 301 = .ok (.dup, 1) := by decide +kernel
theorem d_method_3_302 : decode method_3_code 302 = .ok (.iconst 2, 1) := by decide +kernel
theorem d_method_3_303 : decode method_3_code 303 = .ok (.bipush 101, 2) := by decide +kernel
theorem d_method_3_305 : decode method_3_code 305 = .ok (.castore, 1) := by decide +kernel
theorem d_method_3_306 : decode method_3_code 306 = .ok (.dup, 1) := by decide +kernel
theorem d_method_3_307 : decode method_3_code 307 = .ok (.iconst 3, 1) := by decide +kernel
theorem d_method_3_308 : decode method_3_code 308 = .ok (.bipush 120, 2) := by decide +kernel
theorem d_method_3_310 : decode method_3_code 310 = .ok (.castore, 1) := by decide +kernel
theorem d_method_3_311 : decode method_3_code 311 = .ok (.dup, 1) := by decide +kernel
theorem d_method_3_312 : decode method_3_code 312 = .ok (.iconst 4, 1) := by decide +kernel
theorem d_method_3_313 : decode method_3_code 313 = .ok (.bipush 112, 2) := by decide +kernel
theorem d_method_3_315 : decode method_3_code 315 = .ok (.castore, 1) := by decide +kernel
theorem d_method_3_316 : decode method_3_code 316 = .ok (.dup, 1) := by decide +kernel
theorem d_method_3_317 : decode method_3_code 317 = .ok (.iconst 5, 1) := by decide +kernel
theorem d_method_3_318 : decode method_3_code 318 = .ok (.bipush 101, 2) := by decide +kernel
theorem d_method_3_320 : decode method_3_code 320 = .ok (.castore, 1) := by decide +kernel
theorem d_method_3_321 : decode method_3_code 321 = .ok (.dup, 1) := by decide +kernel
theorem d_method_3_322 : decode method_3_code 322 = .ok (.bipush 6, 2) := by decide +kernel
theorem d_method_3_324 : decode method_3_code 324 = .ok (.bipush 99, 2) := by decide +kernel
theorem d_method_3_326 : decode method_3_code 326 = .ok (.castore, 1) := by decide +kernel
theorem d_method_3_327 : decode method_3_code 327 = .ok (.dup, 1) := by decide +kernel
theorem d_method_3_328 : decode method_3_code 328 = .ok (.bipush 7, 2) := by decide +kernel
theorem d_method_3_330 : decode method_3_code 330 = .ok (.bipush 116, 2) := by decide +kernel
theorem d_method_3_332 : decode method_3_code 332 = .ok (.castore, 1) := by decide +kernel
theorem d_method_3_333 : decode method_3_code 333 = .ok (.dup, 1) := by decide +kernel
theorem d_method_3_334 : decode method_3_code 334 = .ok (.bipush 8, 2) := by decide +kernel
theorem d_method_3_336 : decode method_3_code 336 = .ok (.bipush 101, 2) := by decide +kernel
theorem d_method_3_338 : decode method_3_code 338 = .ok (.castore, 1) := by decide +kernel
theorem d_method_3_339 : decode method_3_code 339 = .ok (.dup, 1) := by decide +kernel
theorem d_method_3_340 : decode method_3_code 340 = .ok (.bipush 9, 2) := by decide +kernel
theorem d_method_3_342 : decode method_3_code 342 = .ok (.bipush 100, 2) := by decide +kernel
theorem d_method_3_344 : decode method_3_code 344 = .ok (.castore, 1) := by decide +kernel
theorem d_method_3_345 : decode method_3_code 345 = .ok (.dup, 1) := by decide +kernel
theorem d_method_3_346 : decode method_3_code 346 = .ok (.bipush 10, 2) := by decide +kernel
theorem d_method_3_348 : decode method_3_code 348 = .ok (.bipush 32, 2) := by decide +kernel
theorem d_method_3_350 : decode method_3_code 350 = .ok (.castore, 1) := by decide +kernel
theorem d_method_3_351 : decode method_3_code 351 = .ok (.dup, 1) := by decide +kernel
theorem d_method_3_352 : decode method_3_code 352 = .ok (.bipush 11, 2) := by decide +kernel
theorem d_method_3_354 : decode method_3_code 354 = .ok (.bipush 97, 2) := by decide +kernel
theorem d_method_3_356 : decode method_3_code 356 = .ok (.castore, 1) := by decide +kernel
theorem d_method_3_357 : decode method_3_code 357 = .ok (.dup, 1) := by decide +kernel
theorem d_method_3_358 : decode method_3_code 358 = .ok (.bipush 12, 2) := by decide +kernel
theorem d_method_3_360 : decode method_3_code 360 = .ok (.bipush 114, 2) := by decide +kernel
theorem d_method_3_362 : decode method_3_code 362 = .ok (.castore, 1) := by decide +kernel
theorem d_method_3_363 : decode method_3_code 363 = .ok (.dup, 1) := by decide +kernel
theorem d_method_3_364 : decode method_3_code 364 = .ok (.bipush 13, 2) := by decide +kernel
theorem d_method_3_366 : decode method_3_code 366 = .ok (.bipush 103, 2) := by decide +kernel
theorem d_method_3_368 : decode method_3_code 368 = .ok (.castore, 1) := by decide +kernel
theorem d_method_3_369 : decode method_3_code 369 = .ok (.dup, 1) := by decide +kernel
theorem d_method_3_370 : decode method_3_code 370 = .ok (.bipush 14, 2) := by decide +kernel
theorem d_method_3_372 : decode method_3_code 372 = .ok (.bipush 117, 2) := by decide +kernel
theorem d_method_3_374 : decode method_3_code 374 = .ok (.castore, 1) := by decide +kernel
theorem d_method_3_375 : decode method_3_code 375 = .ok (.dup, 1) := by decide +kernel
theorem d_method_3_376 : decode method_3_code 376 = .ok (.bipush 15, 2) := by decide +kernel
theorem d_method_3_378 : decode method_3_code 378 = .ok (.bipush 109, 2) := by decide +kernel
theorem d_method_3_380 : decode method_3_code 380 = .ok (.castore, 1) := by decide +kernel
theorem d_method_3_381 : decode method_3_code 381 = .ok (.dup, 1) := by decide +kernel
theorem d_method_3_382 : decode method_3_code 382 = .ok (.bipush 16, 2) := by decide +kernel
theorem d_method_3_384 : decode method_3_code 384 = .ok (.bipush 101, 2) := by decide +kernel
theorem d_method_3_386 : decode method_3_code 386 = .ok (.castore, 1) := by decide +kernel
theorem d_method_3_387 : decode method_3_code 387 = .ok (.dup, 1) := by decide +kernel
theorem d_method_3_388 : decode method_3_code 388 = .ok (.bipush 17, 2) := by decide +kernel
theorem d_method_3_390 : decode method_3_code 390 = .ok (.bipush 110, 2) := by decide +kernel
theorem d_method_3_392 : decode method_3_code 392 = .ok (.castore, 1) := by decide +kernel
theorem d_method_3_393 : decode method_3_code 393 = .ok (.dup, 1) := by decide +kernel
theorem d_method_3_394 : decode method_3_code 394 = .ok (.bipush 18, 2) := by decide +kernel
theorem d_method_3_396 : decode method_3_code 396 = .ok (.bipush 116, 2) := by decide +kernel
theorem d_method_3_398 : decode method_3_code 398 = .ok (.castore, 1) := by decide +kernel
theorem d_method_3_399 : decode method_3_code 399 = .ok (.dup, 1) := by decide +kernel
theorem d_method_3_400 : decode method_3_code 400 = .ok (.bipush 19, 2) := by decide +kernel
theorem d_method_3_402 : decode method_3_code 402 = .ok (.bipush 58, 2) := by decide +kernel
theorem d_method_3_404 : decode method_3_code 404 = .ok (.castore, 1) := by decide +kernel
theorem d_method_3_405 : decode method_3_code 405 = .ok (.dup, 1) := by decide +kernel
theorem d_method_3_406 : decode method_3_code 406 = .ok (.bipush 20, 2) := by decide +kernel
theorem d_method_3_408 : decode method_3_code 408 = .ok (.bipush 32, 2) := by decide +kernel
theorem d_method_3_410 : decode method_3_code 410 = .ok (.castore, 1) := by decide +kernel
theorem d_method_3_411 : decode method_3_code 411 = .ok (.dup, 1) := by decide +kernel
theorem d_method_3_412 : decode method_3_code 412 = .ok (.bipush 21, 2) := by decide +kernel
theorem d_method_3_414 : decode method_3_code 414 = .ok (.iload_n 1, 1) := by decide +kernel
theorem d_method_3_415 : decode method_3_code 415 = .ok (.castore, 1) := by decide +kernel
theorem d_method_3_416 : decode method_3_code 416 = .ok (.dup, 1) := by decide +kernel
theorem d_method_3_417 : decode method_3_code 417 = .ok (.bipush 22, 2) := by decide +kernel
theorem d_method_3_419 : decode method_3_code 419 = .ok (.iload_n 2, 1) := by decide +kernel
theorem d_method_3_420 : decode method_3_code 420 = .ok (.castore, 1) := by decide +kernel
theorem d_method_3_421 : decode method_3_code 421 = .ok (.invokespecial 16, 3) := by decide +kernel
theorem d_method_3_424 : decode method_3_code 424 = .ok (.areturn, 1) := by decide +kernel
set_option maxRecDepth 65536 in
set_option maxHeartbeats 40000000 in
theorem rmExp2 (l : Launch) (Z : State) (a0 : Array Value) (hw : ∀ d ∈ tables_1, d.before a0 Z = true) (c0 c1 c2 z : Int32) (h0 : Heap) (n0 : Nat) (Z0 : n0 ≤ h0.size) (Su : SU Z h0 z) (hc0 : ¬ c0 < 0 ∧ ¬ (65535 : Int32) < c0) (hc1 : ¬ c1 < 0 ∧ ¬ (65535 : Int32) < c1) (hc2 : ¬ c2 < 0 ∧ ¬ (65535 : Int32) < c2) :
    Ct l yq3 method_3_code 4 (some (.object "java/lang/String")) ({ frames := 6, cells := 4, slots := 129, locals := 88 } : Room) Z #[(.int (2 : Int32)), (.int c0), (.int c1), (.int c2)] h0 (fun v h L => ∃ x, v = some (.ref x) ∧ Fr n0 L ∧ Ext h0 h ∧ StrOf Z h x (preL ++ [c0, c1])) := by
  refine ct_of (Q := fun v h L => ∃ x, v = some (.ref x) ∧ Fr n0 L ∧ Ext h0 h ∧ StrOf Z h x (preL ++ [c0, c1])) (plainFor_of_name pn_8) ?_
  intro p e s m below meth c s₁ X0 hx hby hml hret hnm hlk hown hZ hs0 e0
  have N0 := Fr.nil n0
  rw [show entryFrame m #[(.int (2 : Int32)), (.int c0), (.int c1), (.int c2)] 4 = mkF m 0 #[.val (.int (2 : Int32)), .val (.int c0), .val (.int c1), .val (.int c2)] [] from by first | (simp [entryFrame, mkF, argsToLocals, Value.category]; done) | rfl]
  refine w_iloadN X0.here hx (hb hby d_method_3_0) rfl (pc' := 1) rfl ?_
  refine w_ifYes X0.here hx (hb hby d_method_3_1) (feq (show ¬ ((2 : Int32) = (0 : Int32)) from by decide)).2 (pc' := 136) (by decide) (by decide) ?_
  refine w_iloadN X0.here hx (hb hby d_method_3_136) rfl (pc' := 137) rfl ?_
  refine w_iconst X0.here hx (hb hby d_method_3_137) (z := 1) rfl (pc' := 138) rfl ?_
  refine w_icmpYes X0.here hx (hb hby d_method_3_138) (feq (show ¬ ((2 : Int32) = (1 : Int32)) from by decide)).2 (pc' := 278) (by decide) (by decide) ?_
  refine w_iloadN X0.here hx (hb hby d_method_3_278) rfl (pc' := 279) rfl ?_
  refine w_iconst X0.here hx (hb hby d_method_3_279) (z := 2) rfl (pc' := 280) rfl ?_
  refine w_icmpNo X0.here hx (hb hby d_method_3_280) (teq (show (2 : Int32) = (2 : Int32) from rfl)).2 (pc' := 283) rfl ?_
  refine w_new X0 hx hZ hown (tw hw 13 rfl) (tw hw 3 rfl) (tw hw 2 rfl) e0 (hb hby d_method_3_283) (by decide) (by decide) (pc' := 286) rfl ?_
  intro T323 h323 x gx X323 e323 E323 A323 D323 U323
  have ge_x_h0 : h0.size ≤ x := Nat.le_trans (Ext.rfl' : Ext h0 h0).1 (Nat.le_of_eq gx)
  have C324 : Ext h0 h323 := Ext.trs Ext.rfl' E323
  have gx : n0 ≤ x := Nat.le_trans Z0 ge_x_h0
  have FV : Fld Z h323 x "java/lang/String" "value" "[B" .null := D323 (Or.inr (tw hw 5 rfl)) (ty := (.array .byte)) (by decide)
  have FC : Fld Z h323 x "java/lang/String" "coder" "B" (.int (0 : Int32)) := D323 (Or.inr (tw hw 6 rfl)) (ty := .byte) (by decide)
  refine w_dup X323.here hx (hb hby d_method_3_286) rfl (pc' := 287) rfl ?_
  refine w_bipush X323.here hx (hb hby d_method_3_287) (z := 23) rfl (pc' := 289) rfl ?_
  refine w_newarray X323 hx hZ (ty := .char) (dv := (.int 0)) rfl rfl (tw hw 14 rfl) e323 (n := (23 : Int32)) (hb hby d_method_3_289) (by decide) (cap := 23) (by decide) (by decide) (by decide) (by decide) (pc' := 291) rfl ?_
  intro T325 h325 b kb gb X325 e325 E325 V
  have ge_b_h0 : h0.size ≤ b := Nat.le_trans (C324 : Ext h0 h323).1 (Nat.le_of_eq gb)
  have ge_b_h323 : h323.size ≤ b := Nat.le_trans (Ext.rfl' : Ext h323 h323).1 (Nat.le_of_eq gb)
  have C326 : Ext h0 h325 := Ext.trs C324 E325
  have C327 : Ext h323 h325 := Ext.trs Ext.rfl' E325
  have gb : n0 ≤ b := Nat.le_trans Z0 ge_b_h0
  refine w_dup X325.here hx (hb hby d_method_3_291) rfl (pc' := 292) rfl ?_
  refine w_iconst X325.here hx (hb hby d_method_3_292) (z := 0) rfl (pc' := 293) rfl ?_
  refine w_bipush X325.here hx (hb hby d_method_3_293) (z := 117) rfl (pc' := 295) rfl ?_
  refine w_castore X325 hx hZ e325 V ⟨by decide, by decide⟩ 0 rfl (Nat.le_of_ble_eq_true rfl) (hb hby d_method_3_295) (pc' := 296) rfl ?_
  intro T328 h328 X328 e328 W328 V
  have C329 : Ext h0 h328 := Ext.wr C326 W328 ge_b_h0
  have C330 : Ext h323 h328 := Ext.wr C327 W328 ge_b_h323
  have N328 := Fr.snoc X328 N0 gb
  refine w_dup X328.here hx (hb hby d_method_3_296) rfl (pc' := 297) rfl ?_
  refine w_iconst X328.here hx (hb hby d_method_3_297) (z := 1) rfl (pc' := 298) rfl ?_
  refine w_bipush X328.here hx (hb hby d_method_3_298) (z := 110) rfl (pc' := 300) rfl ?_
  refine w_castore X328 hx hZ e328 V ⟨by decide, by decide⟩ 1 rfl (Nat.le_of_ble_eq_true rfl) (hb hby d_method_3_300) (pc' := 301) rfl ?_
  intro T331 h331 X331 e331 W331 V
  have C332 : Ext h0 h331 := Ext.wr C329 W331 ge_b_h0
  have C333 : Ext h323 h331 := Ext.wr C330 W331 ge_b_h323
  have N331 := Fr.snoc X331 N328 gb
  refine w_dup X331.here hx (hb hby d_method_3_301) rfl (pc' := 302) rfl ?_
  refine w_iconst X331.here hx (hb hby d_method_3_302) (z := 2) rfl (pc' := 303) rfl ?_
  refine w_bipush X331.here hx (hb hby d_method_3_303) (z := 101) rfl (pc' := 305) rfl ?_
  refine w_castore X331 hx hZ e331 V ⟨by decide, by decide⟩ 2 rfl (Nat.le_of_ble_eq_true rfl) (hb hby d_method_3_305) (pc' := 306) rfl ?_
  intro T334 h334 X334 e334 W334 V
  have C335 : Ext h0 h334 := Ext.wr C332 W334 ge_b_h0
  have C336 : Ext h323 h334 := Ext.wr C333 W334 ge_b_h323
  have N334 := Fr.snoc X334 N331 gb
  refine w_dup X334.here hx (hb hby d_method_3_306) rfl (pc' := 307) rfl ?_
  refine w_iconst X334.here hx (hb hby d_method_3_307) (z := 3) rfl (pc' := 308) rfl ?_
  refine w_bipush X334.here hx (hb hby d_method_3_308) (z := 120) rfl (pc' := 310) rfl ?_
  refine w_castore X334 hx hZ e334 V ⟨by decide, by decide⟩ 3 rfl (Nat.le_of_ble_eq_true rfl) (hb hby d_method_3_310) (pc' := 311) rfl ?_
  intro T337 h337 X337 e337 W337 V
  have C338 : Ext h0 h337 := Ext.wr C335 W337 ge_b_h0
  have C339 : Ext h323 h337 := Ext.wr C336 W337 ge_b_h323
  have N337 := Fr.snoc X337 N334 gb
  refine w_dup X337.here hx (hb hby d_method_3_311) rfl (pc' := 312) rfl ?_
  refine w_iconst X337.here hx (hb hby d_method_3_312) (z := 4) rfl (pc' := 313) rfl ?_
  refine w_bipush X337.here hx (hb hby d_method_3_313) (z := 112) rfl (pc' := 315) rfl ?_
  refine w_castore X337 hx hZ e337 V ⟨by decide, by decide⟩ 4 rfl (Nat.le_of_ble_eq_true rfl) (hb hby d_method_3_315) (pc' := 316) rfl ?_
  intro T340 h340 X340 e340 W340 V
  have C341 : Ext h0 h340 := Ext.wr C338 W340 ge_b_h0
  have C342 : Ext h323 h340 := Ext.wr C339 W340 ge_b_h323
  have N340 := Fr.snoc X340 N337 gb
  refine w_dup X340.here hx (hb hby d_method_3_316) rfl (pc' := 317) rfl ?_
  refine w_iconst X340.here hx (hb hby d_method_3_317) (z := 5) rfl (pc' := 318) rfl ?_
  refine w_bipush X340.here hx (hb hby d_method_3_318) (z := 101) rfl (pc' := 320) rfl ?_
  refine w_castore X340 hx hZ e340 V ⟨by decide, by decide⟩ 5 rfl (Nat.le_of_ble_eq_true rfl) (hb hby d_method_3_320) (pc' := 321) rfl ?_
  intro T343 h343 X343 e343 W343 V
  have C344 : Ext h0 h343 := Ext.wr C341 W343 ge_b_h0
  have C345 : Ext h323 h343 := Ext.wr C342 W343 ge_b_h323
  have N343 := Fr.snoc X343 N340 gb
  refine w_dup X343.here hx (hb hby d_method_3_321) rfl (pc' := 322) rfl ?_
  refine w_bipush X343.here hx (hb hby d_method_3_322) (z := 6) rfl (pc' := 324) rfl ?_
  refine w_bipush X343.here hx (hb hby d_method_3_324) (z := 99) rfl (pc' := 326) rfl ?_
  refine w_castore X343 hx hZ e343 V ⟨by decide, by decide⟩ 6 rfl (Nat.le_of_ble_eq_true rfl) (hb hby d_method_3_326) (pc' := 327) rfl ?_
  intro T346 h346 X346 e346 W346 V
  have C347 : Ext h0 h346 := Ext.wr C344 W346 ge_b_h0
  have C348 : Ext h323 h346 := Ext.wr C345 W346 ge_b_h323
  have N346 := Fr.snoc X346 N343 gb
  refine w_dup X346.here hx (hb hby d_method_3_327) rfl (pc' := 328) rfl ?_
  refine w_bipush X346.here hx (hb hby d_method_3_328) (z := 7) rfl (pc' := 330) rfl ?_
  refine w_bipush X346.here hx (hb hby d_method_3_330) (z := 116) rfl (pc' := 332) rfl ?_
  refine w_castore X346 hx hZ e346 V ⟨by decide, by decide⟩ 7 rfl (Nat.le_of_ble_eq_true rfl) (hb hby d_method_3_332) (pc' := 333) rfl ?_
  intro T349 h349 X349 e349 W349 V
  have C350 : Ext h0 h349 := Ext.wr C347 W349 ge_b_h0
  have C351 : Ext h323 h349 := Ext.wr C348 W349 ge_b_h323
  have N349 := Fr.snoc X349 N346 gb
  refine w_dup X349.here hx (hb hby d_method_3_333) rfl (pc' := 334) rfl ?_
  refine w_bipush X349.here hx (hb hby d_method_3_334) (z := 8) rfl (pc' := 336) rfl ?_
  refine w_bipush X349.here hx (hb hby d_method_3_336) (z := 101) rfl (pc' := 338) rfl ?_
  refine w_castore X349 hx hZ e349 V ⟨by decide, by decide⟩ 8 rfl (Nat.le_of_ble_eq_true rfl) (hb hby d_method_3_338) (pc' := 339) rfl ?_
  intro T352 h352 X352 e352 W352 V
  have C353 : Ext h0 h352 := Ext.wr C350 W352 ge_b_h0
  have C354 : Ext h323 h352 := Ext.wr C351 W352 ge_b_h323
  have N352 := Fr.snoc X352 N349 gb
  refine w_dup X352.here hx (hb hby d_method_3_339) rfl (pc' := 340) rfl ?_
  refine w_bipush X352.here hx (hb hby d_method_3_340) (z := 9) rfl (pc' := 342) rfl ?_
  refine w_bipush X352.here hx (hb hby d_method_3_342) (z := 100) rfl (pc' := 344) rfl ?_
  refine w_castore X352 hx hZ e352 V ⟨by decide, by decide⟩ 9 rfl (Nat.le_of_ble_eq_true rfl) (hb hby d_method_3_344) (pc' := 345) rfl ?_
  intro T355 h355 X355 e355 W355 V
  have C356 : Ext h0 h355 := Ext.wr C353 W355 ge_b_h0
  have C357 : Ext h323 h355 := Ext.wr C354 W355 ge_b_h323
  have N355 := Fr.snoc X355 N352 gb
  refine w_dup X355.here hx (hb hby d_method_3_345) rfl (pc' := 346) rfl ?_
  refine w_bipush X355.here hx (hb hby d_method_3_346) (z := 10) rfl (pc' := 348) rfl ?_
  refine w_bipush X355.here hx (hb hby d_method_3_348) (z := 32) rfl (pc' := 350) rfl ?_
  refine w_castore X355 hx hZ e355 V ⟨by decide, by decide⟩ 10 rfl (Nat.le_of_ble_eq_true rfl) (hb hby d_method_3_350) (pc' := 351) rfl ?_
  intro T358 h358 X358 e358 W358 V
  have C359 : Ext h0 h358 := Ext.wr C356 W358 ge_b_h0
  have C360 : Ext h323 h358 := Ext.wr C357 W358 ge_b_h323
  have N358 := Fr.snoc X358 N355 gb
  refine w_dup X358.here hx (hb hby d_method_3_351) rfl (pc' := 352) rfl ?_
  refine w_bipush X358.here hx (hb hby d_method_3_352) (z := 11) rfl (pc' := 354) rfl ?_
  refine w_bipush X358.here hx (hb hby d_method_3_354) (z := 97) rfl (pc' := 356) rfl ?_
  refine w_castore X358 hx hZ e358 V ⟨by decide, by decide⟩ 11 rfl (Nat.le_of_ble_eq_true rfl) (hb hby d_method_3_356) (pc' := 357) rfl ?_
  intro T361 h361 X361 e361 W361 V
  have C362 : Ext h0 h361 := Ext.wr C359 W361 ge_b_h0
  have C363 : Ext h323 h361 := Ext.wr C360 W361 ge_b_h323
  have N361 := Fr.snoc X361 N358 gb
  refine w_dup X361.here hx (hb hby d_method_3_357) rfl (pc' := 358) rfl ?_
  refine w_bipush X361.here hx (hb hby d_method_3_358) (z := 12) rfl (pc' := 360) rfl ?_
  refine w_bipush X361.here hx (hb hby d_method_3_360) (z := 114) rfl (pc' := 362) rfl ?_
  refine w_castore X361 hx hZ e361 V ⟨by decide, by decide⟩ 12 rfl (Nat.le_of_ble_eq_true rfl) (hb hby d_method_3_362) (pc' := 363) rfl ?_
  intro T364 h364 X364 e364 W364 V
  have C365 : Ext h0 h364 := Ext.wr C362 W364 ge_b_h0
  have C366 : Ext h323 h364 := Ext.wr C363 W364 ge_b_h323
  have N364 := Fr.snoc X364 N361 gb
  refine w_dup X364.here hx (hb hby d_method_3_363) rfl (pc' := 364) rfl ?_
  refine w_bipush X364.here hx (hb hby d_method_3_364) (z := 13) rfl (pc' := 366) rfl ?_
  refine w_bipush X364.here hx (hb hby d_method_3_366) (z := 103) rfl (pc' := 368) rfl ?_
  refine w_castore X364 hx hZ e364 V ⟨by decide, by decide⟩ 13 rfl (Nat.le_of_ble_eq_true rfl) (hb hby d_method_3_368) (pc' := 369) rfl ?_
  intro T367 h367 X367 e367 W367 V
  have C368 : Ext h0 h367 := Ext.wr C365 W367 ge_b_h0
  have C369 : Ext h323 h367 := Ext.wr C366 W367 ge_b_h323
  have N367 := Fr.snoc X367 N364 gb
  refine w_dup X367.here hx (hb hby d_method_3_369) rfl (pc' := 370) rfl ?_
  refine w_bipush X367.here hx (hb hby d_method_3_370) (z := 14) rfl (pc' := 372) rfl ?_
  refine w_bipush X367.here hx (hb hby d_method_3_372) (z := 117) rfl (pc' := 374) rfl ?_
  refine w_castore X367 hx hZ e367 V ⟨by decide, by decide⟩ 14 rfl (Nat.le_of_ble_eq_true rfl) (hb hby d_method_3_374) (pc' := 375) rfl ?_
  intro T370 h370 X370 e370 W370 V
  have C371 : Ext h0 h370 := Ext.wr C368 W370 ge_b_h0
  have C372 : Ext h323 h370 := Ext.wr C369 W370 ge_b_h323
  have N370 := Fr.snoc X370 N367 gb
  refine w_dup X370.here hx (hb hby d_method_3_375) rfl (pc' := 376) rfl ?_
  refine w_bipush X370.here hx (hb hby d_method_3_376) (z := 15) rfl (pc' := 378) rfl ?_
  refine w_bipush X370.here hx (hb hby d_method_3_378) (z := 109) rfl (pc' := 380) rfl ?_
  refine w_castore X370 hx hZ e370 V ⟨by decide, by decide⟩ 15 rfl (Nat.le_of_ble_eq_true rfl) (hb hby d_method_3_380) (pc' := 381) rfl ?_
  intro T373 h373 X373 e373 W373 V
  have C374 : Ext h0 h373 := Ext.wr C371 W373 ge_b_h0
  have C375 : Ext h323 h373 := Ext.wr C372 W373 ge_b_h323
  have N373 := Fr.snoc X373 N370 gb
  refine w_dup X373.here hx (hb hby d_method_3_381) rfl (pc' := 382) rfl ?_
  refine w_bipush X373.here hx (hb hby d_method_3_382) (z := 16) rfl (pc' := 384) rfl ?_
  refine w_bipush X373.here hx (hb hby d_method_3_384) (z := 101) rfl (pc' := 386) rfl ?_
  refine w_castore X373 hx hZ e373 V ⟨by decide, by decide⟩ 16 rfl (Nat.le_of_ble_eq_true rfl) (hb hby d_method_3_386) (pc' := 387) rfl ?_
  intro T376 h376 X376 e376 W376 V
  have C377 : Ext h0 h376 := Ext.wr C374 W376 ge_b_h0
  have C378 : Ext h323 h376 := Ext.wr C375 W376 ge_b_h323
  have N376 := Fr.snoc X376 N373 gb
  refine w_dup X376.here hx (hb hby d_method_3_387) rfl (pc' := 388) rfl ?_
  refine w_bipush X376.here hx (hb hby d_method_3_388) (z := 17) rfl (pc' := 390) rfl ?_
  refine w_bipush X376.here hx (hb hby d_method_3_390) (z := 110) rfl (pc' := 392) rfl ?_
  refine w_castore X376 hx hZ e376 V ⟨by decide, by decide⟩ 17 rfl (Nat.le_of_ble_eq_true rfl) (hb hby d_method_3_392) (pc' := 393) rfl ?_
  intro T379 h379 X379 e379 W379 V
  have C380 : Ext h0 h379 := Ext.wr C377 W379 ge_b_h0
  have C381 : Ext h323 h379 := Ext.wr C378 W379 ge_b_h323
  have N379 := Fr.snoc X379 N376 gb
  refine w_dup X379.here hx (hb hby d_method_3_393) rfl (pc' := 394) rfl ?_
  refine w_bipush X379.here hx (hb hby d_method_3_394) (z := 18) rfl (pc' := 396) rfl ?_
  refine w_bipush X379.here hx (hb hby d_method_3_396) (z := 116) rfl (pc' := 398) rfl ?_
  refine w_castore X379 hx hZ e379 V ⟨by decide, by decide⟩ 18 rfl (Nat.le_of_ble_eq_true rfl) (hb hby d_method_3_398) (pc' := 399) rfl ?_
  intro T382 h382 X382 e382 W382 V
  have C383 : Ext h0 h382 := Ext.wr C380 W382 ge_b_h0
  have C384 : Ext h323 h382 := Ext.wr C381 W382 ge_b_h323
  have N382 := Fr.snoc X382 N379 gb
  refine w_dup X382.here hx (hb hby d_method_3_399) rfl (pc' := 400) rfl ?_
  refine w_bipush X382.here hx (hb hby d_method_3_400) (z := 19) rfl (pc' := 402) rfl ?_
  refine w_bipush X382.here hx (hb hby d_method_3_402) (z := 58) rfl (pc' := 404) rfl ?_
  refine w_castore X382 hx hZ e382 V ⟨by decide, by decide⟩ 19 rfl (Nat.le_of_ble_eq_true rfl) (hb hby d_method_3_404) (pc' := 405) rfl ?_
  intro T385 h385 X385 e385 W385 V
  have C386 : Ext h0 h385 := Ext.wr C383 W385 ge_b_h0
  have C387 : Ext h323 h385 := Ext.wr C384 W385 ge_b_h323
  have N385 := Fr.snoc X385 N382 gb
  refine w_dup X385.here hx (hb hby d_method_3_405) rfl (pc' := 406) rfl ?_
  refine w_bipush X385.here hx (hb hby d_method_3_406) (z := 20) rfl (pc' := 408) rfl ?_
  refine w_bipush X385.here hx (hb hby d_method_3_408) (z := 32) rfl (pc' := 410) rfl ?_
  refine w_castore X385 hx hZ e385 V ⟨by decide, by decide⟩ 20 rfl (Nat.le_of_ble_eq_true rfl) (hb hby d_method_3_410) (pc' := 411) rfl ?_
  intro T388 h388 X388 e388 W388 V
  have C389 : Ext h0 h388 := Ext.wr C386 W388 ge_b_h0
  have C390 : Ext h323 h388 := Ext.wr C387 W388 ge_b_h323
  have N388 := Fr.snoc X388 N385 gb
  refine w_dup X388.here hx (hb hby d_method_3_411) rfl (pc' := 412) rfl ?_
  refine w_bipush X388.here hx (hb hby d_method_3_412) (z := 21) rfl (pc' := 414) rfl ?_
  refine w_iloadN X388.here hx (hb hby d_method_3_414) rfl (pc' := 415) rfl ?_
  refine w_castore X388 hx hZ e388 V ⟨by decide, by decide⟩ 21 rfl (Nat.le_of_ble_eq_true rfl) (hb hby d_method_3_415) (pc' := 416) rfl ?_
  intro T391 h391 X391 e391 W391 V
  have C392 : Ext h0 h391 := Ext.wr C389 W391 ge_b_h0
  have C393 : Ext h323 h391 := Ext.wr C390 W391 ge_b_h323
  have N391 := Fr.snoc X391 N388 gb
  refine w_dup X391.here hx (hb hby d_method_3_416) rfl (pc' := 417) rfl ?_
  refine w_bipush X391.here hx (hb hby d_method_3_417) (z := 22) rfl (pc' := 419) rfl ?_
  refine w_iloadN X391.here hx (hb hby d_method_3_419) rfl (pc' := 420) rfl ?_
  refine w_castore X391 hx hZ e391 V ⟨by decide, by decide⟩ 22 rfl (Nat.le_of_ble_eq_true rfl) (hb hby d_method_3_420) (pc' := 421) rfl ?_
  intro T394 h394 X394 e394 W394 V
  have C395 : Ext h0 h394 := Ext.wr C392 W394 ge_b_h0
  have C396 : Ext h323 h394 := Ext.wr C393 W394 ge_b_h323
  have N394 := Fr.snoc X394 N391 gb
  have V : Arv Z h394 b kb .char (Int32.ofNat 23) ((preL ++ [c0, c1]).map Value.int) (.int 0) := by have q := V; rw [nar_c hc0, nar_c hc1] at q; exact q
  refine w_special X394 hx hZ (y := yq5) rfl hown (tw hw 15 rfl) (tw hw 16 rfl) (tw hw 17 rfl) (by decide) (backC (W := 1) (rmI1 l Z a0 hw x b kb 23 z (preL ++ [c0, c1]) _ _ _ h394 n0 (Nat.le_trans Z0 C395.1) gx (Su.ext C395) V rfl (by decide) (by decide) (preL_rng (fun c hc => by simp only [List.mem_cons, List.not_mem_nil, or_false] at hc; rcases hc with rfl | rfl <;> assumption)) (A323.ext C396) (FV.ext C396) (FC.ext C396)) hZ (tw hw 17 rfl) (tw hw 2 rfl) (by decide) (by decide)) e394 (by rw [hml]; rfl) (argsL := [(.ref b)]) (st := [(.ref x)]) pd_32 rfl rfl rfl (Nat.le_of_ble_eq_true rfl) (hb hby d_method_3_421) (by decide) (by decide) (pc' := 424) rfl ?_
  intro T397 v397 L397 X397 Q397
  obtain ⟨rfl, N1, K1, G1⟩ := Q397
  show Go _ _ _ _ T397 (mkF m 424 _ [(.ref x)])
  exact endR X397 hx hlk rfl hret rfl (hb hby d_method_3_424) (by decide) (by decide) (⟨x, rfl, Fr.app N394 N1, Ext.kp C395 K1 (allS ge_x_h0 all0), G1⟩)
theorem d_method_3_425 : decode method_3_code 425 = .ok (.new 11, 3) := by decide +kernel
theorem d_method_3_428 : decode method_3_code 428 = .ok (.dup, 1) := by decide +kernel
theorem d_method_3_429 : decode method_3_code 429 = .ok (.bipush 24, 2) := by decide +kernel
theorem d_method_3_431 : decode method_3_code 431 = .ok (.newarray .char, 2) := by decide +kernel
theorem d_method_3_433 : decode method_3_code 433 = .ok (.dup, 1) := by decide +kernel
theorem d_method_3_434 : decode method_3_code 434 = .ok (.iconst 0, 1) := by decide +kernel
theorem d_method_3_435 : decode method_3_code 435 = .ok (.bipush 117, 2) := by decide +kernel
theorem d_method_3_437 : decode method_3_code 437 = .ok (.castore, 1) := by decide +kernel
theorem d_method_3_438 : decode method_3_code 438 = .ok (.dup, 1) := by decide +kernel
theorem d_method_3_439 : decode method_3_code 439 = .ok (.iconst 1, 1) := by decide +kernel
theorem d_method_3_440 : decode method_3_code 440 = .ok (.bipush 110, 2) := by decide +kernel
theorem d_method_3_442 : decode method_3_code 442 = .ok (.castore, 1) := by decide +kernel
theorem d_method_3_443 : decode method_3_code 443 = .ok (.dup, 1) := by decide +kernel
theorem d_method_3_444 : decode method_3_code 444 = .ok (.iconst 2, 1) := by decide +kernel
theorem d_method_3_445 : decode method_3_code 445 = .ok (.bipush 101, 2) := by decide +kernel
theorem d_method_3_447 : decode method_3_code 447 = .ok (.castore, 1) := by decide +kernel
theorem d_method_3_448 : decode method_3_code 448 = .ok (.dup, 1) := by decide +kernel
theorem d_method_3_449 : decode method_3_code 449 = .ok (.iconst 3, 1) := by decide +kernel
theorem d_method_3_450 : decode method_3_code 450 = .ok (.bipush 120, 2) := by decide +kernel
theorem d_method_3_452 : decode method_3_code 452 = .ok (.castore, 1) := by decide +kernel
theorem d_method_3_453 : decode method_3_code 453 = .ok (.dup, 1) := by decide +kernel
theorem d_method_3_454 : decode method_3_code 454 = .ok (.iconst 4, 1) := by decide +kernel
theorem d_method_3_455 : decode method_3_code 455 = .ok (.bipush 112, 2) := by decide +kernel
theorem d_method_3_457 : decode method_3_code 457 = .ok (.castore, 1) := by decide +kernel
theorem d_method_3_458 : decode method_3_code 458 = .ok (.dup, 1) := by decide +kernel
theorem d_method_3_459 : decode method_3_code 459 = .ok (.iconst 5, 1) := by decide +kernel
theorem d_method_3_460 : decode method_3_code 460 = .ok (.bipush 101, 2) := by decide +kernel
theorem d_method_3_462 : decode method_3_code 462 = .ok (.castore, 1) := by decide +kernel
theorem d_method_3_463 : decode method_3_code 463 = .ok (.dup, 1) := by decide +kernel
theorem d_method_3_464 : decode method_3_code 464 = .ok (.bipush 6, 2) := by decide +kernel
theorem d_method_3_466 : decode method_3_code 466 = .ok (.bipush 99, 2) := by decide +kernel
theorem d_method_3_468 : decode method_3_code 468 = .ok (.castore, 1) := by decide +kernel
theorem d_method_3_469 : decode method_3_code 469 = .ok (.dup, 1) := by decide +kernel
theorem d_method_3_470 : decode method_3_code 470 = .ok (.bipush 7, 2) := by decide +kernel
theorem d_method_3_472 : decode method_3_code 472 = .ok (.bipush 116, 2) := by decide +kernel
theorem d_method_3_474 : decode method_3_code 474 = .ok (.castore, 1) := by decide +kernel
theorem d_method_3_475 : decode method_3_code 475 = .ok (.dup, 1) := by decide +kernel
theorem d_method_3_476 : decode method_3_code 476 = .ok (.bipush 8, 2) := by decide +kernel
theorem d_method_3_478 : decode method_3_code 478 = .ok (.bipush 101, 2) := by decide +kernel
theorem d_method_3_480 : decode method_3_code 480 = .ok (.castore, 1) := by decide +kernel
theorem d_method_3_481 : decode method_3_code 481 = .ok (.dup, 1) := by decide +kernel
theorem d_method_3_482 : decode method_3_code 482 = .ok (.bipush 9, 2) := by decide +kernel
theorem d_method_3_484 : decode method_3_code 484 = .ok (.bipush 100, 2) := by decide +kernel
theorem d_method_3_486 : decode method_3_code 486 = .ok (.castore, 1) := by decide +kernel
theorem d_method_3_487 : decode method_3_code 487 = .ok (.dup, 1) := by decide +kernel
theorem d_method_3_488 : decode method_3_code 488 = .ok (.bipush 10, 2) := by decide +kernel
theorem d_method_3_490 : decode method_3_code 490 = .ok (.bipush 32, 2) := by decide +kernel
theorem d_method_3_492 : decode method_3_code 492 = .ok (.castore, 1) := by decide +kernel
theorem d_method_3_493 : decode method_3_code 493 = .ok (.dup, 1) := by decide +kernel
theorem d_method_3_494 : decode method_3_code 494 = .ok (.bipush 11, 2) := by decide +kernel
theorem d_method_3_496 : decode method_3_code 496 = .ok (.bipush 97, 2) := by decide +kernel
theorem d_method_3_498 : decode method_3_code 498 = .ok (.castore, 1) := by decide +kernel
theorem d_method_3_499 : decode method_3_code 499 = .ok (.dup, 1) := by decide +kernel
theorem d_method_3_500 : decode method_3_code 500 = .ok (.bipush 12, 2) := by decide +kernel
theorem d_method_3_502 : decode method_3_code 502 = .ok (.bipush 114, 2) := by decide +kernel
theorem d_method_3_504 : decode method_3_code 504 = .ok (.castore, 1) := by decide +kernel
theorem d_method_3_505 : decode method_3_code 505 = .ok (.dup, 1) := by decide +kernel
theorem d_method_3_506 : decode method_3_code 506 = .ok (.bipush 13, 2) := by decide +kernel
theorem d_method_3_508 : decode method_3_code 508 = .ok (.bipush 103, 2) := by decide +kernel
theorem d_method_3_510 : decode method_3_code 510 = .ok (.castore, 1) := by decide +kernel
theorem d_method_3_511 : decode method_3_code 511 = .ok (.dup, 1) := by decide +kernel
theorem d_method_3_512 : decode method_3_code 512 = .ok (.bipush 14, 2) := by decide +kernel
theorem d_method_3_514 : decode method_3_code 514 = .ok (.bipush 117, 2) := by decide +kernel
theorem d_method_3_516 : decode method_3_code 516 = .ok (.castore, 1) := by decide +kernel
theorem d_method_3_517 : decode method_3_code 517 = .ok (.dup, 1) := by decide +kernel
theorem d_method_3_518 : decode method_3_code 518 = .ok (.bipush 15, 2) := by decide +kernel
theorem d_method_3_520 : decode method_3_code 520 = .ok (.bipush 109, 2) := by decide +kernel
theorem d_method_3_522 : decode method_3_code 522 = .ok (.castore, 1) := by decide +kernel
theorem d_method_3_523 : decode method_3_code 523 = .ok (.dup, 1) := by decide +kernel
theorem d_method_3_524 : decode method_3_code 524 = .ok (.bipush 16, 2) := by decide +kernel
theorem d_method_3_526 : decode method_3_code 526 = .ok (.bipush 101, 2) := by decide +kernel
theorem d_method_3_528 : decode method_3_code 528 = .ok (.castore, 1) := by decide +kernel
theorem d_method_3_529 : decode method_3_code 529 = .ok (.dup, 1) := by decide +kernel
theorem d_method_3_530 : decode method_3_code 530 = .ok (.bipush 17, 2) := by decide +kernel
theorem d_method_3_532 : decode method_3_code 532 = .ok (.bipush 110, 2) := by decide +kernel
theorem d_method_3_534 : decode method_3_code 534 = .ok (.castore, 1) := by decide +kernel
theorem d_method_3_535 : decode method_3_code 535 = .ok (.dup, 1) := by decide +kernel
theorem d_method_3_536 : decode method_3_code 536 = .ok (.bipush 18, 2) := by decide +kernel
theorem d_method_3_538 : decode method_3_code 538 = .ok (.bipush 116, 2) := by decide +kernel
theorem d_method_3_540 : decode method_3_code 540 = .ok (.castore, 1) := by decide +kernel
theorem d_method_3_541 : decode method_3_code 541 = .ok (.dup, 1) := by decide +kernel
theorem d_method_3_542 : decode method_3_code 542 = .ok (.bipush 19, 2) := by decide +kernel
theorem d_method_3_544 : decode method_3_code 544 = .ok (.bipush 58, 2) := by decide +kernel
theorem d_method_3_546 : decode method_3_code 546 = .ok (.castore, 1) := by decide +kernel
theorem d_method_3_547 : decode method_3_code 547 = .ok (.dup, 1) := by decide +kernel
theorem d_method_3_548 : decode method_3_code 548 = .ok (.bipush 20, 2) := by decide +kernel
theorem d_method_3_550 : decode method_3_code 550 = .ok (.bipush 32, 2) := by decide +kernel
theorem d_method_3_552 : decode method_3_code 552 = .ok (.castore, 1) := by decide +kernel
theorem d_method_3_553 : decode method_3_code 553 = .ok (.dup, 1) := by decide +kernel
theorem d_method_3_554 : decode method_3_code 554 = .ok (.bipush 21, 2) := by decide +kernel
theorem d_method_3_556 : decode method_3_code 556 = .ok (.iload_n 1, 1) := by decide +kernel
theorem d_method_3_557 : decode method_3_code 557 = .ok (.castore, 1) := by decide +kernel
theorem d_method_3_558 : decode method_3_code 558 = .ok (.dup, 1) := by decide +kernel
theorem d_method_3_559 : decode method_3_code 559 = .ok (.bipush 22, 2) := by decide +kernel
theorem d_method_3_561 : decode method_3_code 561 = .ok (.iload_n 2, 1) := by decide +kernel
theorem d_method_3_562 : decode method_3_code 562 = .ok (.castore, 1) := by decide +kernel
theorem d_method_3_563 : decode method_3_code 563 = .ok (.dup, 1) := by decide +kernel
theorem d_method_3_564 : decode method_3_code 564 = .ok (.bipush 23, 2) := by decide +kernel
theorem d_method_3_566 : decode method_3_code 566 = .ok (.iload_n 3, 1) := by decide +kernel
theorem d_method_3_567 : decode method_3_code 567 = .ok (.castore, 1) := by decide +kernel
theorem d_method_3_568 : decode method_3_code 568 = .ok (.invokespecial 16, 3) := by decide +kernel
theorem d_method_3_571 : decode method_3_code 571 = .ok (.areturn, 1) := by decide +kernel
set_option maxRecDepth 65536 in
set_option maxHeartbeats 40000000 in
theorem rmExp3 (l : Launch) (Z : State) (a0 : Array Value) (hw : ∀ d ∈ tables_1, d.before a0 Z = true) (c0 c1 c2 z : Int32) (h0 : Heap) (n0 : Nat) (Z0 : n0 ≤ h0.size) (Su : SU Z h0 z) (hc0 : ¬ c0 < 0 ∧ ¬ (65535 : Int32) < c0) (hc1 : ¬ c1 < 0 ∧ ¬ (65535 : Int32) < c1) (hc2 : ¬ c2 < 0 ∧ ¬ (65535 : Int32) < c2) :
    Ct l yq3 method_3_code 4 (some (.object "java/lang/String")) ({ frames := 6, cells := 4, slots := 130, locals := 88 } : Room) Z #[(.int (3 : Int32)), (.int c0), (.int c1), (.int c2)] h0 (fun v h L => ∃ x, v = some (.ref x) ∧ Fr n0 L ∧ Ext h0 h ∧ StrOf Z h x (preL ++ [c0, c1, c2])) := by
  refine ct_of (Q := fun v h L => ∃ x, v = some (.ref x) ∧ Fr n0 L ∧ Ext h0 h ∧ StrOf Z h x (preL ++ [c0, c1, c2])) (plainFor_of_name pn_8) ?_
  intro p e s m below meth c s₁ X0 hx hby hml hret hnm hlk hown hZ hs0 e0
  have N0 := Fr.nil n0
  rw [show entryFrame m #[(.int (3 : Int32)), (.int c0), (.int c1), (.int c2)] 4 = mkF m 0 #[.val (.int (3 : Int32)), .val (.int c0), .val (.int c1), .val (.int c2)] [] from by first | (simp [entryFrame, mkF, argsToLocals, Value.category]; done) | rfl]
  refine w_iloadN X0.here hx (hb hby d_method_3_0) rfl (pc' := 1) rfl ?_
  refine w_ifYes X0.here hx (hb hby d_method_3_1) (feq (show ¬ ((3 : Int32) = (0 : Int32)) from by decide)).2 (pc' := 136) (by decide) (by decide) ?_
  refine w_iloadN X0.here hx (hb hby d_method_3_136) rfl (pc' := 137) rfl ?_
  refine w_iconst X0.here hx (hb hby d_method_3_137) (z := 1) rfl (pc' := 138) rfl ?_
  refine w_icmpYes X0.here hx (hb hby d_method_3_138) (feq (show ¬ ((3 : Int32) = (1 : Int32)) from by decide)).2 (pc' := 278) (by decide) (by decide) ?_
  refine w_iloadN X0.here hx (hb hby d_method_3_278) rfl (pc' := 279) rfl ?_
  refine w_iconst X0.here hx (hb hby d_method_3_279) (z := 2) rfl (pc' := 280) rfl ?_
  refine w_icmpYes X0.here hx (hb hby d_method_3_280) (feq (show ¬ ((3 : Int32) = (2 : Int32)) from by decide)).2 (pc' := 425) (by decide) (by decide) ?_
  refine w_new X0 hx hZ hown (tw hw 13 rfl) (tw hw 3 rfl) (tw hw 2 rfl) e0 (hb hby d_method_3_425) (by decide) (by decide) (pc' := 428) rfl ?_
  intro T398 h398 x gx X398 e398 E398 A398 D398 U398
  have ge_x_h0 : h0.size ≤ x := Nat.le_trans (Ext.rfl' : Ext h0 h0).1 (Nat.le_of_eq gx)
  have C399 : Ext h0 h398 := Ext.trs Ext.rfl' E398
  have gx : n0 ≤ x := Nat.le_trans Z0 ge_x_h0
  have FV : Fld Z h398 x "java/lang/String" "value" "[B" .null := D398 (Or.inr (tw hw 5 rfl)) (ty := (.array .byte)) (by decide)
  have FC : Fld Z h398 x "java/lang/String" "coder" "B" (.int (0 : Int32)) := D398 (Or.inr (tw hw 6 rfl)) (ty := .byte) (by decide)
  refine w_dup X398.here hx (hb hby d_method_3_428) rfl (pc' := 429) rfl ?_
  refine w_bipush X398.here hx (hb hby d_method_3_429) (z := 24) rfl (pc' := 431) rfl ?_
  refine w_newarray X398 hx hZ (ty := .char) (dv := (.int 0)) rfl rfl (tw hw 14 rfl) e398 (n := (24 : Int32)) (hb hby d_method_3_431) (by decide) (cap := 24) (by decide) (by decide) (by decide) (by decide) (pc' := 433) rfl ?_
  intro T400 h400 b kb gb X400 e400 E400 V
  have ge_b_h0 : h0.size ≤ b := Nat.le_trans (C399 : Ext h0 h398).1 (Nat.le_of_eq gb)
  have ge_b_h398 : h398.size ≤ b := Nat.le_trans (Ext.rfl' : Ext h398 h398).1 (Nat.le_of_eq gb)
  have C401 : Ext h0 h400 := Ext.trs C399 E400
  have C402 : Ext h398 h400 := Ext.trs Ext.rfl' E400
  have gb : n0 ≤ b := Nat.le_trans Z0 ge_b_h0
  refine w_dup X400.here hx (hb hby d_method_3_433) rfl (pc' := 434) rfl ?_
  refine w_iconst X400.here hx (hb hby d_method_3_434) (z := 0) rfl (pc' := 435) rfl ?_
  refine w_bipush X400.here hx (hb hby d_method_3_435) (z := 117) rfl (pc' := 437) rfl ?_
  refine w_castore X400 hx hZ e400 V ⟨by decide, by decide⟩ 0 rfl (Nat.le_of_ble_eq_true rfl) (hb hby d_method_3_437) (pc' := 438) rfl ?_
  intro T403 h403 X403 e403 W403 V
  have C404 : Ext h0 h403 := Ext.wr C401 W403 ge_b_h0
  have C405 : Ext h398 h403 := Ext.wr C402 W403 ge_b_h398
  have N403 := Fr.snoc X403 N0 gb
  refine w_dup X403.here hx (hb hby d_method_3_438) rfl (pc' := 439) rfl ?_
  refine w_iconst X403.here hx (hb hby d_method_3_439) (z := 1) rfl (pc' := 440) rfl ?_
  refine w_bipush X403.here hx (hb hby d_method_3_440) (z := 110) rfl (pc' := 442) rfl ?_
  refine w_castore X403 hx hZ e403 V ⟨by decide, by decide⟩ 1 rfl (Nat.le_of_ble_eq_true rfl) (hb hby d_method_3_442) (pc' := 443) rfl ?_
  intro T406 h406 X406 e406 W406 V
  have C407 : Ext h0 h406 := Ext.wr C404 W406 ge_b_h0
  have C408 : Ext h398 h406 := Ext.wr C405 W406 ge_b_h398
  have N406 := Fr.snoc X406 N403 gb
  refine w_dup X406.here hx (hb hby d_method_3_443) rfl (pc' := 444) rfl ?_
  refine w_iconst X406.here hx (hb hby d_method_3_444) (z := 2) rfl (pc' := 445) rfl ?_
  refine w_bipush X406.here hx (hb hby d_method_3_445) (z := 101) rfl (pc' := 447) rfl ?_
  refine w_castore X406 hx hZ e406 V ⟨by decide, by decide⟩ 2 rfl (Nat.le_of_ble_eq_true rfl) (hb hby d_method_3_447) (pc' := 448) rfl ?_
  intro T409 h409 X409 e409 W409 V
  have C410 : Ext h0 h409 := Ext.wr C407 W409 ge_b_h0
  have C411 : Ext h398 h409 := Ext.wr C408 W409 ge_b_h398
  have N409 := Fr.snoc X409 N406 gb
  refine w_dup X409.here hx (hb hby d_method_3_448) rfl (pc' := 449) rfl ?_
  refine w_iconst X409.here hx (hb hby d_method_3_449) (z := 3) rfl (pc' := 450) rfl ?_
  refine w_bipush X409.here hx (hb hby d_method_3_450) (z := 120) rfl (pc' := 452) rfl ?_
  refine w_castore X409 hx hZ e409 V ⟨by decide, by decide⟩ 3 rfl (Nat.le_of_ble_eq_true rfl) (hb hby d_method_3_452) (pc' := 453) rfl ?_
  intro T412 h412 X412 e412 W412 V
  have C413 : Ext h0 h412 := Ext.wr C410 W412 ge_b_h0
  have C414 : Ext h398 h412 := Ext.wr C411 W412 ge_b_h398
  have N412 := Fr.snoc X412 N409 gb
  refine w_dup X412.here hx (hb hby d_method_3_453) rfl (pc' := 454) rfl ?_
  refine w_iconst X412.here hx (hb hby d_method_3_454) (z := 4) rfl (pc' := 455) rfl ?_
  refine w_bipush X412.here hx (hb hby d_method_3_455) (z := 112) rfl (pc' := 457) rfl ?_
  refine w_castore X412 hx hZ e412 V ⟨by decide, by decide⟩ 4 rfl (Nat.le_of_ble_eq_true rfl) (hb hby d_method_3_457) (pc' := 458) rfl ?_
  intro T415 h415 X415 e415 W415 V
  have C416 : Ext h0 h415 := Ext.wr C413 W415 ge_b_h0
  have C417 : Ext h398 h415 := Ext.wr C414 W415 ge_b_h398
  have N415 := Fr.snoc X415 N412 gb
  refine w_dup X415.here hx (hb hby d_method_3_458) rfl (pc' := 459) rfl ?_
  refine w_iconst X415.here hx (hb hby d_method_3_459) (z := 5) rfl (pc' := 460) rfl ?_
  refine w_bipush X415.here hx (hb hby d_method_3_460) (z := 101) rfl (pc' := 462) rfl ?_
  refine w_castore X415 hx hZ e415 V ⟨by decide, by decide⟩ 5 rfl (Nat.le_of_ble_eq_true rfl) (hb hby d_method_3_462) (pc' := 463) rfl ?_
  intro T418 h418 X418 e418 W418 V
  have C419 : Ext h0 h418 := Ext.wr C416 W418 ge_b_h0
  have C420 : Ext h398 h418 := Ext.wr C417 W418 ge_b_h398
  have N418 := Fr.snoc X418 N415 gb
  refine w_dup X418.here hx (hb hby d_method_3_463) rfl (pc' := 464) rfl ?_
  refine w_bipush X418.here hx (hb hby d_method_3_464) (z := 6) rfl (pc' := 466) rfl ?_
  refine w_bipush X418.here hx (hb hby d_method_3_466) (z := 99) rfl (pc' := 468) rfl ?_
  refine w_castore X418 hx hZ e418 V ⟨by decide, by decide⟩ 6 rfl (Nat.le_of_ble_eq_true rfl) (hb hby d_method_3_468) (pc' := 469) rfl ?_
  intro T421 h421 X421 e421 W421 V
  have C422 : Ext h0 h421 := Ext.wr C419 W421 ge_b_h0
  have C423 : Ext h398 h421 := Ext.wr C420 W421 ge_b_h398
  have N421 := Fr.snoc X421 N418 gb
  refine w_dup X421.here hx (hb hby d_method_3_469) rfl (pc' := 470) rfl ?_
  refine w_bipush X421.here hx (hb hby d_method_3_470) (z := 7) rfl (pc' := 472) rfl ?_
  refine w_bipush X421.here hx (hb hby d_method_3_472) (z := 116) rfl (pc' := 474) rfl ?_
  refine w_castore X421 hx hZ e421 V ⟨by decide, by decide⟩ 7 rfl (Nat.le_of_ble_eq_true rfl) (hb hby d_method_3_474) (pc' := 475) rfl ?_
  intro T424 h424 X424 e424 W424 V
  have C425 : Ext h0 h424 := Ext.wr C422 W424 ge_b_h0
  have C426 : Ext h398 h424 := Ext.wr C423 W424 ge_b_h398
  have N424 := Fr.snoc X424 N421 gb
  refine w_dup X424.here hx (hb hby d_method_3_475) rfl (pc' := 476) rfl ?_
  refine w_bipush X424.here hx (hb hby d_method_3_476) (z := 8) rfl (pc' := 478) rfl ?_
  refine w_bipush X424.here hx (hb hby d_method_3_478) (z := 101) rfl (pc' := 480) rfl ?_
  refine w_castore X424 hx hZ e424 V ⟨by decide, by decide⟩ 8 rfl (Nat.le_of_ble_eq_true rfl) (hb hby d_method_3_480) (pc' := 481) rfl ?_
  intro T427 h427 X427 e427 W427 V
  have C428 : Ext h0 h427 := Ext.wr C425 W427 ge_b_h0
  have C429 : Ext h398 h427 := Ext.wr C426 W427 ge_b_h398
  have N427 := Fr.snoc X427 N424 gb
  refine w_dup X427.here hx (hb hby d_method_3_481) rfl (pc' := 482) rfl ?_
  refine w_bipush X427.here hx (hb hby d_method_3_482) (z := 9) rfl (pc' := 484) rfl ?_
  refine w_bipush X427.here hx (hb hby d_method_3_484) (z := 100) rfl (pc' := 486) rfl ?_
  refine w_castore X427 hx hZ e427 V ⟨by decide, by decide⟩ 9 rfl (Nat.le_of_ble_eq_true rfl) (hb hby d_method_3_486) (pc' := 487) rfl ?_
  intro T430 h430 X430 e430 W430 V
  have C431 : Ext h0 h430 := Ext.wr C428 W430 ge_b_h0
  have C432 : Ext h398 h430 := Ext.wr C429 W430 ge_b_h398
  have N430 := Fr.snoc X430 N427 gb
  refine w_dup X430.here hx (hb hby d_method_3_487) rfl (pc' := 488) rfl ?_
  refine w_bipush X430.here hx (hb hby d_method_3_488) (z := 10) rfl (pc' := 490) rfl ?_
  refine w_bipush X430.here hx (hb hby d_method_3_490) (z := 32) rfl (pc' := 492) rfl ?_
  refine w_castore X430 hx hZ e430 V ⟨by decide, by decide⟩ 10 rfl (Nat.le_of_ble_eq_true rfl) (hb hby d_method_3_492) (pc' := 493) rfl ?_
  intro T433 h433 X433 e433 W433 V
  have C434 : Ext h0 h433 := Ext.wr C431 W433 ge_b_h0
  have C435 : Ext h398 h433 := Ext.wr C432 W433 ge_b_h398
  have N433 := Fr.snoc X433 N430 gb
  refine w_dup X433.here hx (hb hby d_method_3_493) rfl (pc' := 494) rfl ?_
  refine w_bipush X433.here hx (hb hby d_method_3_494) (z := 11) rfl (pc' := 496) rfl ?_
  refine w_bipush X433.here hx (hb hby d_method_3_496) (z := 97) rfl (pc' := 498) rfl ?_
  refine w_castore X433 hx hZ e433 V ⟨by decide, by decide⟩ 11 rfl (Nat.le_of_ble_eq_true rfl) (hb hby d_method_3_498) (pc' := 499) rfl ?_
  intro T436 h436 X436 e436 W436 V
  have C437 : Ext h0 h436 := Ext.wr C434 W436 ge_b_h0
  have C438 : Ext h398 h436 := Ext.wr C435 W436 ge_b_h398
  have N436 := Fr.snoc X436 N433 gb
  refine w_dup X436.here hx (hb hby d_method_3_499) rfl (pc' := 500) rfl ?_
  refine w_bipush X436.here hx (hb hby d_method_3_500) (z := 12) rfl (pc' := 502) rfl ?_
  refine w_bipush X436.here hx (hb hby d_method_3_502) (z := 114) rfl (pc' := 504) rfl ?_
  refine w_castore X436 hx hZ e436 V ⟨by decide, by decide⟩ 12 rfl (Nat.le_of_ble_eq_true rfl) (hb hby d_method_3_504) (pc' := 505) rfl ?_
  intro T439 h439 X439 e439 W439 V
  have C440 : Ext h0 h439 := Ext.wr C437 W439 ge_b_h0
  have C441 : Ext h398 h439 := Ext.wr C438 W439 ge_b_h398
  have N439 := Fr.snoc X439 N436 gb
  refine w_dup X439.here hx (hb hby d_method_3_505) rfl (pc' := 506) rfl ?_
  refine w_bipush X439.here hx (hb hby d_method_3_506) (z := 13) rfl (pc' := 508) rfl ?_
  refine w_bipush X439.here hx (hb hby d_method_3_508) (z := 103) rfl (pc' := 510) rfl ?_
  refine w_castore X439 hx hZ e439 V ⟨by decide, by decide⟩ 13 rfl (Nat.le_of_ble_eq_true rfl) (hb hby d_method_3_510) (pc' := 511) rfl ?_
  intro T442 h442 X442 e442 W442 V
  have C443 : Ext h0 h442 := Ext.wr C440 W442 ge_b_h0
  have C444 : Ext h398 h442 := Ext.wr C441 W442 ge_b_h398
  have N442 := Fr.snoc X442 N439 gb
  refine w_dup X442.here hx (hb hby d_method_3_511) rfl (pc' := 512) rfl ?_
  refine w_bipush X442.here hx (hb hby d_method_3_512) (z := 14) rfl (pc' := 514) rfl ?_
  refine w_bipush X442.here hx (hb hby d_method_3_514) (z := 117) rfl (pc' := 516) rfl ?_
  refine w_castore X442 hx hZ e442 V ⟨by decide, by decide⟩ 14 rfl (Nat.le_of_ble_eq_true rfl) (hb hby d_method_3_516) (pc' := 517) rfl ?_
  intro T445 h445 X445 e445 W445 V
  have C446 : Ext h0 h445 := Ext.wr C443 W445 ge_b_h0
  have C447 : Ext h398 h445 := Ext.wr C444 W445 ge_b_h398
  have N445 := Fr.snoc X445 N442 gb
  refine w_dup X445.here hx (hb hby d_method_3_517) rfl (pc' := 518) rfl ?_
  refine w_bipush X445.here hx (hb hby d_method_3_518) (z := 15) rfl (pc' := 520) rfl ?_
  refine w_bipush X445.here hx (hb hby d_method_3_520) (z := 109) rfl (pc' := 522) rfl ?_
  refine w_castore X445 hx hZ e445 V ⟨by decide, by decide⟩ 15 rfl (Nat.le_of_ble_eq_true rfl) (hb hby d_method_3_522) (pc' := 523) rfl ?_
  intro T448 h448 X448 e448 W448 V
  have C449 : Ext h0 h448 := Ext.wr C446 W448 ge_b_h0
  have C450 : Ext h398 h448 := Ext.wr C447 W448 ge_b_h398
  have N448 := Fr.snoc X448 N445 gb
  refine w_dup X448.here hx (hb hby d_method_3_523) rfl (pc' := 524) rfl ?_
  refine w_bipush X448.here hx (hb hby d_method_3_524) (z := 16) rfl (pc' := 526) rfl ?_
  refine w_bipush X448.here hx (hb hby d_method_3_526) (z := 101) rfl (pc' := 528) rfl ?_
  refine w_castore X448 hx hZ e448 V ⟨by decide, by decide⟩ 16 rfl (Nat.le_of_ble_eq_true rfl) (hb hby d_method_3_528) (pc' := 529) rfl ?_
  intro T451 h451 X451 e451 W451 V
  have C452 : Ext h0 h451 := Ext.wr C449 W451 ge_b_h0
  have C453 : Ext h398 h451 := Ext.wr C450 W451 ge_b_h398
  have N451 := Fr.snoc X451 N448 gb
  refine w_dup X451.here hx (hb hby d_method_3_529) rfl (pc' := 530) rfl ?_
  refine w_bipush X451.here hx (hb hby d_method_3_530) (z := 17) rfl (pc' := 532) rfl ?_
  refine w_bipush X451.here hx (hb hby d_method_3_532) (z := 110) rfl (pc' := 534) rfl ?_
  refine w_castore X451 hx hZ e451 V ⟨by decide, by decide⟩ 17 rfl (Nat.le_of_ble_eq_true rfl) (hb hby d_method_3_534) (pc' := 535) rfl ?_
  intro T454 h454 X454 e454 W454 V
  have C455 : Ext h0 h454 := Ext.wr C452 W454 ge_b_h0
  have C456 : Ext h398 h454 := Ext.wr C453 W454 ge_b_h398
  have N454 := Fr.snoc X454 N451 gb
  refine w_dup X454.here hx (hb hby d_method_3_535) rfl (pc' := 536) rfl ?_
  refine w_bipush X454.here hx (hb hby d_method_3_536) (z := 18) rfl (pc' := 538) rfl ?_
  refine w_bipush X454.here hx (hb hby d_method_3_538) (z := 116) rfl (pc' := 540) rfl ?_
  refine w_castore X454 hx hZ e454 V ⟨by decide, by decide⟩ 18 rfl (Nat.le_of_ble_eq_true rfl) (hb hby d_method_3_540) (pc' := 541) rfl ?_
  intro T457 h457 X457 e457 W457 V
  have C458 : Ext h0 h457 := Ext.wr C455 W457 ge_b_h0
  have C459 : Ext h398 h457 := Ext.wr C456 W457 ge_b_h398
  have N457 := Fr.snoc X457 N454 gb
  refine w_dup X457.here hx (hb hby d_method_3_541) rfl (pc' := 542) rfl ?_
  refine w_bipush X457.here hx (hb hby d_method_3_542) (z := 19) rfl (pc' := 544) rfl ?_
  refine w_bipush X457.here hx (hb hby d_method_3_544) (z := 58) rfl (pc' := 546) rfl ?_
  refine w_castore X457 hx hZ e457 V ⟨by decide, by decide⟩ 19 rfl (Nat.le_of_ble_eq_true rfl) (hb hby d_method_3_546) (pc' := 547) rfl ?_
  intro T460 h460 X460 e460 W460 V
  have C461 : Ext h0 h460 := Ext.wr C458 W460 ge_b_h0
  have C462 : Ext h398 h460 := Ext.wr C459 W460 ge_b_h398
  have N460 := Fr.snoc X460 N457 gb
  refine w_dup X460.here hx (hb hby d_method_3_547) rfl (pc' := 548) rfl ?_
  refine w_bipush X460.here hx (hb hby d_method_3_548) (z := 20) rfl (pc' := 550) rfl ?_
  refine w_bipush X460.here hx (hb hby d_method_3_550) (z := 32) rfl (pc' := 552) rfl ?_
  refine w_castore X460 hx hZ e460 V ⟨by decide, by decide⟩ 20 rfl (Nat.le_of_ble_eq_true rfl) (hb hby d_method_3_552) (pc' := 553) rfl ?_
  intro T463 h463 X463 e463 W463 V
  have C464 : Ext h0 h463 := Ext.wr C461 W463 ge_b_h0
  have C465 : Ext h398 h463 := Ext.wr C462 W463 ge_b_h398
  have N463 := Fr.snoc X463 N460 gb
  refine w_dup X463.here hx (hb hby d_method_3_553) rfl (pc' := 554) rfl ?_
  refine w_bipush X463.here hx (hb hby d_method_3_554) (z := 21) rfl (pc' := 556) rfl ?_
  refine w_iloadN X463.here hx (hb hby d_method_3_556) rfl (pc' := 557) rfl ?_
  refine w_castore X463 hx hZ e463 V ⟨by decide, by decide⟩ 21 rfl (Nat.le_of_ble_eq_true rfl) (hb hby d_method_3_557) (pc' := 558) rfl ?_
  intro T466 h466 X466 e466 W466 V
  have C467 : Ext h0 h466 := Ext.wr C464 W466 ge_b_h0
  have C468 : Ext h398 h466 := Ext.wr C465 W466 ge_b_h398
  have N466 := Fr.snoc X466 N463 gb
  refine w_dup X466.here hx (hb hby d_method_3_558) rfl (pc' := 559) rfl ?_
  refine w_bipush X466.here hx (hb hby d_method_3_559) (z := 22) rfl (pc' := 561) rfl ?_
  refine w_iloadN X466.here hx (hb hby d_method_3_561) rfl (pc' := 562) rfl ?_
  refine w_castore X466 hx hZ e466 V ⟨by decide, by decide⟩ 22 rfl (Nat.le_of_ble_eq_true rfl) (hb hby d_method_3_562) (pc' := 563) rfl ?_
  intro T469 h469 X469 e469 W469 V
  have C470 : Ext h0 h469 := Ext.wr C467 W469 ge_b_h0
  have C471 : Ext h398 h469 := Ext.wr C468 W469 ge_b_h398
  have N469 := Fr.snoc X469 N466 gb
  refine w_dup X469.here hx (hb hby d_method_3_563) rfl (pc' := 564) rfl ?_
  refine w_bipush X469.here hx (hb hby d_method_3_564) (z := 23) rfl (pc' := 566) rfl ?_
  refine w_iloadN X469.here hx (hb hby d_method_3_566) rfl (pc' := 567) rfl ?_
  refine w_castore X469 hx hZ e469 V ⟨by decide, by decide⟩ 23 rfl (Nat.le_of_ble_eq_true rfl) (hb hby d_method_3_567) (pc' := 568) rfl ?_
  intro T472 h472 X472 e472 W472 V
  have C473 : Ext h0 h472 := Ext.wr C470 W472 ge_b_h0
  have C474 : Ext h398 h472 := Ext.wr C471 W472 ge_b_h398
  have N472 := Fr.snoc X472 N469 gb
  have V : Arv Z h472 b kb .char (Int32.ofNat 24) ((preL ++ [c0, c1, c2]).map Value.int) (.int 0) := by have q := V; rw [nar_c hc0, nar_c hc1, nar_c hc2] at q; exact q
  refine w_special X472 hx hZ (y := yq5) rfl hown (tw hw 15 rfl) (tw hw 16 rfl) (tw hw 17 rfl) (by decide) (backC (W := 1) (rmI1 l Z a0 hw x b kb 24 z (preL ++ [c0, c1, c2]) _ _ _ h472 n0 (Nat.le_trans Z0 C473.1) gx (Su.ext C473) V rfl (by decide) (by decide) (preL_rng (fun c hc => by simp only [List.mem_cons, List.not_mem_nil, or_false] at hc; rcases hc with rfl | rfl | rfl <;> assumption)) (A398.ext C474) (FV.ext C474) (FC.ext C474)) hZ (tw hw 17 rfl) (tw hw 2 rfl) (by decide) (by decide)) e472 (by rw [hml]; rfl) (argsL := [(.ref b)]) (st := [(.ref x)]) pd_32 rfl rfl rfl (Nat.le_of_ble_eq_true rfl) (hb hby d_method_3_568) (by decide) (by decide) (pc' := 571) rfl ?_
  intro T475 v475 L475 X475 Q475
  obtain ⟨rfl, N1, K1, G1⟩ := Q475
  show Go _ _ _ _ T475 (mkF m 571 _ [(.ref x)])
  exact endR X475 hx hlk rfl hret rfl (hb hby d_method_3_571) (by decide) (by decide) (⟨x, rfl, Fr.app N472 N1, Ext.kp C473 K1 (allS ge_x_h0 all0), G1⟩)
theorem own_thW : ∀ d ∈ thW "com/example/jarshelf/jarshelf/cli/UsageException", d ∈ tables_1 := by decide +kernel
theorem d_jdk_78m_2_0 : decode jdk_78_method_2_code 0 = .ok (.aload_n 0, 1) := by decide +kernel
theorem d_jdk_78m_2_1 : decode jdk_78_method_2_code 1 = .ok (.invokespecial 1, 3) := by decide +kernel
theorem d_jdk_78m_2_4 : decode jdk_78_method_2_code 4 = .ok (.aload_n 0, 1) := by decide +kernel
theorem d_jdk_78m_2_5 : decode jdk_78_method_2_code 5 = .ok (.aload_n 0, 1) := by decide +kernel
theorem d_jdk_78m_2_6 : decode jdk_78_method_2_code 6 = .ok (.putfield 7, 3) := by decide +kernel
theorem d_jdk_78m_2_9 : decode jdk_78_method_2_code 9 = .ok (.aload_n 0, 1) := by decide +kernel
theorem d_jdk_78m_2_10 : decode jdk_78_method_2_code 10 = .ok (.getstatic 13, 3) := by decide +kernel
theorem d_jdk_78m_2_13 : decode jdk_78_method_2_code 13 = .ok (.putfield 17, 3) := by decide +kernel
theorem d_jdk_78m_2_16 : decode jdk_78_method_2_code 16 = .ok (.aload_n 0, 1) := by decide +kernel
theorem d_jdk_78m_2_17 : decode jdk_78_method_2_code 17 = .ok (.getstatic 20, 3) := by decide +kernel
theorem d_jdk_78m_2_20 : decode jdk_78_method_2_code 20 = .ok (.putfield 24, 3) := by decide +kernel
theorem d_jdk_78m_2_23 : decode jdk_78_method_2_code 23 = .ok (.aload_n 0, 1) := by decide +kernel
theorem d_jdk_78m_2_24 : decode jdk_78_method_2_code 24 = .ok (.invokevirtual 27, 3) := by decide +kernel
theorem d_jdk_78m_2_27 : decode jdk_78_method_2_code 27 = .ok (.pop, 1) := by decide +kernel
theorem d_jdk_78m_2_28 : decode jdk_78_method_2_code 28 = .ok (.aload_n 0, 1) := by decide +kernel
theorem d_jdk_78m_2_29 : decode jdk_78_method_2_code 29 = .ok (.aload_n 1, 1) := by decide +kernel
theorem d_jdk_78m_2_30 : decode jdk_78_method_2_code 30 = .ok (.putfield 31, 3) := by decide +kernel
theorem d_jdk_78m_2_33 : decode jdk_78_method_2_code 33 = .ok (.return_, 1) := by decide +kernel
theorem pn_9 : plainName "java/lang/Throwable" = true := by first | (simp [plainName, overriddenIn]; done) | decide +kernel
set_option maxRecDepth 65536 in
set_option maxHeartbeats 40000000 in
theorem rmTh (l : Launch) (Z : State) (a0 : Array Value) (hw : ∀ d ∈ tables_1, d.before a0 Z = true) (hl : l.stackTraces = true) (a mg : Addr) (u0 sen : RefV) (h0 : Heap) (n0 : Nat) (ga : n0 ≤ a) (Tp : ThP Z h0 u0 sen) (E : Exa Z h0 a "com/example/jarshelf/jarshelf/cli/UsageException") (U : Unt h0 a) (FB : Fld Z h0 a "java/lang/Throwable" "backtrace" "Ljava/lang/Object;" .null) :
    CtK l (⟨"java/lang/Throwable", "<init>", "(Ljava/lang/String;)V"⟩ : MethodName) jdk_78_method_2_code 2 none ({ frames := 3, cells := 1, slots := 2752, locals := 42 } : Room) Z #[(.ref a), (.ref mg)] h0 (fun v h L => v = none ∧ Fr n0 L ∧ Keep h0 h [a] ∧ Fld Z h a "java/lang/Throwable" "detailMessage" "Ljava/lang/String;" (.ref mg)) := by
  refine ct_ofK (Q := fun v h L => v = none ∧ Fr n0 L ∧ Keep h0 h [a] ∧ Fld Z h a "java/lang/Throwable" "detailMessage" "Ljava/lang/String;" (.ref mg)) (plainFor_of_name pn_9) ?_
  intro p e s m below meth c s₁ X0 hx hby hml hret hnm hlk hown hZ hs0 e0 hTK hBelow
  have N0 := Fr.nil n0
  rw [show entryFrame m #[(.ref a), (.ref mg)] 2 = mkF m 0 #[.val (.ref a), .val (.ref mg)] [] from by first | (simp [entryFrame, mkF, argsToLocals, Value.category]; done) | rfl]
  have hT0 : ThS Z s.heap := by rw [hs0]; exact Tp.1
  refine w_aloadN X0.here hx (hb hby d_jdk_78m_2_0) rfl rfl (pc' := 1) rfl ?_
  refine w_initO X0 hx hZ hown (tw hw 192 rfl) (tw hw 23 rfl) (tw hw 24 rfl) e0 (by rw [hml]; rfl) (hb hby d_jdk_78m_2_1) (by decide) (W := 0) (Nat.le_of_ble_eq_true rfl) (by decide) (pc' := 4) rfl ?_
  intro T476 X476 e476
  refine w_aloadN X476.here hx (hb hby d_jdk_78m_2_4) rfl rfl (pc' := 5) rfl ?_
  refine w_aloadN X476.here hx (hb hby d_jdk_78m_2_5) rfl rfl (pc' := 6) rfl ?_
  obtain ⟨v1, FC⟩ := fld_laid (O := "java/lang/Throwable") (n := "cause") (d := "Ljava/lang/Throwable;") E (Unt.known U) (tw hw 43 rfl) (Or.inl (tw hw 194 rfl))
  obtain ⟨v2, FS⟩ := fld_laid (O := "java/lang/Throwable") (n := "stackTrace") (d := "[Ljava/lang/StackTraceElement;") E (Unt.known U) (tw hw 43 rfl) (Or.inl (tw hw 197 rfl))
  obtain ⟨v3, FP⟩ := fld_laid (O := "java/lang/Throwable") (n := "suppressedExceptions") (d := "Ljava/util/List;") E (Unt.known U) (tw hw 43 rfl) (Or.inl (tw hw 200 rfl))
  refine w_putF X476 hx hZ hown (tw hw 193 rfl) Via.refl e476 FC E (Or.inl (tw hw 194 rfl)) (tw hw 43 rfl) (ty := (.object "java/lang/Throwable")) (by decide) rfl rfl (hb hby d_jdk_78m_2_6) (pc' := 9) rfl ?_
  intro T477 h477 X477 e477 W477
  have E1 := E.wr W477
  have U1 := Unt.wr W477 U
  have FB1 := FB.other W477 (Or.inr (slot_ne (Or.inl (tw hw 225 rfl)) (Or.inl (tw hw 194 rfl)) (by decide) (t := (.object "java/lang/Object")) (t' := (.object "java/lang/Throwable")) (by decide) (by decide)))
  have FS1 := FS.other W477 (Or.inr (slot_ne (Or.inl (tw hw 197 rfl)) (Or.inl (tw hw 194 rfl)) (by decide) (t := (.array (.object "java/lang/StackTraceElement"))) (t' := (.object "java/lang/Throwable")) (by decide) (by decide)))
  have FP1 := FP.other W477 (Or.inr (slot_ne (Or.inl (tw hw 200 rfl)) (Or.inl (tw hw 194 rfl)) (by decide) (t := (.object "java/util/List")) (t' := (.object "java/lang/Throwable")) (by decide) (by decide)))
  have Tp1 := Tp.wr W477
  refine w_aloadN X477.here hx (hb hby d_jdk_78m_2_9) rfl rfl (pc' := 10) rfl ?_
  refine w_getS X477 hx hZ hown (tw hw 195 rfl) Via.refl e477 Tp1.2.1 (hb hby d_jdk_78m_2_10) (pc' := 13) rfl ?_
  intro T478 X478 e478
  refine w_putF X478 hx hZ hown (tw hw 196 rfl) Via.refl e478 FS1 E1 (Or.inl (tw hw 197 rfl)) (tw hw 43 rfl) (ty := (.array (.object "java/lang/StackTraceElement"))) (by decide) (narrow_refV _ _) (fits_refV_array _ u0) (hb hby d_jdk_78m_2_13) (pc' := 16) rfl ?_
  intro T479 h479 X479 e479 W479
  have E2 := E1.wr W479
  have U2 := Unt.wr W479 U1
  have FB2 := FB1.other W479 (Or.inr (slot_ne (Or.inl (tw hw 225 rfl)) (Or.inl (tw hw 197 rfl)) (by decide) (t := (.object "java/lang/Object")) (t' := (.array (.object "java/lang/StackTraceElement"))) (by decide) (by decide)))
  have FS2 := Fld.same W479 FS1
  have FP2 := FP1.other W479 (Or.inr (slot_ne (Or.inl (tw hw 200 rfl)) (Or.inl (tw hw 197 rfl)) (by decide) (t := (.object "java/util/List")) (t' := (.array (.object "java/lang/StackTraceElement"))) (by decide) (by decide)))
  have Tp2 := Tp1.wr W479
  refine w_aloadN X479.here hx (hb hby d_jdk_78m_2_16) rfl rfl (pc' := 17) rfl ?_
  refine w_getS X479 hx hZ hown (tw hw 198 rfl) Via.refl e479 Tp2.2.2 (hb hby d_jdk_78m_2_17) (pc' := 20) rfl ?_
  intro T480 X480 e480
  refine w_putF X480 hx hZ hown (tw hw 199 rfl) Via.refl e480 FP2 E2 (Or.inl (tw hw 200 rfl)) (tw hw 43 rfl) (ty := (.object "java/util/List")) (by decide) (narrow_refV _ _) (fits_refV_object _ sen) (hb hby d_jdk_78m_2_20) (pc' := 23) rfl ?_
  intro T481 h481 X481 e481 W481
  have E3 := E2.wr W481
  have U3 := Unt.wr W481 U2
  have FB3 := FB2.other W481 (Or.inr (slot_ne (Or.inl (tw hw 225 rfl)) (Or.inl (tw hw 200 rfl)) (by decide) (t := (.object "java/lang/Object")) (t' := (.object "java/util/List")) (by decide) (by decide)))
  have FS3 := FS2.other W481 (Or.inr (slot_ne (Or.inl (tw hw 197 rfl)) (Or.inl (tw hw 200 rfl)) (by decide) (t := (.array (.object "java/lang/StackTraceElement"))) (t' := (.object "java/util/List")) (by decide) (by decide)))
  have Tp3 := Tp2.wr W481
  refine w_aloadN X481.here hx (hb hby d_jdk_78m_2_23) rfl rfl (pc' := 24) rfl ?_
  refine w_fill X481 hx hl hZ (rc := "com/example/jarshelf/jarshelf/cli/UsageException") hown (fun d hd => hw d (own_thW d hd)) (tw hw 43 rfl) hT0 hTK hBelow e481 E3 U3 (u0 := u0) Tp3.2.1 FS3 FB3 (by rw [hml]; rfl) (hb hby d_jdk_78m_2_24) (by decide) (W := 0) (Nat.le_of_ble_eq_true rfl) (by decide) (by decide) (by decide) (pc' := 27) rfl ?_
  intro T9 L9 X9 bL
  have K9 : Keep h0 T9.heap [a] := keep_st X9 hs0 (baseA (baseS (baseS (baseS (fun _ q => nomatch q)))) bL)
  have E9 := E.keep K9
  obtain ⟨v4, FM⟩ := fld_laid (O := "java/lang/Throwable") (n := "detailMessage") (d := "Ljava/lang/String;") E9 (unt_kn U K9) (tw hw 43 rfl) (Or.inl (tw hw 224 rfl))
  refine w_pop X9.here hx (hb hby d_jdk_78m_2_27) rfl (pc' := 28) rfl ?_
  refine w_aloadN X9.here hx (hb hby d_jdk_78m_2_28) rfl rfl (pc' := 29) rfl ?_
  refine w_aloadN X9.here hx (hb hby d_jdk_78m_2_29) rfl rfl (pc' := 30) rfl ?_
  refine w_putF X9 hx hZ hown (tw hw 228 rfl) Via.refl rfl FM E9 (Or.inl (tw hw 224 rfl)) (tw hw 43 rfl) (ty := (.object "java/lang/String")) (by decide) rfl rfl (hb hby d_jdk_78m_2_30) (pc' := 33) rfl ?_
  intro T482 h482 X482 e482 W482
  exact endV X482 hx hlk hret (hb hby d_jdk_78m_2_33) (by decide) (by decide) (by rw [e482]; exact ⟨rfl, base_fr (baseS (baseA (baseS (baseS (baseS (fun _ q => nomatch q)))) bL)) ga, K9.wr W482 (Or.inl (List.mem_cons_self ..)), Fld.same W482 FM⟩)
theorem d_jdk_59m_2_0 : decode jdk_59_method_2_code 0 = .ok (.aload_n 0, 1) := by decide +kernel
theorem d_jdk_59m_2_1 : decode jdk_59_method_2_code 1 = .ok (.aload_n 1, 1) := by decide +kernel
theorem d_jdk_59m_2_2 : decode jdk_59_method_2_code 2 = .ok (.invokespecial 7, 3) := by decide +kernel
theorem d_jdk_59m_2_5 : decode jdk_59_method_2_code 5 = .ok (.return_, 1) := by decide +kernel
theorem pn_10 : plainName "java/lang/Exception" = true := by first | (simp [plainName, overriddenIn]; done) | decide +kernel
set_option maxRecDepth 65536 in
set_option maxHeartbeats 40000000 in
theorem rmEx (l : Launch) (Z : State) (a0 : Array Value) (hw : ∀ d ∈ tables_1, d.before a0 Z = true) (hl : l.stackTraces = true) (a mg : Addr) (u0 sen : RefV) (h0 : Heap) (n0 : Nat) (ga : n0 ≤ a) (Tp : ThP Z h0 u0 sen) (E : Exa Z h0 a "com/example/jarshelf/jarshelf/cli/UsageException") (U : Unt h0 a) (FB : Fld Z h0 a "java/lang/Throwable" "backtrace" "Ljava/lang/Object;" .null) :
    CtK l (⟨"java/lang/Exception", "<init>", "(Ljava/lang/String;)V"⟩ : MethodName) jdk_59_method_2_code 2 none ({ frames := 4, cells := 1, slots := 2752, locals := 55 } : Room) Z #[(.ref a), (.ref mg)] h0 (fun v h L => v = none ∧ Fr n0 L ∧ Keep h0 h [a] ∧ Fld Z h a "java/lang/Throwable" "detailMessage" "Ljava/lang/String;" (.ref mg)) := by
  refine ct_ofK (Q := fun v h L => v = none ∧ Fr n0 L ∧ Keep h0 h [a] ∧ Fld Z h a "java/lang/Throwable" "detailMessage" "Ljava/lang/String;" (.ref mg)) (plainFor_of_name pn_10) ?_
  intro p e s m below meth c s₁ X0 hx hby hml hret hnm hlk hown hZ hs0 e0 hTK hBelow
  have N0 := Fr.nil n0
  rw [show entryFrame m #[(.ref a), (.ref mg)] 2 = mkF m 0 #[.val (.ref a), .val (.ref mg)] [] from by first | (simp [entryFrame, mkF, argsToLocals, Value.category]; done) | rfl]
  refine w_aloadN X0.here hx (hb hby d_jdk_59m_2_0) rfl rfl (pc' := 1) rfl ?_
  refine w_aloadN X0.here hx (hb hby d_jdk_59m_2_1) rfl rfl (pc' := 2) rfl ?_
  refine w_special X0 hx hZ (y := (⟨"java/lang/Throwable", "<init>", "(Ljava/lang/String;)V"⟩ : MethodName)) rfl hown (tw hw 186 rfl) (tw hw 187 rfl) (tw hw 191 rfl) (by decide) (backCK (W := 0) (rmTh l Z a0 hw hl a mg u0 sen h0 n0 ga Tp E U FB) hZ (tw hw 191 rfl) (tw hw 190 rfl) (by decide) (by decide) hTK hBelow) e0 (by rw [hml]; rfl) (argsL := [(.ref mg)]) (st := []) pd_17 rfl rfl rfl (Nat.le_of_ble_eq_true rfl) (hb hby d_jdk_59m_2_2) (by decide) (by decide) (pc' := 5) rfl ?_
  intro T483 v483 L483 X483 Q483
  obtain ⟨rfl, N1, K1, FD⟩ := Q483
  show Go _ _ _ _ T483 (mkF m 5 _ [])
  exact endV X483 hx hlk hret (hb hby d_jdk_59m_2_5) (by decide) (by decide) (⟨rfl, Fr.app N0 N1, K1, FD⟩)
theorem d_prog_7m_2_0 : decode prog_7_method_2_code 0 = .ok (.aload_n 0, 1) := by decide +kernel
theorem d_prog_7m_2_1 : decode prog_7_method_2_code 1 = .ok (.aload_n 1, 1) := by decide +kernel
theorem d_prog_7m_2_2 : decode prog_7_method_2_code 2 = .ok (.invokespecial 13, 3) := by decide +kernel
theorem d_prog_7m_2_5 : decode prog_7_method_2_code 5 = .ok (.aload_n 0, 1) := by decide +kernel
theorem d_prog_7m_2_6 : decode prog_7_method_2_code 6 = .ok (.aload_n 2, 1) := by decide +kernel
theorem d_prog_7m_2_7 : decode prog_7_method_2_code 7 = .ok (.putfield 18, 3) := by decide +kernel
theorem d_prog_7m_2_10 : decode prog_7_method_2_code 10 = .ok (.return_, 1) := by decide +kernel
theorem pn_11 : plainName "com/example/jarshelf/jarshelf/cli/UsageException" = true := by first | (simp [plainName, overriddenIn]; done) | decide +kernel
set_option maxRecDepth 65536 in
set_option maxHeartbeats 40000000 in
theorem rmU2 (l : Launch) (Z : State) (a0 : Array Value) (hw : ∀ d ∈ tables_1, d.before a0 Z = true) (hl : l.stackTraces = true) (a mg sy : Addr) (u0 sen : RefV) (h0 : Heap) (n0 : Nat) (ga : n0 ≤ a) (Tp : ThP Z h0 u0 sen) (E : Exa Z h0 a "com/example/jarshelf/jarshelf/cli/UsageException") (U : Unt h0 a) (FB : Fld Z h0 a "java/lang/Throwable" "backtrace" "Ljava/lang/Object;" .null) :
    CtK l (⟨"com/example/jarshelf/jarshelf/cli/UsageException", "<init>", "(Ljava/lang/String;Ljava/lang/String;)V"⟩ : MethodName) prog_7_method_2_code 3 none ({ frames := 5, cells := 1, slots := 2752, locals := 68 } : Room) Z #[(.ref a), (.ref mg), (.ref sy)] h0 (fun v h L => v = none ∧ Fr n0 L ∧ Keep h0 h [a] ∧ Fld Z h a "java/lang/Throwable" "detailMessage" "Ljava/lang/String;" (.ref mg) ∧ Fld Z h a "com/example/jarshelf/jarshelf/cli/UsageException" "synopsis" "Ljava/lang/String;" (.ref sy)) := by
  refine ct_ofK (Q := fun v h L => v = none ∧ Fr n0 L ∧ Keep h0 h [a] ∧ Fld Z h a "java/lang/Throwable" "detailMessage" "Ljava/lang/String;" (.ref mg) ∧ Fld Z h a "com/example/jarshelf/jarshelf/cli/UsageException" "synopsis" "Ljava/lang/String;" (.ref sy)) (plainFor_of_name pn_11) ?_
  intro p e s m below meth c s₁ X0 hx hby hml hret hnm hlk hown hZ hs0 e0 hTK hBelow
  have N0 := Fr.nil n0
  rw [show entryFrame m #[(.ref a), (.ref mg), (.ref sy)] 3 = mkF m 0 #[.val (.ref a), .val (.ref mg), .val (.ref sy)] [] from by first | (simp [entryFrame, mkF, argsToLocals, Value.category]; done) | rfl]
  refine w_aloadN X0.here hx (hb hby d_prog_7m_2_0) rfl rfl (pc' := 1) rfl ?_
  refine w_aloadN X0.here hx (hb hby d_prog_7m_2_1) rfl rfl (pc' := 2) rfl ?_
  refine w_special X0 hx hZ (y := (⟨"java/lang/Exception", "<init>", "(Ljava/lang/String;)V"⟩ : MethodName)) rfl hown (tw hw 181 rfl) (tw hw 182 rfl) (tw hw 185 rfl) (by decide) (backCK (W := 0) (rmEx l Z a0 hw hl a mg u0 sen h0 n0 ga Tp E U FB) hZ (tw hw 185 rfl) (tw hw 184 rfl) (by decide) (by decide) hTK hBelow) e0 (by rw [hml]; rfl) (argsL := [(.ref mg)]) (st := []) pd_17 rfl rfl rfl (Nat.le_of_ble_eq_true rfl) (hb hby d_prog_7m_2_2) (by decide) (by decide) (pc' := 5) rfl ?_
  intro T484 v484 L484 X484 Q484
  obtain ⟨rfl, N1, K1, FD⟩ := Q484
  show Go _ _ _ _ T484 (mkF m 5 _ [])
  have E9 := E.keep K1
  obtain ⟨v1, FY⟩ := fld_laid (O := "com/example/jarshelf/jarshelf/cli/UsageException") (n := "synopsis") (d := "Ljava/lang/String;") E9 (unt_kn U K1) (tw hw 43 rfl) (Or.inr (tw hw 230 rfl))
  refine w_aloadN X484.here hx (hb hby d_prog_7m_2_5) rfl rfl (pc' := 6) rfl ?_
  refine w_aloadN X484.here hx (hb hby d_prog_7m_2_6) rfl rfl (pc' := 7) rfl ?_
  refine w_putF X484 hx hZ hown (tw hw 229 rfl) Via.refl rfl FY E9 (Or.inr ⟨(tw hw 230 rfl), rfl, hnm⟩) (tw hw 43 rfl) (ty := (.object "java/lang/String")) (by decide) rfl rfl (hb hby d_prog_7m_2_7) (pc' := 10) rfl ?_
  intro T485 h485 X485 e485 W485
  exact endV X485 hx hlk hret (hb hby d_prog_7m_2_10) (by decide) (by decide) (by rw [e485]; exact ⟨rfl, Fr.snoc X485 (Fr.app N0 N1) ga, K1.wr W485 (Or.inl (List.mem_cons_self ..)), FD.other W485 (Or.inr (slot_ne (Or.inl (tw hw 224 rfl)) (Or.inr (tw hw 230 rfl)) (by decide) (t := (.object "java/lang/String")) (t' := (.object "java/lang/String")) (by decide) (by decide))), Fld.same W485 FY⟩)
theorem d_prog_7m_1_0 : decode prog_7_method_1_code 0 = .ok (.aload_n 0, 1) := by decide +kernel
theorem d_prog_7m_1_1 : decode prog_7_method_1_code 1 = .ok (.aload_n 1, 1) := by decide +kernel
theorem d_prog_7m_1_2 : decode prog_7_method_1_code 2 = .ok (.getstatic 1, 3) := by decide +kernel
theorem pd_33 : parseMethodDescriptor "(Ljava/lang/String;Ljava/lang/String;)V" = some ⟨[(.object "java/lang/String"), (.object "java/lang/String")], none⟩ := by decide +kernel
theorem d_prog_7m_1_5 : decode prog_7_method_1_code 5 = .ok (.invokespecial 7, 3) := by decide +kernel
theorem d_prog_7m_1_8 : decode prog_7_method_1_code 8 = .ok (.return_, 1) := by decide +kernel
set_option maxRecDepth 65536 in
set_option maxHeartbeats 40000000 in
theorem rmU1 (l : Launch) (Z : State) (a0 : Array Value) (hw : ∀ d ∈ tables_1, d.before a0 Z = true) (hl : l.stackTraces = true) (a mg sy : Addr) (u0 sen : RefV) (h0 : Heap) (n0 : Nat) (ga : n0 ≤ a) (Tp : ThP Z h0 u0 sen) (E : Exa Z h0 a "com/example/jarshelf/jarshelf/cli/UsageException") (U : Unt h0 a) (FB : Fld Z h0 a "java/lang/Throwable" "backtrace" "Ljava/lang/Object;" .null) (Sy : Sta Z h0 "com/example/jarshelf/jarshelf/cli/CommandLine" "SYNOPSIS" "Ljava/lang/String;" (.ref sy)) :
    CtK l yq26 prog_7_method_1_code 2 none ({ frames := 6, cells := 1, slots := 2752, locals := 82 } : Room) Z #[(.ref a), (.ref mg)] h0 (fun v h L => v = none ∧ Fr n0 L ∧ Keep h0 h [a] ∧ Fld Z h a "java/lang/Throwable" "detailMessage" "Ljava/lang/String;" (.ref mg) ∧ Fld Z h a "com/example/jarshelf/jarshelf/cli/UsageException" "synopsis" "Ljava/lang/String;" (.ref sy)) := by
  refine ct_ofK (Q := fun v h L => v = none ∧ Fr n0 L ∧ Keep h0 h [a] ∧ Fld Z h a "java/lang/Throwable" "detailMessage" "Ljava/lang/String;" (.ref mg) ∧ Fld Z h a "com/example/jarshelf/jarshelf/cli/UsageException" "synopsis" "Ljava/lang/String;" (.ref sy)) (plainFor_of_name pn_11) ?_
  intro p e s m below meth c s₁ X0 hx hby hml hret hnm hlk hown hZ hs0 e0 hTK hBelow
  have N0 := Fr.nil n0
  rw [show entryFrame m #[(.ref a), (.ref mg)] 2 = mkF m 0 #[.val (.ref a), .val (.ref mg)] [] from by first | (simp [entryFrame, mkF, argsToLocals, Value.category]; done) | rfl]
  refine w_aloadN X0.here hx (hb hby d_prog_7m_1_0) rfl rfl (pc' := 1) rfl ?_
  refine w_aloadN X0.here hx (hb hby d_prog_7m_1_1) rfl rfl (pc' := 2) rfl ?_
  refine w_getS X0 hx hZ hown (tw hw 175 rfl) Via.refl e0 Sy (hb hby d_prog_7m_1_2) (pc' := 5) rfl ?_
  intro T486 X486 e486
  refine w_special X486 hx hZ (y := (⟨"com/example/jarshelf/jarshelf/cli/UsageException", "<init>", "(Ljava/lang/String;Ljava/lang/String;)V"⟩ : MethodName)) rfl hown (tw hw 178 rfl) (tw hw 179 rfl) (tw hw 180 rfl) (by decide) (backCK (W := 0) (rmU2 l Z a0 hw hl a mg sy u0 sen h0 n0 ga Tp E U FB) hZ (tw hw 180 rfl) (tw hw 40 rfl) (by decide) (by decide) hTK hBelow) e486 (by rw [hml]; rfl) (argsL := [(.ref mg), (.ref sy)]) (st := []) pd_33 rfl rfl rfl (Nat.le_of_ble_eq_true rfl) (hb hby d_prog_7m_1_5) (by decide) (by decide) (pc' := 8) rfl ?_
  intro T487 v487 L487 X487 Q487
  obtain ⟨rfl, N1, G1⟩ := Q487
  show Go _ _ _ _ T487 (mkF m 8 _ [])
  exact endV X487 hx hlk hret (hb hby d_prog_7m_1_8) (by decide) (by decide) (⟨rfl, Fr.app N0 N1, G1⟩)
theorem d_jdk_78m_6_0 : decode jdk_78_method_6_code 0 = .ok (.aload_n 0, 1) := by decide +kernel
theorem d_jdk_78m_6_1 : decode jdk_78_method_6_code 1 = .ok (.getfield 31, 3) := by decide +kernel
theorem d_jdk_78m_6_4 : decode jdk_78_method_6_code 4 = .ok (.areturn, 1) := by decide +kernel
set_option maxRecDepth 65536 in
set_option maxHeartbeats 40000000 in
theorem rmGM (l : Launch) (Z : State) (a0 : Array Value) (hw : ∀ d ∈ tables_1, d.before a0 Z = true) (a y : Addr) (h0 : Heap) (F : Fld Z h0 a "java/lang/Throwable" "detailMessage" "Ljava/lang/String;" (.ref y)) :
    Ct l (⟨"java/lang/Throwable", "getMessage", "()Ljava/lang/String;"⟩ : MethodName) jdk_78_method_6_code 1 (some (.object "java/lang/String")) ({ frames := 0, cells := 0, slots := 0, locals := 0 } : Room) Z #[(.ref a)] h0 (fun v h L => v = some (.ref y) ∧ L = [] ∧ h = h0) := by
  refine ct_of (Q := fun v h L => v = some (.ref y) ∧ L = [] ∧ h = h0) (plainFor_of_name pn_9) ?_
  intro p e s m below meth c s₁ X0 hx hby hml hret hnm hlk hown hZ hs0 e0
  rw [show entryFrame m #[(.ref a)] 1 = mkF m 0 #[.val (.ref a)] [] from by first | (simp [entryFrame, mkF, argsToLocals, Value.category]; done) | rfl]
  refine w_aloadN X0.here hx (hb hby d_jdk_78m_6_0) rfl rfl (pc' := 1) rfl ?_
  refine w_getF X0 hx hZ hown (tw hw 228 rfl) Via.refl e0 F (hb hby d_jdk_78m_6_1) (pc' := 4) rfl ?_
  intro T488 X488 e488
  exact endR X488 hx hlk rfl hret rfl (hb hby d_jdk_78m_6_4) (by decide) (by decide) (by rw [e488]; exact ⟨rfl, rfl, rfl⟩)
theorem d_prog_7m_5_0 : decode prog_7_method_5_code 0 = .ok (.aload_n 0, 1) := by decide +kernel
theorem d_prog_7m_5_1 : decode prog_7_method_5_code 1 = .ok (.getfield 18, 3) := by decide +kernel
theorem d_prog_7m_5_4 : decode prog_7_method_5_code 4 = .ok (.areturn, 1) := by decide +kernel
set_option maxRecDepth 65536 in
set_option maxHeartbeats 40000000 in
theorem rmSY (l : Launch) (Z : State) (a0 : Array Value) (hw : ∀ d ∈ tables_1, d.before a0 Z = true) (a y : Addr) (h0 : Heap) (F : Fld Z h0 a "com/example/jarshelf/jarshelf/cli/UsageException" "synopsis" "Ljava/lang/String;" (.ref y)) :
    Ct l yq27 prog_7_method_5_code 1 (some (.object "java/lang/String")) ({ frames := 0, cells := 0, slots := 0, locals := 0 } : Room) Z #[(.ref a)] h0 (fun v h L => v = some (.ref y) ∧ L = [] ∧ h = h0) := by
  refine ct_of (Q := fun v h L => v = some (.ref y) ∧ L = [] ∧ h = h0) (plainFor_of_name pn_11) ?_
  intro p e s m below meth c s₁ X0 hx hby hml hret hnm hlk hown hZ hs0 e0
  rw [show entryFrame m #[(.ref a)] 1 = mkF m 0 #[.val (.ref a)] [] from by first | (simp [entryFrame, mkF, argsToLocals, Value.category]; done) | rfl]
  refine w_aloadN X0.here hx (hb hby d_prog_7m_5_0) rfl rfl (pc' := 1) rfl ?_
  refine w_getF X0 hx hZ hown (tw hw 229 rfl) Via.refl e0 F (hb hby d_prog_7m_5_1) (pc' := 4) rfl ?_
  intro T489 X489 e489
  exact endR X489 hx hlk rfl hret rfl (hb hby d_prog_7m_5_4) (by decide) (by decide) (by rw [e489]; exact ⟨rfl, rfl, rfl⟩)
theorem preL_lobs : ([(.int 117), (.int 110), (.int 101), (.int 120), (.int 112), (.int 101), (.int 99), (.int 116), (.int 101), (.int 100), (.int 32), (.int 97), (.int 114), (.int 103), (.int 117), (.int 109), (.int 101), (.int 110), (.int 116), (.int 58), (.int 32)] : List Value) = lobs preL := by first | rfl | decide +kernel
theorem d_prog_7m_4_0 : decode prog_7_method_4_code 0 = .ok (.new 8, 3) := by decide +kernel
theorem d_prog_7m_4_3 : decode prog_7_method_4_code 3 = .ok (.dup, 1) := by decide +kernel
theorem d_prog_7m_4_4 : decode prog_7_method_4_code 4 = .ok (.new 21, 3) := by decide +kernel
theorem d_prog_7m_4_7 : decode prog_7_method_4_code 7 = .ok (.dup, 1) := by decide +kernel
theorem d_prog_7m_4_8 : decode prog_7_method_4_code 8 = .ok (.invokespecial 23, 3) := by decide +kernel
theorem d_prog_7m_4_11 : decode prog_7_method_4_code 11 = .ok (.ldc 37, 2) := by decide +kernel
theorem pd_34 : parseMethodDescriptor "(Ljava/lang/String;)Ljava/lang/StringBuilder;" = some ⟨[(.object "java/lang/String")], some (.object "java/lang/StringBuilder")⟩ := by decide +kernel
theorem d_prog_7m_4_13 : decode prog_7_method_4_code 13 = .ok (.invokevirtual 28, 3) := by decide +kernel
theorem d_prog_7m_4_16 : decode prog_7_method_4_code 16 = .ok (.aload_n 0, 1) := by decide +kernel
theorem d_prog_7m_4_17 : decode prog_7_method_4_code 17 = .ok (.invokevirtual 28, 3) := by decide +kernel
theorem pd_35 : parseMethodDescriptor "()Ljava/lang/String;" = some ⟨[], some (.object "java/lang/String")⟩ := by decide +kernel
theorem d_prog_7m_4_20 : decode prog_7_method_4_code 20 = .ok (.invokevirtual 32, 3) := by decide +kernel
theorem d_prog_7m_4_23 : decode prog_7_method_4_code 23 = .ok (.invokespecial 36, 3) := by decide +kernel
theorem d_prog_7m_4_26 : decode prog_7_method_4_code 26 = .ok (.areturn, 1) := by decide +kernel
set_option maxRecDepth 65536 in
set_option maxHeartbeats 40000000 in
theorem rmUA (l : Launch) (Z : State) (a0 : Array Value) (hw : ∀ d ∈ tables_1, d.before a0 Z = true) (hEL : EW Z a0 EL0) (hl : l.stackTraces = true) (ar : Addr) (ds : List Int32) (z : Int32) (u0 sen : RefV) (sy : Addr) (fm : Value) (hfm : fm.isRef = true) (h0 : Heap) (n0 : Nat) (Z0 : n0 ≤ h0.size) (Su : SU Z h0 z) (Tp : ThP Z h0 u0 sen) (Fm : Sta Z h0 "jdk/internal/util/Preconditions" "SIOOBE_FORMATTER" "Ljava/util/function/BiFunction;" fm) (Sy : Sta Z h0 "com/example/jarshelf/jarshelf/cli/CommandLine" "SYNOPSIS" "Ljava/lang/String;" (.ref sy)) (hds : ds.length ≤ 3) (A : StrOf Z h0 ar ds) :
    CtWK l (⟨"com/example/jarshelf/jarshelf/cli/UsageException", "unexpectedArgument", "(Ljava/lang/String;)Lcom/example/jarshelf/jarshelf/cli/UsageException;"⟩ : MethodName) prog_7_method_4_code 1 (some (.object "com/example/jarshelf/jarshelf/cli/UsageException")) ({ frames := 10, cells := 10, slots := 3021, locals := 145 } : Room) Z EL0 #[(.ref ar)] h0 (fun v h L => ∃ x mg, v = some (.ref x) ∧ Fr n0 L ∧ Ext h0 h ∧ Exa Z h x "com/example/jarshelf/jarshelf/cli/UsageException" ∧ Fld Z h x "java/lang/Throwable" "detailMessage" "Ljava/lang/String;" (.ref mg) ∧ StrOf Z h mg (preL ++ ds) ∧ Fld Z h x "com/example/jarshelf/jarshelf/cli/UsageException" "synopsis" "Ljava/lang/String;" (.ref sy)) := by
  refine ct_ofWK (Q := fun v h L => ∃ x mg, v = some (.ref x) ∧ Fr n0 L ∧ Ext h0 h ∧ Exa Z h x "com/example/jarshelf/jarshelf/cli/UsageException" ∧ Fld Z h x "java/lang/Throwable" "detailMessage" "Ljava/lang/String;" (.ref mg) ∧ StrOf Z h mg (preL ++ ds) ∧ Fld Z h x "com/example/jarshelf/jarshelf/cli/UsageException" "synopsis" "Ljava/lang/String;" (.ref sy)) (plainFor_of_name pn_11) hEL ?_
  intro p e s m below meth c s₁ X0 hx hby hml hret hnm hlk D0 hs0 e0 hTK hBelow
  have N0 := Fr.nil n0
  rw [show entryFrame m #[(.ref ar)] 1 = mkF m 0 #[.val (.ref ar)] [] from by first | (simp [entryFrame, mkF, argsToLocals, Value.category]; done) | rfl]
  have D := D0
  have En : Ext h0 h0 := Ext.rfl'
  refine w_new X0 hx D.zw D.ow (tw hw 42 rfl) (tw hw 43 rfl) (tw hw 40 rfl) e0 (hb hby d_prog_7m_4_0) (by decide) (by decide) (pc' := 3) rfl ?_
  intro T490 h490 x gx X490 e490 E490 A490 D490 U490
  replace En := Ext.trs En E490
  replace D := D.ext E490
  have ge_x : h0.size ≤ x := Nat.le_of_eq gx
  have g0_x : n0 ≤ x := Nat.le_trans Z0 ge_x
  have A_x := A490
  have U_x : Unt h490 x := U490
  have FB : Fld Z h490 x "java/lang/Throwable" "backtrace" "Ljava/lang/Object;" .null := D490 (Or.inl (tw hw 225 rfl)) (ty := (.object "java/lang/Object")) (by decide)
  refine w_dup X490.here hx (hb hby d_prog_7m_4_3) rfl (pc' := 4) rfl ?_
  refine w_new X490 hx D.zw D.ow (tw hw 44 rfl) (tw hw 45 rfl) (tw hw 46 rfl) e490 (hb hby d_prog_7m_4_4) (by decide) (by decide) (pc' := 7) rfl ?_
  intro T491 h491 b gb X491 e491 E491 A491 D491 U491
  have ge_b : h0.size ≤ b := Nat.le_trans En.1 (Nat.le_of_eq gb)
  have g0_b : n0 ≤ b := Nat.le_trans Z0 ge_b
  have ne_x_b : x ≠ b := Nat.ne_of_lt (Nat.lt_of_lt_of_le A_x.lt (Nat.le_of_eq gb))
  replace En := Ext.trs En E491
  replace D := D.ext E491
  replace A_x := A_x.ext E491
  replace U_x := Unt.ext E491 U_x
  replace FB := FB.ext E491
  have FV : Fld Z h491 b "java/lang/AbstractStringBuilder" "value" "[B" .null := D491 (Or.inl (tw hw 59 rfl)) (ty := (.array .byte)) (by decide)
  have FC : Fld Z h491 b "java/lang/AbstractStringBuilder" "coder" "B" (.int (0 : Int32)) := D491 (Or.inl (tw hw 61 rfl)) (ty := .byte) (by decide)
  have FN : Fld Z h491 b "java/lang/AbstractStringBuilder" "count" "I" (.int (0 : Int32)) := D491 (Or.inl (tw hw 84 rfl)) (ty := .int) (by decide)
  have FX : Fld Z h491 b "java/lang/AbstractStringBuilder" "maybeLatin1" "Z" (.int (0 : Int32)) := D491 (Or.inl (tw hw 300 rfl)) (ty := .boolean) (by decide)
  have A_b := A491
  refine w_dup X491.here hx (hb hby d_prog_7m_4_7) rfl (pc' := 8) rfl ?_
  refine w_special X491 hx D.zw (y := (⟨"java/lang/StringBuilder", "<init>", "()V"⟩ : MethodName)) rfl D.ow (tw hw 47 rfl) (tw hw 48 rfl) (tw hw 49 rfl) (by decide) (backC (W := 3) (rmSbI l Z a0 hw b z h491 n0 g0_b (Su.1.ext En) Su.2.1 A_b FV FC FN FX) D.zw (tw hw 49 rfl) (tw hw 46 rfl) (by decide) (by decide)) e491 (by rw [hml]; rfl) (argsL := []) (st := [(.ref b), (.ref x), (.ref x)]) pd_31 rfl rfl rfl (Nat.le_of_ble_eq_true rfl) (hb hby d_prog_7m_4_8) (by decide) (by decide) (pc' := 11) rfl ?_
  intro T492 v492 L492 X492 Q492
  obtain ⟨rfl, N1, K1, t, kt, gt, B⟩ := Q492
  show Go _ _ _ _ T492 (mkF m 11 _ [(.ref b), (.ref x), (.ref x)])
  have N493 := Fr.app N0 N1
  have ge_t : h0.size ≤ t := Nat.le_trans En.1 gt
  have g0_t : n0 ≤ t := Nat.le_trans Z0 ge_t
  have ne_x_t : x ≠ t := Nat.ne_of_lt (Nat.lt_of_lt_of_le A_x.lt gt)
  have SF := Safe.keep (EL := EL0) K1 (sfS (Safe.exa D.2.1.alike A_b (by decide) (by decide)) sf0) D.2.2.2.1.1 (Safe.new gt)
  replace D := D.keep K1 (sfS (Safe.exa D.2.1.alike A_b (by decide) (by decide)) sf0)
  replace U_x := Unt.keep K1 (ninS ne_x_b nin0) U_x
  replace FB := FB.keep K1 (ninS ne_x_b nin0)
  replace A_x := A_x.keep K1
  replace En := Ext.kp En K1 (allS ge_b all0)
  refine w_ldcS X492 hx D (tw hw 62 rfl) (fun d hd => hw d (own_wStr d hd)) rfl (EL := EL0) (by decide) (vs := [(.int 117), (.int 110), (.int 101), (.int 120), (.int 112), (.int 101), (.int 99), (.int 116), (.int 101), (.int 100), (.int 32), (.int 97), (.int 114), (.int 103), (.int 117), (.int 109), (.int 101), (.int 110), (.int 116), (.int 58), (.int 32)]) (z := 21) ⟨by decide +kernel, by decide +kernel⟩ (by decide) (by decide +kernel) (hb hby d_prog_7m_4_11) (n := 84) (by decide +kernel) (by decide) (by decide) (by decide) (pc' := 13) rfl ?_
  intro pc T494 h494 b_pc k_pc X494 e494 E494 D494 EX_pc FC_pc FV_pc V_pc CH_pc LT_pc NE_pc
  replace SF := CHr.safe CH_pc B.2.2.2.2.1.lt SF
  replace En := Ext.trs En E494
  replace B := B.ext E494
  replace A_x := A_x.ext E494
  replace U_x := Unt.ext E494 U_x
  replace FB := FB.ext E494
  replace D := D494
  have L_pc : LstOf Z h494 pc b_pc k_pc preL := ⟨EX_pc, FV_pc, FC_pc, by rw [← preL_lobs]; exact V_pc, by decide, preL_lat⟩
  refine w_virtual X494 hx D.zw (y := yq1) (z := yq1) D.ow (tw hw 63 rfl) (tw hw 64 rfl) (notFace_of_selects (args := #[]) (mvT D.zw (tw hw 66 rfl))) (tw hw 66 rfl) (tw hw 65 rfl) (by decide) (backC (W := 2) (rmApGS l Z a0 hw b t pc b_pc kt k_pc [] preL z h494 n0 (Nat.le_trans Z0 En.1) g0_b g0_t (Su.1.ext En) Su.2.1 B L_pc (by decide) (by decide) (EX_pc.ne B.1 (by decide)) (Ne.symm (B.1.neArv V_pc (tw hw 45 rfl)))) D.zw (tw hw 67 rfl) (tw hw 46 rfl) (by decide) (by decide)) e494 B.1 (by rw [hml]; rfl) (argsL := [(.ref pc)]) (st := [(.ref x), (.ref x)]) pd_34 rfl rfl rfl (Nat.le_of_ble_eq_true rfl) (hb hby d_prog_7m_4_13) (by decide) (by decide) (pc' := 16) rfl ?_
  intro T495 v495 L495 X495 Q495
  obtain ⟨rfl, N2, K2, t2, kt2, gt2, B2⟩ := Q495
  show Go _ _ _ _ T495 (mkF m 16 _ [(.ref b), (.ref x), (.ref x)])
  have N496 := Fr.app N493 N2
  have ge_t2 : h0.size ≤ t2 := Nat.le_trans En.1 gt2
  have g0_t2 : n0 ≤ t2 := Nat.le_trans Z0 ge_t2
  have ne_x_t2 : x ≠ t2 := Nat.ne_of_lt (Nat.lt_of_lt_of_le A_x.lt gt2)
  have SF2 := Safe.keep (EL := EL0) K2 (sfS (Safe.exa D.2.1.alike B.1 (by decide) (by decide)) (sfS SF sf0)) D.2.2.2.1.1 (Safe.new gt2)
  replace D := D.keep K2 (sfS (Safe.exa D.2.1.alike B.1 (by decide) (by decide)) (sfS SF sf0))
  replace U_x := Unt.keep K2 (ninS ne_x_b (ninS ne_x_t nin0)) U_x
  replace FB := FB.keep K2 (ninS ne_x_b (ninS ne_x_t nin0))
  replace A_x := A_x.keep K2
  replace En := Ext.kp En K2 (allS ge_b (allS ge_t all0))
  have B2 : SbOf Z T495.heap b t2 kt2 preL 34 := B2
  refine w_aloadN X495.here hx (hb hby d_prog_7m_4_16) rfl rfl (pc' := 17) rfl ?_
  by_cases hL : LatC ds
  · obtain ⟨u, ku, G⟩ := LstOf.of (A.ext En) hL
    refine w_virtual X495 hx D.zw (y := yq1) (z := yq1) D.ow (tw hw 63 rfl) (tw hw 64 rfl) (notFace_of_selects (args := #[]) (mvT D.zw (tw hw 66 rfl))) (tw hw 66 rfl) (tw hw 65 rfl) (by decide) (backC (W := 2) (rmApFS l Z a0 hw b t2 ar u kt2 ku preL ds 34 z T495.heap n0 (Nat.le_trans Z0 En.1) g0_b g0_t2 (Su.1.ext En) Su.2.1 B2 G (by show 21 + ds.length ≤ 34; omega)) D.zw (tw hw 67 rfl) (tw hw 46 rfl) (by decide) (by decide)) rfl B2.1 (by rw [hml]; rfl) (argsL := [(.ref ar)]) (st := [(.ref x), (.ref x)]) pd_34 rfl rfl rfl (Nat.le_of_ble_eq_true rfl) (hb hby d_prog_7m_4_17) (by decide) (by decide) (pc' := 20) rfl ?_
    intro T497 v497 L497 X497 Q497
    obtain ⟨rfl, N3, K3, B3⟩ := Q497
    show Go _ _ _ _ T497 (mkF m 20 _ [(.ref b), (.ref x), (.ref x)])
    have N498 := Fr.app N496 N3
    replace D := D.keep K3 (sfS (Safe.exa D.2.1.alike B2.1 (by decide) (by decide)) (sfS SF2 sf0))
    replace U_x := Unt.keep K3 (ninS ne_x_b (ninS ne_x_t2 nin0)) U_x
    replace FB := FB.keep K3 (ninS ne_x_b (ninS ne_x_t2 nin0))
    replace A_x := A_x.keep K3
    replace En := Ext.kp En K3 (allS ge_b (allS ge_t2 all0))
    refine w_virtual X497 hx D.zw (y := yq10) (z := yq10) D.ow (tw hw 133 rfl) (tw hw 134 rfl) (notFace_of_selects (args := #[]) (mvT D.zw (tw hw 136 rfl))) (tw hw 136 rfl) (tw hw 135 rfl) (by decide) (backC (W := 2) (rmToS l Z a0 hw b t2 kt2 (preL ++ ds) 34 z T497.heap n0 (Nat.le_trans Z0 En.1) (Su.1.ext En) Su.2.1 B3 (by rw [List.length_append]; show 21 + ds.length < 34; omega) (by rw [List.length_append]; show 21 + ds.length ≤ 24; omega)) D.zw (tw hw 137 rfl) (tw hw 46 rfl) (by decide) (by decide)) rfl B3.1 (by rw [hml]; rfl) (argsL := []) (st := [(.ref x), (.ref x)]) pd_35 rfl rfl rfl (Nat.le_of_ble_eq_true rfl) (hb hby d_prog_7m_4_20) (by decide) (by decide) (pc' := 23) rfl ?_
    intro T499 v499 L499 X499 Q499
    obtain ⟨mg, um, kum, rfl, N4, E4, gm, gum, LM⟩ := Q499
    show Go _ _ _ _ T499 (mkF m 23 _ [(.ref mg), (.ref x), (.ref x)])
    have N500 := Fr.app N498 N4
    replace A_x := A_x.ext E4
    replace U_x := Unt.ext E4 U_x
    replace FB := FB.ext E4
    replace En := Ext.trs En E4
    replace D := D.ext E4
    have M := LM.str
    refine w_special X499 hx D.zw (y := yq26) rfl D.ow (tw hw 172 rfl) (tw hw 173 rfl) (tw hw 174 rfl) (by decide) (backCK (W := 1) (rmU1 l Z a0 hw hl x mg sy u0 sen T499.heap n0 g0_x (Tp.ext En) A_x U_x FB (Sy.ext En)) D.zw (tw hw 174 rfl) (tw hw 40 rfl) (by decide) (by decide) (D.tk hTK) (D.fk hBelow)) rfl (by rw [hml]; rfl) (argsL := [(.ref mg)]) (st := [(.ref x)]) pd_17 rfl rfl rfl (Nat.le_of_ble_eq_true rfl) (hb hby d_prog_7m_4_23) (by decide) (by decide) (pc' := 26) rfl ?_
    intro T501 v501 L501 X501 Q501
    obtain ⟨rfl, N5, K5, FD, FY⟩ := Q501
    show Go _ _ _ _ T501 (mkF m 26 _ [(.ref x)])
    have N502 := Fr.app N500 N5
    replace M := M.keepO K5 A_x (tw hw 43 rfl) (by decide)
    replace D := D.keep K5 (sfS (Safe.exa D.2.1.alike A_x (by decide) (by decide)) sf0)
    replace A_x := A_x.keep K5
    replace En := Ext.kp En K5 (allS ge_x all0)
    exact endRW X501 hx D rfl hlk rfl hret rfl (hb hby d_prog_7m_4_26) (by decide) (by decide) (⟨x, mg, rfl, N502, En, A_x, FD, M, FY⟩)
  · obtain ⟨u, ku, G⟩ := WstOf.of (A.ext En) hL (by omega)
    refine w_virtual X495 hx D.zw (y := yq1) (z := yq1) D.ow (tw hw 63 rfl) (tw hw 64 rfl) (notFace_of_selects (args := #[]) (mvT D.zw (tw hw 66 rfl))) (tw hw 66 rfl) (tw hw 65 rfl) (by decide) (backC (W := 2) (rmApWS l Z a0 hw b t2 ar u ku ds kt2 preL z fm hfm T495.heap n0 (Nat.le_trans Z0 En.1) g0_b (Su.ext En) (Fm.ext En) B2 G (G.1.ne B2.1 (by decide)) (Ne.symm (B2.1.neArv G.2.2.2.1 (tw hw 45 rfl))) (by show 21 + ds.length ≤ 34; omega)) D.zw (tw hw 67 rfl) (tw hw 46 rfl) (by decide) (by decide)) rfl B2.1 (by rw [hml]; rfl) (argsL := [(.ref ar)]) (st := [(.ref x), (.ref x)]) pd_34 rfl rfl rfl (Nat.le_of_ble_eq_true rfl) (hb hby d_prog_7m_4_17) (by decide) (by decide) (pc' := 20) rfl ?_
    intro T503 v503 L503 X503 Q503
    obtain ⟨rfl, N3, K3, v2, kv2, gv2, B3⟩ := Q503
    show Go _ _ _ _ T503 (mkF m 20 _ [(.ref b), (.ref x), (.ref x)])
    have N504 := Fr.app N496 N3
    replace D := D.keep K3 (sfS (Safe.exa D.2.1.alike B2.1 (by decide) (by decide)) sf0)
    replace U_x := Unt.keep K3 (ninS ne_x_b nin0) U_x
    replace FB := FB.keep K3 (ninS ne_x_b nin0)
    replace A_x := A_x.keep K3
    replace En := Ext.kp En K3 (allS ge_b all0)
    refine w_virtual X503 hx D.zw (y := yq10) (z := yq10) D.ow (tw hw 133 rfl) (tw hw 134 rfl) (notFace_of_selects (args := #[]) (mvT D.zw (tw hw 136 rfl))) (tw hw 136 rfl) (tw hw 135 rfl) (by decide) (backC (W := 2) (rmToSW l Z a0 hw b v2 kv2 (preL ++ ds) 68 z T503.heap n0 (Nat.le_trans Z0 En.1) (Su.1.ext En) Su.2.1 B3 (by rw [List.length_append]; show 2 * (21 + ds.length) < 68; omega) (by rw [List.length_append]; show 21 + ds.length ≤ 24; omega) (let ⟨c, q1, q2⟩ := G.2.2.2.2.1; ⟨c, List.mem_append_right _ q1, q2⟩) (preL_rng G.2.2.2.2.2.1)) D.zw (tw hw 137 rfl) (tw hw 46 rfl) (by decide) (by decide)) rfl B3.1 (by rw [hml]; rfl) (argsL := []) (st := [(.ref x), (.ref x)]) pd_35 rfl rfl rfl (Nat.le_of_ble_eq_true rfl) (hb hby d_prog_7m_4_20) (by decide) (by decide) (pc' := 23) rfl ?_
    intro T505 v505 L505 X505 Q505
    obtain ⟨mg, um, kum, rfl, N4, E4, gm, gum, LM⟩ := Q505
    show Go _ _ _ _ T505 (mkF m 23 _ [(.ref mg), (.ref x), (.ref x)])
    have N506 := Fr.app N504 N4
    replace A_x := A_x.ext E4
    replace U_x := Unt.ext E4 U_x
    replace FB := FB.ext E4
    replace En := Ext.trs En E4
    replace D := D.ext E4
    have M := LM.str
    refine w_special X505 hx D.zw (y := yq26) rfl D.ow (tw hw 172 rfl) (tw hw 173 rfl) (tw hw 174 rfl) (by decide) (backCK (W := 1) (rmU1 l Z a0 hw hl x mg sy u0 sen T505.heap n0 g0_x (Tp.ext En) A_x U_x FB (Sy.ext En)) D.zw (tw hw 174 rfl) (tw hw 40 rfl) (by decide) (by decide) (D.tk hTK) (D.fk hBelow)) rfl (by rw [hml]; rfl) (argsL := [(.ref mg)]) (st := [(.ref x)]) pd_17 rfl rfl rfl (Nat.le_of_ble_eq_true rfl) (hb hby d_prog_7m_4_23) (by decide) (by decide) (pc' := 26) rfl ?_
    intro T507 v507 L507 X507 Q507
    obtain ⟨rfl, N5, K5, FD, FY⟩ := Q507
    show Go _ _ _ _ T507 (mkF m 26 _ [(.ref x)])
    have N508 := Fr.app N506 N5
    replace M := M.keepO K5 A_x (tw hw 43 rfl) (by decide)
    replace D := D.keep K5 (sfS (Safe.exa D.2.1.alike A_x (by decide) (by decide)) sf0)
    replace A_x := A_x.keep K5
    replace En := Ext.kp En K5 (allS ge_x all0)
    exact endRW X507 hx D rfl hlk rfl hret rfl (hb hby d_prog_7m_4_26) (by decide) (by decide) (⟨x, mg, rfl, N508, En, A_x, FD, M, FY⟩)
def synL : List Int32 := [117, 115, 97, 103, 101, 58, 32, 106, 97, 114, 115, 104, 101, 108, 102, 32, 91, 45, 45, 114, 111, 111, 116, 32, 68, 73, 82, 93, 32, 67, 79, 77, 77, 65, 78, 68, 32, 91, 65, 82, 71, 85, 77, 69, 78, 84, 46, 46, 46, 93]
theorem synL_lat : LatC synL := by show ∀ c ∈ synL, ¬ c < 0 ∧ ¬ (255 : Int32) < c; decide +kernel
theorem synL_lobs : ([(.int 117), (.int 115), (.int 97), (.int 103), (.int 101), (.int 58), (.int 32), (.int 106), (.int 97), (.int 114), (.int 115), (.int 104), (.int 101), (.int 108), (.int 102), (.int 32), (.int 91), (.int 45), (.int 45), (.int 114), (.int 111), (.int 111), (.int 116), (.int 32), (.int 68), (.int 73), (.int 82), (.int 93), (.int 32), (.int 67), (.int 79), (.int 77), (.int 77), (.int 65), (.int 78), (.int 68), (.int 32), (.int 91), (.int 65), (.int 82), (.int 71), (.int 85), (.int 77), (.int 69), (.int 78), (.int 84), (.int 46), (.int 46), (.int 46), (.int 93)] : List Value) = lobs synL := by first | rfl | decide +kernel
theorem own_i2c (x : Int32) : ¬ x.toUInt32.toUInt16.toUInt32.toInt32 < 0 ∧ ¬ (65535 : Int32) < x.toUInt32.toUInt16.toUInt32.toInt32 := by
  have e : x.toUInt32.toUInt16.toUInt32.toInt32.toInt = (x.toUInt32.toUInt16.toNat : Int) := by
    generalize x.toUInt32.toUInt16 = u
    have h : u.toNat < 65536 := u.toNat_lt
    show u.toUInt32.toInt32.toBitVec.toInt = _
    rw [show u.toUInt32.toInt32.toBitVec = u.toUInt32.toBitVec from rfl, BitVec.toInt_eq_toNat_of_lt (by simp; omega)]
    simp
  have h : x.toUInt32.toUInt16.toNat < 65536 := x.toUInt32.toUInt16.toNat_lt
  rw [Int32.lt_iff_toInt_lt, Int32.lt_iff_toInt_lt, e]
  exact ⟨by show ¬ _ < (0 : Int); omega, by show ¬ (65535 : Int) < _; omega⟩
theorem own_k3 (x : Int32) : (x &&& (3 : Int32)) = 0 ∨ (x &&& (3 : Int32)) = 1 ∨ (x &&& (3 : Int32)) = 2 ∨ (x &&& (3 : Int32)) = 3 := by
  have e : ∀ y : BitVec 32, (y &&& 3#32) = 0#32 ∨ (y &&& 3#32) = 1#32 ∨ (y &&& 3#32) = 2#32 ∨ (y &&& 3#32) = 3#32 := by
    intro y
    have h : (y &&& 3#32).toNat < 4 := by
      rw [BitVec.toNat_and]; exact Nat.and_lt_two_pow _ (n := 2) (by decide)
    have h2 : (y &&& 3#32).toNat = 0 ∨ (y &&& 3#32).toNat = 1 ∨ (y &&& 3#32).toNat = 2 ∨ (y &&& 3#32).toNat = 3 := by omega
    rcases h2 with h | h | h | h
    · exact Or.inl (BitVec.eq_of_toNat_eq h)
    · exact Or.inr (Or.inl (BitVec.eq_of_toNat_eq h))
    · exact Or.inr (Or.inr (Or.inl (BitVec.eq_of_toNat_eq h)))
    · exact Or.inr (Or.inr (Or.inr (BitVec.eq_of_toNat_eq h)))
  rcases e x.toBitVec with q | q | q | q
  · exact Or.inl (Int32.toBitVec_inj.mp q)
  · exact Or.inr (Or.inl (Int32.toBitVec_inj.mp q))
  · exact Or.inr (Or.inr (Or.inl (Int32.toBitVec_inj.mp q)))
  · exact Or.inr (Or.inr (Or.inr (Int32.toBitVec_inj.mp q)))
theorem pd_36 : parseMethodDescriptor "(Ljava/lang/String;)Lcom/example/jarshelf/jarshelf/cli/UsageException;" = some ⟨[(.object "java/lang/String")], some (.object "com/example/jarshelf/jarshelf/cli/UsageException")⟩ := by decide +kernel
theorem pd_37 : parseMethodDescriptor "(Ljava/lang/Object;)Z" = some ⟨[(.object "java/lang/Object")], some .boolean⟩ := by decide +kernel
set_option maxRecDepth 65536 in
set_option maxHeartbeats 40000000 in
theorem lawEnd {p : Program} {l : Launch} {e : Env} {R : Room} {s : State} {m : MethodId} {args : Array Value} {below : List Frame} {meth : Method} {c : Code} {cells slots : Nat} {P : State → Prop} (Z : State) (a0 : Array Value) (hw : ∀ d ∈ tables_1, d.before a0 Z = true) (hx : p.tables.exec = Jvm.exec) (hby : c.code = code) (hml : c.maxLocals = 13) {vm0 : Vm} {T : State} {locs : List Loc} (hEL : EW Z a0 EL0) (hret : meth.sig.returnType = some .boolean) (hlk : meth.locks = false) (hTK : s.vm.MethodsKnown) (hBelow : s.vm.FramesKnown below) (hl : l.stackTraces = true) (p0 p1 p2 p3 c0 c1 c2 k : Int32) (z : Int32) (u0 sen : RefV) (sy : Addr) (fm : Value) (hfm : fm.isRef = true) (h0 h : Heap) (n0 : Nat) (Z0 : n0 ≤ h0.size) (Su : SU Z h0 z) (Tp : ThP Z h0 u0 sen) (Fm : Sta Z h0 "jdk/internal/util/Preconditions" "SIOOBE_FORMATTER" "Ljava/util/function/BiFunction;" fm) (Sy : Sta Z h0 "com/example/jarshelf/jarshelf/cli/CommandLine" "SYNOPSIS" "Ljava/lang/String;" (.ref sy)) (SYN : StrOf Z h0 sy synL) (ar wn : Addr) (ds : List Int32) (hds : ds.length ≤ 3) (X0 : Stand p l e room_1 (s.setVm vm0) m args below meth c T locs 12 400) (e0 : T.heap = h) (N0 : Fr n0 locs) (D0 : Wd Z a0 EL0 s "com/example/jarshelf/jarshelf/cli/UsageExceptionUnexpectedArgumentPinLaw" m.cls vm0 h) (En : Ext h0 h) (A : StrOf Z h ar ds) (WN : StrOf Z h wn (preL ++ ds)) :
    Go p.tables e below (EndW Z EL0 s below (fun v h L => v = some (.int 1) ∧ Fr n0 L) room_1.cells room_1.slots) T (mkF m 125 #[.val (.int p0), .val (.int p1), .val (.int p2), .val (.int p3), .val (.int c0), .val (.int c1), .val (.int c2), .val (.int k), .val (.ref ar), .val (.ref wn), .unset, .unset, .unset] []) := by
  have D := D0
  refine w_aload X0.here hx (hb hby at_125) rfl rfl (pc' := 127) rfl ?_
  refine w_staticW X0 hx D (y := (⟨"com/example/jarshelf/jarshelf/cli/UsageException", "unexpectedArgument", "(Ljava/lang/String;)Lcom/example/jarshelf/jarshelf/cli/UsageException;"⟩ : MethodName)) (tw hw 38 rfl) (tw hw 39 rfl) (tw hw 40 rfl) (tw hw 41 rfl) (by decide) (backCWK (W := 0) (rmUA l Z a0 hw hEL hl ar ds z u0 sen sy fm hfm h n0 (Nat.le_trans Z0 En.1) (Su.ext En) (Tp.ext En) (Fm.ext En) (Sy.ext En) hds A) D (tw hw 41 rfl) (tw hw 40 rfl) (by decide) (by decide) hTK hBelow) e0 (by rw [hml]; rfl) (argsL := [(.ref ar)]) (st := []) pd_36 rfl rfl rfl (Nat.le_of_ble_eq_true rfl) (hb hby at_127) (by decide) (by decide) (pc' := 130) rfl ?_
  intro T509 v509 L509 X509 D509 CH509 Q509
  obtain ⟨x, mg, rfl, N1, E1, A_x, FD, M, FY⟩ := Q509
  show Go _ _ _ _ T509 (mkF m 130 _ [(.ref x)])
  have N510 := Fr.app N0 N1
  replace D := D509
  replace En := Ext.trs En E1
  replace WN := WN.ext E1
  refine w_astore X509.here hx (hb hby at_130) rfl (l' := #[.val (.int p0), .val (.int p1), .val (.int p2), .val (.int p3), .val (.int c0), .val (.int c1), .val (.int c2), .val (.int k), .val (.ref ar), .val (.ref wn), .val (.ref x), .unset, .unset]) rfl (pc' := 132) rfl ?_
  refine w_aload X509.here hx (hb hby at_132) rfl rfl (pc' := 134) rfl ?_
  refine w_ifnonnullYes X509.here hx (hb hby at_134) (pc' := 139) (by decide) (by decide) ?_
  refine w_aload X509.here hx (hb hby at_139) rfl rfl (pc' := 141) rfl ?_
  refine w_virtualUp X509 hx D.zw (y := (⟨"com/example/jarshelf/jarshelf/cli/UsageException", "getMessage", "()Ljava/lang/String;"⟩ : MethodName)) (z := (⟨"java/lang/Throwable", "getMessage", "()Ljava/lang/String;"⟩ : MethodName)) D.ow (tw hw 231 rfl) (tw hw 232 rfl) (tw hw 233 rfl) (by decide) (tw hw 235 rfl) (tw hw 234 rfl) (backC (W := 0) (rmGM l Z a0 hw x mg T509.heap FD) D.zw (tw hw 236 rfl) (tw hw 190 rfl) (by decide) (by decide)) rfl A_x (by rw [hml]; rfl) (argsL := []) (st := []) pd_35 rfl rfl rfl (Nat.le_of_ble_eq_true rfl) (hb hby at_141) (by decide) (by decide) (pc' := 144) rfl ?_
  intro T512 v512 L512 X512 Q512
  obtain ⟨rfl, rfl, hq511⟩ := Q512
  show Go _ _ _ _ T512 (mkF m 144 _ [(.ref mg)])
  rw [List.append_nil] at X512
  refine w_astore X512.here hx (hb hby at_144) rfl (l' := #[.val (.int p0), .val (.int p1), .val (.int p2), .val (.int p3), .val (.int c0), .val (.int c1), .val (.int c2), .val (.int k), .val (.ref ar), .val (.ref wn), .val (.ref x), .val (.ref mg), .unset]) rfl (pc' := 146) rfl ?_
  refine w_aload X512.here hx (hb hby at_146) rfl rfl (pc' := 148) rfl ?_
  refine w_virtual X512 hx D.zw (y := yq27) (z := yq27) D.ow (tw hw 237 rfl) (tw hw 238 rfl) (notFace_of_selects (args := #[]) (mvT D.zw (tw hw 240 rfl))) (tw hw 240 rfl) (tw hw 239 rfl) (by decide) (backC (W := 0) (rmSY l Z a0 hw x sy T509.heap FY) D.zw (tw hw 241 rfl) (tw hw 40 rfl) (by decide) (by decide)) hq511 A_x (by rw [hml]; rfl) (argsL := []) (st := []) pd_35 rfl rfl rfl (Nat.le_of_ble_eq_true rfl) (hb hby at_148) (by decide) (by decide) (pc' := 151) rfl ?_
  intro T514 v514 L514 X514 Q514
  obtain ⟨rfl, rfl, hq513⟩ := Q514
  show Go _ _ _ _ T514 (mkF m 151 _ [(.ref sy)])
  rw [List.append_nil] at X514
  refine w_astore X514.here hx (hb hby at_151) rfl (l' := #[.val (.int p0), .val (.int p1), .val (.int p2), .val (.int p3), .val (.int c0), .val (.int c1), .val (.int c2), .val (.int k), .val (.ref ar), .val (.ref wn), .val (.ref x), .val (.ref mg), .val (.ref sy)]) rfl (pc' := 153) rfl ?_
  refine w_aload X514.here hx (hb hby at_153) rfl rfl (pc' := 155) rfl ?_
  refine w_ifnullNo X514.here hx (hb hby at_155) (pc' := 158) rfl ?_
  refine w_aload X514.here hx (hb hby at_158) rfl rfl (pc' := 160) rfl ?_
  refine w_aload X514.here hx (hb hby at_160) rfl rfl (pc' := 162) rfl ?_
  refine w_virtual X514 hx D.zw (y := yq11) (z := yq11) D.ow (tw hw 242 rfl) (tw hw 243 rfl) (notFace_of_selects (args := #[]) (mvT D.zw (tw hw 245 rfl))) (tw hw 245 rfl) (tw hw 244 rfl) (by decide) (Q := QEq (preL ++ ds) (preL ++ ds) _) (k_eq (W := 0) D.zw (fun d hd => hw d (own_wEq d hd)) (tw hw 3 rfl) M WN (Su.ext En).1 Su.2.1 (by decide) (by decide)) hq513 (M).exa (by rw [hml]; rfl) (argsL := [(.ref wn)]) (st := []) pd_37 rfl rfl rfl (Nat.le_of_ble_eq_true rfl) (hb hby at_162) (by decide) (by decide) (pc' := 165) rfl ?_
  intro T516 v516 L516 X516 Q516
  obtain ⟨hv515, rfl, hq515⟩ := Q516
  rw [List.append_nil] at X516
  obtain rfl : v516 = some (.int 1) := hv515.elim (fun q => q.1) (fun q => absurd rfl q.2)
  show Go _ _ _ _ T516 (mkF m 165 _ [(.int (1 : Int32))])
  refine w_ifNo X516.here hx (hb hby at_165) (feq (show ¬ ((1 : Int32) = (0 : Int32)) from by decide)).1 (pc' := 168) rfl ?_
  refine w_ldcS X516 hx D (tw hw 252 rfl) (fun d hd => hw d (own_wStr d hd)) hq515 (EL := EL0) (by decide) (vs := [(.int 117), (.int 115), (.int 97), (.int 103), (.int 101), (.int 58), (.int 32), (.int 106), (.int 97), (.int 114), (.int 115), (.int 104), (.int 101), (.int 108), (.int 102), (.int 32), (.int 91), (.int 45), (.int 45), (.int 114), (.int 111), (.int 111), (.int 116), (.int 32), (.int 68), (.int 73), (.int 82), (.int 93), (.int 32), (.int 67), (.int 79), (.int 77), (.int 77), (.int 65), (.int 78), (.int 68), (.int 32), (.int 91), (.int 65), (.int 82), (.int 71), (.int 85), (.int 77), (.int 69), (.int 78), (.int 84), (.int 46), (.int 46), (.int 46), (.int 93)]) (z := 50) ⟨by decide +kernel, by decide +kernel⟩ (by decide) (by decide +kernel) (hb hby at_168) (n := 200) (by decide +kernel) (by decide) (by decide) (by decide) (pc' := 170) rfl ?_
  intro sc T517 h517 b_sc k_sc X517 e517 E517 D517 EX_sc FC_sc FV_sc V_sc CH_sc LT_sc NE_sc
  replace En := Ext.trs En E517
  replace D := D517
  have L_sc : LstOf Z h517 sc b_sc k_sc synL := ⟨EX_sc, FV_sc, FC_sc, by rw [← synL_lobs]; exact V_sc, by decide, synL_lat⟩
  refine w_aload X517.here hx (hb hby at_170) rfl rfl (pc' := 172) rfl ?_
  refine w_virtual X517 hx D.zw (y := yq11) (z := yq11) D.ow (tw hw 242 rfl) (tw hw 243 rfl) (notFace_of_selects (args := #[]) (mvT D.zw (tw hw 245 rfl))) (tw hw 245 rfl) (tw hw 244 rfl) (by decide) (Q := QEq synL synL _) (k_eq (W := 0) D.zw (fun d hd => hw d (own_wEq d hd)) (tw hw 3 rfl) L_sc.str (SYN.ext En) (Su.ext En).1 Su.2.1 (by decide) (by decide)) e517 (L_sc.str).exa (by rw [hml]; rfl) (argsL := [(.ref sy)]) (st := []) pd_37 rfl rfl rfl (Nat.le_of_ble_eq_true rfl) (hb hby at_172) (by decide) (by decide) (pc' := 175) rfl ?_
  intro T519 v519 L519 X519 Q519
  obtain ⟨hv518, rfl, hq518⟩ := Q519
  rw [List.append_nil] at X519
  obtain rfl : v519 = some (.int 1) := hv518.elim (fun q => q.1) (fun q => absurd rfl q.2)
  show Go _ _ _ _ T519 (mkF m 175 _ [(.int (1 : Int32))])
  refine w_ifNo X519.here hx (hb hby at_175) (feq (show ¬ ((1 : Int32) = (0 : Int32)) from by decide)).1 (pc' := 178) rfl ?_
  refine w_iconst X519.here hx (hb hby at_178) (z := 1) rfl (pc' := 179) rfl ?_
  refine w_goto X519.here hx (hb hby at_179) (pc' := 183) (by decide) (by decide) ?_
  exact endZW X519 hx D hq518 hlk hret (by simp) (hb hby at_183) (show nar .boolean (1 : Int32) = (1 : Int32) from rfl) (by decide) (by decide) (by first | exact ⟨rfl, N510⟩ | (rw [hq518]; exact ⟨rfl, N510⟩))
theorem pd_38 : parseMethodDescriptor "(ICCC)Ljava/lang/String;" = some ⟨[.int, .char, .char, .char], some (.object "java/lang/String")⟩ := by decide +kernel
theorem pd_39 : parseMethodDescriptor "(C)Ljava/lang/String;" = some ⟨[.char], some (.object "java/lang/String")⟩ := by decide +kernel
set_option maxRecDepth 65536 in
set_option maxHeartbeats 40000000 in
theorem lawMid {p : Program} {l : Launch} {e : Env} {R : Room} {s : State} {m : MethodId} {args : Array Value} {below : List Frame} {meth : Method} {c : Code} {cells slots : Nat} {P : State → Prop} (Z : State) (a0 : Array Value) (hw : ∀ d ∈ tables_1, d.before a0 Z = true) (hx : p.tables.exec = Jvm.exec) (hby : c.code = code) (hml : c.maxLocals = 13) {vm0 : Vm} {T : State} {locs : List Loc} (hEL : EW Z a0 EL0) (hret : meth.sig.returnType = some .boolean) (hlk : meth.locks = false) (hTK : s.vm.MethodsKnown) (hBelow : s.vm.FramesKnown below) (hl : l.stackTraces = true) (p0 p1 p2 p3 c0 c1 c2 k : Int32) (z : Int32) (u0 sen : RefV) (sy : Addr) (fm : Value) (hfm : fm.isRef = true) (h0 h : Heap) (n0 : Nat) (Z0 : n0 ≤ h0.size) (Su : SU Z h0 z) (Tp : ThP Z h0 u0 sen) (Fm : Sta Z h0 "jdk/internal/util/Preconditions" "SIOOBE_FORMATTER" "Ljava/util/function/BiFunction;" fm) (Sy : Sta Z h0 "com/example/jarshelf/jarshelf/cli/CommandLine" "SYNOPSIS" "Ljava/lang/String;" (.ref sy)) (SYN : StrOf Z h0 sy synL) (hk : k = 0 ∨ k = 1 ∨ k = 2 ∨ k = 3) (hc0 : ¬ c0 < 0 ∧ ¬ (65535 : Int32) < c0) (hc1 : ¬ c1 < 0 ∧ ¬ (65535 : Int32) < c1) (hc2 : ¬ c2 < 0 ∧ ¬ (65535 : Int32) < c2) (X0 : Stand p l e room_1 (s.setVm vm0) m args below meth c T locs 0 0) (e0 : T.heap = h) (N0 : Fr n0 locs) (D0 : Wd Z a0 EL0 s "com/example/jarshelf/jarshelf/cli/UsageExceptionUnexpectedArgumentPinLaw" m.cls vm0 h) (En : Ext h0 h) :
    Go p.tables e below (EndW Z EL0 s below (fun v h L => v = some (.int 1) ∧ Fr n0 L) room_1.cells room_1.slots) T (mkF m 26 #[.val (.int p0), .val (.int p1), .val (.int p2), .val (.int p3), .val (.int c0), .val (.int c1), .val (.int c2), .val (.int k), .unset, .unset, .unset, .unset, .unset] []) := by
  have D := D0
  rcases hk with rfl | rfl | rfl | rfl
  · show Go _ _ _ _ T (mkF m 26 _ [])
    refine w_iload X0.here hx (hb hby at_26) rfl (pc' := 28) rfl ?_
    refine w_ifNo X0.here hx (hb hby at_28) (teq (show (0 : Int32) = (0 : Int32) from rfl)).2 (pc' := 31) rfl ?_
    refine w_ldcS X0 hx D (tw hw 1 rfl) (fun d hd => hw d (own_wStr d hd)) e0 (EL := EL0) (by decide) (vs := []) (z := 0) ⟨by decide, by decide⟩ (by decide) (by decide) (hb hby at_31) (n := 0) (by decide) (by decide) (by decide) (by decide) (pc' := 33) rfl ?_
    intro em T520 h520 b_em k_em X520 e520 E520 D520 EX_em FC_em FV_em V_em CH_em LT_em NE_em
    replace En := Ext.trs En E520
    replace D := D520
    have A : StrOf Z h520 em [] := LstOf.str (u := b_em) (ku := k_em) ⟨EX_em, FV_em, FC_em, V_em, by decide, fun c q => nomatch q⟩
    refine w_astore X520.here hx (hb hby at_33) rfl (l' := #[.val (.int p0), .val (.int p1), .val (.int p2), .val (.int p3), .val (.int c0), .val (.int c1), .val (.int c2), .val (.int (0 : Int32)), .val (.ref em), .unset, .unset, .unset, .unset]) rfl (pc' := 35) rfl ?_
    refine w_goto X520.here hx (hb hby at_35) (pc' := 112) (by decide) (by decide) ?_
    refine w_iload X520.here hx (hb hby at_112) rfl (pc' := 114) rfl ?_
    refine w_iload X520.here hx (hb hby at_114) rfl (pc' := 116) rfl ?_
    refine w_iload X520.here hx (hb hby at_116) rfl (pc' := 118) rfl ?_
    refine w_iload X520.here hx (hb hby at_118) rfl (pc' := 120) rfl ?_
    refine w_static X520 hx D.zw (y := yq3) D.ow (tw hw 9 rfl) (tw hw 10 rfl) (tw hw 11 rfl) (tw hw 12 rfl) (by decide) (backC (W := 0) (rmExp0 l Z a0 hw c0 c1 c2 z h520 n0 (Nat.le_trans Z0 En.1) (Su.ext En) hc0 hc1 hc2) D.zw (tw hw 12 rfl) (tw hw 11 rfl) (by decide) (by decide)) e520 (by rw [hml]; rfl) (argsL := [(.int (0 : Int32)), (.int c0), (.int c1), (.int c2)]) (st := []) pd_38 rfl rfl rfl (Nat.le_of_ble_eq_true rfl) (hb hby at_120) (by decide) (by decide) (pc' := 123) rfl ?_
    intro T521 v521 L521 X521 Q521
    obtain ⟨wn, rfl, N8, E8, WN⟩ := Q521
    show Go _ _ _ _ T521 (mkF m 123 _ [(.ref wn)])
    have N522 := Fr.app N0 N8
    replace En := Ext.trs En E8
    replace D := D.ext E8
    refine w_astore X521.here hx (hb hby at_123) rfl (l' := #[.val (.int p0), .val (.int p1), .val (.int p2), .val (.int p3), .val (.int c0), .val (.int c1), .val (.int c2), .val (.int (0 : Int32)), .val (.ref em), .val (.ref wn), .unset, .unset, .unset]) rfl (pc' := 125) rfl ?_
    exact lawEnd (P := fun _ => True) (R := room_1) (cells := 0) (slots := 0) Z a0 hw hx hby hml hEL hret hlk hTK hBelow hl p0 p1 p2 p3 c0 c1 c2 0 z u0 sen sy fm hfm h0 _ n0 Z0 Su Tp Fm Sy SYN em wn [] (Nat.le_of_ble_eq_true rfl) (X521.more (by decide) (by decide)) rfl N522 D En (A.ext E8) WN
  · show Go _ _ _ _ T (mkF m 26 _ [])
    refine w_iload X0.here hx (hb hby at_26) rfl (pc' := 28) rfl ?_
    refine w_ifYes X0.here hx (hb hby at_28) (feq (show ¬ ((1 : Int32) = (0 : Int32)) from by decide)).2 (pc' := 38) (by decide) (by decide) ?_
    refine w_iload X0.here hx (hb hby at_38) rfl (pc' := 40) rfl ?_
    refine w_iconst X0.here hx (hb hby at_40) (z := 1) rfl (pc' := 41) rfl ?_
    refine w_icmpNo X0.here hx (hb hby at_41) (teq (show (1 : Int32) = (1 : Int32) from rfl)).2 (pc' := 44) rfl ?_
    refine w_iload X0.here hx (hb hby at_44) rfl (pc' := 46) rfl ?_
    refine w_static X0 hx D.zw (y := (⟨"java/lang/String", "valueOf", "(C)Ljava/lang/String;"⟩ : MethodName)) D.ow (tw hw 301 rfl) (tw hw 302 rfl) (tw hw 2 rfl) (tw hw 303 rfl) (by decide) (backC (W := 0) (rmVof l Z a0 hw c0 z h n0 (Nat.le_trans Z0 En.1) (Su.ext En) hc0) D.zw (tw hw 303 rfl) (tw hw 2 rfl) (by decide) (by decide)) e0 (by rw [hml]; rfl) (argsL := [(.int c0)]) (st := []) pd_39 rfl rfl rfl (Nat.le_of_ble_eq_true rfl) (hb hby at_46) (by decide) (by decide) (pc' := 49) rfl ?_
    intro T523 v523 L523 X523 Q523
    obtain ⟨ar, rfl, N7, E7, A⟩ := Q523
    show Go _ _ _ _ T523 (mkF m 49 _ [(.ref ar)])
    have N524 := Fr.app N0 N7
    replace En := Ext.trs En E7
    replace D := D.ext E7
    refine w_astore X523.here hx (hb hby at_49) rfl (l' := #[.val (.int p0), .val (.int p1), .val (.int p2), .val (.int p3), .val (.int c0), .val (.int c1), .val (.int c2), .val (.int (1 : Int32)), .val (.ref ar), .unset, .unset, .unset, .unset]) rfl (pc' := 51) rfl ?_
    refine w_goto X523.here hx (hb hby at_51) (pc' := 112) (by decide) (by decide) ?_
    refine w_iload X523.here hx (hb hby at_112) rfl (pc' := 114) rfl ?_
    refine w_iload X523.here hx (hb hby at_114) rfl (pc' := 116) rfl ?_
    refine w_iload X523.here hx (hb hby at_116) rfl (pc' := 118) rfl ?_
    refine w_iload X523.here hx (hb hby at_118) rfl (pc' := 120) rfl ?_
    refine w_static X523 hx D.zw (y := yq3) D.ow (tw hw 9 rfl) (tw hw 10 rfl) (tw hw 11 rfl) (tw hw 12 rfl) (by decide) (backC (W := 0) (rmExp1 l Z a0 hw c0 c1 c2 z T523.heap n0 (Nat.le_trans Z0 En.1) (Su.ext En) hc0 hc1 hc2) D.zw (tw hw 12 rfl) (tw hw 11 rfl) (by decide) (by decide)) rfl (by rw [hml]; rfl) (argsL := [(.int (1 : Int32)), (.int c0), (.int c1), (.int c2)]) (st := []) pd_38 rfl rfl rfl (Nat.le_of_ble_eq_true rfl) (hb hby at_120) (by decide) (by decide) (pc' := 123) rfl ?_
    intro T525 v525 L525 X525 Q525
    obtain ⟨wn, rfl, N8, E8, WN⟩ := Q525
    show Go _ _ _ _ T525 (mkF m 123 _ [(.ref wn)])
    have N526 := Fr.app N524 N8
    replace En := Ext.trs En E8
    replace D := D.ext E8
    refine w_astore X525.here hx (hb hby at_123) rfl (l' := #[.val (.int p0), .val (.int p1), .val (.int p2), .val (.int p3), .val (.int c0), .val (.int c1), .val (.int c2), .val (.int (1 : Int32)), .val (.ref ar), .val (.ref wn), .unset, .unset, .unset]) rfl (pc' := 125) rfl ?_
    exact lawEnd (P := fun _ => True) (R := room_1) (cells := 0) (slots := 0) Z a0 hw hx hby hml hEL hret hlk hTK hBelow hl p0 p1 p2 p3 c0 c1 c2 1 z u0 sen sy fm hfm h0 _ n0 Z0 Su Tp Fm Sy SYN ar wn [c0] (Nat.le_of_ble_eq_true rfl) (X525.more (by decide) (by decide)) rfl N526 D En (A.ext E8) WN
  · show Go _ _ _ _ T (mkF m 26 _ [])
    refine w_iload X0.here hx (hb hby at_26) rfl (pc' := 28) rfl ?_
    refine w_ifYes X0.here hx (hb hby at_28) (feq (show ¬ ((2 : Int32) = (0 : Int32)) from by decide)).2 (pc' := 38) (by decide) (by decide) ?_
    refine w_iload X0.here hx (hb hby at_38) rfl (pc' := 40) rfl ?_
    refine w_iconst X0.here hx (hb hby at_40) (z := 1) rfl (pc' := 41) rfl ?_
    refine w_icmpYes X0.here hx (hb hby at_41) (feq (show ¬ ((2 : Int32) = (1 : Int32)) from by decide)).2 (pc' := 54) (by decide) (by decide) ?_
    refine w_iload X0.here hx (hb hby at_54) rfl (pc' := 56) rfl ?_
    refine w_iconst X0.here hx (hb hby at_56) (z := 2) rfl (pc' := 57) rfl ?_
    refine w_icmpNo X0.here hx (hb hby at_57) (teq (show (2 : Int32) = (2 : Int32) from rfl)).2 (pc' := 60) rfl ?_
    refine w_new X0 hx D.zw D.ow (tw hw 13 rfl) (tw hw 3 rfl) (tw hw 2 rfl) e0 (hb hby at_60) (by decide) (by decide) (pc' := 63) rfl ?_
    intro T527 h527 x gx X527 e527 E527 A527 D527 U527
    have ge_x_h0 : h0.size ≤ x := Nat.le_trans (En : Ext h0 h).1 (Nat.le_of_eq gx)
    have ge_x_h : h.size ≤ x := Nat.le_trans (Ext.rfl' : Ext h h).1 (Nat.le_of_eq gx)
    have C528 : Ext h0 h527 := Ext.trs En E527
    have C529 : Ext h h527 := Ext.trs Ext.rfl' E527
    have gx0 : n0 ≤ x := Nat.le_trans Z0 ge_x_h0
    have FV : Fld Z h527 x "java/lang/String" "value" "[B" .null := D527 (Or.inr (tw hw 5 rfl)) (ty := (.array .byte)) (by decide)
    have FC : Fld Z h527 x "java/lang/String" "coder" "B" (.int (0 : Int32)) := D527 (Or.inr (tw hw 6 rfl)) (ty := .byte) (by decide)
    refine w_dup X527.here hx (hb hby at_63) rfl (pc' := 64) rfl ?_
    refine w_iconst X527.here hx (hb hby at_64) (z := 2) rfl (pc' := 65) rfl ?_
    refine w_newarray X527 hx D.zw (ty := .char) (dv := (.int 0)) rfl rfl (tw hw 14 rfl) e527 (n := (2 : Int32)) (hb hby at_65) (by decide) (cap := 2) (by decide) (by decide) (by decide) (by decide) (pc' := 67) rfl ?_
    intro T530 h530 b kb gb X530 e530 E530 V
    have ge_b_h0 : h0.size ≤ b := Nat.le_trans (C528 : Ext h0 h527).1 (Nat.le_of_eq gb)
    have ge_b_h : h.size ≤ b := Nat.le_trans (C529 : Ext h h527).1 (Nat.le_of_eq gb)
    have ge_b_h527 : h527.size ≤ b := Nat.le_trans (Ext.rfl' : Ext h527 h527).1 (Nat.le_of_eq gb)
    have C531 : Ext h0 h530 := Ext.trs C528 E530
    have C532 : Ext h h530 := Ext.trs C529 E530
    have C533 : Ext h527 h530 := Ext.trs Ext.rfl' E530
    have gb0 : n0 ≤ b := Nat.le_trans Z0 ge_b_h0
    refine w_dup X530.here hx (hb hby at_67) rfl (pc' := 68) rfl ?_
    refine w_iconst X530.here hx (hb hby at_68) (z := 0) rfl (pc' := 69) rfl ?_
    refine w_iload X530.here hx (hb hby at_69) rfl (pc' := 71) rfl ?_
    refine w_castore X530 hx D.zw e530 V ⟨by decide, by decide⟩ 0 rfl (Nat.le_of_ble_eq_true rfl) (hb hby at_71) (pc' := 72) rfl ?_
    intro T534 h534 X534 e534 W534 V
    have C535 : Ext h0 h534 := Ext.wr C531 W534 ge_b_h0
    have C536 : Ext h h534 := Ext.wr C532 W534 ge_b_h
    have C537 : Ext h527 h534 := Ext.wr C533 W534 ge_b_h527
    have N534 := Fr.snoc X534 N0 gb0
    refine w_dup X534.here hx (hb hby at_72) rfl (pc' := 73) rfl ?_
    refine w_iconst X534.here hx (hb hby at_73) (z := 1) rfl (pc' := 74) rfl ?_
    refine w_iload X534.here hx (hb hby at_74) rfl (pc' := 76) rfl ?_
    refine w_castore X534 hx D.zw e534 V ⟨by decide, by decide⟩ 1 rfl (Nat.le_of_ble_eq_true rfl) (hb hby at_76) (pc' := 77) rfl ?_
    intro T538 h538 X538 e538 W538 V
    have C539 : Ext h0 h538 := Ext.wr C535 W538 ge_b_h0
    have C540 : Ext h h538 := Ext.wr C536 W538 ge_b_h
    have C541 : Ext h527 h538 := Ext.wr C537 W538 ge_b_h527
    have N538 := Fr.snoc X538 N534 gb0
    have V : Arv Z h538 b kb .char (Int32.ofNat 2) ([c0, c1].map Value.int) (.int 0) := by have q := V; rw [nar_c hc0, nar_c hc1] at q; exact q
    refine w_special X538 hx D.zw (y := yq5) rfl D.ow (tw hw 15 rfl) (tw hw 16 rfl) (tw hw 17 rfl) (by decide) (backC (W := 1) (rmI1 l Z a0 hw x b kb 2 z [c0, c1] _ _ _ h538 n0 (Nat.le_trans Z0 C539.1) gx0 (Su.ext C539) V rfl (by decide) (by decide) (fun c hc => by simp only [List.mem_cons, List.not_mem_nil, or_false] at hc; rcases hc with rfl | rfl <;> assumption) (A527.ext C541) (FV.ext C541) (FC.ext C541)) D.zw (tw hw 17 rfl) (tw hw 2 rfl) (by decide) (by decide)) e538 (by rw [hml]; rfl) (argsL := [(.ref b)]) (st := [(.ref x)]) pd_32 rfl rfl rfl (Nat.le_of_ble_eq_true rfl) (hb hby at_77) (by decide) (by decide) (pc' := 80) rfl ?_
    intro T542 v542 L542 X542 Q542
    obtain ⟨rfl, N7, K7, A⟩ := Q542
    show Go _ _ _ _ T542 (mkF m 80 _ [(.ref x)])
    have N543 := Fr.app N538 N7
    replace D := (D.ext C540).keep K7 (sfS (Safe.null (D.ext C540).2.1.alike (A527.ext C541) (FV.ext C541)) sf0)
    replace En : Ext h0 T542.heap := Ext.kp C539 K7 (allS ge_x_h0 all0)
    refine w_astore X542.here hx (hb hby at_80) rfl (l' := #[.val (.int p0), .val (.int p1), .val (.int p2), .val (.int p3), .val (.int c0), .val (.int c1), .val (.int c2), .val (.int (2 : Int32)), .val (.ref x), .unset, .unset, .unset, .unset]) rfl (pc' := 82) rfl ?_
    refine w_goto X542.here hx (hb hby at_82) (pc' := 112) (by decide) (by decide) ?_
    refine w_iload X542.here hx (hb hby at_112) rfl (pc' := 114) rfl ?_
    refine w_iload X542.here hx (hb hby at_114) rfl (pc' := 116) rfl ?_
    refine w_iload X542.here hx (hb hby at_116) rfl (pc' := 118) rfl ?_
    refine w_iload X542.here hx (hb hby at_118) rfl (pc' := 120) rfl ?_
    refine w_static X542 hx D.zw (y := yq3) D.ow (tw hw 9 rfl) (tw hw 10 rfl) (tw hw 11 rfl) (tw hw 12 rfl) (by decide) (backC (W := 0) (rmExp2 l Z a0 hw c0 c1 c2 z T542.heap n0 (Nat.le_trans Z0 En.1) (Su.ext En) hc0 hc1 hc2) D.zw (tw hw 12 rfl) (tw hw 11 rfl) (by decide) (by decide)) rfl (by rw [hml]; rfl) (argsL := [(.int (2 : Int32)), (.int c0), (.int c1), (.int c2)]) (st := []) pd_38 rfl rfl rfl (Nat.le_of_ble_eq_true rfl) (hb hby at_120) (by decide) (by decide) (pc' := 123) rfl ?_
    intro T544 v544 L544 X544 Q544
    obtain ⟨wn, rfl, N8, E8, WN⟩ := Q544
    show Go _ _ _ _ T544 (mkF m 123 _ [(.ref wn)])
    have N545 := Fr.app N543 N8
    replace En := Ext.trs En E8
    replace D := D.ext E8
    refine w_astore X544.here hx (hb hby at_123) rfl (l' := #[.val (.int p0), .val (.int p1), .val (.int p2), .val (.int p3), .val (.int c0), .val (.int c1), .val (.int c2), .val (.int (2 : Int32)), .val (.ref x), .val (.ref wn), .unset, .unset, .unset]) rfl (pc' := 125) rfl ?_
    exact lawEnd (P := fun _ => True) (R := room_1) (cells := 0) (slots := 0) Z a0 hw hx hby hml hEL hret hlk hTK hBelow hl p0 p1 p2 p3 c0 c1 c2 2 z u0 sen sy fm hfm h0 _ n0 Z0 Su Tp Fm Sy SYN x wn [c0, c1] (Nat.le_of_ble_eq_true rfl) (X544.more (by decide) (by decide)) rfl N545 D En (A.ext E8) WN
  · show Go _ _ _ _ T (mkF m 26 _ [])
    refine w_iload X0.here hx (hb hby at_26) rfl (pc' := 28) rfl ?_
    refine w_ifYes X0.here hx (hb hby at_28) (feq (show ¬ ((3 : Int32) = (0 : Int32)) from by decide)).2 (pc' := 38) (by decide) (by decide) ?_
    refine w_iload X0.here hx (hb hby at_38) rfl (pc' := 40) rfl ?_
    refine w_iconst X0.here hx (hb hby at_40) (z := 1) rfl (pc' := 41) rfl ?_
    refine w_icmpYes X0.here hx (hb hby at_41) (feq (show ¬ ((3 : Int32) = (1 : Int32)) from by decide)).2 (pc' := 54) (by decide) (by decide) ?_
    refine w_iload X0.here hx (hb hby at_54) rfl (pc' := 56) rfl ?_
    refine w_iconst X0.here hx (hb hby at_56) (z := 2) rfl (pc' := 57) rfl ?_
    refine w_icmpYes X0.here hx (hb hby at_57) (feq (show ¬ ((3 : Int32) = (2 : Int32)) from by decide)).2 (pc' := 85) (by decide) (by decide) ?_
    refine w_new X0 hx D.zw D.ow (tw hw 13 rfl) (tw hw 3 rfl) (tw hw 2 rfl) e0 (hb hby at_85) (by decide) (by decide) (pc' := 88) rfl ?_
    intro T546 h546 x gx X546 e546 E546 A546 D546 U546
    have ge_x_h0 : h0.size ≤ x := Nat.le_trans (En : Ext h0 h).1 (Nat.le_of_eq gx)
    have ge_x_h : h.size ≤ x := Nat.le_trans (Ext.rfl' : Ext h h).1 (Nat.le_of_eq gx)
    have C547 : Ext h0 h546 := Ext.trs En E546
    have C548 : Ext h h546 := Ext.trs Ext.rfl' E546
    have gx0 : n0 ≤ x := Nat.le_trans Z0 ge_x_h0
    have FV : Fld Z h546 x "java/lang/String" "value" "[B" .null := D546 (Or.inr (tw hw 5 rfl)) (ty := (.array .byte)) (by decide)
    have FC : Fld Z h546 x "java/lang/String" "coder" "B" (.int (0 : Int32)) := D546 (Or.inr (tw hw 6 rfl)) (ty := .byte) (by decide)
    refine w_dup X546.here hx (hb hby at_88) rfl (pc' := 89) rfl ?_
    refine w_iconst X546.here hx (hb hby at_89) (z := 3) rfl (pc' := 90) rfl ?_
    refine w_newarray X546 hx D.zw (ty := .char) (dv := (.int 0)) rfl rfl (tw hw 14 rfl) e546 (n := (3 : Int32)) (hb hby at_90) (by decide) (cap := 3) (by decide) (by decide) (by decide) (by decide) (pc' := 92) rfl ?_
    intro T549 h549 b kb gb X549 e549 E549 V
    have ge_b_h0 : h0.size ≤ b := Nat.le_trans (C547 : Ext h0 h546).1 (Nat.le_of_eq gb)
    have ge_b_h : h.size ≤ b := Nat.le_trans (C548 : Ext h h546).1 (Nat.le_of_eq gb)
    have ge_b_h546 : h546.size ≤ b := Nat.le_trans (Ext.rfl' : Ext h546 h546).1 (Nat.le_of_eq gb)
    have C550 : Ext h0 h549 := Ext.trs C547 E549
    have C551 : Ext h h549 := Ext.trs C548 E549
    have C552 : Ext h546 h549 := Ext.trs Ext.rfl' E549
    have gb0 : n0 ≤ b := Nat.le_trans Z0 ge_b_h0
    refine w_dup X549.here hx (hb hby at_92) rfl (pc' := 93) rfl ?_
    refine w_iconst X549.here hx (hb hby at_93) (z := 0) rfl (pc' := 94) rfl ?_
    refine w_iload X549.here hx (hb hby at_94) rfl (pc' := 96) rfl ?_
    refine w_castore X549 hx D.zw e549 V ⟨by decide, by decide⟩ 0 rfl (Nat.le_of_ble_eq_true rfl) (hb hby at_96) (pc' := 97) rfl ?_
    intro T553 h553 X553 e553 W553 V
    have C554 : Ext h0 h553 := Ext.wr C550 W553 ge_b_h0
    have C555 : Ext h h553 := Ext.wr C551 W553 ge_b_h
    have C556 : Ext h546 h553 := Ext.wr C552 W553 ge_b_h546
    have N553 := Fr.snoc X553 N0 gb0
    refine w_dup X553.here hx (hb hby at_97) rfl (pc' := 98) rfl ?_
    refine w_iconst X553.here hx (hb hby at_98) (z := 1) rfl (pc' := 99) rfl ?_
    refine w_iload X553.here hx (hb hby at_99) rfl (pc' := 101) rfl ?_
    refine w_castore X553 hx D.zw e553 V ⟨by decide, by decide⟩ 1 rfl (Nat.le_of_ble_eq_true rfl) (hb hby at_101) (pc' := 102) rfl ?_
    intro T557 h557 X557 e557 W557 V
    have C558 : Ext h0 h557 := Ext.wr C554 W557 ge_b_h0
    have C559 : Ext h h557 := Ext.wr C555 W557 ge_b_h
    have C560 : Ext h546 h557 := Ext.wr C556 W557 ge_b_h546
    have N557 := Fr.snoc X557 N553 gb0
    refine w_dup X557.here hx (hb hby at_102) rfl (pc' := 103) rfl ?_
    refine w_iconst X557.here hx (hb hby at_103) (z := 2) rfl (pc' := 104) rfl ?_
    refine w_iload X557.here hx (hb hby at_104) rfl (pc' := 106) rfl ?_
    refine w_castore X557 hx D.zw e557 V ⟨by decide, by decide⟩ 2 rfl (Nat.le_of_ble_eq_true rfl) (hb hby at_106) (pc' := 107) rfl ?_
    intro T561 h561 X561 e561 W561 V
    have C562 : Ext h0 h561 := Ext.wr C558 W561 ge_b_h0
    have C563 : Ext h h561 := Ext.wr C559 W561 ge_b_h
    have C564 : Ext h546 h561 := Ext.wr C560 W561 ge_b_h546
    have N561 := Fr.snoc X561 N557 gb0
    have V : Arv Z h561 b kb .char (Int32.ofNat 3) ([c0, c1, c2].map Value.int) (.int 0) := by have q := V; rw [nar_c hc0, nar_c hc1, nar_c hc2] at q; exact q
    refine w_special X561 hx D.zw (y := yq5) rfl D.ow (tw hw 15 rfl) (tw hw 16 rfl) (tw hw 17 rfl) (by decide) (backC (W := 1) (rmI1 l Z a0 hw x b kb 3 z [c0, c1, c2] _ _ _ h561 n0 (Nat.le_trans Z0 C562.1) gx0 (Su.ext C562) V rfl (by decide) (by decide) (fun c hc => by simp only [List.mem_cons, List.not_mem_nil, or_false] at hc; rcases hc with rfl | rfl | rfl <;> assumption) (A546.ext C564) (FV.ext C564) (FC.ext C564)) D.zw (tw hw 17 rfl) (tw hw 2 rfl) (by decide) (by decide)) e561 (by rw [hml]; rfl) (argsL := [(.ref b)]) (st := [(.ref x)]) pd_32 rfl rfl rfl (Nat.le_of_ble_eq_true rfl) (hb hby at_107) (by decide) (by decide) (pc' := 110) rfl ?_
    intro T565 v565 L565 X565 Q565
    obtain ⟨rfl, N7, K7, A⟩ := Q565
    show Go _ _ _ _ T565 (mkF m 110 _ [(.ref x)])
    have N566 := Fr.app N561 N7
    replace D := (D.ext C563).keep K7 (sfS (Safe.null (D.ext C563).2.1.alike (A546.ext C564) (FV.ext C564)) sf0)
    replace En : Ext h0 T565.heap := Ext.kp C562 K7 (allS ge_x_h0 all0)
    refine w_astore X565.here hx (hb hby at_110) rfl (l' := #[.val (.int p0), .val (.int p1), .val (.int p2), .val (.int p3), .val (.int c0), .val (.int c1), .val (.int c2), .val (.int (3 : Int32)), .val (.ref x), .unset, .unset, .unset, .unset]) rfl (pc' := 112) rfl ?_
    refine w_iload X565.here hx (hb hby at_112) rfl (pc' := 114) rfl ?_
    refine w_iload X565.here hx (hb hby at_114) rfl (pc' := 116) rfl ?_
    refine w_iload X565.here hx (hb hby at_116) rfl (pc' := 118) rfl ?_
    refine w_iload X565.here hx (hb hby at_118) rfl (pc' := 120) rfl ?_
    refine w_static X565 hx D.zw (y := yq3) D.ow (tw hw 9 rfl) (tw hw 10 rfl) (tw hw 11 rfl) (tw hw 12 rfl) (by decide) (backC (W := 0) (rmExp3 l Z a0 hw c0 c1 c2 z T565.heap n0 (Nat.le_trans Z0 En.1) (Su.ext En) hc0 hc1 hc2) D.zw (tw hw 12 rfl) (tw hw 11 rfl) (by decide) (by decide)) rfl (by rw [hml]; rfl) (argsL := [(.int (3 : Int32)), (.int c0), (.int c1), (.int c2)]) (st := []) pd_38 rfl rfl rfl (Nat.le_of_ble_eq_true rfl) (hb hby at_120) (by decide) (by decide) (pc' := 123) rfl ?_
    intro T567 v567 L567 X567 Q567
    obtain ⟨wn, rfl, N8, E8, WN⟩ := Q567
    show Go _ _ _ _ T567 (mkF m 123 _ [(.ref wn)])
    have N568 := Fr.app N566 N8
    replace En := Ext.trs En E8
    replace D := D.ext E8
    refine w_astore X567.here hx (hb hby at_123) rfl (l' := #[.val (.int p0), .val (.int p1), .val (.int p2), .val (.int p3), .val (.int c0), .val (.int c1), .val (.int c2), .val (.int (3 : Int32)), .val (.ref x), .val (.ref wn), .unset, .unset, .unset]) rfl (pc' := 125) rfl ?_
    exact lawEnd (P := fun _ => True) (R := room_1) (cells := 0) (slots := 0) Z a0 hw hx hby hml hEL hret hlk hTK hBelow hl p0 p1 p2 p3 c0 c1 c2 3 z u0 sen sy fm hfm h0 _ n0 Z0 Su Tp Fm Sy SYN x wn [c0, c1, c2] (Nat.le_of_ble_eq_true rfl) (X567.more (by decide) (by decide)) rfl N568 D En (A.ext E8) WN
set_option maxRecDepth 65536 in
set_option maxHeartbeats 40000000 in
theorem rm0 (l : Launch) (Z : State) (a0 : Array Value) (hw : ∀ d ∈ tables_1, d.before a0 Z = true) (hEL : EW Z a0 EL0) (ws : List Jvm.Cond) (hl : l.stackTraces = true) (p0 p1 p2 p3 : Int32) (z : Int32) (u0 sen : RefV) (sy : Addr) (fm : Value) (hfm : fm.isRef = true) (h0 : Heap) (n0 : Nat) (Z0 : n0 ≤ h0.size) (Su : SU Z h0 z) (Tp : ThP Z h0 u0 sen) (Fm : Sta Z h0 "jdk/internal/util/Preconditions" "SIOOBE_FORMATTER" "Ljava/util/function/BiFunction;" fm) (Sy : Sta Z h0 "com/example/jarshelf/jarshelf/cli/CommandLine" "SYNOPSIS" "Ljava/lang/String;" (.ref sy)) (SYN : StrOf Z h0 sy synL) :
    MetFree l x (head1 (Jvm.Cond.code x code maxLocals ret :: ws) room_1) (fun a U => a = #[(.int p0), (.int p1), (.int p2), (.int p3)] ∧ Z.Warmed39 U.vm ∧ U.heap = h0 ∧ CHv Z EL0 U.vm h0) (fun _ _ bl s _ => s.vm.MethodsKnown ∧ s.vm.FramesKnown bl) (fun _ U o U' => ∃ v L, o = .returned v ∧ (fun v h L => v = some (.int 1) ∧ Fr n0 L) v U'.heap L ∧ CHr Z EL0 U.vm U.heap U'.vm U'.heap ∧ ReturnedEndW U o U' L room_1.cells room_1.slots) := by
  refine ct_ofWK (Q := fun v h L => v = some (.int 1) ∧ Fr n0 L) (plainFor_of_name pn_8) hEL ?_
  intro p e s m below meth c s₁ X0 hx hby hml hret hnm hlk D0 hs0 e0 hTK hBelow
  have N0 := Fr.nil n0
  rw [show entryFrame m #[(.int p0), (.int p1), (.int p2), (.int p3)] maxLocals = mkF m 0 #[.val (.int p0), .val (.int p1), .val (.int p2), .val (.int p3), .unset, .unset, .unset, .unset, .unset, .unset, .unset, .unset, .unset] [] from by first | (simp [entryFrame, mkF, argsToLocals, Value.category, maxLocals]; done) | rfl]
  refine w_iloadN X0.here hx (hb hby at_0) rfl (pc' := 1) rfl ?_
  refine w_ldcI X0 hx D0.zw D0.ow (tw hw 0 rfl) (hb hby at_1) (pc' := 3) rfl ?_
  refine w_iand X0.here hx (hb hby at_3) (pc' := 4) rfl ?_
  refine w_i2c X0.here hx (hb hby at_4) (pc' := 5) rfl ?_
  refine w_istore X0.here hx (hb hby at_5) (l' := #[.val (.int p0), .val (.int p1), .val (.int p2), .val (.int p3), .val (.int (p1 &&& (65535 : Int32)).toUInt32.toUInt16.toUInt32.toInt32), .unset, .unset, .unset, .unset, .unset, .unset, .unset, .unset]) rfl (pc' := 7) rfl ?_
  refine w_iloadN X0.here hx (hb hby at_7) rfl (pc' := 8) rfl ?_
  refine w_ldcI X0 hx D0.zw D0.ow (tw hw 0 rfl) (hb hby at_8) (pc' := 10) rfl ?_
  refine w_iand X0.here hx (hb hby at_10) (pc' := 11) rfl ?_
  refine w_i2c X0.here hx (hb hby at_11) (pc' := 12) rfl ?_
  refine w_istore X0.here hx (hb hby at_12) (l' := #[.val (.int p0), .val (.int p1), .val (.int p2), .val (.int p3), .val (.int (p1 &&& (65535 : Int32)).toUInt32.toUInt16.toUInt32.toInt32), .val (.int (p2 &&& (65535 : Int32)).toUInt32.toUInt16.toUInt32.toInt32), .unset, .unset, .unset, .unset, .unset, .unset, .unset]) rfl (pc' := 14) rfl ?_
  refine w_iloadN X0.here hx (hb hby at_14) rfl (pc' := 15) rfl ?_
  refine w_ldcI X0 hx D0.zw D0.ow (tw hw 0 rfl) (hb hby at_15) (pc' := 17) rfl ?_
  refine w_iand X0.here hx (hb hby at_17) (pc' := 18) rfl ?_
  refine w_i2c X0.here hx (hb hby at_18) (pc' := 19) rfl ?_
  refine w_istore X0.here hx (hb hby at_19) (l' := #[.val (.int p0), .val (.int p1), .val (.int p2), .val (.int p3), .val (.int (p1 &&& (65535 : Int32)).toUInt32.toUInt16.toUInt32.toInt32), .val (.int (p2 &&& (65535 : Int32)).toUInt32.toUInt16.toUInt32.toInt32), .val (.int (p3 &&& (65535 : Int32)).toUInt32.toUInt16.toUInt32.toInt32), .unset, .unset, .unset, .unset, .unset, .unset]) rfl (pc' := 21) rfl ?_
  refine w_iloadN X0.here hx (hb hby at_21) rfl (pc' := 22) rfl ?_
  refine w_iconst X0.here hx (hb hby at_22) (z := 3) rfl (pc' := 23) rfl ?_
  refine w_iand X0.here hx (hb hby at_23) (pc' := 24) rfl ?_
  refine w_istore X0.here hx (hb hby at_24) (l' := #[.val (.int p0), .val (.int p1), .val (.int p2), .val (.int p3), .val (.int (p1 &&& (65535 : Int32)).toUInt32.toUInt16.toUInt32.toInt32), .val (.int (p2 &&& (65535 : Int32)).toUInt32.toUInt16.toUInt32.toInt32), .val (.int (p3 &&& (65535 : Int32)).toUInt32.toUInt16.toUInt32.toInt32), .val (.int (p0 &&& (3 : Int32))), .unset, .unset, .unset, .unset, .unset]) rfl (pc' := 26) rfl ?_
  exact lawMid (P := fun _ => True) (R := room_1) (cells := 0) (slots := 0) Z a0 hw hx hby hml hEL hret hlk hTK hBelow hl p0 p1 p2 p3 _ _ _ _ z u0 sen sy fm hfm h0 _ n0 Z0 Su Tp Fm Sy SYN (own_k3 p0) (own_i2c _) (own_i2c _) (own_i2c _) X0 e0 N0 D0 Ext.rfl'
set_option maxRecDepth 65536 in
set_option maxHeartbeats 40000000 in
theorem comes_1 {Post : Tables → Env → Array Value → State → Outcome → State → Prop} (hpost : ∀ tb e args s v u, (limb_1_1.after args s (.returned v) u = true ∧ limb_1_2.after args s (.returned v) u = true ∧ True) → ReturnedEndW s (.returned v) u (Jvm.fieldLocs frame_1_writes args s ++ Jvm.arrayLocs frame_1_arrays args s ++ Jvm.staticLocs frame_1_statics s) 48 9280 → Post tb e args s (.returned v) u) :
    ArmFor flags0 classFile x code maxLocals ret World_1 tables_1 room_1 Calls_1 rest_1 Pre_1 Post := by
  intro l hfl _ _ p e ha hc hk s m args below hf hA hF happ hP
  obtain ⟨hcalls, hrest, hpre⟩ := hP
  obtain ⟨-, -, -, hnamed, -, -, -, hat⟩ := (Spec.applies_iff hf).mp happ
  obtain ⟨hg, hn⟩ := and_e (Cond.before_iff.mp (show (Jvm.Cond.and given_1 narrow_1).before args s = true from hpre))
  obtain ⟨hg0, hgr0⟩ := and_e hg
  obtain ⟨hg1, hgr1⟩ := and_e hgr0
  obtain ⟨hg2, hgr2⟩ := and_e hgr1
  obtain ⟨hg3, hgr3⟩ := and_e hgr2
  obtain ⟨w0, w1, w2, w3, rfl⟩ : ∃ w0 w1 w2 w3 : Value, args = #[w0, w1, w2, w3] := by
    have hs : args.size = 4 := by simpa [Cond.value, given_1] using hg0
    obtain ⟨L⟩ := args
    match L, hs with
    | [w0, w1, w2, w3], _ => exact ⟨w0, w1, w2, w3, rfl⟩
  have hw := fun d (hd : d ∈ tables_1) => atoms_spec (ws := Jvm.Cond.code x code maxLocals ret :: tables_1) hat d (List.mem_cons_of_mem _ hd)
  have hfit : Fit s := fun {y c} hc i hi => by
    obtain ⟨ha, rfl⟩ := Array.getElem?_eq_some_iff.mp hc
    have q := List.all_eq_true.mp ((Array.all_eq_true_iff_forall_mem.mp hF) _ (Array.getElem_mem ha)) i (List.mem_range.mpr hi)
    simpa [Array.getElem?_eq_getElem hi] using q
  obtain ⟨hsets, hown0⟩ := atoms_of _ (rest_1_c_eq ▸ (show rest_1_c.before _ s = true from hrest))
  obtain ⟨i0, ei0⟩ := is_v hg1
  obtain rfl : w0 = (.int i0) := Option.some.inj ei0
  obtain ⟨i1, ei1⟩ := is_v hg2
  obtain rfl : w1 = (.int i1) := Option.some.inj ei1
  obtain ⟨i2, ei2⟩ := is_v hg3
  obtain rfl : w2 = (.int i2) := Option.some.inj ei2
  obtain ⟨i3, ei3⟩ := is_v hgr3
  obtain rfl : w3 = (.int i3) := Option.some.inj ei3
  obtain ⟨c0, cr0⟩ := and_e hn
  obtain ⟨c1, cr1⟩ := and_e cr0
  obtain ⟨c2, cr2⟩ := and_e cr1
  obtain ⟨c3, cr3⟩ := and_e cr2
  obtain ⟨c4, cr4⟩ := and_e cr3
  obtain ⟨c5, cr5⟩ := and_e cr4
  obtain ⟨c6, cr6⟩ := and_e cr5
  obtain ⟨c7, cr7⟩ := and_e cr6
  obtain ⟨c8, cr8⟩ := and_e cr7
  obtain ⟨c9, cr9⟩ := and_e cr8
  obtain ⟨c10, cr10⟩ := and_e cr9
  obtain ⟨c11, cr11⟩ := and_e cr10
  obtain ⟨c12, cr12⟩ := and_e cr11
  obtain ⟨c13, cr13⟩ := and_e cr12
  obtain ⟨c14, cr14⟩ := and_e cr13
  obtain ⟨c15, cr15⟩ := and_e cr14
  obtain ⟨c16, cr16⟩ := and_e cr15
  obtain ⟨c17, cr17⟩ := and_e cr16
  obtain ⟨c18, cr18⟩ := and_e cr17
  obtain ⟨c19, cr19⟩ := and_e cr18
  obtain ⟨c20, cr20⟩ := and_e cr19
  obtain ⟨c21, cr21⟩ := and_e cr20
  obtain ⟨c22, cr22⟩ := and_e cr21
  obtain ⟨c23, cr23⟩ := and_e cr22
  obtain ⟨c24, cr24⟩ := and_e cr23
  obtain ⟨c25, cr25⟩ := and_e cr24
  obtain ⟨c26, cr26⟩ := and_e cr25
  obtain ⟨c27, cr27⟩ := and_e cr26
  obtain ⟨c28, cr28⟩ := and_e cr27
  obtain ⟨c29, cr29⟩ := and_e cr28
  obtain ⟨c30, cr30⟩ := and_e cr29
  obtain ⟨c31, cr31⟩ := and_e cr30
  obtain ⟨c32, cr32⟩ := and_e cr31
  obtain ⟨c33, cr33⟩ := and_e cr32
  obtain ⟨c34, cr34⟩ := and_e cr33
  obtain ⟨c35, cr35⟩ := and_e cr34
  obtain ⟨c36, cr36⟩ := and_e cr35
  obtain ⟨c37, cr37⟩ := and_e cr36
  obtain ⟨c38, cr38⟩ := and_e cr37
  obtain ⟨c39, cr39⟩ := and_e cr38
  obtain ⟨c40, cr40⟩ := and_e cr39
  obtain ⟨c41, cr41⟩ := and_e cr40
  obtain ⟨c42, cr42⟩ := and_e cr41
  obtain ⟨c43, cr43⟩ := and_e cr42
  obtain ⟨c44, cr44⟩ := and_e cr43
  obtain ⟨c45, cr45⟩ := and_e cr44
  obtain ⟨c46, cr46⟩ := and_e cr45
  obtain ⟨c47, cr47⟩ := and_e cr46
  obtain ⟨c48, cr48⟩ := and_e cr47
  obtain ⟨c49, cr49⟩ := and_e cr48
  obtain ⟨c50, cr50⟩ := and_e cr49
  obtain ⟨c51, cr51⟩ := and_e cr50
  obtain ⟨c52, cr52⟩ := and_e cr51
  have c53 := cr52
  obtain ⟨z, SU0⟩ := SU.start (hsets _ (List.mem_of_getElem? (i := 0) rfl)) (hsets _ (List.mem_of_getElem? (i := 1) rfl)) (hsets _ (List.mem_of_getElem? (i := 2) rfl)) (hsets _ (List.mem_of_getElem? (i := 31) rfl)) (hsets _ (List.mem_of_getElem? (i := 32) rfl)) (hsets _ (List.mem_of_getElem? (i := 34) rfl)) (hsets _ (List.mem_of_getElem? (i := 35) rfl)) (hsets _ (List.mem_of_getElem? (i := 37) rfl)) (hsets _ (List.mem_of_getElem? (i := 38) rfl))
  obtain ⟨fm, efm, hfm⟩ := isR_v (Cond.before_iff.mp (hsets _ (List.mem_of_getElem? (i := 8) rfl)))
  have Sfm := Sta.start efm (Or.inl (hsets _ (List.mem_of_getElem? (i := 7) rfl)))
  obtain ⟨un, eun, hun⟩ := isR_v (Cond.before_iff.mp (hsets _ (List.mem_of_getElem? (i := 16) rfl)))
  have Sun := Sta.start eun (Or.inl (hsets _ (List.mem_of_getElem? (i := 15) rfl)))
  obtain ⟨se, ese, hse⟩ := isR_v (Cond.before_iff.mp (hsets _ (List.mem_of_getElem? (i := 21) rfl)))
  have Sse := Sta.start ese (Or.inl (hsets _ (List.mem_of_getElem? (i := 20) rfl)))
  have Tp : ThP s s.heap ⟨un, hun⟩ ⟨se, hse⟩ := ⟨ThS.start, Sun, Sse⟩
  obtain ⟨sy, esy⟩ := exa_v c0
  have Sy := Sta.start esy (Or.inr ⟨(tw hw 176 rfl), (tw hw 177 rfl)⟩)
  have SYN : StrOf s s.heap sy synL := st_str hfit esy c0 c1 c2 c3 (bs := synL) ⟨c4, c5, c6, c7, c8, c9, c10, c11, c12, c13, c14, c15, c16, c17, c18, c19, c20, c21, c22, c23, c24, c25, c26, c27, c28, c29, c30, c31, c32, c33, c34, c35, c36, c37, c38, c39, c40, c41, c42, c43, c44, c45, c46, c47, c48, c49, c50, c51, c52, c53, trivial⟩ (by decide +kernel) (by decide +kernel) (by decide +kernel) synL_lat
  have hEL : EW s _ EL0 := EW.cons (tw hw 62 rfl) (by decide) (EW.cons (tw hw 1 rfl) (by decide) (EW.cons (tw hw 252 rfl) (by decide) EW.nil))
  have CH0 : CHv s EL0 s.vm s.heap := CHv.start hEL (fun q hq => hcalls.2.2.1 q hq) (hsets _ (List.mem_of_getElem? (i := 2) rfl)) (tw hw 4 rfl) (tw hw 3 rfl)
  have hTK := own_tk hcalls.2.1
  have hBelow := own_fk hcalls.1 hf
  obtain ⟨n, o, h1, h2, h3, _, L, rfl, ⟨rfl, N⟩, -, hq⟩ := rm0 l s _ hw hEL tables_1 (own_st hfl) i0 i1 i2 i3 z ⟨un, hun⟩ ⟨se, hse⟩ sy fm hfm s.heap s.heap.size (Nat.le_refl _) SU0 Tp Sfm Sy SYN p e ha hc hk s m _ below hf ((Spec.applies_iff_loose hf).mp happ).1 ⟨rfl, State.Warmed39.refl s, rfl, CH0⟩ ⟨hTK, hBelow⟩
  refine ⟨n, _, h1, h2, h3, hpost _ _ _ _ _ _ ⟨Cond.after_iff.mpr rfl, Cond.after_iff.mpr (eq_i res_at (Term.int_eval (1)) rfl), trivial⟩ ⟨hq.1, hq.2.1, hq.2.2.1, (hq.2.2.2.sift fun y hy => Or.inr (N y hy)).mono (by decide) (by decide)⟩⟩
theorem main_1_1 : Claimed_1_1 := comes_1 fun _ _ _ _ _ _ h hF => ⟨h.1, hF⟩
theorem main_1_2 : Claimed_1_2 := comes_1 fun _ _ _ _ _ _ h hF => ⟨h.2.1, hF⟩
end Jvm.Pilot.@@N@@
namespace Jvm.Pilot.@@N@@
open Jvm Jvm.ClassFile Sem Op Lib Jvm.Free Jvm.Stand Jvm.Pilot.@@N@@.Jvm.D
/-! MADE BY PROGRAM (witnessworld.py) out of the Statement's table words and the real class files: 43 classes; the members and pool entries that the words name. The judged class is class 1, her method 1. -/
namespace start1
open Jvm.ClassFile
def u (s : String) : CpInfo := .utf8 (stringToUtf16 s)
/-- a pool by its gaps: so many unusable entries, then the entry; so many at the end -/
def gap : Nat → List CpInfo → List CpInfo
  | 0, r => r
  | n + 1, r => .unusable :: gap n r
def poolList (es : List (Nat × CpInfo)) (last : Nat) : List CpInfo := es.foldr (fun e r => gap e.1 (e.2 :: r)) (gap last [])
def pool (es : List (Nat × CpInfo)) (last : Nat) : Array CpInfo := ⟨poolList es last⟩
def fileOf (pool : Array CpInfo) (this : Nat) (attrs : Array Attribute := #[]) (ms : Array MethodInfo := #[]) (fl : Nat := 33) (sup : Nat := 0) (ifs : Array Nat := #[]) (fds : Array FieldInfo := #[]) : ClassFile where
  minorVersion := 0
  majorVersion := 65
  constantPool := pool
  accessFlags := fl
  thisClass := this
  superClass := sup
  interfaces := ifs
  fields := fds
  methods := ms
  attributes := attrs
def plain (name : String) (sup : Option ClassId) : Class where
  name := name
  kind := .ordinary
  loader := none
  accessFlags := 33
  super := sup
  interfaces := #[]
  cf := none
  fields := #[]
  methods := #[]
  instanceTypes := #[]
  staticTypes := #[]
  resolved := #[]
  callSites := []
  init := .initialized
  statics := none
  mirror := none

def pool0 : Array CpInfo := pool [(5, u "<init>"), (0, u "()V"), (1, .class_ 10), (1, u "java/lang/Object")] 113

def k0c0 : Code := { maxStack := 0, maxLocals := 1, code := object_method_1_code, exceptionTable := #[], attributes := #[] }
def k0m0 : Method := { name := "<init>", desc := "()V", sig := { parameters := [], returnType := none }, accessFlags := 1, code := some k0c0 }
/-- java/lang/Object -/
def k0 : Class := { plain "java/lang/Object" none with
  accessFlags := 33
  interfaces := #[]
  cf := some (fileOf pool0 8 #[] #[{ accessFlags := 1, nameIndex := 5, descriptorIndex := 6, attributes := #[] }] 33 0 #[] #[])
  fields := #[]
  methods := #[k0m0]
  instanceTypes := #[]
  staticTypes := #[]
  resolved := Array.replicate 124 none
  statics := none }

def pool1 : Array CpInfo := pool [(2, .class_ 4), (1, u "java/lang/Object"), (0, u "<init>"), (0, u "()V"), (0, .integer 65535), (0, .string 9), (0, u ""), (0, .methodref 11 12), (0, .class_ 13), (0, .nameAndType 14 15), (0, u "java/lang/String"), (0, u "valueOf"), (0, u "(C)Ljava/lang/String;"), (0, .methodref 11 17), (0, .nameAndType 5 18), (0, u "([C)V"), (0, .methodref 20 21), (0, .class_ 22), (0, .nameAndType 23 24), (0, u "com/example/jarshelf/jarshelf/cli/UsageExceptionUnexpectedArgumentPinLaw"), (0, u "expected"), (0, u "(ICCC)Ljava/lang/String;"), (0, .methodref 26 27), (0, .class_ 28), (0, .nameAndType 29 30), (0, u "com/example/jarshelf/jarshelf/cli/UsageException"), (0, u "unexpectedArgument"), (0, u "(Ljava/lang/String;)Lcom/example/jarshelf/jarshelf/cli/UsageException;"), (0, .methodref 26 32), (0, .nameAndType 33 34), (0, u "getMessage"), (0, u "()Ljava/lang/String;"), (0, .methodref 26 36), (0, .nameAndType 37 34), (0, u "synopsis"), (0, .methodref 11 39), (0, .nameAndType 40 41), (0, u "equals"), (0, u "(Ljava/lang/Object;)Z"), (0, .string 43), (0, u "usage: jarshelf [--root DIR] COMMAND [ARGUMENT...]"), (2, u "law"), (0, u "(IIII)Z")] 3

def k1m0 : Method := { name := "<init>", desc := "()V", sig := { parameters := [], returnType := none }, accessFlags := 2, code := none }
def k1c1 : Code := { maxStack := 6, maxLocals := 13, code := code, exceptionTable := #[], attributes := #[] }
def k1m1 : Method := { name := "law", desc := "(IIII)Z", sig := { parameters := [.int, .int, .int, .int], returnType := some .boolean }, accessFlags := 9, code := some k1c1 }
def k1c2 : Code := { maxStack := 6, maxLocals := 4, code := method_3_code, exceptionTable := #[], attributes := #[] }
def k1m2 : Method := { name := "expected", desc := "(ICCC)Ljava/lang/String;", sig := { parameters := [.int, .char, .char, .char], returnType := some (.object "java/lang/String") }, accessFlags := 10, code := some k1c2 }
/-- com/example/jarshelf/jarshelf/cli/UsageExceptionUnexpectedArgumentPinLaw -/
def k1 : Class := { plain "com/example/jarshelf/jarshelf/cli/UsageExceptionUnexpectedArgumentPinLaw" (some 0) with
  accessFlags := 49
  interfaces := #[]
  cf := some (fileOf pool1 20 #[] #[{ accessFlags := 2, nameIndex := 5, descriptorIndex := 6, attributes := #[] }, { accessFlags := 9, nameIndex := 46, descriptorIndex := 47, attributes := #[] }, { accessFlags := 10, nameIndex := 23, descriptorIndex := 24, attributes := #[] }] 49 2 #[] #[])
  fields := #[]
  methods := #[k1m0, k1m1, k1m2]
  instanceTypes := #[]
  staticTypes := #[]
  resolved := Array.replicate 51 none
  statics := none }

def pool2 : Array CpInfo := pool [(1, .class_ 2), (0, u "java/io/Serializable"), (0, .class_ 4), (0, u "java/lang/Object")] 2

/-- java/io/Serializable -/
def k2 : Class := { plain "java/io/Serializable" (some 0) with
  accessFlags := 1537
  interfaces := #[]
  cf := some (fileOf pool2 1 #[] #[] 1537 3 #[] #[])
  fields := #[]
  methods := #[]
  instanceTypes := #[]
  staticTypes := #[]
  resolved := Array.replicate 7 none
  statics := none }

def pool3 : Array CpInfo := pool [(1, .class_ 2), (0, u "java/lang/Comparable"), (0, .class_ 4), (0, u "java/lang/Object")] 7

/-- java/lang/Comparable -/
def k3 : Class := { plain "java/lang/Comparable" (some 0) with
  accessFlags := 1537
  interfaces := #[]
  cf := some (fileOf pool3 1 #[] #[] 1537 3 #[] #[])
  fields := #[]
  methods := #[]
  instanceTypes := #[]
  staticTypes := #[]
  resolved := Array.replicate 12 none
  statics := none }

def pool4 : Array CpInfo := pool [(2, .class_ 4), (1, u "java/lang/CharSequence"), (42, .class_ 48), (0, u "java/lang/CharSequence$1CodePointIterator"), (10, .class_ 60), (0, u "java/lang/CharSequence$1CharIterator"), (5, .class_ 67), (0, u "java/lang/Object")] 63

/-- java/lang/CharSequence -/
def k4 : Class := { plain "java/lang/CharSequence" (some 0) with
  accessFlags := 1537
  interfaces := #[]
  cf := some (fileOf pool4 2 #[.nestMembers #[47, 59]] #[] 1537 66 #[] #[])
  fields := #[]
  methods := #[]
  instanceTypes := #[]
  staticTypes := #[]
  resolved := Array.replicate 131 none
  statics := none }

def pool5 : Array CpInfo := pool [(1, .class_ 2), (0, u "java/lang/constant/Constable"), (0, .class_ 4), (0, u "java/lang/Object")] 6

/-- java/lang/constant/Constable -/
def k5 : Class := { plain "java/lang/constant/Constable" (some 0) with
  accessFlags := 1537
  interfaces := #[]
  cf := some (fileOf pool5 1 #[] #[] 1537 3 #[] #[])
  fields := #[]
  methods := #[]
  instanceTypes := #[]
  staticTypes := #[]
  resolved := Array.replicate 11 none
  statics := none }

def pool6 : Array CpInfo := pool [(1, .class_ 2), (0, u "java/lang/constant/ConstantDesc"), (0, .class_ 4), (0, u "java/lang/Object")] 32

/-- java/lang/constant/ConstantDesc -/
def k6 : Class := { plain "java/lang/constant/ConstantDesc" (some 0) with
  accessFlags := 1537
  interfaces := #[]
  cf := some (fileOf pool6 1 #[] #[] 1537 3 #[] #[])
  fields := #[]
  methods := #[]
  instanceTypes := #[]
  staticTypes := #[]
  resolved := Array.replicate 37 none
  statics := none }

def pool7 : Array CpInfo := pool [(1, .methodref 2 3), (0, .class_ 4), (0, .nameAndType 5 6), (0, u "java/lang/Object"), (0, u "<init>"), (0, u "()V"), (2, .fieldref 10 11), (0, .class_ 12), (0, .nameAndType 13 14), (0, u "java/lang/String"), (0, u "value"), (0, u "[B"), (0, .fieldref 10 16), (0, .nameAndType 17 18), (0, u "coder"), (0, u "B"), (2, u "hash"), (0, u "I"), (2, u "hashIsZero"), (0, u "Z"), (0, .methodref 10 28), (0, .nameAndType 5 29), (0, u "([CIILjava/lang/Void;)V"), (6, u "checkBoundsOffCount"), (0, u "(III)I"), (0, .fieldref 10 39), (0, .nameAndType 40 26), (0, u "COMPACT_STRINGS"), (1, .class_ 44), (1, u "java/lang/StringUTF16"), (0, u "compress"), (1, .methodref 42 48), (0, .nameAndType 49 50), (0, u "coderFromArrayLen"), (0, u "([BI)B"), (2, u "toBytes"), (0, .methodref 55 56), (0, .class_ 57), (0, .nameAndType 58 59), (0, u "java/util/Arrays"), (0, u "copyOfRange"), (0, u "([BII)[B"), (47, .class_ 109), (1, u "java/lang/StringLatin1"), (32, u "()Z"), (34, .methodref 42 178), (0, .nameAndType 45 179), (0, u "([CII)[B"), (13, .class_ 195), (1, u "java/lang/System"), (13, .methodref 10 210), (0, .nameAndType 5 211), (0, u "([BB)V"), (0, .methodref 193 213), (0, .nameAndType 214 215), (0, u "arraycopy"), (0, u "(Ljava/lang/Object;ILjava/lang/Object;II)V"), (118, u "()I"), (0, .methodref 10 336), (0, .nameAndType 17 337), (0, u "()B"), (2, u "()[B"), (28, u "(C)Z"), (119, .methodref 10 490), (0, .nameAndType 5 491), (0, u "(Ljava/lang/AbstractStringBuilder;Ljava/lang/Void;)V"), (1, .nameAndType 494 142), (0, u "isLatin1"), (11, .nameAndType 507 334), (0, u "length"), (24, u "getBytes"), (8, .methodref 107 542), (0, .nameAndType 543 544), (0, u "equals"), (0, u "([B[B)Z"), (4, .methodref 550 506), (0, .class_ 551), (0, u "java/lang/AbstractStringBuilder"), (0, .methodref 550 553), (0, .nameAndType 554 340), (0, u "getValue"), (18, u "(Ljava/lang/Object;)Z"), (1, .class_ 576), (0, u "java/lang/CharSequence"), (22, u "CASE_INSENSITIVE_ORDER"), (0, u "Ljava/util/Comparator;"), (181, u "valueOf"), (0, u "(C)Ljava/lang/String;"), (37, u "([BIB)V"), (188, u "([C)V"), (4, .methodref 107 1016), (0, .nameAndType 1017 369), (0, u "canEncode"), (0, .methodref 107 1019), (0, .nameAndType 53 1020), (0, u "(C)[B"), (0, .methodref 42 1019), (25, .methodref 550 493), (0, .fieldref 550 1049), (0, .nameAndType 1050 26), (0, u "maybeLatin1"), (2, .fieldref 1054 1055), (0, .class_ 1056), (0, .nameAndType 1057 1058), (0, u "jdk/internal/util/Preconditions"), (0, u "SIOOBE_FORMATTER"), (0, u "Ljava/util/function/BiFunction;"), (5, u "(IIILjava/util/function/BiFunction;)I"), (0, .methodref 1054 1066), (0, .nameAndType 1067 1064), (0, u "checkFromIndexSize"), (33, u "serialPersistentFields"), (0, u "[Ljava/io/ObjectStreamField;"), (0, .class_ 1104), (0, u "java/lang/String$CaseInsensitiveComparator"), (1, .class_ 1107), (0, u "java/io/Serializable"), (0, .class_ 1109), (0, u "java/lang/Comparable"), (0, .class_ 1111), (0, u "java/lang/constant/Constable"), (0, .class_ 1113), (0, u "java/lang/constant/ConstantDesc"), (2, u "serialVersionUID"), (0, u "J"), (3, u "REPL"), (0, u "C"), (2, u "LATIN1"), (1, u "UTF16"), (105, u "(Ljava/lang/StringBuilder;)V")] 217

def k7m0 : Method := { name := "<init>", desc := "()V", sig := { parameters := [], returnType := none }, accessFlags := 1, code := none }
def k7c1 : Code := { maxStack := 5, maxLocals := 2, code := jdk_42_method_3_code, exceptionTable := #[], attributes := #[] }
def k7m1 : Method := { name := "<init>", desc := "([C)V", sig := { parameters := [(.array .char)], returnType := none }, accessFlags := 1, code := some k7c1 }
def k7c2 : Code := { maxStack := 3, maxLocals := 2, code := jdk_42_method_53_code, exceptionTable := #[], attributes := #[] }
def k7m2 : Method := { name := "<init>", desc := "(Ljava/lang/StringBuilder;)V", sig := { parameters := [(.object "java/lang/StringBuilder")], returnType := none }, accessFlags := 1, code := some k7c2 }
def k7c3 : Code := { maxStack := 2, maxLocals := 1, code := jdk_42_method_54_code, exceptionTable := #[], attributes := #[] }
def k7m3 : Method := { name := "length", desc := "()I", sig := { parameters := [], returnType := some .int }, accessFlags := 1, code := some k7c3 }
def k7c4 : Code := { maxStack := 2, maxLocals := 3, code := jdk_42_method_66_code, exceptionTable := #[], attributes := #[] }
def k7m4 : Method := { name := "equals", desc := "(Ljava/lang/Object;)Z", sig := { parameters := [(.object "java/lang/Object")], returnType := some .boolean }, accessFlags := 1, code := some k7c4 }
def k7c5 : Code := { maxStack := 4, maxLocals := 1, code := jdk_42_method_139_code, exceptionTable := #[], attributes := #[] }
def k7m5 : Method := { name := "valueOf", desc := "(C)Ljava/lang/String;", sig := { parameters := [.char], returnType := some (.object "java/lang/String") }, accessFlags := 9, code := some k7c5 }
def k7c6 : Code := { maxStack := 5, maxLocals := 4, code := jdk_42_method_147_code, exceptionTable := #[], attributes := #[] }
def k7m6 : Method := { name := "getBytes", desc := "([BIB)V", sig := { parameters := [(.array .byte), .int, .byte], returnType := none }, accessFlags := 0, code := some k7c6 }
def k7c7 : Code := { maxStack := 4, maxLocals := 6, code := jdk_42_method_149_code, exceptionTable := #[], attributes := #[] }
def k7m7 : Method := { name := "<init>", desc := "([CIILjava/lang/Void;)V", sig := { parameters := [(.array .char), .int, .int, (.object "java/lang/Void")], returnType := none }, accessFlags := 2, code := some k7c7 }
def k7c8 : Code := { maxStack := 5, maxLocals := 5, code := jdk_42_method_150_code, exceptionTable := #[], attributes := #[] }
def k7m8 : Method := { name := "<init>", desc := "(Ljava/lang/AbstractStringBuilder;Ljava/lang/Void;)V", sig := { parameters := [(.object "java/lang/AbstractStringBuilder"), (.object "java/lang/Void")], returnType := none }, accessFlags := 0, code := some k7c8 }
def k7c9 : Code := { maxStack := 2, maxLocals := 3, code := jdk_42_method_151_code, exceptionTable := #[], attributes := #[] }
def k7m9 : Method := { name := "<init>", desc := "([BB)V", sig := { parameters := [(.array .byte), .byte], returnType := none }, accessFlags := 0, code := some k7c9 }
def k7c10 : Code := { maxStack := 1, maxLocals := 1, code := jdk_42_method_152_code, exceptionTable := #[], attributes := #[] }
def k7m10 : Method := { name := "coder", desc := "()B", sig := { parameters := [], returnType := some .byte }, accessFlags := 0, code := some k7c10 }
def k7c11 : Code := { maxStack := 4, maxLocals := 3, code := jdk_42_method_157_code, exceptionTable := #[], attributes := #[] }
def k7m11 : Method := { name := "checkBoundsOffCount", desc := "(III)I", sig := { parameters := [.int, .int, .int], returnType := some .int }, accessFlags := 8, code := some k7c11 }
/-- java/lang/String -/
def k7 : Class := { plain "java/lang/String" (some 0) with
  accessFlags := 49
  interfaces := #[2, 3, 4, 5, 6]
  cf := some (fileOf pool7 10 #[.nestMembers #[1103]] #[{ accessFlags := 1, nameIndex := 5, descriptorIndex := 6, attributes := #[] }, { accessFlags := 1, nameIndex := 5, descriptorIndex := 1010, attributes := #[] }, { accessFlags := 1, nameIndex := 5, descriptorIndex := 1233, attributes := #[] }, { accessFlags := 1, nameIndex := 507, descriptorIndex := 334, attributes := #[] }, { accessFlags := 1, nameIndex := 543, descriptorIndex := 573, attributes := #[] }, { accessFlags := 9, nameIndex := 782, descriptorIndex := 783, attributes := #[] }, { accessFlags := 0, nameIndex := 532, descriptorIndex := 821, attributes := #[] }, { accessFlags := 2, nameIndex := 5, descriptorIndex := 29, attributes := #[] }, { accessFlags := 0, nameIndex := 5, descriptorIndex := 491, attributes := #[] }, { accessFlags := 0, nameIndex := 5, descriptorIndex := 211, attributes := #[] }, { accessFlags := 0, nameIndex := 17, descriptorIndex := 337, attributes := #[] }, { accessFlags := 8, nameIndex := 36, descriptorIndex := 37, attributes := #[] }] 49 2 #[1106, 1108, 575, 1110, 1112] #[{ accessFlags := 18, nameIndex := 13, descriptorIndex := 14, attributes := #[] }, { accessFlags := 18, nameIndex := 17, descriptorIndex := 18, attributes := #[] }, { accessFlags := 2, nameIndex := 21, descriptorIndex := 22, attributes := #[] }, { accessFlags := 2, nameIndex := 25, descriptorIndex := 26, attributes := #[] }, { accessFlags := 26, nameIndex := 1116, descriptorIndex := 1117, attributes := #[] }, { accessFlags := 24, nameIndex := 40, descriptorIndex := 26, attributes := #[] }, { accessFlags := 26, nameIndex := 1101, descriptorIndex := 1102, attributes := #[] }, { accessFlags := 26, nameIndex := 1121, descriptorIndex := 1122, attributes := #[] }, { accessFlags := 25, nameIndex := 599, descriptorIndex := 600, attributes := #[] }, { accessFlags := 24, nameIndex := 1125, descriptorIndex := 18, attributes := #[] }, { accessFlags := 24, nameIndex := 1127, descriptorIndex := 18, attributes := #[] }])
  fields := #[{ name := "value", type := (.array .byte), accessFlags := 18, slot := 0, constantValue := 0 }, { name := "coder", type := .byte, accessFlags := 18, slot := 1, constantValue := 0 }, { name := "hash", type := .int, accessFlags := 2, slot := 2, constantValue := 0 }, { name := "hashIsZero", type := .boolean, accessFlags := 2, slot := 3, constantValue := 0 }, { name := "serialVersionUID", type := .long, accessFlags := 26, slot := 0, constantValue := 0 }, { name := "COMPACT_STRINGS", type := .boolean, accessFlags := 24, slot := 1, constantValue := 0 }, { name := "serialPersistentFields", type := (.array (.object "java/io/ObjectStreamField")), accessFlags := 26, slot := 2, constantValue := 0 }, { name := "REPL", type := .char, accessFlags := 26, slot := 3, constantValue := 0 }, { name := "CASE_INSENSITIVE_ORDER", type := (.object "java/util/Comparator"), accessFlags := 25, slot := 4, constantValue := 0 }, { name := "LATIN1", type := .byte, accessFlags := 24, slot := 5, constantValue := 0 }, { name := "UTF16", type := .byte, accessFlags := 24, slot := 6, constantValue := 0 }]
  methods := #[k7m0, k7m1, k7m2, k7m3, k7m4, k7m5, k7m6, k7m7, k7m8, k7m9, k7m10, k7m11]
  instanceTypes := #[(.array .byte), .byte, .int, .boolean]
  staticTypes := #[.long, .boolean, (.array (.object "java/io/ObjectStreamField")), .char, (.object "java/util/Comparator"), .byte, .byte]
  resolved := Array.replicate 1451 none
  statics := some 0 }

def pool8 : Array CpInfo := pool [(3, .class_ 4), (0, u "java/lang/String"), (1, .class_ 8), (1, u "java/lang/Object"), (0, u "<init>"), (0, u "()V"), (0, .methodref 12 13), (0, .class_ 14), (0, .nameAndType 15 16), (0, u "java/lang/StringUTF16"), (0, u "newBytesLength"), (0, u "(I)I"), (3, .integer 1073741823), (23, .fieldref 12 45), (0, .nameAndType 46 47), (0, u "$assertionsDisabled"), (0, u "Z"), (0, .methodref 12 49), (0, .nameAndType 50 51), (0, u "length"), (0, u "([B)I"), (7, .fieldref 12 60), (0, .nameAndType 61 62), (0, u "HI_BYTE_SHIFT"), (0, u "I"), (0, .fieldref 12 64), (0, .nameAndType 65 62), (0, u "LO_BYTE_SHIFT"), (5, .methodref 12 72), (0, .nameAndType 73 74), (0, u "getChar"), (0, u "([BI)C"), (24, u "(II[B)V"), (7, .methodref 12 108), (0, .nameAndType 109 110), (0, u "newBytesFor"), (0, u "(I)[B"), (0, .methodref 12 112), (0, .nameAndType 113 114), (0, u "putChar"), (0, u "([BII)V"), (0, .methodref 12 116), (0, .nameAndType 117 118), (0, u "compress"), (0, u "([CI[BII)I"), (0, .methodref 12 120), (0, .nameAndType 121 122), (0, u "toBytes"), (0, u "([CII)[B"), (17, u "inflate"), (0, u "([BI[BII)V"), (31, .methodref 12 174), (0, .nameAndType 175 99), (0, u "checkBoundsOffCount"), (85, u "coderFromArrayLen"), (0, u "([BI)B"), (18, u "(III)I"), (87, .class_ 371), (1, u "java/lang/StringUTF16$LinesSpliterator"), (47, .methodref 3 420), (0, .nameAndType 175 281), (9, u "MAX_LENGTH"), (44, u "(C)[B"), (151, .class_ 628), (0, u "java/lang/StringUTF16$CodePointsSpliterator"), (0, .class_ 630), (0, u "java/lang/StringUTF16$CharsSpliterator")] 4

def k8m0 : Method := { name := "<init>", desc := "()V", sig := { parameters := [], returnType := none }, accessFlags := 0, code := none }
def k8c1 : Code := { maxStack := 1, maxLocals := 1, code := jdk_52_method_2_code, exceptionTable := #[], attributes := #[] }
def k8m1 : Method := { name := "newBytesFor", desc := "(I)[B", sig := { parameters := [.int], returnType := some (.array .byte) }, accessFlags := 9, code := some k8c1 }
def k8c2 : Code := { maxStack := 4, maxLocals := 1, code := jdk_52_method_3_code, exceptionTable := #[], attributes := #[] }
def k8m2 : Method := { name := "newBytesLength", desc := "(I)I", sig := { parameters := [.int], returnType := some .int }, accessFlags := 9, code := some k8c2 }
def k8c3 : Code := { maxStack := 4, maxLocals := 3, code := jdk_52_method_4_code, exceptionTable := #[], attributes := #[] }
def k8m3 : Method := { name := "putChar", desc := "([BII)V", sig := { parameters := [(.array .byte), .int, .int], returnType := none }, accessFlags := 8, code := some k8c3 }
def k8c4 : Code := { maxStack := 3, maxLocals := 2, code := jdk_52_method_5_code, exceptionTable := #[], attributes := #[] }
def k8m4 : Method := { name := "getChar", desc := "([BI)C", sig := { parameters := [(.array .byte), .int], returnType := some .char }, accessFlags := 8, code := some k8c4 }
def k8c5 : Code := { maxStack := 2, maxLocals := 1, code := jdk_52_method_6_code, exceptionTable := #[], attributes := #[] }
def k8m5 : Method := { name := "length", desc := "([B)I", sig := { parameters := [(.array .byte)], returnType := some .int }, accessFlags := 9, code := some k8c5 }
def k8c6 : Code := { maxStack := 4, maxLocals := 5, code := jdk_52_method_14_code, exceptionTable := #[], attributes := #[] }
def k8m6 : Method := { name := "toBytes", desc := "([CII)[B", sig := { parameters := [(.array .char), .int, .int], returnType := some (.array .byte) }, accessFlags := 9, code := some k8c6 }
def k8c7 : Code := { maxStack := 2, maxLocals := 2, code := jdk_52_method_15_code, exceptionTable := #[], attributes := #[] }
def k8m7 : Method := { name := "coderFromArrayLen", desc := "([BI)B", sig := { parameters := [(.array .byte), .int], returnType := some .byte }, accessFlags := 8, code := some k8c7 }
def k8c8 : Code := { maxStack := 5, maxLocals := 6, code := jdk_52_method_16_code, exceptionTable := #[], attributes := #[] }
def k8m8 : Method := { name := "compress", desc := "([CII)[B", sig := { parameters := [(.array .char), .int, .int], returnType := some (.array .byte) }, accessFlags := 9, code := some k8c8 }
def k8c9 : Code := { maxStack := 3, maxLocals := 7, code := jdk_52_method_21_code, exceptionTable := #[], attributes := #[] }
def k8m9 : Method := { name := "compress", desc := "([CI[BII)I", sig := { parameters := [(.array .char), .int, (.array .byte), .int, .int], returnType := some .int }, accessFlags := 9, code := some k8c9 }
def k8c10 : Code := { maxStack := 3, maxLocals := 2, code := jdk_52_method_24_code, exceptionTable := #[], attributes := #[] }
def k8m10 : Method := { name := "toBytes", desc := "(C)[B", sig := { parameters := [.char], returnType := some (.array .byte) }, accessFlags := 9, code := some k8c10 }
def k8c11 : Code := { maxStack := 4, maxLocals := 6, code := jdk_52_method_86_code, exceptionTable := #[], attributes := #[] }
def k8m11 : Method := { name := "inflate", desc := "([BI[BII)V", sig := { parameters := [(.array .byte), .int, (.array .byte), .int, .int], returnType := none }, accessFlags := 9, code := some k8c11 }
def k8c12 : Code := { maxStack := 3, maxLocals := 3, code := jdk_52_method_94_code, exceptionTable := #[], attributes := #[] }
def k8m12 : Method := { name := "checkBoundsOffCount", desc := "(II[B)V", sig := { parameters := [.int, .int, (.array .byte)], returnType := none }, accessFlags := 9, code := some k8c12 }
/-- java/lang/StringUTF16 -/
def k8 : Class := { plain "java/lang/StringUTF16" (some 0) with
  accessFlags := 48
  interfaces := #[]
  cf := some (fileOf pool8 12 #[.nestMembers #[627, 629, 369]] #[{ accessFlags := 0, nameIndex := 9, descriptorIndex := 10, attributes := #[] }, { accessFlags := 9, nameIndex := 109, descriptorIndex := 110, attributes := #[] }, { accessFlags := 9, nameIndex := 15, descriptorIndex := 16, attributes := #[] }, { accessFlags := 8, nameIndex := 113, descriptorIndex := 114, attributes := #[] }, { accessFlags := 8, nameIndex := 73, descriptorIndex := 74, attributes := #[] }, { accessFlags := 9, nameIndex := 50, descriptorIndex := 51, attributes := #[] }, { accessFlags := 9, nameIndex := 121, descriptorIndex := 122, attributes := #[] }, { accessFlags := 8, nameIndex := 261, descriptorIndex := 262, attributes := #[] }, { accessFlags := 9, nameIndex := 117, descriptorIndex := 122, attributes := #[] }, { accessFlags := 9, nameIndex := 117, descriptorIndex := 118, attributes := #[] }, { accessFlags := 9, nameIndex := 121, descriptorIndex := 475, attributes := #[] }, { accessFlags := 9, nameIndex := 140, descriptorIndex := 141, attributes := #[] }, { accessFlags := 9, nameIndex := 175, descriptorIndex := 99, attributes := #[] }] 48 6 #[] #[{ accessFlags := 26, nameIndex := 61, descriptorIndex := 62, attributes := #[] }, { accessFlags := 26, nameIndex := 65, descriptorIndex := 62, attributes := #[] }, { accessFlags := 24, nameIndex := 430, descriptorIndex := 62, attributes := #[] }, { accessFlags := 4120, nameIndex := 46, descriptorIndex := 47, attributes := #[] }])
  fields := #[{ name := "HI_BYTE_SHIFT", type := .int, accessFlags := 26, slot := 0, constantValue := 0 }, { name := "LO_BYTE_SHIFT", type := .int, accessFlags := 26, slot := 1, constantValue := 0 }, { name := "MAX_LENGTH", type := .int, accessFlags := 24, slot := 2, constantValue := 0 }, { name := "$assertionsDisabled", type := .boolean, accessFlags := 4120, slot := 3, constantValue := 0 }]
  methods := #[k8m0, k8m1, k8m2, k8m3, k8m4, k8m5, k8m6, k8m7, k8m8, k8m9, k8m10, k8m11, k8m12]
  instanceTypes := #[]
  staticTypes := #[.int, .int, .int, .boolean]
  resolved := Array.replicate 635 none
  statics := some 1 }

def pool9 : Array CpInfo := pool [(1, .methodref 2 3), (0, .class_ 4), (0, .nameAndType 5 6), (0, u "java/lang/Object"), (0, u "<init>"), (0, u "()V"), (0, .fieldref 8 9), (0, .class_ 10), (0, .nameAndType 11 12), (0, u "java/lang/Throwable"), (0, u "cause"), (0, u "Ljava/lang/Throwable;"), (0, .fieldref 8 14), (0, .nameAndType 15 16), (0, u "UNASSIGNED_STACK"), (0, u "[Ljava/lang/StackTraceElement;"), (0, .fieldref 8 18), (0, .nameAndType 19 16), (0, u "stackTrace"), (0, .fieldref 8 21), (0, .nameAndType 22 23), (0, u "SUPPRESSED_SENTINEL"), (0, u "Ljava/util/List;"), (0, .fieldref 8 25), (0, .nameAndType 26 23), (0, u "suppressedExceptions"), (0, .methodref 8 28), (0, .nameAndType 29 30), (0, u "fillInStackTrace"), (0, u "()Ljava/lang/Throwable;"), (0, .fieldref 8 32), (0, .nameAndType 33 34), (0, u "detailMessage"), (0, u "Ljava/lang/String;"), (3, u "()Ljava/lang/String;"), (2, u "getMessage"), (51, .class_ 94), (0, u "java/lang/Throwable$WrappedPrintStream"), (6, .class_ 103), (1, u "java/lang/Throwable$PrintStreamOrWriter"), (61, u "$assertionsDisabled"), (0, u "Z"), (26, .class_ 194), (0, u "java/lang/Throwable$WrappedPrintWriter"), (3, .fieldref 8 199), (0, .nameAndType 200 201), (0, u "backtrace"), (0, u "Ljava/lang/Object;"), (0, .methodref 8 203), (0, .nameAndType 29 204), (0, u "(I)Ljava/lang/Throwable;"), (6, u "depth"), (0, u "I"), (10, u "(Ljava/lang/String;)V"), (45, .class_ 271), (1, u "java/lang/Throwable$SentinelHolder"), (32, u "EMPTY_THROWABLE_ARRAY"), (0, u "[Ljava/lang/Throwable;"), (12, .class_ 319), (0, u "java/io/Serializable"), (0, u "serialVersionUID"), (0, u "J"), (5, u "NULL_CAUSE_MESSAGE"), (0, u "SELF_SUPPRESSION_MESSAGE"), (0, u "CAUSE_CAPTION"), (0, u "SUPPRESSED_CAPTION")] 73

def k9c0 : Code := { maxStack := 2, maxLocals := 1, code := jdk_78_method_1_code, exceptionTable := #[], attributes := #[] }
def k9m0 : Method := { name := "<init>", desc := "()V", sig := { parameters := [], returnType := none }, accessFlags := 1, code := some k9c0 }
def k9c1 : Code := { maxStack := 2, maxLocals := 2, code := jdk_78_method_2_code, exceptionTable := #[], attributes := #[] }
def k9m1 : Method := { name := "<init>", desc := "(Ljava/lang/String;)V", sig := { parameters := [(.object "java/lang/String")], returnType := none }, accessFlags := 1, code := some k9c1 }
def k9c2 : Code := { maxStack := 1, maxLocals := 1, code := jdk_78_method_6_code, exceptionTable := #[], attributes := #[] }
def k9m2 : Method := { name := "getMessage", desc := "()Ljava/lang/String;", sig := { parameters := [], returnType := some (.object "java/lang/String") }, accessFlags := 1, code := some k9c2 }
def k9c3 : Code := { maxStack := 2, maxLocals := 1, code := ⟨#[0x2a, 0xb4, 0x00, 0x11, 0xc7, 0x00, 0x0a, 0x2a, 0xb4, 0x00, 0xc6, 0xc6, 0x00, 0x10, 0x2a, 0x03, 0xb6, 0x00, 0xca, 0x57, 0x2a, 0xb2, 0x00, 0x0d, 0xb5, 0x00, 0x11, 0x2a, 0xb0]⟩, exceptionTable := #[], attributes := #[] }
def k9m3 : Method := { name := "fillInStackTrace", desc := "()Ljava/lang/Throwable;", sig := { parameters := [], returnType := some (.object "java/lang/Throwable") }, accessFlags := 33, code := some k9c3 }
def k9m4 : Method := { name := "fillInStackTrace", desc := "(I)Ljava/lang/Throwable;", sig := { parameters := [.int], returnType := some (.object "java/lang/Throwable") }, accessFlags := 258, code := none }
/-- java/lang/Throwable -/
def k9 : Class := { plain "java/lang/Throwable" (some 0) with
  accessFlags := 33
  interfaces := #[2]
  cf := some (fileOf pool9 8 #[.nestMembers #[193, 93, 101, 269]] #[{ accessFlags := 1, nameIndex := 5, descriptorIndex := 6, attributes := #[] }, { accessFlags := 1, nameIndex := 5, descriptorIndex := 223, attributes := #[] }, { accessFlags := 1, nameIndex := 41, descriptorIndex := 38, attributes := #[] }, { accessFlags := 33, nameIndex := 29, descriptorIndex := 30, attributes := #[] }, { accessFlags := 258, nameIndex := 29, descriptorIndex := 204, attributes := #[] }] 33 2 #[318] #[{ accessFlags := 26, nameIndex := 320, descriptorIndex := 321, attributes := #[] }, { accessFlags := 130, nameIndex := 200, descriptorIndex := 201, attributes := #[] }, { accessFlags := 2, nameIndex := 33, descriptorIndex := 34, attributes := #[] }, { accessFlags := 26, nameIndex := 15, descriptorIndex := 16, attributes := #[] }, { accessFlags := 2, nameIndex := 11, descriptorIndex := 12, attributes := #[] }, { accessFlags := 2, nameIndex := 19, descriptorIndex := 16, attributes := #[] }, { accessFlags := 130, nameIndex := 211, descriptorIndex := 212, attributes := #[] }, { accessFlags := 26, nameIndex := 22, descriptorIndex := 23, attributes := #[] }, { accessFlags := 2, nameIndex := 26, descriptorIndex := 23, attributes := #[] }, { accessFlags := 26, nameIndex := 327, descriptorIndex := 34, attributes := #[] }, { accessFlags := 26, nameIndex := 328, descriptorIndex := 34, attributes := #[] }, { accessFlags := 26, nameIndex := 329, descriptorIndex := 34, attributes := #[] }, { accessFlags := 26, nameIndex := 330, descriptorIndex := 34, attributes := #[] }, { accessFlags := 26, nameIndex := 304, descriptorIndex := 305, attributes := #[] }, { accessFlags := 4120, nameIndex := 165, descriptorIndex := 166, attributes := #[] }])
  fields := #[{ name := "serialVersionUID", type := .long, accessFlags := 26, slot := 0, constantValue := 0 }, { name := "backtrace", type := (.object "java/lang/Object"), accessFlags := 130, slot := 0, constantValue := 0 }, { name := "detailMessage", type := (.object "java/lang/String"), accessFlags := 2, slot := 1, constantValue := 0 }, { name := "UNASSIGNED_STACK", type := (.array (.object "java/lang/StackTraceElement")), accessFlags := 26, slot := 1, constantValue := 0 }, { name := "cause", type := (.object "java/lang/Throwable"), accessFlags := 2, slot := 2, constantValue := 0 }, { name := "stackTrace", type := (.array (.object "java/lang/StackTraceElement")), accessFlags := 2, slot := 3, constantValue := 0 }, { name := "depth", type := .int, accessFlags := 130, slot := 4, constantValue := 0 }, { name := "SUPPRESSED_SENTINEL", type := (.object "java/util/List"), accessFlags := 26, slot := 2, constantValue := 0 }, { name := "suppressedExceptions", type := (.object "java/util/List"), accessFlags := 2, slot := 5, constantValue := 0 }, { name := "NULL_CAUSE_MESSAGE", type := (.object "java/lang/String"), accessFlags := 26, slot := 3, constantValue := 0 }, { name := "SELF_SUPPRESSION_MESSAGE", type := (.object "java/lang/String"), accessFlags := 26, slot := 4, constantValue := 0 }, { name := "CAUSE_CAPTION", type := (.object "java/lang/String"), accessFlags := 26, slot := 5, constantValue := 0 }, { name := "SUPPRESSED_CAPTION", type := (.object "java/lang/String"), accessFlags := 26, slot := 6, constantValue := 0 }, { name := "EMPTY_THROWABLE_ARRAY", type := (.array (.object "java/lang/Throwable")), accessFlags := 26, slot := 7, constantValue := 0 }, { name := "$assertionsDisabled", type := .boolean, accessFlags := 4120, slot := 8, constantValue := 0 }]
  methods := #[k9m0, k9m1, k9m2, k9m3, k9m4]
  instanceTypes := #[(.object "java/lang/Object"), (.object "java/lang/String"), (.object "java/lang/Throwable"), (.array (.object "java/lang/StackTraceElement")), .int, (.object "java/util/List")]
  staticTypes := #[.long, (.array (.object "java/lang/StackTraceElement")), (.object "java/util/List"), (.object "java/lang/String"), (.object "java/lang/String"), (.object "java/lang/String"), (.object "java/lang/String"), (.array (.object "java/lang/Throwable")), .boolean]
  resolved := Array.replicate 404 none
  statics := some 2 }

def pool10 : Array CpInfo := pool [(2, .class_ 4), (1, u "java/lang/Throwable"), (0, u "<init>"), (0, u "()V"), (0, .methodref 2 8), (0, .nameAndType 5 9), (0, u "(Ljava/lang/String;)V"), (9, .class_ 20), (0, u "java/lang/Exception"), (0, u "serialVersionUID"), (0, u "J")] 17

def k10m0 : Method := { name := "<init>", desc := "()V", sig := { parameters := [], returnType := none }, accessFlags := 1, code := none }
def k10c1 : Code := { maxStack := 2, maxLocals := 2, code := jdk_59_method_2_code, exceptionTable := #[], attributes := #[] }
def k10m1 : Method := { name := "<init>", desc := "(Ljava/lang/String;)V", sig := { parameters := [(.object "java/lang/String")], returnType := none }, accessFlags := 1, code := some k10c1 }
/-- java/lang/Exception -/
def k10 : Class := { plain "java/lang/Exception" (some 9) with
  accessFlags := 33
  interfaces := #[]
  cf := some (fileOf pool10 19 #[] #[{ accessFlags := 1, nameIndex := 5, descriptorIndex := 6, attributes := #[] }, { accessFlags := 1, nameIndex := 5, descriptorIndex := 9, attributes := #[] }] 33 2 #[] #[{ accessFlags := 24, nameIndex := 21, descriptorIndex := 22, attributes := #[] }])
  fields := #[{ name := "serialVersionUID", type := .long, accessFlags := 24, slot := 0, constantValue := 0 }]
  methods := #[k10m0, k10m1]
  instanceTypes := #[(.object "java/lang/Object"), (.object "java/lang/String"), (.object "java/lang/Throwable"), (.array (.object "java/lang/StackTraceElement")), .int, (.object "java/util/List")]
  staticTypes := #[.long]
  resolved := Array.replicate 40 none
  statics := none }

def pool11 : Array CpInfo := pool [(1, .fieldref 2 3), (0, .class_ 4), (0, .nameAndType 5 6), (0, u "com/example/jarshelf/jarshelf/cli/CommandLine"), (0, u "SYNOPSIS"), (0, u "Ljava/lang/String;"), (0, .methodref 8 9), (0, .class_ 10), (0, .nameAndType 11 12), (0, u "com/example/jarshelf/jarshelf/cli/UsageException"), (0, u "<init>"), (0, u "(Ljava/lang/String;Ljava/lang/String;)V"), (0, .methodref 14 15), (0, .class_ 16), (0, .nameAndType 11 17), (0, u "java/lang/Exception"), (0, u "(Ljava/lang/String;)V"), (0, .fieldref 8 19), (0, .nameAndType 20 6), (0, u "synopsis"), (0, .class_ 22), (0, u "java/lang/StringBuilder"), (0, .methodref 21 24), (0, .nameAndType 11 25), (0, u "()V"), (2, .methodref 21 29), (0, .nameAndType 30 31), (0, u "append"), (0, u "(Ljava/lang/String;)Ljava/lang/StringBuilder;"), (0, .methodref 21 33), (0, .nameAndType 34 35), (0, u "toString"), (0, u "()Ljava/lang/String;"), (0, .methodref 8 15), (0, .string 38), (0, u "unexpected argument: "), (0, u "serialVersionUID"), (0, u "J"), (6, u "(Ljava/lang/String;)Lcom/example/jarshelf/jarshelf/cli/UsageException;"), (0, u "unexpectedArgument")] 2

def k11c0 : Code := { maxStack := 3, maxLocals := 2, code := prog_7_method_1_code, exceptionTable := #[], attributes := #[] }
def k11m0 : Method := { name := "<init>", desc := "(Ljava/lang/String;)V", sig := { parameters := [(.object "java/lang/String")], returnType := none }, accessFlags := 1, code := some k11c0 }
def k11c1 : Code := { maxStack := 2, maxLocals := 3, code := prog_7_method_2_code, exceptionTable := #[], attributes := #[] }
def k11m1 : Method := { name := "<init>", desc := "(Ljava/lang/String;Ljava/lang/String;)V", sig := { parameters := [(.object "java/lang/String"), (.object "java/lang/String")], returnType := none }, accessFlags := 1, code := some k11c1 }
def k11c2 : Code := { maxStack := 4, maxLocals := 1, code := prog_7_method_4_code, exceptionTable := #[], attributes := #[] }
def k11m2 : Method := { name := "unexpectedArgument", desc := "(Ljava/lang/String;)Lcom/example/jarshelf/jarshelf/cli/UsageException;", sig := { parameters := [(.object "java/lang/String")], returnType := some (.object "com/example/jarshelf/jarshelf/cli/UsageException") }, accessFlags := 9, code := some k11c2 }
def k11c3 : Code := { maxStack := 1, maxLocals := 1, code := prog_7_method_5_code, exceptionTable := #[], attributes := #[] }
def k11m3 : Method := { name := "synopsis", desc := "()Ljava/lang/String;", sig := { parameters := [], returnType := some (.object "java/lang/String") }, accessFlags := 1, code := some k11c3 }
/-- com/example/jarshelf/jarshelf/cli/UsageException -/
def k11 : Class := { plain "com/example/jarshelf/jarshelf/cli/UsageException" (some 10) with
  accessFlags := 49
  interfaces := #[]
  cf := some (fileOf pool11 8 #[] #[{ accessFlags := 1, nameIndex := 11, descriptorIndex := 17, attributes := #[] }, { accessFlags := 1, nameIndex := 11, descriptorIndex := 12, attributes := #[] }, { accessFlags := 9, nameIndex := 48, descriptorIndex := 47, attributes := #[] }, { accessFlags := 1, nameIndex := 20, descriptorIndex := 35, attributes := #[] }] 49 14 #[] #[{ accessFlags := 26, nameIndex := 39, descriptorIndex := 40, attributes := #[] }, { accessFlags := 18, nameIndex := 20, descriptorIndex := 6, attributes := #[] }])
  fields := #[{ name := "serialVersionUID", type := .long, accessFlags := 26, slot := 0, constantValue := 0 }, { name := "synopsis", type := (.object "java/lang/String"), accessFlags := 18, slot := 6, constantValue := 0 }]
  methods := #[k11m0, k11m1, k11m2, k11m3]
  instanceTypes := #[(.object "java/lang/Object"), (.object "java/lang/String"), (.object "java/lang/Throwable"), (.array (.object "java/lang/StackTraceElement")), .int, (.object "java/util/List"), (.object "java/lang/String")]
  staticTypes := #[.long]
  resolved := Array.replicate 51 none
  statics := none }

def pool12 : Array CpInfo := pool [(1, .class_ 2), (0, u "java/lang/Appendable"), (0, .class_ 4), (0, u "java/lang/Object")] 9

/-- java/lang/Appendable -/
def k12 : Class := { plain "java/lang/Appendable" (some 0) with
  accessFlags := 1537
  interfaces := #[]
  cf := some (fileOf pool12 1 #[] #[] 1537 3 #[] #[])
  fields := #[]
  methods := #[]
  instanceTypes := #[]
  staticTypes := #[]
  resolved := Array.replicate 14 none
  statics := none }

def pool13 : Array CpInfo := pool [(1, .class_ 2), (0, u "java/lang/String"), (0, .methodref 4 5), (0, .class_ 6), (0, .nameAndType 7 8), (0, u "java/lang/Object"), (0, u "<init>"), (0, u "()V"), (1, .class_ 12), (1, u "java/lang/AbstractStringBuilder"), (0, u "EMPTYVALUE"), (0, u "[B"), (0, .fieldref 10 16), (0, .nameAndType 17 14), (0, u "value"), (0, .fieldref 1 19), (0, .nameAndType 20 21), (0, u "COMPACT_STRINGS"), (0, u "Z"), (0, .fieldref 10 23), (0, .nameAndType 24 25), (0, u "coder"), (0, u "B"), (0, .methodref 27 28), (0, .class_ 29), (0, .nameAndType 30 31), (0, u "java/lang/StringUTF16"), (0, u "newBytesFor"), (0, u "(I)[B"), (0, .methodref 1 33), (0, .nameAndType 34 35), (0, u "length"), (0, u "()I"), (3, .integer 2147483647), (0, .methodref 1 41), (0, .nameAndType 24 42), (0, u "()B"), (2, u "append"), (0, u "(Ljava/lang/String;)Ljava/lang/AbstractStringBuilder;"), (1, .class_ 49), (0, u "java/lang/CharSequence"), (19, u "(Ljava/lang/String;)V"), (5, u "maybeLatin1"), (3, .fieldref 10 80), (0, .nameAndType 81 82), (0, u "count"), (0, u "I"), (0, .methodref 10 84), (0, .nameAndType 85 86), (0, u "isLatin1"), (0, u "()Z"), (1, .class_ 90), (1, u "java/lang/StringLatin1"), (9, .methodref 10 101), (0, .nameAndType 102 103), (0, u "ensureCapacityInternal"), (0, u "(I)V"), (0, .methodref 10 105), (0, .nameAndType 106 107), (0, u "newCapacity"), (0, u "(I)I"), (0, .methodref 109 110), (0, .class_ 111), (0, .nameAndType 112 113), (0, u "java/util/Arrays"), (0, u "copyOf"), (0, u "([BI)[B"), (0, .methodref 115 116), (0, .class_ 117), (0, .nameAndType 118 119), (0, u "jdk/internal/util/ArraysSupport"), (0, u "newLength"), (0, u "(III)I"), (5, .methodref 88 126), (0, .nameAndType 127 128), (0, u "inflate"), (0, u "([BI[BII)V"), (66, .methodref 10 196), (0, .nameAndType 127 8), (11, .methodref 10 209), (0, .nameAndType 210 211), (0, u "putStringAt"), (0, u "(ILjava/lang/String;)V"), (5, u "inflateIfNeededFor"), (2, .nameAndType 221 222), (0, u "getBytes"), (0, u "([BIB)V"), (174, .methodref 10 398), (0, .nameAndType 217 69), (0, .methodref 1 220), (3, u "()[B"), (40, .class_ 445), (0, u "java/lang/Appendable"), (106, u "getValue")] 56

def k13m0 : Method := { name := "<init>", desc := "()V", sig := { parameters := [], returnType := none }, accessFlags := 0, code := none }
def k13c1 : Code := { maxStack := 2, maxLocals := 2, code := jdk_68_method_2_code, exceptionTable := #[], attributes := #[] }
def k13m1 : Method := { name := "<init>", desc := "(I)V", sig := { parameters := [.int], returnType := none }, accessFlags := 0, code := some k13c1 }
def k13c2 : Code := { maxStack := 1, maxLocals := 1, code := jdk_68_method_6_code, exceptionTable := #[], attributes := #[] }
def k13m2 : Method := { name := "length", desc := "()I", sig := { parameters := [], returnType := some .int }, accessFlags := 1, code := some k13c2 }
def k13c3 : Code := { maxStack := 4, maxLocals := 3, code := jdk_68_method_9_code, exceptionTable := #[], attributes := #[] }
def k13m3 : Method := { name := "ensureCapacityInternal", desc := "(I)V", sig := { parameters := [.int], returnType := none }, accessFlags := 2, code := some k13c3 }
def k13c4 : Code := { maxStack := 5, maxLocals := 6, code := jdk_68_method_10_code, exceptionTable := #[], attributes := #[] }
def k13m4 : Method := { name := "newCapacity", desc := "(I)I", sig := { parameters := [.int], returnType := some .int }, accessFlags := 2, code := some k13c4 }
def k13c5 : Code := { maxStack := 5, maxLocals := 2, code := jdk_68_method_11_code, exceptionTable := #[], attributes := #[] }
def k13m5 : Method := { name := "inflate", desc := "()V", sig := { parameters := [], returnType := none }, accessFlags := 2, code := some k13c5 }
def k13c6 : Code := { maxStack := 3, maxLocals := 3, code := jdk_68_method_22_code, exceptionTable := #[], attributes := #[] }
def k13m6 : Method := { name := "append", desc := "(Ljava/lang/String;)Ljava/lang/AbstractStringBuilder;", sig := { parameters := [(.object "java/lang/String")], returnType := some (.object "java/lang/AbstractStringBuilder") }, accessFlags := 1, code := some k13c6 }
def k13c7 : Code := { maxStack := 1, maxLocals := 1, code := jdk_68_method_64_code, exceptionTable := #[], attributes := #[] }
def k13m7 : Method := { name := "getValue", desc := "()[B", sig := { parameters := [], returnType := some (.array .byte) }, accessFlags := 16, code := some k13c7 }
def k13c8 : Code := { maxStack := 1, maxLocals := 1, code := jdk_68_method_68_code, exceptionTable := #[], attributes := #[] }
def k13m8 : Method := { name := "isLatin1", desc := "()Z", sig := { parameters := [], returnType := some .boolean }, accessFlags := 16, code := some k13c8 }
def k13c9 : Code := { maxStack := 2, maxLocals := 2, code := jdk_68_method_71_code, exceptionTable := #[], attributes := #[] }
def k13m9 : Method := { name := "inflateIfNeededFor", desc := "(Ljava/lang/String;)V", sig := { parameters := [(.object "java/lang/String")], returnType := none }, accessFlags := 2, code := some k13c9 }
def k13c10 : Code := { maxStack := 4, maxLocals := 3, code := jdk_68_method_73_code, exceptionTable := #[], attributes := #[] }
def k13m10 : Method := { name := "putStringAt", desc := "(ILjava/lang/String;)V", sig := { parameters := [.int, (.object "java/lang/String")], returnType := none }, accessFlags := 2, code := some k13c10 }
/-- java/lang/AbstractStringBuilder -/
def k13 : Class := { plain "java/lang/AbstractStringBuilder" (some 0) with
  accessFlags := 1056
  interfaces := #[12, 4]
  cf := some (fileOf pool13 10 #[] #[{ accessFlags := 0, nameIndex := 7, descriptorIndex := 8, attributes := #[] }, { accessFlags := 0, nameIndex := 7, descriptorIndex := 103, attributes := #[] }, { accessFlags := 1, nameIndex := 34, descriptorIndex := 35, attributes := #[] }, { accessFlags := 2, nameIndex := 102, descriptorIndex := 103, attributes := #[] }, { accessFlags := 2, nameIndex := 106, descriptorIndex := 107, attributes := #[] }, { accessFlags := 2, nameIndex := 127, descriptorIndex := 8, attributes := #[] }, { accessFlags := 1, nameIndex := 45, descriptorIndex := 46, attributes := #[] }, { accessFlags := 16, nameIndex := 552, descriptorIndex := 403, attributes := #[] }, { accessFlags := 16, nameIndex := 85, descriptorIndex := 86, attributes := #[] }, { accessFlags := 2, nameIndex := 217, descriptorIndex := 69, attributes := #[] }, { accessFlags := 2, nameIndex := 210, descriptorIndex := 211, attributes := #[] }] 1056 4 #[444, 48] #[{ accessFlags := 0, nameIndex := 17, descriptorIndex := 14, attributes := #[] }, { accessFlags := 0, nameIndex := 24, descriptorIndex := 25, attributes := #[] }, { accessFlags := 0, nameIndex := 75, descriptorIndex := 21, attributes := #[] }, { accessFlags := 0, nameIndex := 81, descriptorIndex := 82, attributes := #[] }, { accessFlags := 26, nameIndex := 13, descriptorIndex := 14, attributes := #[] }])
  fields := #[{ name := "value", type := (.array .byte), accessFlags := 0, slot := 0, constantValue := 0 }, { name := "coder", type := .byte, accessFlags := 0, slot := 1, constantValue := 0 }, { name := "maybeLatin1", type := .boolean, accessFlags := 0, slot := 2, constantValue := 0 }, { name := "count", type := .int, accessFlags := 0, slot := 3, constantValue := 0 }, { name := "EMPTYVALUE", type := (.array .byte), accessFlags := 26, slot := 0, constantValue := 0 }]
  methods := #[k13m0, k13m1, k13m2, k13m3, k13m4, k13m5, k13m6, k13m7, k13m8, k13m9, k13m10]
  instanceTypes := #[(.array .byte), .byte, .boolean, .int]
  staticTypes := #[(.array .byte)]
  resolved := Array.replicate 609 none
  statics := none }

def pool14 : Array CpInfo := pool [(1, .methodref 2 3), (0, .class_ 4), (0, .nameAndType 5 6), (0, u "java/lang/AbstractStringBuilder"), (0, u "<init>"), (0, u "(I)V"), (11, .class_ 20), (1, u "java/lang/String"), (3, .class_ 26), (1, u "java/lang/StringBuilder"), (0, u "append"), (0, u "(Ljava/lang/String;)Ljava/lang/StringBuilder;"), (0, .methodref 2 30), (0, .nameAndType 27 31), (0, u "(Ljava/lang/String;)Ljava/lang/AbstractStringBuilder;"), (105, .methodref 18 138), (0, .nameAndType 5 139), (0, u "(Ljava/lang/StringBuilder;)V"), (5, u "()V"), (10, u "()I"), (186, .methodref 2 344), (0, .nameAndType 345 156), (0, u "length"), (3, .class_ 350), (0, u "java/lang/Appendable"), (0, .class_ 352), (0, u "java/io/Serializable"), (0, .class_ 354), (0, u "java/lang/Comparable"), (0, .class_ 356), (0, u "java/lang/CharSequence"), (0, u "serialVersionUID"), (0, u "J"), (40, u "toString"), (0, u "()Ljava/lang/String;")] 21

def k14c0 : Code := { maxStack := 2, maxLocals := 1, code := jdk_67_method_1_code, exceptionTable := #[], attributes := #[] }
def k14m0 : Method := { name := "<init>", desc := "()V", sig := { parameters := [], returnType := none }, accessFlags := 1, code := some k14c0 }
def k14c1 : Code := { maxStack := 2, maxLocals := 2, code := jdk_67_method_7_code, exceptionTable := #[], attributes := #[] }
def k14m1 : Method := { name := "append", desc := "(Ljava/lang/String;)Ljava/lang/StringBuilder;", sig := { parameters := [(.object "java/lang/String")], returnType := some (.object "java/lang/StringBuilder") }, accessFlags := 1, code := some k14c1 }
def k14c2 : Code := { maxStack := 3, maxLocals := 1, code := jdk_67_method_42_code, exceptionTable := #[], attributes := #[] }
def k14m2 : Method := { name := "toString", desc := "()Ljava/lang/String;", sig := { parameters := [], returnType := some (.object "java/lang/String") }, accessFlags := 1, code := some k14c2 }
def k14c3 : Code := { maxStack := 1, maxLocals := 1, code := jdk_67_method_93_code, exceptionTable := #[], attributes := #[] }
def k14m3 : Method := { name := "length", desc := "()I", sig := { parameters := [], returnType := some .int }, accessFlags := 4161, code := some k14c3 }
/-- java/lang/StringBuilder -/
def k14 : Class := { plain "java/lang/StringBuilder" (some 13) with
  accessFlags := 49
  interfaces := #[12, 2, 3, 4]
  cf := some (fileOf pool14 24 #[] #[{ accessFlags := 1, nameIndex := 5, descriptorIndex := 145, attributes := #[] }, { accessFlags := 1, nameIndex := 27, descriptorIndex := 28, attributes := #[] }, { accessFlags := 1, nameIndex := 399, descriptorIndex := 400, attributes := #[] }, { accessFlags := 4161, nameIndex := 345, descriptorIndex := 156, attributes := #[] }] 49 2 #[349, 351, 353, 355] #[{ accessFlags := 24, nameIndex := 357, descriptorIndex := 358, attributes := #[] }])
  fields := #[{ name := "serialVersionUID", type := .long, accessFlags := 24, slot := 0, constantValue := 0 }]
  methods := #[k14m0, k14m1, k14m2, k14m3]
  instanceTypes := #[(.array .byte), .byte, .boolean, .int]
  staticTypes := #[.long]
  resolved := Array.replicate 422 none
  statics := none }

def pool15 : Array CpInfo := pool [(9, u "<init>"), (6, .class_ 18), (1, u "java/lang/Object"), (0, u "()V"), (1, .class_ 23), (1, u "jdk/internal/util/ArraysSupport"), (0, u "LOG2_ARRAY_LONG_INDEX_SCALE"), (0, u "I"), (2, u "U"), (0, u "Ljdk/internal/misc/Unsafe;"), (8, u "BIG_ENDIAN"), (0, u "Z"), (8, u "LOG2_BYTE_BIT_SIZE"), (4, u "LOG2_ARRAY_INT_INDEX_SCALE"), (54, u "JLA"), (0, u "Ljdk/internal/access/JavaLangAccess;"), (11, u "LOG2_ARRAY_BOOLEAN_INDEX_SCALE"), (9, u "LOG2_ARRAY_BYTE_INDEX_SCALE"), (5, u "LOG2_ARRAY_CHAR_INDEX_SCALE"), (5, u "LOG2_ARRAY_SHORT_INDEX_SCALE"), (18, u "LOG2_ARRAY_FLOAT_INDEX_SCALE"), (24, u "LOG2_ARRAY_DOUBLE_INDEX_SCALE"), (6, .methodref 195 196), (0, .class_ 197), (0, .nameAndType 198 199), (0, u "java/lang/Math"), (0, u "max"), (0, u "(II)I"), (0, .integer 2147483639), (76, u "T_BOOLEAN"), (2, u "T_CHAR"), (1, u "T_FLOAT"), (1, u "T_DOUBLE"), (1, u "T_BYTE"), (1, u "T_SHORT"), (1, u "T_INT"), (1, u "T_LONG"), (1, u "SOFT_MAX_ARRAY_LENGTH"), (56, u "newLength"), (0, u "(III)I")] 25

def k15m0 : Method := { name := "<init>", desc := "()V", sig := { parameters := [], returnType := none }, accessFlags := 2, code := none }
def k15c1 : Code := { maxStack := 3, maxLocals := 4, code := jdk_48_method_27_code, exceptionTable := #[], attributes := #[] }
def k15m1 : Method := { name := "newLength", desc := "(III)I", sig := { parameters := [.int, .int, .int], returnType := some .int }, accessFlags := 9, code := some k15c1 }
/-- jdk/internal/util/ArraysSupport -/
def k15 : Class := { plain "jdk/internal/util/ArraysSupport" (some 0) with
  accessFlags := 33
  interfaces := #[]
  cf := some (fileOf pool15 21 #[] #[{ accessFlags := 2, nameIndex := 9, descriptorIndex := 19, attributes := #[] }, { accessFlags := 9, nameIndex := 351, descriptorIndex := 352, attributes := #[] }] 33 16 #[] #[{ accessFlags := 24, nameIndex := 28, descriptorIndex := 29, attributes := #[] }, { accessFlags := 26, nameIndex := 38, descriptorIndex := 39, attributes := #[] }, { accessFlags := 25, nameIndex := 121, descriptorIndex := 25, attributes := #[] }, { accessFlags := 25, nameIndex := 131, descriptorIndex := 25, attributes := #[] }, { accessFlags := 25, nameIndex := 137, descriptorIndex := 25, attributes := #[] }, { accessFlags := 25, nameIndex := 143, descriptorIndex := 25, attributes := #[] }, { accessFlags := 25, nameIndex := 53, descriptorIndex := 25, attributes := #[] }, { accessFlags := 25, nameIndex := 24, descriptorIndex := 25, attributes := #[] }, { accessFlags := 25, nameIndex := 162, descriptorIndex := 25, attributes := #[] }, { accessFlags := 25, nameIndex := 187, descriptorIndex := 25, attributes := #[] }, { accessFlags := 26, nameIndex := 48, descriptorIndex := 25, attributes := #[] }, { accessFlags := 25, nameIndex := 277, descriptorIndex := 25, attributes := #[] }, { accessFlags := 25, nameIndex := 280, descriptorIndex := 25, attributes := #[] }, { accessFlags := 25, nameIndex := 282, descriptorIndex := 25, attributes := #[] }, { accessFlags := 25, nameIndex := 284, descriptorIndex := 25, attributes := #[] }, { accessFlags := 25, nameIndex := 286, descriptorIndex := 25, attributes := #[] }, { accessFlags := 25, nameIndex := 288, descriptorIndex := 25, attributes := #[] }, { accessFlags := 25, nameIndex := 290, descriptorIndex := 25, attributes := #[] }, { accessFlags := 25, nameIndex := 292, descriptorIndex := 25, attributes := #[] }, { accessFlags := 26, nameIndex := 108, descriptorIndex := 109, attributes := #[] }, { accessFlags := 25, nameIndex := 294, descriptorIndex := 25, attributes := #[] }])
  fields := #[{ name := "U", type := (.object "jdk/internal/misc/Unsafe"), accessFlags := 24, slot := 0, constantValue := 0 }, { name := "BIG_ENDIAN", type := .boolean, accessFlags := 26, slot := 1, constantValue := 0 }, { name := "LOG2_ARRAY_BOOLEAN_INDEX_SCALE", type := .int, accessFlags := 25, slot := 2, constantValue := 0 }, { name := "LOG2_ARRAY_BYTE_INDEX_SCALE", type := .int, accessFlags := 25, slot := 3, constantValue := 0 }, { name := "LOG2_ARRAY_CHAR_INDEX_SCALE", type := .int, accessFlags := 25, slot := 4, constantValue := 0 }, { name := "LOG2_ARRAY_SHORT_INDEX_SCALE", type := .int, accessFlags := 25, slot := 5, constantValue := 0 }, { name := "LOG2_ARRAY_INT_INDEX_SCALE", type := .int, accessFlags := 25, slot := 6, constantValue := 0 }, { name := "LOG2_ARRAY_LONG_INDEX_SCALE", type := .int, accessFlags := 25, slot := 7, constantValue := 0 }, { name := "LOG2_ARRAY_FLOAT_INDEX_SCALE", type := .int, accessFlags := 25, slot := 8, constantValue := 0 }, { name := "LOG2_ARRAY_DOUBLE_INDEX_SCALE", type := .int, accessFlags := 25, slot := 9, constantValue := 0 }, { name := "LOG2_BYTE_BIT_SIZE", type := .int, accessFlags := 26, slot := 10, constantValue := 0 }, { name := "T_BOOLEAN", type := .int, accessFlags := 25, slot := 11, constantValue := 0 }, { name := "T_CHAR", type := .int, accessFlags := 25, slot := 12, constantValue := 0 }, { name := "T_FLOAT", type := .int, accessFlags := 25, slot := 13, constantValue := 0 }, { name := "T_DOUBLE", type := .int, accessFlags := 25, slot := 14, constantValue := 0 }, { name := "T_BYTE", type := .int, accessFlags := 25, slot := 15, constantValue := 0 }, { name := "T_SHORT", type := .int, accessFlags := 25, slot := 16, constantValue := 0 }, { name := "T_INT", type := .int, accessFlags := 25, slot := 17, constantValue := 0 }, { name := "T_LONG", type := .int, accessFlags := 25, slot := 18, constantValue := 0 }, { name := "JLA", type := (.object "jdk/internal/access/JavaLangAccess"), accessFlags := 26, slot := 19, constantValue := 0 }, { name := "SOFT_MAX_ARRAY_LENGTH", type := .int, accessFlags := 25, slot := 20, constantValue := 0 }]
  methods := #[k15m0, k15m1]
  instanceTypes := #[]
  staticTypes := #[(.object "jdk/internal/misc/Unsafe"), .boolean, .int, .int, .int, .int, .int, .int, .int, .int, .int, .int, .int, .int, .int, .int, .int, .int, .int, (.object "jdk/internal/access/JavaLangAccess"), .int]
  resolved := Array.replicate 378 none
  statics := none }

def pool16 : Array CpInfo := pool [(1, .class_ 2), (0, u "java/lang/Math"), (1, .class_ 6), (1, u "java/lang/Object"), (0, u "<init>"), (0, u "()V"), (89, .class_ 100), (1, u "java/lang/Math$RandomNumberGeneratorHolder"), (71, u "negativeZeroFloatBits"), (0, u "J"), (2, u "negativeZeroDoubleBits"), (21, u "max"), (2, u "min"), (43, u "$assertionsDisabled"), (0, u "Z"), (88, u "(II)I"), (2, u "twoToTheDoubleScaleDown"), (0, u "D"), (4, u "twoToTheDoubleScaleUp"), (9, u "E"), (3, u "PI"), (2, u "TAU"), (2, u "DEGREES_TO_RADIANS"), (0, u "RADIANS_TO_DEGREES")] 94

def k16m0 : Method := { name := "<init>", desc := "()V", sig := { parameters := [], returnType := none }, accessFlags := 2, code := none }
def k16c1 : Code := { maxStack := 2, maxLocals := 2, code := jdk_29_method_65_code, exceptionTable := #[], attributes := #[] }
def k16m1 : Method := { name := "max", desc := "(II)I", sig := { parameters := [.int, .int], returnType := some .int }, accessFlags := 9, code := some k16c1 }
def k16c2 : Code := { maxStack := 2, maxLocals := 2, code := jdk_29_method_69_code, exceptionTable := #[], attributes := #[] }
def k16m2 : Method := { name := "min", desc := "(II)I", sig := { parameters := [.int, .int], returnType := some .int }, accessFlags := 9, code := some k16c2 }
/-- java/lang/Math -/
def k16 : Class := { plain "java/lang/Math" (some 0) with
  accessFlags := 49
  interfaces := #[]
  cf := some (fileOf pool16 1 #[.nestMembers #[98]] #[{ accessFlags := 2, nameIndex := 7, descriptorIndex := 8, attributes := #[] }, { accessFlags := 9, nameIndex := 198, descriptorIndex := 335, attributes := #[] }, { accessFlags := 9, nameIndex := 201, descriptorIndex := 335, attributes := #[] }] 49 4 #[] #[{ accessFlags := 25, nameIndex := 354, descriptorIndex := 339, attributes := #[] }, { accessFlags := 25, nameIndex := 358, descriptorIndex := 339, attributes := #[] }, { accessFlags := 25, nameIndex := 361, descriptorIndex := 339, attributes := #[] }, { accessFlags := 26, nameIndex := 364, descriptorIndex := 339, attributes := #[] }, { accessFlags := 26, nameIndex := 365, descriptorIndex := 339, attributes := #[] }, { accessFlags := 26, nameIndex := 172, descriptorIndex := 173, attributes := #[] }, { accessFlags := 26, nameIndex := 176, descriptorIndex := 173, attributes := #[] }, { accessFlags := 8, nameIndex := 344, descriptorIndex := 339, attributes := #[] }, { accessFlags := 8, nameIndex := 338, descriptorIndex := 339, attributes := #[] }, { accessFlags := 4120, nameIndex := 245, descriptorIndex := 246, attributes := #[] }])
  fields := #[{ name := "E", type := .double, accessFlags := 25, slot := 0, constantValue := 0 }, { name := "PI", type := .double, accessFlags := 25, slot := 1, constantValue := 0 }, { name := "TAU", type := .double, accessFlags := 25, slot := 2, constantValue := 0 }, { name := "DEGREES_TO_RADIANS", type := .double, accessFlags := 26, slot := 3, constantValue := 0 }, { name := "RADIANS_TO_DEGREES", type := .double, accessFlags := 26, slot := 4, constantValue := 0 }, { name := "negativeZeroFloatBits", type := .long, accessFlags := 26, slot := 5, constantValue := 0 }, { name := "negativeZeroDoubleBits", type := .long, accessFlags := 26, slot := 6, constantValue := 0 }, { name := "twoToTheDoubleScaleUp", type := .double, accessFlags := 8, slot := 7, constantValue := 0 }, { name := "twoToTheDoubleScaleDown", type := .double, accessFlags := 8, slot := 8, constantValue := 0 }, { name := "$assertionsDisabled", type := .boolean, accessFlags := 4120, slot := 9, constantValue := 0 }]
  methods := #[k16m0, k16m1, k16m2]
  instanceTypes := #[]
  staticTypes := #[.double, .double, .double, .double, .double, .long, .long, .double, .double, .boolean]
  resolved := Array.replicate 460 none
  statics := none }

def pool17 : Array CpInfo := pool [(2, .class_ 4), (1, u "java/lang/Object"), (0, u "<init>"), (0, u "()V"), (7, .class_ 16), (1, u "java/util/Arrays"), (57, .class_ 76), (1, u "java/util/Arrays$NaturalOrder"), (36, .class_ 115), (1, u "java/util/Arrays$LegacyMergeSort"), (1, u "Z"), (21, u "copyOfRange"), (10, .methodref 151 152), (0, .class_ 153), (0, .nameAndType 154 155), (0, u "java/lang/System"), (0, u "arraycopy"), (0, u "(Ljava/lang/Object;ILjava/lang/Object;II)V"), (146, u "copyOf"), (1, .methodref 305 306), (0, .class_ 307), (0, .nameAndType 308 309), (0, u "java/lang/Math"), (0, u "min"), (0, u "(II)I"), (29, .methodref 14 340), (0, .nameAndType 341 342), (0, u "copyOfRangeByte"), (0, u "([BII)[B"), (0, .methodref 14 344), (0, .nameAndType 345 346), (0, u "checkLength"), (0, u "(II)V"), (28, .class_ 376), (0, u "java/util/Arrays$ArrayList"), (68, u "$assertionsDisabled"), (269, u "MIN_ARRAY_SORT_GRAN"), (0, u "I"), (2, u "INSERTIONSORT_THRESHOLD"), (149, u "([BI)[B"), (105, .class_ 976), (0, u "java/util/Arrays$ArrayItr")] 52

def k17m0 : Method := { name := "<init>", desc := "()V", sig := { parameters := [], returnType := none }, accessFlags := 2, code := none }
def k17c1 : Code := { maxStack := 6, maxLocals := 3, code := jdk_65_method_121_code, exceptionTable := #[], attributes := #[] }
def k17m1 : Method := { name := "copyOf", desc := "([BI)[B", sig := { parameters := [(.array .byte), .int], returnType := some (.array .byte) }, accessFlags := 9, code := some k17c1 }
def k17c2 : Code := { maxStack := 4, maxLocals := 2, code := jdk_65_method_131_code, exceptionTable := #[], attributes := #[] }
def k17m2 : Method := { name := "checkLength", desc := "(II)V", sig := { parameters := [.int, .int], returnType := none }, accessFlags := 10, code := some k17c2 }
def k17c3 : Code := { maxStack := 3, maxLocals := 3, code := jdk_65_method_132_code, exceptionTable := #[], attributes := #[] }
def k17m3 : Method := { name := "copyOfRange", desc := "([BII)[B", sig := { parameters := [(.array .byte), .int, .int], returnType := some (.array .byte) }, accessFlags := 9, code := some k17c3 }
def k17c4 : Code := { maxStack := 6, maxLocals := 5, code := jdk_65_method_133_code, exceptionTable := #[], attributes := #[] }
def k17m4 : Method := { name := "copyOfRangeByte", desc := "([BII)[B", sig := { parameters := [(.array .byte), .int, .int], returnType := some (.array .byte) }, accessFlags := 10, code := some k17c4 }
/-- java/util/Arrays -/
def k17 : Class := { plain "java/util/Arrays" (some 0) with
  accessFlags := 49
  interfaces := #[]
  cf := some (fileOf pool17 14 #[.nestMembers #[975, 375, 113, 74]] #[{ accessFlags := 2, nameIndex := 5, descriptorIndex := 6, attributes := #[] }, { accessFlags := 9, nameIndex := 302, descriptorIndex := 869, attributes := #[] }, { accessFlags := 10, nameIndex := 345, descriptorIndex := 346, attributes := #[] }, { accessFlags := 9, nameIndex := 139, descriptorIndex := 342, attributes := #[] }, { accessFlags := 10, nameIndex := 341, descriptorIndex := 342, attributes := #[] }] 49 2 #[] #[{ accessFlags := 26, nameIndex := 715, descriptorIndex := 716, attributes := #[] }, { accessFlags := 26, nameIndex := 719, descriptorIndex := 716, attributes := #[] }, { accessFlags := 4120, nameIndex := 445, descriptorIndex := 117, attributes := #[] }])
  fields := #[{ name := "MIN_ARRAY_SORT_GRAN", type := .int, accessFlags := 26, slot := 0, constantValue := 0 }, { name := "INSERTIONSORT_THRESHOLD", type := .int, accessFlags := 26, slot := 1, constantValue := 0 }, { name := "$assertionsDisabled", type := .boolean, accessFlags := 4120, slot := 2, constantValue := 0 }]
  methods := #[k17m0, k17m1, k17m2, k17m3, k17m4]
  instanceTypes := #[]
  staticTypes := #[.int, .int, .boolean]
  resolved := Array.replicate 1029 none
  statics := none }

def pool18 : Array CpInfo := pool [(2, .class_ 4), (1, u "java/lang/Object"), (0, u "<init>"), (0, u "()V"), (1, .class_ 10), (1, u "java/lang/System"), (0, u "allowSecurityManager"), (0, u "I"), (16, u "cons"), (0, u "Ljava/io/Console;"), (77, .class_ 110), (1, u "java/lang/System$CallersHolder"), (43, u "initialErrStream"), (0, u "Ljava/io/PrintStream;"), (19, u "security"), (0, u "Ljava/lang/SecurityManager;"), (31, .class_ 209), (0, u "java/lang/System$1"), (7, u "props"), (0, u "Ljava/util/Properties;"), (2, u "lineSeparator"), (0, u "Ljava/lang/String;"), (96, .class_ 321), (1, u "java/lang/System$LoggerFinder"), (5, .class_ 328), (0, u "java/lang/System$Logger"), (67, u "err"), (2, u "out"), (91, u "notSupportedJnuEncoding"), (15, u "in"), (17, u "initialIn"), (0, u "Ljava/io/InputStream;"), (35, u "bootLayer"), (0, u "Ljava/lang/ModuleLayer;"), (99, .class_ 664), (0, u "java/lang/System$2"), (9, u "NEVER"), (2, u "MAYBE"), (49, u "arraycopy"), (0, u "(Ljava/lang/Object;ILjava/lang/Object;II)V"), (72, .class_ 802), (0, u "java/lang/System$Logger$Level")] 31

def k18m0 : Method := { name := "<init>", desc := "()V", sig := { parameters := [], returnType := none }, accessFlags := 2, code := none }
def k18m1 : Method := { name := "arraycopy", desc := "(Ljava/lang/Object;ILjava/lang/Object;II)V", sig := { parameters := [(.object "java/lang/Object"), .int, (.object "java/lang/Object"), .int, .int], returnType := none }, accessFlags := 265, code := none }
/-- java/lang/System -/
def k18 : Class := { plain "java/lang/System" (some 0) with
  accessFlags := 49
  interfaces := #[]
  cf := some (fileOf pool18 8 #[.nestMembers #[319, 327, 801, 108, 663, 208]] #[{ accessFlags := 2, nameIndex := 5, descriptorIndex := 6, attributes := #[] }, { accessFlags := 265, nameIndex := 727, descriptorIndex := 728, attributes := #[] }] 49 2 #[] #[{ accessFlags := 25, nameIndex := 507, descriptorIndex := 526, attributes := #[] }, { accessFlags := 25, nameIndex := 399, descriptorIndex := 155, attributes := #[] }, { accessFlags := 25, nameIndex := 396, descriptorIndex := 155, attributes := #[] }, { accessFlags := 10, nameIndex := 525, descriptorIndex := 526, attributes := #[] }, { accessFlags := 26, nameIndex := 674, descriptorIndex := 12, attributes := #[] }, { accessFlags := 26, nameIndex := 677, descriptorIndex := 12, attributes := #[] }, { accessFlags := 10, nameIndex := 11, descriptorIndex := 12, attributes := #[] }, { accessFlags := 74, nameIndex := 175, descriptorIndex := 176, attributes := #[] }, { accessFlags := 10, nameIndex := 491, descriptorIndex := 222, attributes := #[] }, { accessFlags := 74, nameIndex := 29, descriptorIndex := 30, attributes := #[] }, { accessFlags := 74, nameIndex := 154, descriptorIndex := 155, attributes := #[] }, { accessFlags := 10, nameIndex := 217, descriptorIndex := 218, attributes := #[] }, { accessFlags := 10, nameIndex := 221, descriptorIndex := 222, attributes := #[] }, { accessFlags := 8, nameIndex := 562, descriptorIndex := 563, attributes := #[] }])
  fields := #[{ name := "in", type := (.object "java/io/InputStream"), accessFlags := 25, slot := 0, constantValue := 0 }, { name := "out", type := (.object "java/io/PrintStream"), accessFlags := 25, slot := 1, constantValue := 0 }, { name := "err", type := (.object "java/io/PrintStream"), accessFlags := 25, slot := 2, constantValue := 0 }, { name := "initialIn", type := (.object "java/io/InputStream"), accessFlags := 10, slot := 3, constantValue := 0 }, { name := "NEVER", type := .int, accessFlags := 26, slot := 4, constantValue := 0 }, { name := "MAYBE", type := .int, accessFlags := 26, slot := 5, constantValue := 0 }, { name := "allowSecurityManager", type := .int, accessFlags := 10, slot := 6, constantValue := 0 }, { name := "security", type := (.object "java/lang/SecurityManager"), accessFlags := 74, slot := 7, constantValue := 0 }, { name := "notSupportedJnuEncoding", type := (.object "java/lang/String"), accessFlags := 10, slot := 8, constantValue := 0 }, { name := "cons", type := (.object "java/io/Console"), accessFlags := 74, slot := 9, constantValue := 0 }, { name := "initialErrStream", type := (.object "java/io/PrintStream"), accessFlags := 74, slot := 10, constantValue := 0 }, { name := "props", type := (.object "java/util/Properties"), accessFlags := 10, slot := 11, constantValue := 0 }, { name := "lineSeparator", type := (.object "java/lang/String"), accessFlags := 10, slot := 12, constantValue := 0 }, { name := "bootLayer", type := (.object "java/lang/ModuleLayer"), accessFlags := 8, slot := 13, constantValue := 0 }]
  methods := #[k18m0, k18m1]
  instanceTypes := #[]
  staticTypes := #[(.object "java/io/InputStream"), (.object "java/io/PrintStream"), (.object "java/io/PrintStream"), (.object "java/io/InputStream"), .int, .int, .int, (.object "java/lang/SecurityManager"), (.object "java/lang/String"), (.object "java/io/Console"), (.object "java/io/PrintStream"), (.object "java/util/Properties"), (.object "java/lang/String"), (.object "java/lang/ModuleLayer")]
  resolved := Array.replicate 834 none
  statics := none }

def pool19 : Array CpInfo := pool [(2, .class_ 4), (1, u "java/lang/Object"), (0, u "<init>"), (0, u "()V"), (0, .class_ 8), (0, u "java/lang/Record")] 13

def k19m0 : Method := { name := "<init>", desc := "()V", sig := { parameters := [], returnType := none }, accessFlags := 4, code := none }
/-- java/lang/Record -/
def k19 : Class := { plain "java/lang/Record" (some 0) with
  accessFlags := 1057
  interfaces := #[]
  cf := some (fileOf pool19 7 #[] #[{ accessFlags := 4, nameIndex := 5, descriptorIndex := 6, attributes := #[] }] 1057 2 #[] #[])
  fields := #[]
  methods := #[k19m0]
  instanceTypes := #[]
  staticTypes := #[]
  resolved := Array.replicate 22 none
  statics := none }

def pool20 : Array CpInfo := pool [(2, .class_ 4), (1, u "java/lang/Record"), (9, .class_ 16), (1, u "com/example/jarshelf/jarshelf/cli/CommandLine"), (0, u "action"), (0, u "Lcom/example/jarshelf/jarshelf/cli/CommandLine$Action;"), (2, u "root"), (0, u "Ljava/util/Optional;"), (2, u "command"), (0, u "Ljava/lang/String;"), (2, u "arguments"), (0, u "Ljava/util/List;"), (19, u "SYNOPSIS"), (19, .class_ 72), (1, u "com/example/jarshelf/jarshelf/cli/CommandLine$Action"), (0, u "HELP"), (112, u "ROOT_OPTION")] 39

/-- com/example/jarshelf/jarshelf/cli/CommandLine -/
def k20 : Class := { plain "com/example/jarshelf/jarshelf/cli/CommandLine" (some 19) with
  accessFlags := 49
  interfaces := #[]
  cf := some (fileOf pool20 14 #[.nestMembers #[70]] #[] 49 2 #[] #[{ accessFlags := 18, nameIndex := 17, descriptorIndex := 18, attributes := #[] }, { accessFlags := 18, nameIndex := 21, descriptorIndex := 22, attributes := #[] }, { accessFlags := 18, nameIndex := 25, descriptorIndex := 26, attributes := #[] }, { accessFlags := 18, nameIndex := 29, descriptorIndex := 30, attributes := #[] }, { accessFlags := 25, nameIndex := 50, descriptorIndex := 26, attributes := #[] }, { accessFlags := 26, nameIndex := 73, descriptorIndex := 26, attributes := #[] }, { accessFlags := 26, nameIndex := 186, descriptorIndex := 26, attributes := #[] }])
  fields := #[{ name := "action", type := (.object "com/example/jarshelf/jarshelf/cli/CommandLine$Action"), accessFlags := 18, slot := 0, constantValue := 0 }, { name := "root", type := (.object "java/util/Optional"), accessFlags := 18, slot := 1, constantValue := 0 }, { name := "command", type := (.object "java/lang/String"), accessFlags := 18, slot := 2, constantValue := 0 }, { name := "arguments", type := (.object "java/util/List"), accessFlags := 18, slot := 3, constantValue := 0 }, { name := "SYNOPSIS", type := (.object "java/lang/String"), accessFlags := 25, slot := 0, constantValue := 0 }, { name := "HELP", type := (.object "java/lang/String"), accessFlags := 26, slot := 1, constantValue := 0 }, { name := "ROOT_OPTION", type := (.object "java/lang/String"), accessFlags := 26, slot := 2, constantValue := 0 }]
  methods := #[]
  instanceTypes := #[(.object "com/example/jarshelf/jarshelf/cli/CommandLine$Action"), (.object "java/util/Optional"), (.object "java/lang/String"), (.object "java/util/List")]
  staticTypes := #[(.object "java/lang/String"), (.object "java/lang/String"), (.object "java/lang/String")]
  resolved := Array.replicate 226 none
  statics := some 3 }

def pool21 : Array CpInfo := pool [(4, .class_ 6), (1, u "java/lang/Object"), (0, u "<init>"), (0, u "()V"), (5, .class_ 16), (1, u "java/lang/StringLatin1"), (0, u "inflate"), (2, .class_ 22), (1, u "java/lang/StringUTF16"), (3, .nameAndType 17 27), (0, u "([BI[BII)V"), (62, u "canEncode"), (14, u "(C)Z"), (15, u "$assertionsDisabled"), (0, u "Z"), (98, .class_ 223), (1, u "java/lang/StringLatin1$LinesSpliterator"), (16, .methodref 20 26), (40, u "equals"), (0, u "([B[B)Z"), (97, u "toBytes"), (1, u "(C)[B"), (7, .class_ 391), (0, u "java/lang/StringLatin1$CharsSpliterator")] 3

def k21m0 : Method := { name := "<init>", desc := "()V", sig := { parameters := [], returnType := none }, accessFlags := 0, code := none }
def k21c1 : Code := { maxStack := 2, maxLocals := 1, code := jdk_43_method_3_code, exceptionTable := #[], attributes := #[] }
def k21m1 : Method := { name := "canEncode", desc := "(C)Z", sig := { parameters := [.char], returnType := some .boolean }, accessFlags := 9, code := some k21c1 }
def k21c2 : Code := { maxStack := 3, maxLocals := 3, code := jdk_43_method_13_code, exceptionTable := #[], attributes := #[] }
def k21m2 : Method := { name := "equals", desc := "([B[B)Z", sig := { parameters := [(.array .byte), (.array .byte)], returnType := some .boolean }, accessFlags := 9, code := some k21c2 }
def k21c3 : Code := { maxStack := 4, maxLocals := 1, code := jdk_43_method_46_code, exceptionTable := #[], attributes := #[] }
def k21m3 : Method := { name := "toBytes", desc := "(C)[B", sig := { parameters := [.char], returnType := some (.array .byte) }, accessFlags := 9, code := some k21c3 }
def k21c4 : Code := { maxStack := 5, maxLocals := 5, code := jdk_43_method_50_code, exceptionTable := #[], attributes := #[] }
def k21m4 : Method := { name := "inflate", desc := "([BI[BII)V", sig := { parameters := [(.array .byte), .int, (.array .byte), .int, .int], returnType := none }, accessFlags := 9, code := some k21c4 }
/-- java/lang/StringLatin1 -/
def k21 : Class := { plain "java/lang/StringLatin1" (some 0) with
  accessFlags := 48
  interfaces := #[]
  cf := some (fileOf pool21 14 #[.nestMembers #[390, 221]] #[{ accessFlags := 0, nameIndex := 7, descriptorIndex := 8, attributes := #[] }, { accessFlags := 9, nameIndex := 90, descriptorIndex := 105, attributes := #[] }, { accessFlags := 9, nameIndex := 281, descriptorIndex := 282, attributes := #[] }, { accessFlags := 9, nameIndex := 380, descriptorIndex := 382, attributes := #[] }, { accessFlags := 9, nameIndex := 17, descriptorIndex := 27, attributes := #[] }] 48 4 #[] #[{ accessFlags := 4120, nameIndex := 121, descriptorIndex := 122, attributes := #[] }])
  fields := #[{ name := "$assertionsDisabled", type := .boolean, accessFlags := 4120, slot := 0, constantValue := 0 }]
  methods := #[k21m0, k21m1, k21m2, k21m3, k21m4]
  instanceTypes := #[]
  staticTypes := #[.boolean]
  resolved := Array.replicate 395 none
  statics := none }

def pool22 : Array CpInfo := pool [(2, .class_ 4), (1, u "java/lang/Object"), (0, u "<init>"), (0, u "()V"), (17, .class_ 26), (1, u "jdk/internal/util/Preconditions"), (22, u "checkFromIndexSize"), (5, .class_ 56), (0, u "jdk/internal/util/Preconditions$4"), (57, .class_ 115), (0, u "jdk/internal/util/Preconditions$1"), (7, u "SIOOBE_FORMATTER"), (0, u "Ljava/util/function/BiFunction;"), (0, .class_ 126), (0, u "jdk/internal/util/Preconditions$2"), (3, u "AIOOBE_FORMATTER"), (0, .class_ 132), (0, u "jdk/internal/util/Preconditions$3"), (3, u "IOOBE_FORMATTER"), (46, u "(IIILjava/util/function/BiFunction;)I")] 10

def k22m0 : Method := { name := "<init>", desc := "()V", sig := { parameters := [], returnType := none }, accessFlags := 1, code := none }
def k22c1 : Code := { maxStack := 4, maxLocals := 4, code := jdk_41_method_13_code, exceptionTable := #[], attributes := #[] }
def k22m1 : Method := { name := "checkFromIndexSize", desc := "(IIILjava/util/function/BiFunction;)I", sig := { parameters := [.int, .int, .int, (.object "java/util/function/BiFunction")], returnType := some .int }, accessFlags := 9, code := some k22c1 }
/-- jdk/internal/util/Preconditions -/
def k22 : Class := { plain "jdk/internal/util/Preconditions" (some 0) with
  accessFlags := 33
  interfaces := #[]
  cf := some (fileOf pool22 24 #[.nestMembers #[55, 131, 125, 114]] #[{ accessFlags := 1, nameIndex := 5, descriptorIndex := 6, attributes := #[] }, { accessFlags := 9, nameIndex := 49, descriptorIndex := 183, attributes := #[] }] 33 2 #[] #[{ accessFlags := 25, nameIndex := 123, descriptorIndex := 124, attributes := #[] }, { accessFlags := 25, nameIndex := 130, descriptorIndex := 124, attributes := #[] }, { accessFlags := 25, nameIndex := 136, descriptorIndex := 124, attributes := #[] }])
  fields := #[{ name := "SIOOBE_FORMATTER", type := (.object "java/util/function/BiFunction"), accessFlags := 25, slot := 0, constantValue := 0 }, { name := "AIOOBE_FORMATTER", type := (.object "java/util/function/BiFunction"), accessFlags := 25, slot := 1, constantValue := 0 }, { name := "IOOBE_FORMATTER", type := (.object "java/util/function/BiFunction"), accessFlags := 25, slot := 2, constantValue := 0 }]
  methods := #[k22m0, k22m1]
  instanceTypes := #[]
  staticTypes := #[(.object "java/util/function/BiFunction"), (.object "java/util/function/BiFunction"), (.object "java/util/function/BiFunction")]
  resolved := Array.replicate 194 none
  statics := some 4 }

def pool23 : Array CpInfo := pool [(2, .class_ 4), (1, u "java/lang/Object"), (0, u "<init>"), (0, u "()V"), (12, .class_ 20), (0, u "java/util/Collections"), (63, u "r"), (0, u "Ljava/util/Random;"), (80, .class_ 167), (0, u "java/util/Collections$UnmodifiableCollection"), (6, .class_ 175), (0, u "java/util/Collections$UnmodifiableSequencedCollection"), (6, .class_ 183), (0, u "java/util/Collections$UnmodifiableSet"), (6, .class_ 191), (0, u "java/util/Collections$UnmodifiableSequencedSet"), (6, .class_ 199), (0, u "java/util/Collections$UnmodifiableSortedSet"), (6, .class_ 207), (0, u "java/util/Collections$UnmodifiableNavigableSet"), (4, .class_ 213), (0, u "java/util/Collections$UnmodifiableList"), (1, .class_ 216), (0, u "java/util/Collections$UnmodifiableRandomAccessList"), (6, .class_ 224), (0, u "java/util/Collections$UnmodifiableMap"), (6, .class_ 232), (0, u "java/util/Collections$UnmodifiableSequencedMap"), (4, .class_ 238), (0, u "java/util/Collections$UnmodifiableSortedMap"), (6, .class_ 246), (0, u "java/util/Collections$UnmodifiableNavigableMap"), (3, .class_ 251), (0, u "java/util/Collections$SynchronizedCollection"), (4, .class_ 257), (0, u "java/util/Collections$SynchronizedSet"), (4, .class_ 263), (0, u "java/util/Collections$SynchronizedSortedSet"), (1, .class_ 266), (0, u "java/util/Collections$SynchronizedNavigableSet"), (1, .class_ 269), (0, u "java/util/Collections$SynchronizedRandomAccessList"), (1, .class_ 272), (0, u "java/util/Collections$SynchronizedList"), (5, .class_ 279), (0, u "java/util/Collections$SynchronizedMap"), (1, .class_ 282), (0, u "java/util/Collections$SynchronizedSortedMap"), (1, .class_ 285), (0, u "java/util/Collections$SynchronizedNavigableMap"), (1, .class_ 288), (0, u "java/util/Collections$CheckedCollection"), (11, .class_ 301), (0, u "java/util/Collections$CheckedQueue"), (3, .class_ 306), (0, u "java/util/Collections$CheckedSet"), (3, .class_ 311), (0, u "java/util/Collections$CheckedSortedSet"), (3, .class_ 316), (0, u "java/util/Collections$CheckedNavigableSet"), (3, .class_ 321), (0, u "java/util/Collections$CheckedRandomAccessList"), (3, .class_ 326), (0, u "java/util/Collections$CheckedList"), (1, .class_ 329), (0, u "java/util/Collections$CheckedMap"), (3, .class_ 334), (0, u "java/util/Collections$CheckedSortedMap"), (3, .class_ 339), (0, u "java/util/Collections$CheckedNavigableMap"), (4, .class_ 346), (1, u "java/util/Collections$EmptyIterator"), (3, .class_ 352), (1, u "java/util/Collections$EmptyListIterator"), (2, .class_ 357), (1, u "java/util/Collections$EmptyEnumeration"), (4, u "EMPTY_SET"), (0, u "Ljava/util/Set;"), (6, u "EMPTY_LIST"), (0, u "Ljava/util/List;"), (2, u "EMPTY_MAP"), (0, u "Ljava/util/Map;"), (4, .class_ 381), (0, u "java/util/Collections$SingletonSet"), (2, .class_ 385), (0, u "java/util/Collections$1"), (1, .class_ 388), (0, u "java/util/Collections$2"), (1, .class_ 391), (0, u "java/util/Collections$SingletonList"), (1, .class_ 394), (0, u "java/util/Collections$SingletonMap"), (22, .class_ 418), (0, u "java/util/Collections$CopiesList"), (4, .class_ 425), (1, u "java/util/Collections$ReverseComparator"), (8, .class_ 435), (0, u "java/util/Collections$ReverseComparator2"), (6, .class_ 443), (0, u "java/util/Collections$3"), (25, .class_ 470), (0, u "java/util/Collections$SetFromMap"), (2, .class_ 474), (0, u "java/util/Collections$SequencedSetFromMap"), (3, .class_ 479), (0, u "java/util/Collections$AsLIFOQueue"), (11, .class_ 492), (0, u "java/util/Collections$EmptySet"), (1, .class_ 495), (0, u "java/util/Collections$EmptyList"), (1, .class_ 498), (0, u "java/util/Collections$EmptyMap"), (1, u "BINARYSEARCH_THRESHOLD"), (0, u "I"), (2, u "REVERSE_THRESHOLD"), (1, u "SHUFFLE_THRESHOLD"), (1, u "FILL_THRESHOLD"), (1, u "ROTATE_THRESHOLD"), (1, u "COPY_THRESHOLD"), (1, u "REPLACEALL_THRESHOLD"), (1, u "INDEXOFSUBLIST_THRESHOLD"), (333, .class_ 851), (0, u "java/util/Collections$CheckedMap$CheckedEntrySet"), (0, .class_ 853), (0, u "java/util/Collections$CheckedMap$CheckedEntrySet$CheckedEntry"), (0, .class_ 855), (0, u "java/util/Collections$CheckedMap$CheckedEntrySet$1"), (0, .class_ 857), (0, u "java/util/Collections$CheckedList$1"), (0, .class_ 859), (0, u "java/util/Collections$CheckedCollection$1"), (0, .class_ 861), (0, u "java/util/Collections$UnmodifiableNavigableMap$EmptyNavigableMap"), (0, .class_ 863), (0, u "java/util/Collections$UnmodifiableMap$UnmodifiableEntrySet"), (0, .class_ 865), (0, u "java/util/Collections$UnmodifiableMap$UnmodifiableEntrySet$UnmodifiableEntry"), (0, .class_ 867), (0, u "java/util/Collections$UnmodifiableMap$UnmodifiableEntrySet$UnmodifiableEntrySetSpliterator"), (0, .class_ 869), (0, u "java/util/Collections$UnmodifiableMap$UnmodifiableEntrySet$1"), (0, .class_ 871), (0, u "java/util/Collections$UnmodifiableList$1"), (0, .class_ 873), (0, u "java/util/Collections$UnmodifiableNavigableSet$EmptyNavigableSet"), (0, .class_ 875), (0, u "java/util/Collections$UnmodifiableCollection$1")] 57

def k23m0 : Method := { name := "<init>", desc := "()V", sig := { parameters := [], returnType := none }, accessFlags := 2, code := none }
/-- java/util/Collections -/
def k23 : Class := { plain "java/util/Collections" (some 0) with
  accessFlags := 33
  interfaces := #[]
  cf := some (fileOf pool23 19 #[.nestMembers #[478, 473, 469, 434, 423, 417, 393, 390, 380, 497, 494, 491, 355, 350, 344, 338, 333, 328, 850, 852, 854, 320, 325, 856, 315, 310, 305, 300, 287, 858, 284, 281, 278, 268, 271, 265, 262, 256, 250, 245, 860, 237, 231, 223, 862, 864, 866, 868, 215, 212, 870, 206, 872, 198, 190, 182, 174, 166, 874, 442, 387, 384]] #[{ accessFlags := 2, nameIndex := 5, descriptorIndex := 6, attributes := #[] }] 33 2 #[] #[{ accessFlags := 26, nameIndex := 500, descriptorIndex := 501, attributes := #[] }, { accessFlags := 26, nameIndex := 504, descriptorIndex := 501, attributes := #[] }, { accessFlags := 26, nameIndex := 506, descriptorIndex := 501, attributes := #[] }, { accessFlags := 26, nameIndex := 508, descriptorIndex := 501, attributes := #[] }, { accessFlags := 26, nameIndex := 510, descriptorIndex := 501, attributes := #[] }, { accessFlags := 26, nameIndex := 512, descriptorIndex := 501, attributes := #[] }, { accessFlags := 26, nameIndex := 514, descriptorIndex := 501, attributes := #[] }, { accessFlags := 26, nameIndex := 516, descriptorIndex := 501, attributes := #[] }, { accessFlags := 10, nameIndex := 84, descriptorIndex := 85, attributes := #[] }, { accessFlags := 25, nameIndex := 362, descriptorIndex := 363, attributes := #[] }, { accessFlags := 25, nameIndex := 370, descriptorIndex := 371, attributes := #[] }, { accessFlags := 25, nameIndex := 374, descriptorIndex := 375, attributes := #[] }])
  fields := #[{ name := "BINARYSEARCH_THRESHOLD", type := .int, accessFlags := 26, slot := 0, constantValue := 0 }, { name := "REVERSE_THRESHOLD", type := .int, accessFlags := 26, slot := 1, constantValue := 0 }, { name := "SHUFFLE_THRESHOLD", type := .int, accessFlags := 26, slot := 2, constantValue := 0 }, { name := "FILL_THRESHOLD", type := .int, accessFlags := 26, slot := 3, constantValue := 0 }, { name := "ROTATE_THRESHOLD", type := .int, accessFlags := 26, slot := 4, constantValue := 0 }, { name := "COPY_THRESHOLD", type := .int, accessFlags := 26, slot := 5, constantValue := 0 }, { name := "REPLACEALL_THRESHOLD", type := .int, accessFlags := 26, slot := 6, constantValue := 0 }, { name := "INDEXOFSUBLIST_THRESHOLD", type := .int, accessFlags := 26, slot := 7, constantValue := 0 }, { name := "r", type := (.object "java/util/Random"), accessFlags := 10, slot := 8, constantValue := 0 }, { name := "EMPTY_SET", type := (.object "java/util/Set"), accessFlags := 25, slot := 9, constantValue := 0 }, { name := "EMPTY_LIST", type := (.object "java/util/List"), accessFlags := 25, slot := 10, constantValue := 0 }, { name := "EMPTY_MAP", type := (.object "java/util/Map"), accessFlags := 25, slot := 11, constantValue := 0 }]
  methods := #[k23m0]
  instanceTypes := #[]
  staticTypes := #[.int, .int, .int, .int, .int, .int, .int, .int, (.object "java/util/Random"), (.object "java/util/Set"), (.object "java/util/List"), (.object "java/util/Map")]
  resolved := Array.replicate 933 none
  statics := some 5 }

def pool24 : Array CpInfo := pool [(8, .class_ 10), (1, u "java/lang/Iterable"), (24, .class_ 36), (0, u "java/lang/Object")] 25

/-- java/lang/Iterable -/
def k24 : Class := { plain "java/lang/Iterable" (some 0) with
  accessFlags := 1537
  interfaces := #[]
  cf := some (fileOf pool24 8 #[] #[] 1537 35 #[] #[])
  fields := #[]
  methods := #[]
  instanceTypes := #[]
  staticTypes := #[]
  resolved := Array.replicate 62 none
  statics := none }

def pool25 : Array CpInfo := pool [(10, .class_ 12), (1, u "java/util/Collection"), (47, .class_ 61), (0, u "java/lang/Object"), (0, .class_ 63), (0, u "java/lang/Iterable")] 51

/-- java/util/Collection -/
def k25 : Class := { plain "java/util/Collection" (some 0) with
  accessFlags := 1537
  interfaces := #[24]
  cf := some (fileOf pool25 10 #[] #[] 1537 60 #[62] #[])
  fields := #[]
  methods := #[]
  instanceTypes := #[]
  staticTypes := #[]
  resolved := Array.replicate 115 none
  statics := none }

def pool26 : Array CpInfo := pool [(2, .class_ 4), (1, u "java/lang/Object"), (0, u "<init>"), (0, u "()V"), (1, .class_ 10), (1, u "java/util/AbstractCollection"), (66, .class_ 78), (0, u "java/util/Collection")] 81

def k26m0 : Method := { name := "<init>", desc := "()V", sig := { parameters := [], returnType := none }, accessFlags := 4, code := none }
/-- java/util/AbstractCollection -/
def k26 : Class := { plain "java/util/AbstractCollection" (some 0) with
  accessFlags := 1057
  interfaces := #[25]
  cf := some (fileOf pool26 8 #[] #[{ accessFlags := 4, nameIndex := 5, descriptorIndex := 6, attributes := #[] }] 1057 2 #[77] #[])
  fields := #[]
  methods := #[k26m0]
  instanceTypes := #[]
  staticTypes := #[]
  resolved := Array.replicate 160 none
  statics := none }

def pool27 : Array CpInfo := pool [(8, .class_ 10), (1, u "java/util/SequencedCollection"), (15, .class_ 27), (0, u "java/lang/Object"), (0, .class_ 29), (0, u "java/util/Collection")] 27

/-- java/util/SequencedCollection -/
def k27 : Class := { plain "java/util/SequencedCollection" (some 0) with
  accessFlags := 1537
  interfaces := #[25]
  cf := some (fileOf pool27 8 #[] #[] 1537 26 #[28] #[])
  fields := #[]
  methods := #[]
  instanceTypes := #[]
  staticTypes := #[]
  resolved := Array.replicate 57 none
  statics := none }

def pool28 : Array CpInfo := pool [(8, .class_ 10), (1, u "java/util/List"), (92, .class_ 104), (0, u "java/lang/Object"), (15, .class_ 121), (0, u "java/util/SequencedCollection")] 129

/-- java/util/List -/
def k28 : Class := { plain "java/util/List" (some 0) with
  accessFlags := 1537
  interfaces := #[27]
  cf := some (fileOf pool28 8 #[] #[] 1537 103 #[120] #[])
  fields := #[]
  methods := #[]
  instanceTypes := #[]
  staticTypes := #[]
  resolved := Array.replicate 251 none
  statics := none }

def pool29 : Array CpInfo := pool [(2, .class_ 4), (1, u "java/util/AbstractCollection"), (0, u "<init>"), (0, u "()V"), (1, .class_ 10), (1, u "java/util/AbstractList"), (0, u "modCount"), (0, u "I"), (64, .class_ 78), (0, u "java/util/AbstractList$Itr"), (3, .class_ 83), (0, u "java/util/AbstractList$ListItr"), (9, .class_ 94), (0, u "java/util/AbstractList$RandomAccessSubList"), (3, .class_ 99), (0, u "java/util/AbstractList$SubList"), (33, .class_ 134), (0, u "java/util/List"), (73, .class_ 209), (0, u "java/util/AbstractList$SubList$1"), (0, .class_ 211), (0, u "java/util/AbstractList$RandomAccessSpliterator")] 6

def k29m0 : Method := { name := "<init>", desc := "()V", sig := { parameters := [], returnType := none }, accessFlags := 4, code := none }
/-- java/util/AbstractList -/
def k29 : Class := { plain "java/util/AbstractList" (some 26) with
  accessFlags := 1057
  interfaces := #[28]
  cf := some (fileOf pool29 8 #[.nestMembers #[93, 98, 208, 210, 82, 77]] #[{ accessFlags := 4, nameIndex := 5, descriptorIndex := 6, attributes := #[] }] 1057 2 #[133] #[{ accessFlags := 132, nameIndex := 11, descriptorIndex := 12, attributes := #[] }])
  fields := #[{ name := "modCount", type := .int, accessFlags := 132, slot := 0, constantValue := 0 }]
  methods := #[k29m0]
  instanceTypes := #[.int]
  staticTypes := #[]
  resolved := Array.replicate 218 none
  statics := none }

def pool30 : Array CpInfo := pool [(1, .class_ 2), (0, u "java/util/RandomAccess"), (0, .class_ 4), (0, u "java/lang/Object")] 2

/-- java/util/RandomAccess -/
def k30 : Class := { plain "java/util/RandomAccess" (some 0) with
  accessFlags := 1537
  interfaces := #[]
  cf := some (fileOf pool30 1 #[] #[] 1537 3 #[] #[])
  fields := #[]
  methods := #[]
  instanceTypes := #[]
  staticTypes := #[]
  resolved := Array.replicate 7 none
  statics := none }

def pool31 : Array CpInfo := pool [(2, .class_ 4), (1, u "java/util/AbstractList"), (0, u "<init>"), (0, u "()V"), (1, .class_ 10), (1, u "java/util/Collections"), (54, .class_ 66), (0, u "java/util/Collections$EmptyList"), (0, .class_ 68), (0, u "java/util/RandomAccess"), (0, .class_ 70), (0, u "java/io/Serializable"), (0, u "serialVersionUID"), (0, u "J")] 77

def k31m0 : Method := { name := "<init>", desc := "()V", sig := { parameters := [], returnType := none }, accessFlags := 2, code := none }
/-- java/util/Collections$EmptyList -/
def k31 : Class := { plain "java/util/Collections$EmptyList" (some 29) with
  accessFlags := 32
  interfaces := #[30, 2]
  cf := some (fileOf pool31 65 #[.nestHost 8] #[{ accessFlags := 2, nameIndex := 5, descriptorIndex := 6, attributes := #[] }] 32 2 #[67, 69] #[{ accessFlags := 26, nameIndex := 71, descriptorIndex := 72, attributes := #[] }])
  fields := #[{ name := "serialVersionUID", type := .long, accessFlags := 26, slot := 0, constantValue := 0 }]
  methods := #[k31m0]
  instanceTypes := #[.int]
  staticTypes := #[.long]
  resolved := Array.replicate 150 none
  statics := none }

def pool32 : Array CpInfo := pool [(2, .class_ 4), (1, u "java/lang/StackTraceElement"), (0, u "<init>"), (2, .class_ 10), (1, u "java/lang/Object"), (0, u "()V"), (2, u "format"), (0, u "B"), (2, u "classLoaderName"), (0, u "Ljava/lang/String;"), (2, u "moduleName"), (2, u "moduleVersion"), (12, u "declaringClass"), (4, u "methodName"), (2, u "fileName"), (2, u "lineNumber"), (0, u "I"), (65, u "declaringClassObject"), (0, u "Ljava/lang/Class;"), (33, .class_ 153), (1, u "java/lang/StackTraceElement$HashedModules"), (17, .class_ 172), (0, u "java/io/Serializable"), (0, u "NATIVE_METHOD"), (1, u "UNKNOWN_SOURCE"), (2, u "BUILTIN_CLASS_LOADER"), (1, u "JDK_NON_UPGRADEABLE_MODULE"), (1, u "serialVersionUID"), (0, u "J")] 51

def k32m0 : Method := { name := "<init>", desc := "()V", sig := { parameters := [], returnType := none }, accessFlags := 2, code := none }
/-- java/lang/StackTraceElement -/
def k32 : Class := { plain "java/lang/StackTraceElement" (some 0) with
  accessFlags := 49
  interfaces := #[2]
  cf := some (fileOf pool32 2 #[.nestMembers #[151]] #[{ accessFlags := 2, nameIndex := 5, descriptorIndex := 11, attributes := #[] }] 49 8 #[171] #[{ accessFlags := 26, nameIndex := 173, descriptorIndex := 19, attributes := #[] }, { accessFlags := 26, nameIndex := 175, descriptorIndex := 19, attributes := #[] }, { accessFlags := 130, nameIndex := 116, descriptorIndex := 117, attributes := #[] }, { accessFlags := 2, nameIndex := 18, descriptorIndex := 19, attributes := #[] }, { accessFlags := 2, nameIndex := 22, descriptorIndex := 19, attributes := #[] }, { accessFlags := 2, nameIndex := 25, descriptorIndex := 19, attributes := #[] }, { accessFlags := 2, nameIndex := 38, descriptorIndex := 19, attributes := #[] }, { accessFlags := 2, nameIndex := 43, descriptorIndex := 19, attributes := #[] }, { accessFlags := 2, nameIndex := 46, descriptorIndex := 19, attributes := #[] }, { accessFlags := 2, nameIndex := 49, descriptorIndex := 50, attributes := #[] }, { accessFlags := 2, nameIndex := 14, descriptorIndex := 15, attributes := #[] }, { accessFlags := 26, nameIndex := 178, descriptorIndex := 15, attributes := #[] }, { accessFlags := 26, nameIndex := 180, descriptorIndex := 15, attributes := #[] }, { accessFlags := 26, nameIndex := 182, descriptorIndex := 183, attributes := #[] }])
  fields := #[{ name := "NATIVE_METHOD", type := (.object "java/lang/String"), accessFlags := 26, slot := 0, constantValue := 0 }, { name := "UNKNOWN_SOURCE", type := (.object "java/lang/String"), accessFlags := 26, slot := 1, constantValue := 0 }, { name := "declaringClassObject", type := (.object "java/lang/Class"), accessFlags := 130, slot := 0, constantValue := 0 }, { name := "classLoaderName", type := (.object "java/lang/String"), accessFlags := 2, slot := 1, constantValue := 0 }, { name := "moduleName", type := (.object "java/lang/String"), accessFlags := 2, slot := 2, constantValue := 0 }, { name := "moduleVersion", type := (.object "java/lang/String"), accessFlags := 2, slot := 3, constantValue := 0 }, { name := "declaringClass", type := (.object "java/lang/String"), accessFlags := 2, slot := 4, constantValue := 0 }, { name := "methodName", type := (.object "java/lang/String"), accessFlags := 2, slot := 5, constantValue := 0 }, { name := "fileName", type := (.object "java/lang/String"), accessFlags := 2, slot := 6, constantValue := 0 }, { name := "lineNumber", type := .int, accessFlags := 2, slot := 7, constantValue := 0 }, { name := "format", type := .byte, accessFlags := 2, slot := 8, constantValue := 0 }, { name := "BUILTIN_CLASS_LOADER", type := .byte, accessFlags := 26, slot := 2, constantValue := 0 }, { name := "JDK_NON_UPGRADEABLE_MODULE", type := .byte, accessFlags := 26, slot := 3, constantValue := 0 }, { name := "serialVersionUID", type := .long, accessFlags := 26, slot := 4, constantValue := 0 }]
  methods := #[k32m0]
  instanceTypes := #[(.object "java/lang/Class"), (.object "java/lang/String"), (.object "java/lang/String"), (.object "java/lang/String"), (.object "java/lang/String"), (.object "java/lang/String"), (.object "java/lang/String"), .int, .byte]
  staticTypes := #[(.object "java/lang/String"), (.object "java/lang/String"), .byte, .byte, .long]
  resolved := Array.replicate 235 none
  statics := none }

def pool33 : Array CpInfo := pool [(1, u "java/lang/Cloneable"), (0, .class_ 1), (0, u "java/lang/Object"), (0, .class_ 3)] 3

/-- java/lang/Cloneable -/
def k33 : Class := { plain "java/lang/Cloneable" (some 0) with
  accessFlags := 1537
  interfaces := #[]
  cf := some (fileOf pool33 2 #[] #[] 1537 4 #[] #[])
  fields := #[]
  methods := #[]
  instanceTypes := #[]
  staticTypes := #[]
  resolved := Array.replicate 8 none
  statics := none }

/-- the primitive byte -/
def k34 : Class := { plain "byte" none with kind := .primitive 'B', accessFlags := 0x411 }
/-- [B -/
def k35 : Class := { plain "[B" (some 0) with kind := .array 34 .byte, interfaces := #[33, 2], accessFlags := 1041 }

/-- the primitive char -/
def k36 : Class := { plain "char" none with kind := .primitive 'C', accessFlags := 0x411 }
/-- [C -/
def k37 : Class := { plain "[C" (some 0) with kind := .array 36 .char, interfaces := #[33, 2], accessFlags := 1041 }

/-- the primitive int -/
def k38 : Class := { plain "int" none with kind := .primitive 'I', accessFlags := 0x411 }
/-- [I -/
def k39 : Class := { plain "[I" (some 0) with kind := .array 38 .int, interfaces := #[33, 2], accessFlags := 1041 }

/-- [Ljava/lang/Object; -/
def k40 : Class := { plain "[Ljava/lang/Object;" (some 0) with kind := .array 0 (.object "java/lang/Object"), interfaces := #[33, 2], accessFlags := 1041 }

/-- [Ljava/lang/StackTraceElement; -/
def k41 : Class := { plain "[Ljava/lang/StackTraceElement;" (some 0) with kind := .array 32 (.object "java/lang/StackTraceElement"), interfaces := #[33, 2], accessFlags := 1041 }

/-- [Ljava/lang/Throwable; -/
def k42 : Class := { plain "[Ljava/lang/Throwable;" (some 0) with kind := .array 9 (.object "java/lang/Throwable"), interfaces := #[33, 2], accessFlags := 1041 }

def heap : Heap := #[{ cls := 7, slots := #[.long 0, .int 1, .null, .int 0, .null, .int 0, .int 0], vm := .statics 7 },
  { cls := 8, slots := #[.int 0, .int 8, .int 0, .int 1], vm := .statics 8 },
  { cls := 9, slots := #[.long 0, .ref 8, .ref 9, .null, .null, .null, .null, .ref 10, .int 1], vm := .statics 9 },
  { cls := 20, slots := #[.ref 6, .null, .null], vm := .statics 20 },
  { cls := 22, slots := #[.null, .null, .null], vm := .statics 22 },
  { cls := 23, slots := #[.int 0, .int 0, .int 0, .int 0, .int 0, .int 0, .int 0, .int 0, .null, .null, .ref 9, .null], vm := .statics 23 },
  { cls := 7, slots := #[.ref 7, .int 0, .int 0, .int 0], vm := .none },
  { cls := 35, slots := #[.int 117, .int 115, .int 97, .int 103, .int 101, .int 58, .int 32, .int 106, .int 97, .int 114, .int 115, .int 104, .int 101, .int 108, .int 102, .int 32, .int 91, .int 45, .int 45, .int 114, .int 111, .int 111, .int 116, .int 32, .int 68, .int 73, .int 82, .int 93, .int 32, .int 67, .int 79, .int 77, .int 77, .int 65, .int 78, .int 68, .int 32, .int 91, .int 65, .int 82, .int 71, .int 85, .int 77, .int 69, .int 78, .int 84, .int 46, .int 46, .int 46, .int 93], vm := .none },
  { cls := 41, slots := #[], vm := .none },
  { cls := 31, slots := #[.int 0], vm := .none },
  { cls := 42, slots := #[], vm := .none }]
def classes : Array Class := #[k0, k1, k2, k3, k4, k5, k6, k7, k8, k9, k10, k11, k12, k13, k14, k15, k16, k17, k18, k19, k20, k21, k22, k23, k24, k25, k26, k27, k28, k29, k30, k31, k32, k33, k34, k35, k36, k37, k38, k39, k40, k41, k42]
def interned : List (Array UInt16 × Addr) := []
def slotsUsed : Nat := 93
def theMethod : MethodId := ⟨1, 1⟩
def args0 : Array Value := #[.int 2, .int 5, .int 300, .int 7]
def aboutOver (below : List Frame) : State where
  vm := { classes := classes, interned := interned.toArray }
  heap := heap
  slotsUsed := slotsUsed
  threads := #[{ frames := .invoking theMethod args0 :: below }]
def below0 : List Frame := [.native { method := ⟨0, 0⟩, args := #[] }]
def about1 : State := aboutOver below0
def p0 : Program := .bare "" "" ""
def e0 : Env := launch0.env 0 0 0
theorem w_frames : about1.frames = Frame.invoking theMethod args0 :: below0 := rfl
set_option maxRecDepth 65536 in
theorem w_args : argsFit about1.vm theMethod args0 = true := by decide +kernel
set_option maxRecDepth 65536 in
theorem w_heap : heapFits about1 = true := by decide +kernel
set_option maxRecDepth 65536 in
theorem w_runnable : about1.curStatus? = some .runnable := by decide +kernel
set_option maxRecDepth 65536 in
theorem w_alone : about1.alone = true := by decide +kernel
set_option maxRecDepth 65536 in
theorem w_named : about1.methodNamed? x = some theMethod := by decide +kernel
set_option maxRecDepth 65536 in
theorem w_hears : about1.hears theMethod below0 = true := by decide +kernel
set_option maxRecDepth 65536 in
theorem w_ripe : about1.ripe theMethod args0 below0 = true := by decide +kernel
theorem w_running : about1.status = .running := rfl
set_option maxRecDepth 65536 in
theorem w_room : about1.hasRoom e0.platform room_1 = true :=
  launch0.hasRoom_least _ room_1 (by decide +kernel) (by decide +kernel) (by decide +kernel) (by decide +kernel) (by decide +kernel) (by decide +kernel)
theorem allAtoms_all (ts : List Jvm.Cond) (a : Array Jvm.Value) (st : Jvm.State) : (allAtoms ts).before a st = ts.all (fun c => c.before a st) := by
  induction ts with
  | nil => rfl
  | cons c t ih =>
    show (Jvm.Cond.and c (allAtoms t)).before a st = _
    rw [Jvm.Cond.before_and, ih, List.all_cons]
def words1 : List Jvm.Cond := Jvm.Cond.code x code maxLocals ret :: tables_1
/-- a 'code' word, met by the world's own term for the bytes: nothing is compared byte by byte -/
theorem code_word {y : MethodName} {bytes : ByteArray} {mx : Nat} {rt : Option FieldType} {a : Array Value} {s : State} {m : MethodId} {meth : Method} {c : Code} (h1 : s.methodNamed? y = some m) (h2 : s.vm.method? m = some meth) (h3 : meth.code = some c) (h4 : c.code = bytes)
    (h5 : (c.maxLocals == mx && c.exceptionTable.isEmpty && decide (c.maxStack ≤ mostOperands) && decide (meth.sig.returnType = rt) && !meth.locks && decide (parseMethodDescriptor y.desc = some meth.sig)) = true) : (Jvm.Cond.code y bytes mx rt).before a s = true := by
  simp only [Bool.and_eq_true, beq_iff_eq, Bool.not_eq_true', decide_eq_true_eq] at h5
  obtain ⟨⟨⟨⟨⟨g1, g2⟩, g3⟩, g4⟩, g5⟩, g6⟩ := h5
  simp [Cond.before, Cond.holds, Cond.value, h1, h2, h3, h4, g1, g2, g3, g4, g5, g6]
def isCode : Jvm.Cond → Bool
  | .code _ _ _ _ => true
  | _ => false
theorem all_split {L : List Jvm.Cond} {P : Jvm.Cond → Bool} (h1 : L.all (fun c => isCode c || P c) = true) (h2 : ∀ c ∈ L.filter isCode, P c = true) : L.all P = true := by
  refine List.all_eq_true.mpr fun c hc => ?_
  have h := List.all_eq_true.mp h1 c hc
  rcases Bool.eq_false_or_eq_true (isCode c) with hi | hi
  · exact h2 c (List.mem_filter.mpr ⟨hc, hi⟩)
  · simpa [hi] using h
set_option maxRecDepth 65536 in
theorem w_c0 : (Jvm.Cond.code x code maxLocals ret).before args0 about1 = true := code_word (m := ⟨1, 1⟩) (meth := k1m1) (c := k1c1) (by decide +kernel) rfl rfl rfl (by decide +kernel)
set_option maxRecDepth 65536 in
theorem w_c1 : (Jvm.Cond.code ({ cls := "com/example/jarshelf/jarshelf/cli/UsageExceptionUnexpectedArgumentPinLaw", name := "expected", desc := "(ICCC)Ljava/lang/String;" } : Jvm.MethodName) method_3_code (4 : Nat) (Option.some (Jvm.ClassFile.FieldType.object "java/lang/String"))).before args0 about1 = true := code_word (m := ⟨1, 2⟩) (meth := k1m2) (c := k1c2) (by decide +kernel) rfl rfl rfl (by decide +kernel)
set_option maxRecDepth 65536 in
theorem w_c2 : (Jvm.Cond.code ({ cls := "java/lang/String", name := "<init>", desc := "([C)V" } : Jvm.MethodName) jdk_42_method_3_code (2 : Nat) (Option.none : Option Jvm.ClassFile.FieldType)).before args0 about1 = true := code_word (m := ⟨7, 1⟩) (meth := k7m1) (c := k7c1) (by decide +kernel) rfl rfl rfl (by decide +kernel)
set_option maxRecDepth 65536 in
theorem w_c3 : (Jvm.Cond.code ({ cls := "java/lang/String", name := "<init>", desc := "([CIILjava/lang/Void;)V" } : Jvm.MethodName) jdk_42_method_149_code (6 : Nat) (Option.none : Option Jvm.ClassFile.FieldType)).before args0 about1 = true := code_word (m := ⟨7, 7⟩) (meth := k7m7) (c := k7c7) (by decide +kernel) rfl rfl rfl (by decide +kernel)
set_option maxRecDepth 65536 in
theorem w_c4 : (Jvm.Cond.code ({ cls := "java/lang/Object", name := "<init>", desc := "()V" } : Jvm.MethodName) object_method_1_code (1 : Nat) (Option.none : Option Jvm.ClassFile.FieldType)).before args0 about1 = true := code_word (m := ⟨0, 0⟩) (meth := k0m0) (c := k0c0) (by decide +kernel) rfl rfl rfl (by decide +kernel)
set_option maxRecDepth 65536 in
theorem w_c5 : (Jvm.Cond.code ({ cls := "java/lang/StringUTF16", name := "compress", desc := "([CII)[B" } : Jvm.MethodName) jdk_52_method_16_code (6 : Nat) (Option.some (Jvm.ClassFile.FieldType.array Jvm.ClassFile.FieldType.byte))).before args0 about1 = true := code_word (m := ⟨8, 8⟩) (meth := k8m8) (c := k8c8) (by decide +kernel) rfl rfl rfl (by decide +kernel)
set_option maxRecDepth 65536 in
theorem w_c6 : (Jvm.Cond.code ({ cls := "java/lang/StringUTF16", name := "compress", desc := "([CI[BII)I" } : Jvm.MethodName) jdk_52_method_21_code (7 : Nat) (Option.some Jvm.ClassFile.FieldType.int)).before args0 about1 = true := code_word (m := ⟨8, 9⟩) (meth := k8m9) (c := k8c9) (by decide +kernel) rfl rfl rfl (by decide +kernel)
set_option maxRecDepth 65536 in
theorem w_c7 : (Jvm.Cond.code ({ cls := "java/lang/StringUTF16", name := "coderFromArrayLen", desc := "([BI)B" } : Jvm.MethodName) jdk_52_method_15_code (2 : Nat) (Option.some Jvm.ClassFile.FieldType.byte)).before args0 about1 = true := code_word (m := ⟨8, 7⟩) (meth := k8m7) (c := k8c7) (by decide +kernel) rfl rfl rfl (by decide +kernel)
set_option maxRecDepth 65536 in
theorem w_c8 : (Jvm.Cond.code ({ cls := "com/example/jarshelf/jarshelf/cli/UsageException", name := "unexpectedArgument", desc := "(Ljava/lang/String;)Lcom/example/jarshelf/jarshelf/cli/UsageException;" } : Jvm.MethodName) prog_7_method_4_code (1 : Nat) (Option.some (Jvm.ClassFile.FieldType.object "com/example/jarshelf/jarshelf/cli/UsageException"))).before args0 about1 = true := code_word (m := ⟨11, 2⟩) (meth := k11m2) (c := k11c2) (by decide +kernel) rfl rfl rfl (by decide +kernel)
set_option maxRecDepth 65536 in
theorem w_c9 : (Jvm.Cond.code ({ cls := "java/lang/StringBuilder", name := "<init>", desc := "()V" } : Jvm.MethodName) jdk_67_method_1_code (1 : Nat) (Option.none : Option Jvm.ClassFile.FieldType)).before args0 about1 = true := code_word (m := ⟨14, 0⟩) (meth := k14m0) (c := k14c0) (by decide +kernel) rfl rfl rfl (by decide +kernel)
set_option maxRecDepth 65536 in
theorem w_c10 : (Jvm.Cond.code ({ cls := "java/lang/AbstractStringBuilder", name := "<init>", desc := "(I)V" } : Jvm.MethodName) jdk_68_method_2_code (2 : Nat) (Option.none : Option Jvm.ClassFile.FieldType)).before args0 about1 = true := code_word (m := ⟨13, 1⟩) (meth := k13m1) (c := k13c1) (by decide +kernel) rfl rfl rfl (by decide +kernel)
set_option maxRecDepth 65536 in
theorem w_c11 : (Jvm.Cond.code ({ cls := "java/lang/StringBuilder", name := "append", desc := "(Ljava/lang/String;)Ljava/lang/StringBuilder;" } : Jvm.MethodName) jdk_67_method_7_code (2 : Nat) (Option.some (Jvm.ClassFile.FieldType.object "java/lang/StringBuilder"))).before args0 about1 = true := code_word (m := ⟨14, 1⟩) (meth := k14m1) (c := k14c1) (by decide +kernel) rfl rfl rfl (by decide +kernel)
set_option maxRecDepth 65536 in
theorem w_c12 : (Jvm.Cond.code ({ cls := "java/lang/AbstractStringBuilder", name := "append", desc := "(Ljava/lang/String;)Ljava/lang/AbstractStringBuilder;" } : Jvm.MethodName) jdk_68_method_22_code (3 : Nat) (Option.some (Jvm.ClassFile.FieldType.object "java/lang/AbstractStringBuilder"))).before args0 about1 = true := code_word (m := ⟨13, 6⟩) (meth := k13m6) (c := k13c6) (by decide +kernel) rfl rfl rfl (by decide +kernel)
set_option maxRecDepth 65536 in
theorem w_c13 : (Jvm.Cond.code ({ cls := "java/lang/String", name := "length", desc := "()I" } : Jvm.MethodName) jdk_42_method_54_code (1 : Nat) (Option.some Jvm.ClassFile.FieldType.int)).before args0 about1 = true := code_word (m := ⟨7, 3⟩) (meth := k7m3) (c := k7c3) (by decide +kernel) rfl rfl rfl (by decide +kernel)
set_option maxRecDepth 65536 in
theorem w_c14 : (Jvm.Cond.code ({ cls := "java/lang/String", name := "coder", desc := "()B" } : Jvm.MethodName) jdk_42_method_152_code (1 : Nat) (Option.some Jvm.ClassFile.FieldType.byte)).before args0 about1 = true := code_word (m := ⟨7, 10⟩) (meth := k7m10) (c := k7c10) (by decide +kernel) rfl rfl rfl (by decide +kernel)
set_option maxRecDepth 65536 in
theorem w_c15 : (Jvm.Cond.code ({ cls := "java/lang/AbstractStringBuilder", name := "ensureCapacityInternal", desc := "(I)V" } : Jvm.MethodName) jdk_68_method_9_code (3 : Nat) (Option.none : Option Jvm.ClassFile.FieldType)).before args0 about1 = true := code_word (m := ⟨13, 3⟩) (meth := k13m3) (c := k13c3) (by decide +kernel) rfl rfl rfl (by decide +kernel)
set_option maxRecDepth 65536 in
theorem w_c16 : (Jvm.Cond.code ({ cls := "java/lang/AbstractStringBuilder", name := "newCapacity", desc := "(I)I" } : Jvm.MethodName) jdk_68_method_10_code (6 : Nat) (Option.some Jvm.ClassFile.FieldType.int)).before args0 about1 = true := code_word (m := ⟨13, 4⟩) (meth := k13m4) (c := k13c4) (by decide +kernel) rfl rfl rfl (by decide +kernel)
set_option maxRecDepth 65536 in
theorem w_c17 : (Jvm.Cond.code ({ cls := "jdk/internal/util/ArraysSupport", name := "newLength", desc := "(III)I" } : Jvm.MethodName) jdk_48_method_27_code (4 : Nat) (Option.some Jvm.ClassFile.FieldType.int)).before args0 about1 = true := code_word (m := ⟨15, 1⟩) (meth := k15m1) (c := k15c1) (by decide +kernel) rfl rfl rfl (by decide +kernel)
set_option maxRecDepth 65536 in
theorem w_c18 : (Jvm.Cond.code ({ cls := "java/lang/Math", name := "max", desc := "(II)I" } : Jvm.MethodName) jdk_29_method_65_code (2 : Nat) (Option.some Jvm.ClassFile.FieldType.int)).before args0 about1 = true := code_word (m := ⟨16, 1⟩) (meth := k16m1) (c := k16c1) (by decide +kernel) rfl rfl rfl (by decide +kernel)
set_option maxRecDepth 65536 in
theorem w_c19 : (Jvm.Cond.code ({ cls := "java/util/Arrays", name := "copyOf", desc := "([BI)[B" } : Jvm.MethodName) jdk_65_method_121_code (3 : Nat) (Option.some (Jvm.ClassFile.FieldType.array Jvm.ClassFile.FieldType.byte))).before args0 about1 = true := code_word (m := ⟨17, 1⟩) (meth := k17m1) (c := k17c1) (by decide +kernel) rfl rfl rfl (by decide +kernel)
set_option maxRecDepth 65536 in
theorem w_c20 : (Jvm.Cond.code ({ cls := "java/lang/Math", name := "min", desc := "(II)I" } : Jvm.MethodName) jdk_29_method_69_code (2 : Nat) (Option.some Jvm.ClassFile.FieldType.int)).before args0 about1 = true := code_word (m := ⟨16, 2⟩) (meth := k16m2) (c := k16c2) (by decide +kernel) rfl rfl rfl (by decide +kernel)
set_option maxRecDepth 65536 in
theorem w_c21 : (Jvm.Cond.code ({ cls := "java/lang/AbstractStringBuilder", name := "putStringAt", desc := "(ILjava/lang/String;)V" } : Jvm.MethodName) jdk_68_method_73_code (3 : Nat) (Option.none : Option Jvm.ClassFile.FieldType)).before args0 about1 = true := code_word (m := ⟨13, 10⟩) (meth := k13m10) (c := k13c10) (by decide +kernel) rfl rfl rfl (by decide +kernel)
set_option maxRecDepth 65536 in
theorem w_c22 : (Jvm.Cond.code ({ cls := "java/lang/AbstractStringBuilder", name := "inflateIfNeededFor", desc := "(Ljava/lang/String;)V" } : Jvm.MethodName) jdk_68_method_71_code (2 : Nat) (Option.none : Option Jvm.ClassFile.FieldType)).before args0 about1 = true := code_word (m := ⟨13, 9⟩) (meth := k13m9) (c := k13c9) (by decide +kernel) rfl rfl rfl (by decide +kernel)
set_option maxRecDepth 65536 in
theorem w_c23 : (Jvm.Cond.code ({ cls := "java/lang/String", name := "getBytes", desc := "([BIB)V" } : Jvm.MethodName) jdk_42_method_147_code (4 : Nat) (Option.none : Option Jvm.ClassFile.FieldType)).before args0 about1 = true := code_word (m := ⟨7, 6⟩) (meth := k7m6) (c := k7c6) (by decide +kernel) rfl rfl rfl (by decide +kernel)
set_option maxRecDepth 65536 in
theorem w_c24 : (Jvm.Cond.code ({ cls := "java/lang/StringBuilder", name := "toString", desc := "()Ljava/lang/String;" } : Jvm.MethodName) jdk_67_method_42_code (1 : Nat) (Option.some (Jvm.ClassFile.FieldType.object "java/lang/String"))).before args0 about1 = true := code_word (m := ⟨14, 2⟩) (meth := k14m2) (c := k14c2) (by decide +kernel) rfl rfl rfl (by decide +kernel)
set_option maxRecDepth 65536 in
theorem w_c25 : (Jvm.Cond.code ({ cls := "java/lang/String", name := "<init>", desc := "(Ljava/lang/StringBuilder;)V" } : Jvm.MethodName) jdk_42_method_53_code (2 : Nat) (Option.none : Option Jvm.ClassFile.FieldType)).before args0 about1 = true := code_word (m := ⟨7, 2⟩) (meth := k7m2) (c := k7c2) (by decide +kernel) rfl rfl rfl (by decide +kernel)
set_option maxRecDepth 65536 in
theorem w_c26 : (Jvm.Cond.code ({ cls := "java/lang/String", name := "<init>", desc := "(Ljava/lang/AbstractStringBuilder;Ljava/lang/Void;)V" } : Jvm.MethodName) jdk_42_method_150_code (5 : Nat) (Option.none : Option Jvm.ClassFile.FieldType)).before args0 about1 = true := code_word (m := ⟨7, 8⟩) (meth := k7m8) (c := k7c8) (by decide +kernel) rfl rfl rfl (by decide +kernel)
set_option maxRecDepth 65536 in
theorem w_c27 : (Jvm.Cond.code ({ cls := "java/lang/AbstractStringBuilder", name := "getValue", desc := "()[B" } : Jvm.MethodName) jdk_68_method_64_code (1 : Nat) (Option.some (Jvm.ClassFile.FieldType.array Jvm.ClassFile.FieldType.byte))).before args0 about1 = true := code_word (m := ⟨13, 7⟩) (meth := k13m7) (c := k13c7) (by decide +kernel) rfl rfl rfl (by decide +kernel)
set_option maxRecDepth 65536 in
theorem w_c28 : (Jvm.Cond.code ({ cls := "java/lang/StringBuilder", name := "length", desc := "()I" } : Jvm.MethodName) jdk_67_method_93_code (1 : Nat) (Option.some Jvm.ClassFile.FieldType.int)).before args0 about1 = true := code_word (m := ⟨14, 3⟩) (meth := k14m3) (c := k14c3) (by decide +kernel) rfl rfl rfl (by decide +kernel)
set_option maxRecDepth 65536 in
theorem w_c29 : (Jvm.Cond.code ({ cls := "java/lang/AbstractStringBuilder", name := "length", desc := "()I" } : Jvm.MethodName) jdk_68_method_6_code (1 : Nat) (Option.some Jvm.ClassFile.FieldType.int)).before args0 about1 = true := code_word (m := ⟨13, 2⟩) (meth := k13m2) (c := k13c2) (by decide +kernel) rfl rfl rfl (by decide +kernel)
set_option maxRecDepth 65536 in
theorem w_c30 : (Jvm.Cond.code ({ cls := "java/lang/AbstractStringBuilder", name := "isLatin1", desc := "()Z" } : Jvm.MethodName) jdk_68_method_68_code (1 : Nat) (Option.some Jvm.ClassFile.FieldType.boolean)).before args0 about1 = true := code_word (m := ⟨13, 8⟩) (meth := k13m8) (c := k13c8) (by decide +kernel) rfl rfl rfl (by decide +kernel)
set_option maxRecDepth 65536 in
theorem w_c31 : (Jvm.Cond.code ({ cls := "java/util/Arrays", name := "copyOfRange", desc := "([BII)[B" } : Jvm.MethodName) jdk_65_method_132_code (3 : Nat) (Option.some (Jvm.ClassFile.FieldType.array Jvm.ClassFile.FieldType.byte))).before args0 about1 = true := code_word (m := ⟨17, 3⟩) (meth := k17m3) (c := k17c3) (by decide +kernel) rfl rfl rfl (by decide +kernel)
set_option maxRecDepth 65536 in
theorem w_c32 : (Jvm.Cond.code ({ cls := "java/util/Arrays", name := "copyOfRangeByte", desc := "([BII)[B" } : Jvm.MethodName) jdk_65_method_133_code (5 : Nat) (Option.some (Jvm.ClassFile.FieldType.array Jvm.ClassFile.FieldType.byte))).before args0 about1 = true := code_word (m := ⟨17, 4⟩) (meth := k17m4) (c := k17c4) (by decide +kernel) rfl rfl rfl (by decide +kernel)
set_option maxRecDepth 65536 in
theorem w_c33 : (Jvm.Cond.code ({ cls := "java/util/Arrays", name := "checkLength", desc := "(II)V" } : Jvm.MethodName) jdk_65_method_131_code (2 : Nat) (Option.none : Option Jvm.ClassFile.FieldType)).before args0 about1 = true := code_word (m := ⟨17, 2⟩) (meth := k17m2) (c := k17c2) (by decide +kernel) rfl rfl rfl (by decide +kernel)
set_option maxRecDepth 65536 in
theorem w_c34 : (Jvm.Cond.code ({ cls := "com/example/jarshelf/jarshelf/cli/UsageException", name := "<init>", desc := "(Ljava/lang/String;)V" } : Jvm.MethodName) prog_7_method_1_code (2 : Nat) (Option.none : Option Jvm.ClassFile.FieldType)).before args0 about1 = true := code_word (m := ⟨11, 0⟩) (meth := k11m0) (c := k11c0) (by decide +kernel) rfl rfl rfl (by decide +kernel)
set_option maxRecDepth 65536 in
theorem w_c35 : (Jvm.Cond.code ({ cls := "com/example/jarshelf/jarshelf/cli/UsageException", name := "<init>", desc := "(Ljava/lang/String;Ljava/lang/String;)V" } : Jvm.MethodName) prog_7_method_2_code (3 : Nat) (Option.none : Option Jvm.ClassFile.FieldType)).before args0 about1 = true := code_word (m := ⟨11, 1⟩) (meth := k11m1) (c := k11c1) (by decide +kernel) rfl rfl rfl (by decide +kernel)
set_option maxRecDepth 65536 in
theorem w_c36 : (Jvm.Cond.code ({ cls := "java/lang/Exception", name := "<init>", desc := "(Ljava/lang/String;)V" } : Jvm.MethodName) jdk_59_method_2_code (2 : Nat) (Option.none : Option Jvm.ClassFile.FieldType)).before args0 about1 = true := code_word (m := ⟨10, 1⟩) (meth := k10m1) (c := k10c1) (by decide +kernel) rfl rfl rfl (by decide +kernel)
set_option maxRecDepth 65536 in
theorem w_c37 : (Jvm.Cond.code ({ cls := "java/lang/Throwable", name := "<init>", desc := "(Ljava/lang/String;)V" } : Jvm.MethodName) jdk_78_method_2_code (2 : Nat) (Option.none : Option Jvm.ClassFile.FieldType)).before args0 about1 = true := code_word (m := ⟨9, 1⟩) (meth := k9m1) (c := k9c1) (by decide +kernel) rfl rfl rfl (by decide +kernel)
set_option maxRecDepth 65536 in
theorem w_c38 : (Jvm.Cond.code ({ cls := "java/lang/Throwable", name := "<init>", desc := "()V" } : Jvm.MethodName) jdk_78_method_1_code (1 : Nat) (Option.none : Option Jvm.ClassFile.FieldType)).before args0 about1 = true := code_word (m := ⟨9, 0⟩) (meth := k9m0) (c := k9c0) (by decide +kernel) rfl rfl rfl (by decide +kernel)
set_option maxRecDepth 65536 in
theorem w_c39 : (Jvm.Cond.code ({ cls := "java/lang/Throwable", name := "getMessage", desc := "()Ljava/lang/String;" } : Jvm.MethodName) jdk_78_method_6_code (1 : Nat) (Option.some (Jvm.ClassFile.FieldType.object "java/lang/String"))).before args0 about1 = true := code_word (m := ⟨9, 2⟩) (meth := k9m2) (c := k9c2) (by decide +kernel) rfl rfl rfl (by decide +kernel)
set_option maxRecDepth 65536 in
theorem w_c40 : (Jvm.Cond.code ({ cls := "com/example/jarshelf/jarshelf/cli/UsageException", name := "synopsis", desc := "()Ljava/lang/String;" } : Jvm.MethodName) prog_7_method_5_code (1 : Nat) (Option.some (Jvm.ClassFile.FieldType.object "java/lang/String"))).before args0 about1 = true := code_word (m := ⟨11, 3⟩) (meth := k11m3) (c := k11c3) (by decide +kernel) rfl rfl rfl (by decide +kernel)
set_option maxRecDepth 65536 in
theorem w_c41 : (Jvm.Cond.code ({ cls := "java/lang/String", name := "equals", desc := "(Ljava/lang/Object;)Z" } : Jvm.MethodName) jdk_42_method_66_code (3 : Nat) (Option.some Jvm.ClassFile.FieldType.boolean)).before args0 about1 = true := code_word (m := ⟨7, 4⟩) (meth := k7m4) (c := k7c4) (by decide +kernel) rfl rfl rfl (by decide +kernel)
set_option maxRecDepth 65536 in
theorem w_c42 : (Jvm.Cond.code ({ cls := "java/lang/StringLatin1", name := "equals", desc := "([B[B)Z" } : Jvm.MethodName) jdk_43_method_13_code (3 : Nat) (Option.some Jvm.ClassFile.FieldType.boolean)).before args0 about1 = true := code_word (m := ⟨21, 2⟩) (meth := k21m2) (c := k21c2) (by decide +kernel) rfl rfl rfl (by decide +kernel)
set_option maxRecDepth 65536 in
theorem w_c43 : (Jvm.Cond.code ({ cls := "java/lang/StringUTF16", name := "toBytes", desc := "([CII)[B" } : Jvm.MethodName) jdk_52_method_14_code (5 : Nat) (Option.some (Jvm.ClassFile.FieldType.array Jvm.ClassFile.FieldType.byte))).before args0 about1 = true := code_word (m := ⟨8, 6⟩) (meth := k8m6) (c := k8c6) (by decide +kernel) rfl rfl rfl (by decide +kernel)
set_option maxRecDepth 65536 in
theorem w_c44 : (Jvm.Cond.code ({ cls := "java/lang/StringUTF16", name := "newBytesFor", desc := "(I)[B" } : Jvm.MethodName) jdk_52_method_2_code (1 : Nat) (Option.some (Jvm.ClassFile.FieldType.array Jvm.ClassFile.FieldType.byte))).before args0 about1 = true := code_word (m := ⟨8, 1⟩) (meth := k8m1) (c := k8c1) (by decide +kernel) rfl rfl rfl (by decide +kernel)
set_option maxRecDepth 65536 in
theorem w_c45 : (Jvm.Cond.code ({ cls := "java/lang/StringUTF16", name := "newBytesLength", desc := "(I)I" } : Jvm.MethodName) jdk_52_method_3_code (1 : Nat) (Option.some Jvm.ClassFile.FieldType.int)).before args0 about1 = true := code_word (m := ⟨8, 2⟩) (meth := k8m2) (c := k8c2) (by decide +kernel) rfl rfl rfl (by decide +kernel)
set_option maxRecDepth 65536 in
theorem w_c46 : (Jvm.Cond.code ({ cls := "java/lang/StringUTF16", name := "putChar", desc := "([BII)V" } : Jvm.MethodName) jdk_52_method_4_code (3 : Nat) (Option.none : Option Jvm.ClassFile.FieldType)).before args0 about1 = true := code_word (m := ⟨8, 3⟩) (meth := k8m3) (c := k8c3) (by decide +kernel) rfl rfl rfl (by decide +kernel)
set_option maxRecDepth 65536 in
theorem w_c47 : (Jvm.Cond.code ({ cls := "java/lang/StringUTF16", name := "getChar", desc := "([BI)C" } : Jvm.MethodName) jdk_52_method_5_code (2 : Nat) (Option.some Jvm.ClassFile.FieldType.char)).before args0 about1 = true := code_word (m := ⟨8, 4⟩) (meth := k8m4) (c := k8c4) (by decide +kernel) rfl rfl rfl (by decide +kernel)
set_option maxRecDepth 65536 in
theorem w_c48 : (Jvm.Cond.code ({ cls := "java/lang/AbstractStringBuilder", name := "inflate", desc := "()V" } : Jvm.MethodName) jdk_68_method_11_code (2 : Nat) (Option.none : Option Jvm.ClassFile.FieldType)).before args0 about1 = true := code_word (m := ⟨13, 5⟩) (meth := k13m5) (c := k13c5) (by decide +kernel) rfl rfl rfl (by decide +kernel)
set_option maxRecDepth 65536 in
theorem w_c49 : (Jvm.Cond.code ({ cls := "java/lang/StringLatin1", name := "inflate", desc := "([BI[BII)V" } : Jvm.MethodName) jdk_43_method_50_code (5 : Nat) (Option.none : Option Jvm.ClassFile.FieldType)).before args0 about1 = true := code_word (m := ⟨21, 4⟩) (meth := k21m4) (c := k21c4) (by decide +kernel) rfl rfl rfl (by decide +kernel)
set_option maxRecDepth 65536 in
theorem w_c50 : (Jvm.Cond.code ({ cls := "java/lang/StringUTF16", name := "inflate", desc := "([BI[BII)V" } : Jvm.MethodName) jdk_52_method_86_code (6 : Nat) (Option.none : Option Jvm.ClassFile.FieldType)).before args0 about1 = true := code_word (m := ⟨8, 11⟩) (meth := k8m11) (c := k8c11) (by decide +kernel) rfl rfl rfl (by decide +kernel)
set_option maxRecDepth 65536 in
theorem w_c51 : (Jvm.Cond.code ({ cls := "java/lang/StringUTF16", name := "checkBoundsOffCount", desc := "(II[B)V" } : Jvm.MethodName) jdk_52_method_94_code (3 : Nat) (Option.none : Option Jvm.ClassFile.FieldType)).before args0 about1 = true := code_word (m := ⟨8, 12⟩) (meth := k8m12) (c := k8c12) (by decide +kernel) rfl rfl rfl (by decide +kernel)
set_option maxRecDepth 65536 in
theorem w_c52 : (Jvm.Cond.code ({ cls := "java/lang/StringUTF16", name := "length", desc := "([B)I" } : Jvm.MethodName) jdk_52_method_6_code (1 : Nat) (Option.some Jvm.ClassFile.FieldType.int)).before args0 about1 = true := code_word (m := ⟨8, 5⟩) (meth := k8m5) (c := k8c5) (by decide +kernel) rfl rfl rfl (by decide +kernel)
set_option maxRecDepth 65536 in
theorem w_c53 : (Jvm.Cond.code ({ cls := "java/lang/String", name := "checkBoundsOffCount", desc := "(III)I" } : Jvm.MethodName) jdk_42_method_157_code (3 : Nat) (Option.some Jvm.ClassFile.FieldType.int)).before args0 about1 = true := code_word (m := ⟨7, 11⟩) (meth := k7m11) (c := k7c11) (by decide +kernel) rfl rfl rfl (by decide +kernel)
set_option maxRecDepth 65536 in
theorem w_c54 : (Jvm.Cond.code ({ cls := "jdk/internal/util/Preconditions", name := "checkFromIndexSize", desc := "(IIILjava/util/function/BiFunction;)I" } : Jvm.MethodName) jdk_41_method_13_code (4 : Nat) (Option.some Jvm.ClassFile.FieldType.int)).before args0 about1 = true := code_word (m := ⟨22, 1⟩) (meth := k22m1) (c := k22c1) (by decide +kernel) rfl rfl rfl (by decide +kernel)
set_option maxRecDepth 65536 in
theorem w_c55 : (Jvm.Cond.code ({ cls := "java/lang/String", name := "valueOf", desc := "(C)Ljava/lang/String;" } : Jvm.MethodName) jdk_42_method_139_code (1 : Nat) (Option.some (Jvm.ClassFile.FieldType.object "java/lang/String"))).before args0 about1 = true := code_word (m := ⟨7, 5⟩) (meth := k7m5) (c := k7c5) (by decide +kernel) rfl rfl rfl (by decide +kernel)
set_option maxRecDepth 65536 in
theorem w_c56 : (Jvm.Cond.code ({ cls := "java/lang/StringLatin1", name := "canEncode", desc := "(C)Z" } : Jvm.MethodName) jdk_43_method_3_code (1 : Nat) (Option.some Jvm.ClassFile.FieldType.boolean)).before args0 about1 = true := code_word (m := ⟨21, 1⟩) (meth := k21m1) (c := k21c1) (by decide +kernel) rfl rfl rfl (by decide +kernel)
set_option maxRecDepth 65536 in
theorem w_c57 : (Jvm.Cond.code ({ cls := "java/lang/StringLatin1", name := "toBytes", desc := "(C)[B" } : Jvm.MethodName) jdk_43_method_46_code (1 : Nat) (Option.some (Jvm.ClassFile.FieldType.array Jvm.ClassFile.FieldType.byte))).before args0 about1 = true := code_word (m := ⟨21, 3⟩) (meth := k21m3) (c := k21c3) (by decide +kernel) rfl rfl rfl (by decide +kernel)
set_option maxRecDepth 65536 in
theorem w_c58 : (Jvm.Cond.code ({ cls := "java/lang/String", name := "<init>", desc := "([BB)V" } : Jvm.MethodName) jdk_42_method_151_code (3 : Nat) (Option.none : Option Jvm.ClassFile.FieldType)).before args0 about1 = true := code_word (m := ⟨7, 9⟩) (meth := k7m9) (c := k7c9) (by decide +kernel) rfl rfl rfl (by decide +kernel)
set_option maxRecDepth 65536 in
theorem w_c59 : (Jvm.Cond.code ({ cls := "java/lang/StringUTF16", name := "toBytes", desc := "(C)[B" } : Jvm.MethodName) jdk_52_method_24_code (2 : Nat) (Option.some (Jvm.ClassFile.FieldType.array Jvm.ClassFile.FieldType.byte))).before args0 about1 = true := code_word (m := ⟨8, 10⟩) (meth := k8m10) (c := k8c10) (by decide +kernel) rfl rfl rfl (by decide +kernel)
def codes1 : List Jvm.Cond := [Jvm.Cond.code x code maxLocals ret, Jvm.Cond.code ({ cls := "com/example/jarshelf/jarshelf/cli/UsageExceptionUnexpectedArgumentPinLaw", name := "expected", desc := "(ICCC)Ljava/lang/String;" } : Jvm.MethodName) method_3_code (4 : Nat) (Option.some (Jvm.ClassFile.FieldType.object "java/lang/String")), Jvm.Cond.code ({ cls := "java/lang/String", name := "<init>", desc := "([C)V" } : Jvm.MethodName) jdk_42_method_3_code (2 : Nat) (Option.none : Option Jvm.ClassFile.FieldType), Jvm.Cond.code ({ cls := "java/lang/String", name := "<init>", desc := "([CIILjava/lang/Void;)V" } : Jvm.MethodName) jdk_42_method_149_code (6 : Nat) (Option.none : Option Jvm.ClassFile.FieldType), Jvm.Cond.code ({ cls := "java/lang/Object", name := "<init>", desc := "()V" } : Jvm.MethodName) object_method_1_code (1 : Nat) (Option.none : Option Jvm.ClassFile.FieldType), Jvm.Cond.code ({ cls := "java/lang/StringUTF16", name := "compress", desc := "([CII)[B" } : Jvm.MethodName) jdk_52_method_16_code (6 : Nat) (Option.some (Jvm.ClassFile.FieldType.array Jvm.ClassFile.FieldType.byte)), Jvm.Cond.code ({ cls := "java/lang/StringUTF16", name := "compress", desc := "([CI[BII)I" } : Jvm.MethodName) jdk_52_method_21_code (7 : Nat) (Option.some Jvm.ClassFile.FieldType.int), Jvm.Cond.code ({ cls := "java/lang/StringUTF16", name := "coderFromArrayLen", desc := "([BI)B" } : Jvm.MethodName) jdk_52_method_15_code (2 : Nat) (Option.some Jvm.ClassFile.FieldType.byte), Jvm.Cond.code ({ cls := "com/example/jarshelf/jarshelf/cli/UsageException", name := "unexpectedArgument", desc := "(Ljava/lang/String;)Lcom/example/jarshelf/jarshelf/cli/UsageException;" } : Jvm.MethodName) prog_7_method_4_code (1 : Nat) (Option.some (Jvm.ClassFile.FieldType.object "com/example/jarshelf/jarshelf/cli/UsageException")), Jvm.Cond.code ({ cls := "java/lang/StringBuilder", name := "<init>", desc := "()V" } : Jvm.MethodName) jdk_67_method_1_code (1 : Nat) (Option.none : Option Jvm.ClassFile.FieldType), Jvm.Cond.code ({ cls := "java/lang/AbstractStringBuilder", name := "<init>", desc := "(I)V" } : Jvm.MethodName) jdk_68_method_2_code (2 : Nat) (Option.none : Option Jvm.ClassFile.FieldType), Jvm.Cond.code ({ cls := "java/lang/StringBuilder", name := "append", desc := "(Ljava/lang/String;)Ljava/lang/StringBuilder;" } : Jvm.MethodName) jdk_67_method_7_code (2 : Nat) (Option.some (Jvm.ClassFile.FieldType.object "java/lang/StringBuilder")), Jvm.Cond.code ({ cls := "java/lang/AbstractStringBuilder", name := "append", desc := "(Ljava/lang/String;)Ljava/lang/AbstractStringBuilder;" } : Jvm.MethodName) jdk_68_method_22_code (3 : Nat) (Option.some (Jvm.ClassFile.FieldType.object "java/lang/AbstractStringBuilder")), Jvm.Cond.code ({ cls := "java/lang/String", name := "length", desc := "()I" } : Jvm.MethodName) jdk_42_method_54_code (1 : Nat) (Option.some Jvm.ClassFile.FieldType.int), Jvm.Cond.code ({ cls := "java/lang/String", name := "coder", desc := "()B" } : Jvm.MethodName) jdk_42_method_152_code (1 : Nat) (Option.some Jvm.ClassFile.FieldType.byte), Jvm.Cond.code ({ cls := "java/lang/AbstractStringBuilder", name := "ensureCapacityInternal", desc := "(I)V" } : Jvm.MethodName) jdk_68_method_9_code (3 : Nat) (Option.none : Option Jvm.ClassFile.FieldType), Jvm.Cond.code ({ cls := "java/lang/AbstractStringBuilder", name := "newCapacity", desc := "(I)I" } : Jvm.MethodName) jdk_68_method_10_code (6 : Nat) (Option.some Jvm.ClassFile.FieldType.int), Jvm.Cond.code ({ cls := "jdk/internal/util/ArraysSupport", name := "newLength", desc := "(III)I" } : Jvm.MethodName) jdk_48_method_27_code (4 : Nat) (Option.some Jvm.ClassFile.FieldType.int), Jvm.Cond.code ({ cls := "java/lang/Math", name := "max", desc := "(II)I" } : Jvm.MethodName) jdk_29_method_65_code (2 : Nat) (Option.some Jvm.ClassFile.FieldType.int), Jvm.Cond.code ({ cls := "java/util/Arrays", name := "copyOf", desc := "([BI)[B" } : Jvm.MethodName) jdk_65_method_121_code (3 : Nat) (Option.some (Jvm.ClassFile.FieldType.array Jvm.ClassFile.FieldType.byte)), Jvm.Cond.code ({ cls := "java/lang/Math", name := "min", desc := "(II)I" } : Jvm.MethodName) jdk_29_method_69_code (2 : Nat) (Option.some Jvm.ClassFile.FieldType.int), Jvm.Cond.code ({ cls := "java/lang/AbstractStringBuilder", name := "putStringAt", desc := "(ILjava/lang/String;)V" } : Jvm.MethodName) jdk_68_method_73_code (3 : Nat) (Option.none : Option Jvm.ClassFile.FieldType), Jvm.Cond.code ({ cls := "java/lang/AbstractStringBuilder", name := "inflateIfNeededFor", desc := "(Ljava/lang/String;)V" } : Jvm.MethodName) jdk_68_method_71_code (2 : Nat) (Option.none : Option Jvm.ClassFile.FieldType), Jvm.Cond.code ({ cls := "java/lang/String", name := "getBytes", desc := "([BIB)V" } : Jvm.MethodName) jdk_42_method_147_code (4 : Nat) (Option.none : Option Jvm.ClassFile.FieldType), Jvm.Cond.code ({ cls := "java/lang/StringBuilder", name := "toString", desc := "()Ljava/lang/String;" } : Jvm.MethodName) jdk_67_method_42_code (1 : Nat) (Option.some (Jvm.ClassFile.FieldType.object "java/lang/String")), Jvm.Cond.code ({ cls := "java/lang/String", name := "<init>", desc := "(Ljava/lang/StringBuilder;)V" } : Jvm.MethodName) jdk_42_method_53_code (2 : Nat) (Option.none : Option Jvm.ClassFile.FieldType), Jvm.Cond.code ({ cls := "java/lang/String", name := "<init>", desc := "(Ljava/lang/AbstractStringBuilder;Ljava/lang/Void;)V" } : Jvm.MethodName) jdk_42_method_150_code (5 : Nat) (Option.none : Option Jvm.ClassFile.FieldType), Jvm.Cond.code ({ cls := "java/lang/AbstractStringBuilder", name := "getValue", desc := "()[B" } : Jvm.MethodName) jdk_68_method_64_code (1 : Nat) (Option.some (Jvm.ClassFile.FieldType.array Jvm.ClassFile.FieldType.byte)), Jvm.Cond.code ({ cls := "java/lang/StringBuilder", name := "length", desc := "()I" } : Jvm.MethodName) jdk_67_method_93_code (1 : Nat) (Option.some Jvm.ClassFile.FieldType.int), Jvm.Cond.code ({ cls := "java/lang/AbstractStringBuilder", name := "length", desc := "()I" } : Jvm.MethodName) jdk_68_method_6_code (1 : Nat) (Option.some Jvm.ClassFile.FieldType.int), Jvm.Cond.code ({ cls := "java/lang/AbstractStringBuilder", name := "isLatin1", desc := "()Z" } : Jvm.MethodName) jdk_68_method_68_code (1 : Nat) (Option.some Jvm.ClassFile.FieldType.boolean), Jvm.Cond.code ({ cls := "java/util/Arrays", name := "copyOfRange", desc := "([BII)[B" } : Jvm.MethodName) jdk_65_method_132_code (3 : Nat) (Option.some (Jvm.ClassFile.FieldType.array Jvm.ClassFile.FieldType.byte)), Jvm.Cond.code ({ cls := "java/util/Arrays", name := "copyOfRangeByte", desc := "([BII)[B" } : Jvm.MethodName) jdk_65_method_133_code (5 : Nat) (Option.some (Jvm.ClassFile.FieldType.array Jvm.ClassFile.FieldType.byte)), Jvm.Cond.code ({ cls := "java/util/Arrays", name := "checkLength", desc := "(II)V" } : Jvm.MethodName) jdk_65_method_131_code (2 : Nat) (Option.none : Option Jvm.ClassFile.FieldType), Jvm.Cond.code ({ cls := "com/example/jarshelf/jarshelf/cli/UsageException", name := "<init>", desc := "(Ljava/lang/String;)V" } : Jvm.MethodName) prog_7_method_1_code (2 : Nat) (Option.none : Option Jvm.ClassFile.FieldType), Jvm.Cond.code ({ cls := "com/example/jarshelf/jarshelf/cli/UsageException", name := "<init>", desc := "(Ljava/lang/String;Ljava/lang/String;)V" } : Jvm.MethodName) prog_7_method_2_code (3 : Nat) (Option.none : Option Jvm.ClassFile.FieldType), Jvm.Cond.code ({ cls := "java/lang/Exception", name := "<init>", desc := "(Ljava/lang/String;)V" } : Jvm.MethodName) jdk_59_method_2_code (2 : Nat) (Option.none : Option Jvm.ClassFile.FieldType), Jvm.Cond.code ({ cls := "java/lang/Throwable", name := "<init>", desc := "(Ljava/lang/String;)V" } : Jvm.MethodName) jdk_78_method_2_code (2 : Nat) (Option.none : Option Jvm.ClassFile.FieldType), Jvm.Cond.code ({ cls := "java/lang/Throwable", name := "<init>", desc := "()V" } : Jvm.MethodName) jdk_78_method_1_code (1 : Nat) (Option.none : Option Jvm.ClassFile.FieldType), Jvm.Cond.code ({ cls := "java/lang/Throwable", name := "getMessage", desc := "()Ljava/lang/String;" } : Jvm.MethodName) jdk_78_method_6_code (1 : Nat) (Option.some (Jvm.ClassFile.FieldType.object "java/lang/String")), Jvm.Cond.code ({ cls := "com/example/jarshelf/jarshelf/cli/UsageException", name := "synopsis", desc := "()Ljava/lang/String;" } : Jvm.MethodName) prog_7_method_5_code (1 : Nat) (Option.some (Jvm.ClassFile.FieldType.object "java/lang/String")), Jvm.Cond.code ({ cls := "java/lang/String", name := "equals", desc := "(Ljava/lang/Object;)Z" } : Jvm.MethodName) jdk_42_method_66_code (3 : Nat) (Option.some Jvm.ClassFile.FieldType.boolean), Jvm.Cond.code ({ cls := "java/lang/StringLatin1", name := "equals", desc := "([B[B)Z" } : Jvm.MethodName) jdk_43_method_13_code (3 : Nat) (Option.some Jvm.ClassFile.FieldType.boolean), Jvm.Cond.code ({ cls := "java/lang/StringUTF16", name := "toBytes", desc := "([CII)[B" } : Jvm.MethodName) jdk_52_method_14_code (5 : Nat) (Option.some (Jvm.ClassFile.FieldType.array Jvm.ClassFile.FieldType.byte)), Jvm.Cond.code ({ cls := "java/lang/StringUTF16", name := "newBytesFor", desc := "(I)[B" } : Jvm.MethodName) jdk_52_method_2_code (1 : Nat) (Option.some (Jvm.ClassFile.FieldType.array Jvm.ClassFile.FieldType.byte)), Jvm.Cond.code ({ cls := "java/lang/StringUTF16", name := "newBytesLength", desc := "(I)I" } : Jvm.MethodName) jdk_52_method_3_code (1 : Nat) (Option.some Jvm.ClassFile.FieldType.int), Jvm.Cond.code ({ cls := "java/lang/StringUTF16", name := "putChar", desc := "([BII)V" } : Jvm.MethodName) jdk_52_method_4_code (3 : Nat) (Option.none : Option Jvm.ClassFile.FieldType), Jvm.Cond.code ({ cls := "java/lang/StringUTF16", name := "getChar", desc := "([BI)C" } : Jvm.MethodName) jdk_52_method_5_code (2 : Nat) (Option.some Jvm.ClassFile.FieldType.char), Jvm.Cond.code ({ cls := "java/lang/AbstractStringBuilder", name := "inflate", desc := "()V" } : Jvm.MethodName) jdk_68_method_11_code (2 : Nat) (Option.none : Option Jvm.ClassFile.FieldType), Jvm.Cond.code ({ cls := "java/lang/StringLatin1", name := "inflate", desc := "([BI[BII)V" } : Jvm.MethodName) jdk_43_method_50_code (5 : Nat) (Option.none : Option Jvm.ClassFile.FieldType), Jvm.Cond.code ({ cls := "java/lang/StringUTF16", name := "inflate", desc := "([BI[BII)V" } : Jvm.MethodName) jdk_52_method_86_code (6 : Nat) (Option.none : Option Jvm.ClassFile.FieldType), Jvm.Cond.code ({ cls := "java/lang/StringUTF16", name := "checkBoundsOffCount", desc := "(II[B)V" } : Jvm.MethodName) jdk_52_method_94_code (3 : Nat) (Option.none : Option Jvm.ClassFile.FieldType), Jvm.Cond.code ({ cls := "java/lang/StringUTF16", name := "length", desc := "([B)I" } : Jvm.MethodName) jdk_52_method_6_code (1 : Nat) (Option.some Jvm.ClassFile.FieldType.int), Jvm.Cond.code ({ cls := "java/lang/String", name := "checkBoundsOffCount", desc := "(III)I" } : Jvm.MethodName) jdk_42_method_157_code (3 : Nat) (Option.some Jvm.ClassFile.FieldType.int), Jvm.Cond.code ({ cls := "jdk/internal/util/Preconditions", name := "checkFromIndexSize", desc := "(IIILjava/util/function/BiFunction;)I" } : Jvm.MethodName) jdk_41_method_13_code (4 : Nat) (Option.some Jvm.ClassFile.FieldType.int), Jvm.Cond.code ({ cls := "java/lang/String", name := "valueOf", desc := "(C)Ljava/lang/String;" } : Jvm.MethodName) jdk_42_method_139_code (1 : Nat) (Option.some (Jvm.ClassFile.FieldType.object "java/lang/String")), Jvm.Cond.code ({ cls := "java/lang/StringLatin1", name := "canEncode", desc := "(C)Z" } : Jvm.MethodName) jdk_43_method_3_code (1 : Nat) (Option.some Jvm.ClassFile.FieldType.boolean), Jvm.Cond.code ({ cls := "java/lang/StringLatin1", name := "toBytes", desc := "(C)[B" } : Jvm.MethodName) jdk_43_method_46_code (1 : Nat) (Option.some (Jvm.ClassFile.FieldType.array Jvm.ClassFile.FieldType.byte)), Jvm.Cond.code ({ cls := "java/lang/String", name := "<init>", desc := "([BB)V" } : Jvm.MethodName) jdk_42_method_151_code (3 : Nat) (Option.none : Option Jvm.ClassFile.FieldType), Jvm.Cond.code ({ cls := "java/lang/StringUTF16", name := "toBytes", desc := "(C)[B" } : Jvm.MethodName) jdk_52_method_24_code (2 : Nat) (Option.some (Jvm.ClassFile.FieldType.array Jvm.ClassFile.FieldType.byte))]
set_option maxRecDepth 65536 in
theorem codes_eq : words1.filter isCode = codes1 := rfl
theorem w_codes : ∀ c ∈ words1.filter isCode, c.before args0 about1 = true := by
  rw [codes_eq]
  intro c hc
  simp only [codes1, List.mem_cons, List.not_mem_nil, or_false] at hc
  rcases hc with rfl | rfl | rfl | rfl | rfl | rfl | rfl | rfl | rfl | rfl | rfl | rfl | rfl | rfl | rfl | rfl | rfl | rfl | rfl | rfl | rfl | rfl | rfl | rfl | rfl | rfl | rfl | rfl | rfl | rfl | rfl | rfl | rfl | rfl | rfl | rfl | rfl | rfl | rfl | rfl | rfl | rfl | rfl | rfl | rfl | rfl | rfl | rfl | rfl | rfl | rfl | rfl | rfl | rfl | rfl | rfl | rfl | rfl | rfl | rfl
  · exact w_c0
  · exact w_c1
  · exact w_c2
  · exact w_c3
  · exact w_c4
  · exact w_c5
  · exact w_c6
  · exact w_c7
  · exact w_c8
  · exact w_c9
  · exact w_c10
  · exact w_c11
  · exact w_c12
  · exact w_c13
  · exact w_c14
  · exact w_c15
  · exact w_c16
  · exact w_c17
  · exact w_c18
  · exact w_c19
  · exact w_c20
  · exact w_c21
  · exact w_c22
  · exact w_c23
  · exact w_c24
  · exact w_c25
  · exact w_c26
  · exact w_c27
  · exact w_c28
  · exact w_c29
  · exact w_c30
  · exact w_c31
  · exact w_c32
  · exact w_c33
  · exact w_c34
  · exact w_c35
  · exact w_c36
  · exact w_c37
  · exact w_c38
  · exact w_c39
  · exact w_c40
  · exact w_c41
  · exact w_c42
  · exact w_c43
  · exact w_c44
  · exact w_c45
  · exact w_c46
  · exact w_c47
  · exact w_c48
  · exact w_c49
  · exact w_c50
  · exact w_c51
  · exact w_c52
  · exact w_c53
  · exact w_c54
  · exact w_c55
  · exact w_c56
  · exact w_c57
  · exact w_c58
  · exact w_c59
set_option maxRecDepth 65536 in
theorem w_t1 : (words1.take 24).all (fun c => isCode c || c.before args0 about1) = true := by decide +kernel
set_option maxRecDepth 65536 in
theorem w_t2 : ((words1.drop 24).take 24).all (fun c => isCode c || c.before args0 about1) = true := by decide +kernel
set_option maxRecDepth 65536 in
theorem w_t3 : (((words1.drop 24).drop 24).take 24).all (fun c => isCode c || c.before args0 about1) = true := by decide +kernel
set_option maxRecDepth 65536 in
theorem w_t4 : ((((words1.drop 24).drop 24).drop 24).take 24).all (fun c => isCode c || c.before args0 about1) = true := by decide +kernel
set_option maxRecDepth 65536 in
theorem w_t5 : (((((words1.drop 24).drop 24).drop 24).drop 24).take 24).all (fun c => isCode c || c.before args0 about1) = true := by decide +kernel
set_option maxRecDepth 65536 in
theorem w_t6 : ((((((words1.drop 24).drop 24).drop 24).drop 24).drop 24).take 24).all (fun c => isCode c || c.before args0 about1) = true := by decide +kernel
set_option maxRecDepth 65536 in
theorem w_t7 : (((((((words1.drop 24).drop 24).drop 24).drop 24).drop 24).drop 24).take 24).all (fun c => isCode c || c.before args0 about1) = true := by decide +kernel
set_option maxRecDepth 65536 in
theorem w_t8 : ((((((((words1.drop 24).drop 24).drop 24).drop 24).drop 24).drop 24).drop 24).take 24).all (fun c => isCode c || c.before args0 about1) = true := by decide +kernel
set_option maxRecDepth 65536 in
theorem w_t9 : (((((((((words1.drop 24).drop 24).drop 24).drop 24).drop 24).drop 24).drop 24).drop 24).take 24).all (fun c => isCode c || c.before args0 about1) = true := by decide +kernel
set_option maxRecDepth 65536 in
theorem w_t10 : ((((((((((words1.drop 24).drop 24).drop 24).drop 24).drop 24).drop 24).drop 24).drop 24).drop 24).take 24).all (fun c => isCode c || c.before args0 about1) = true := by decide +kernel
set_option maxRecDepth 65536 in
theorem w_t11 : (((((((((((words1.drop 24).drop 24).drop 24).drop 24).drop 24).drop 24).drop 24).drop 24).drop 24).drop 24).take 24).all (fun c => isCode c || c.before args0 about1) = true := by decide +kernel
set_option maxRecDepth 65536 in
theorem w_t12 : ((((((((((((words1.drop 24).drop 24).drop 24).drop 24).drop 24).drop 24).drop 24).drop 24).drop 24).drop 24).drop 24).take 24).all (fun c => isCode c || c.before args0 about1) = true := by decide +kernel
set_option maxRecDepth 65536 in
theorem w_t13 : (((((((((((((words1.drop 24).drop 24).drop 24).drop 24).drop 24).drop 24).drop 24).drop 24).drop 24).drop 24).drop 24).drop 24).take 24).all (fun c => isCode c || c.before args0 about1) = true := by decide +kernel
set_option maxRecDepth 65536 in
theorem w_t14 : (((((((((((((words1.drop 24).drop 24).drop 24).drop 24).drop 24).drop 24).drop 24).drop 24).drop 24).drop 24).drop 24).drop 24).drop 24).all (fun c => isCode c || c.before args0 about1) = true := by decide +kernel
theorem w_tables : (allAtoms (Jvm.Cond.code x code maxLocals ret :: tables_1)).before args0 about1 = true := by
  rw [allAtoms_all]
  show words1.all (fun c => c.before args0 about1) = true
  refine all_split ?_ w_codes
  rw [← List.take_append_drop 24 words1, List.all_append, w_t1, ← List.take_append_drop 24 (words1.drop 24), List.all_append, w_t2, ← List.take_append_drop 24 ((words1.drop 24).drop 24), List.all_append, w_t3, ← List.take_append_drop 24 (((words1.drop 24).drop 24).drop 24), List.all_append, w_t4, ← List.take_append_drop 24 ((((words1.drop 24).drop 24).drop 24).drop 24), List.all_append, w_t5, ← List.take_append_drop 24 (((((words1.drop 24).drop 24).drop 24).drop 24).drop 24), List.all_append, w_t6, ← List.take_append_drop 24 ((((((words1.drop 24).drop 24).drop 24).drop 24).drop 24).drop 24), List.all_append, w_t7, ← List.take_append_drop 24 (((((((words1.drop 24).drop 24).drop 24).drop 24).drop 24).drop 24).drop 24), List.all_append, w_t8, ← List.take_append_drop 24 ((((((((words1.drop 24).drop 24).drop 24).drop 24).drop 24).drop 24).drop 24).drop 24), List.all_append, w_t9, ← List.take_append_drop 24 (((((((((words1.drop 24).drop 24).drop 24).drop 24).drop 24).drop 24).drop 24).drop 24).drop 24), List.all_append, w_t10, ← List.take_append_drop 24 ((((((((((words1.drop 24).drop 24).drop 24).drop 24).drop 24).drop 24).drop 24).drop 24).drop 24).drop 24), List.all_append, w_t11, ← List.take_append_drop 24 (((((((((((words1.drop 24).drop 24).drop 24).drop 24).drop 24).drop 24).drop 24).drop 24).drop 24).drop 24).drop 24), List.all_append, w_t12, ← List.take_append_drop 24 ((((((((((((words1.drop 24).drop 24).drop 24).drop 24).drop 24).drop 24).drop 24).drop 24).drop 24).drop 24).drop 24).drop 24), List.all_append, w_t13, w_t14]
  rfl
set_option maxRecDepth 65536 in
theorem w_rest : rest_1_c.before args0 about1 = true := by decide +kernel
set_option maxRecDepth 65536 in
theorem w_case : (Jvm.Cond.and given_1 narrow_1).before args0 about1 = true := by decide +kernel
set_option maxRecDepth 65536 in
theorem w_consts : constsHeld consts_1 about1 := Jvm.Lit.constsHeldB_iff.mp (by decide +kernel)
theorem w_applies : (headSpec (Jvm.Cond.code x code maxLocals ret :: tables_1) room_1).applies x e0.platform about1 = true :=
  (Spec.applies_iff w_frames).mpr ⟨w_running, w_runnable, w_alone, w_named, w_hears, w_ripe, w_room, w_tables⟩
theorem atStart : AtStart classFile x code maxLocals ret World_1 tables_1 room_1 Calls_1 rest_1 Pre_1 launch0 p0 e0 about1 theMethod args0 below0 :=
  ⟨lists_1, trivial, launch0.admits_env _ _ _, launch0.least_env, fairChoices_fair.cas, fairChoices_fair.clock, w_frames, w_args, w_heap, w_applies, ⟨(by decide +kernel : framesKnown about1 = true), ⟨(by decide +kernel : tablesKnown about1 = true), ⟨w_consts, trivial⟩⟩⟩, w_rest, w_case⟩
end start1
theorem witness_1 : WitnessClaimed_1 := ⟨start1.p0, start1.e0, start1.about1, start1.theMethod, start1.args0, start1.below0, start1.atStart⟩
end Jvm.Pilot.@@N@@
