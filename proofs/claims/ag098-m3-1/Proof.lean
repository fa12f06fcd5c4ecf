import JvmDerived
import JvmDerived.Pilot.@@N@@Statement
import JvmDerived.Pilot.@@N@@Code
set_option linter.unusedVariables false
set_option linter.unusedSimpArgs false
namespace Jvm.RoadKit
open Sem ClassFile Op Lib Jvm.Stand Jvm.Free Jvm.LawKit
section New
variable {p : Program} {l : Launch} {e : Env} {R : Room} {s : State} {m : MethodId} {args : Array Value} {below : List Frame} {meth : Method} {c : Code} {T : State} {locs : List Loc} {cells slots : Nat}
theorem retI (X : Stand p l e R s m args below meth c T locs cells slots) (hx : p.tables.exec = Jvm.exec) {pc : Nat} {Ls : Array Slot} {z : Int32} {rest : List Value} (hret : meth.sig.returnType = some .int) (hd : decode c.code pc = .ok (.ireturn, 1)) {fs : List Frame}
    (hl : ∀ (f : JFrame) (acts : List Action), f.method = m → f.locked = none → f.entered = [] → (doReturn e (T.setTop f) acts (some (.int z))).1 = T.setFrames fs) : Steps p.tables e below (T.setTop (mkF m pc Ls (.int z :: rest))) (T.setFrames fs) := by
  have hm' : T.vm.method? m = some meth := X.method'
  have hn : narrow .int (.int z) = .int z := rfl
  show Steps p.tables e below (T.setTop { method := m, pc := pc, locals := Ls, stack := _ :: rest, locked := none }) _
  jvm_step X.here [X.here.top, hx, hd, hm', hret, hn]
  first | (intro acts; rw [hl _ acts rfl rfl rfl]) | rw [hl _ _ rfl rfl rfl]
  exact Steps.refl _
end New
end Jvm.RoadKit
/- laws to paste: Road.backV, Road.eqW, Road.codOf, Road.lenW, Road.empW, shr0, narrow_ch (cut by pick.py; bodies as the Statement names them) -/
namespace Jvm.Pilot.@@N@@
namespace StrChars
open Jvm Sem ClassFile Op Lib Jvm.Stand Jvm.Free.XT Jvm.Free.ALB Jvm.Free.JM Jvm.Free
open Jvm.Lib.Cold (StaticIs)
/-- a char array whose places are chars -/
def Ch (a : Addr) (A : Cell) (U : State) : Prop := Arr .char a A U ∧ Typed .char A
theorem Ch.mv {a : Addr} {A : Cell} {U U' : State} (h : Ch a A U) (hal : U.vm.Alike U'.vm) (hh : U'.heap = U.heap) : Ch a A U' := ⟨h.1.mv hal hh, h.2⟩
theorem Ch.keep {a : Addr} {A : Cell} {U U' : State} (h : Ch a A U) (hal : U.vm.Alike U'.vm) (hk : U'.heap[a]? = some A) : Ch a A U' := ⟨h.1.keep hal hk, h.2⟩
/-- what place i of a char[]'s cell holds -/
def cv (A : Cell) (i : Nat) : Int32 := match A.slots[i]? with | some (.int x) => x | _ => 0
theorem Ch.get {a : Addr} {A : Cell} {U : State} (h : Ch a A U) {i : Nat} (hi : i < A.slots.size) : A.slots[i]? = some (.int (cv A i)) := by
  have e := Array.getElem?_eq_getElem hi
  have f := h.2 i _ e
  unfold cv; rw [e]
  generalize A.slots[i] = v at f
  cases v <;> simp [fits] at f ⊢
/-- the byte that i2b leaves of a char -/
def lo8 (x : Int32) : Int32 := x.toInt8.toInt32
theorem fits_lo8 (y : Int32) : fits .byte (.int (lo8 y)) = true := by
  have h1 := y.toInt8.le_toInt
  have h2 := y.toInt8.toInt_lt
  simp only [lo8, fits, Bool.and_eq_true, decide_eq_true_eq, Int32.le_iff_toInt_le, Int8.toInt_toInt32, show (-128 : Int32).toInt = -128 from by decide, show (127 : Int32).toInt = 127 from by decide]
  omega
/-- A' is A but that each place j of lo .. hi - 1 holds f j -/
def Laid (A A' : Cell) (lo hi : Nat) (f : Nat → Value) : Prop := A'.cls = A.cls ∧ A'.vm = A.vm ∧ A'.slots.size = A.slots.size ∧ ∀ i, A'.slots[i]? = if lo ≤ i ∧ i < hi then some (f i) else A.slots[i]?
theorem Laid.zero (A : Cell) (lo : Nat) (f : Nat → Value) : Laid A A lo (lo + 0) f := ⟨rfl, rfl, rfl, fun i => by rw [if_neg (by omega)]⟩
theorem Laid.step {A Ak : Cell} {lo k : Nat} {f : Nat → Value} {v : Value} (h : Laid A Ak lo k f) (hlo : lo ≤ k) (hk : k < Ak.slots.size) (hv : v = f k) : Laid A (Ak.setSlot k v) lo (k + 1) f := by
  refine ⟨h.1, h.2.1, by simpa [Cell.setSlot] using h.2.2.1, fun i => ?_⟩
  by_cases e : k = i
  · subst e; rw [Cell.slots_setSlot_self v hk, if_pos (by omega), hv]
  · rw [Cell.slots_setSlot_ne v e, h.2.2.2 i]
    by_cases q : lo ≤ i ∧ i < k
    · rw [if_pos q, if_pos (by omega)]
    · rw [if_neg q, if_neg (by omega)]
def U16 : String := "java/lang/StringUTF16"
namespace Cmp5
def yN : MethodName := ⟨"java/lang/StringUTF16", "compress", "([CI[BII)I"⟩
abbrev yB : ByteArray := jdk_52_method_21_code
theorem d0 : decode yB 0 = .ok (.iconst 0, 1) := by decide +kernel
theorem d1 : decode yB 1 = .ok (.istore 5, 2) := by decide +kernel
theorem d3 : decode yB 3 = .ok (.iload 5, 2) := by decide +kernel
theorem d5 : decode yB 5 = .ok (.iload 4, 2) := by decide +kernel
theorem d7 : decode yB 7 = .ok (.if_icmp (.ge) 37, 3) := by decide +kernel
theorem d10 : decode yB 10 = .ok (.aload_n 0, 1) := by decide +kernel
theorem d11 : decode yB 11 = .ok (.iload_n 1, 1) := by decide +kernel
theorem d12 : decode yB 12 = .ok (.caload, 1) := by decide +kernel
theorem d13 : decode yB 13 = .ok (.istore 6, 2) := by decide +kernel
theorem d15 : decode yB 15 = .ok (.iload 6, 2) := by decide +kernel
theorem d17 : decode yB 17 = .ok (.sipush 255, 3) := by decide +kernel
theorem d20 : decode yB 20 = .ok (.if_icmp (.le) 6, 3) := by decide +kernel
theorem d26 : decode yB 26 = .ok (.aload_n 2, 1) := by decide +kernel
theorem d27 : decode yB 27 = .ok (.iload_n 3, 1) := by decide +kernel
theorem d28 : decode yB 28 = .ok (.iload 6, 2) := by decide +kernel
theorem d30 : decode yB 30 = .ok (.i2b, 1) := by decide +kernel
theorem d31 : decode yB 31 = .ok (.bastore, 1) := by decide +kernel
theorem d32 : decode yB 32 = .ok (.iinc 1 1, 3) := by decide +kernel
theorem d35 : decode yB 35 = .ok (.iinc 3 1, 3) := by decide +kernel
theorem d38 : decode yB 38 = .ok (.iinc 5 1, 3) := by decide +kernel
theorem d41 : decode yB 41 = .ok (.goto (-38), 3) := by decide +kernel
theorem d44 : decode yB 44 = .ok (.iload 4, 2) := by decide +kernel
theorem d46 : decode yB 46 = .ok (.ireturn, 1) := by decide +kernel
def site : List Cond := []
def tab : Cond := tabOf yN yB 7 (some .int) site
def P (b : Addr) (A : Cell) (d : Addr) (B : Cell) (o q len : Nat) (args : Array Value) (s : State) : Prop := args = #[.ref b, .int (Int32.ofNat o), .ref d, .int (Int32.ofNat q), .int (Int32.ofNat len)] ∧ Ch b A s ∧ Arr .byte d B s ∧ b ≠ d ∧ o + len ≤ A.slots.size ∧ q + len ≤ B.slots.size ∧ ∀ i, i < len → ¬ 255 < cv A (o + i)
def E (b : Addr) (A : Cell) (d : Addr) (B : Cell) (o q len : Nat) (r : Option Value) (s u : State) : Prop := r = some (.int (Int32.ofNat len)) ∧ ∃ B', Put d B' s u ∧ Laid B B' q (q + len) (fun j => Value.int (lo8 (cv A (o + (j - q)))))
/-- no char of the range above 255: len; the places written hold each char's low byte -/
theorem law (l : Launch) (b : Addr) (A : Cell) (d : Addr) (B : Cell) (o q len : Nat) : Law l yN 5 5 0 0 yB 7 (some .int) site (P b A d B o q len) (E b A d B o q len) (copyLocs d q len) 0 0 := by
  refine Law.of_walk (plainFor_of_name (by decide +kernel)) (by decide +kernel) (by decide +kernel) (by decide) (fun _ _ h => by rw [h.1]; rfl) (fun _ U U' hal hh h => ⟨h.1, h.2.1.mv hal hh, h.2.2.1.mv hal hh, h.2.2.2⟩) (fun r U U' V V' h1 hal h2 h => ⟨h.1, h.2.elim fun B' q => ⟨B', q.1.mv h1 h2, q.2⟩⟩) ?_
  intro p e s m args below meth c s₁ X0 hexec hbytes hml hret hlk hnm hown hh0 W hP
  obtain ⟨rfl, hA, hB, hne, l1, l2, hp⟩ := hP
  have c1 : Steps p.tables e below (s₁.setTop (entryFrame m #[.ref b, .int (Int32.ofNat o), .ref d, .int (Int32.ofNat q), .int (Int32.ofNat len)] 7)) (s₁.setTop (mkF m 0 #[.val (.ref b), .val (.int (Int32.ofNat o)), .val (.ref d), .val (.int (Int32.ofNat q)), .val (.int (Int32.ofNat len)), .unset, .unset] [])) := entry rfl
  have hA0 := hA.1.mv X0.warmed.alike hh0
  have hB0 := hB.mv X0.warmed.alike hh0
  have a31 := hA.1.2.2.2
  have c2 : Steps p.tables e below (s₁.setTop (entryFrame m #[.ref b, .int (Int32.ofNat o), .ref d, .int (Int32.ofNat q), .int (Int32.ofNat len)] 7)) (s₁.setTop (mkF m 3 #[.val (.ref b), .val (.int (Int32.ofNat o)), .val (.ref d), .val (.int (Int32.ofNat q)), .val (.int (Int32.ofNat len)), .val (.int 0), .unset] [])) := c1.trans (by
    refine iconstV X0.here hexec rfl 0 (hb hbytes d0) (by decide) ?_
    refine XS.istore X0.here hexec rfl (hb hbytes d1) rfl rfl ?_
    exact Steps.refl _)
  have loop : ∀ (r i : Nat), i + r = len → ∀ (z : Slot), (z = .unset ∨ ∃ w, z = .val w ∧ w.category = 1) → ∀ (Tl : State) (Bk : Cell), Stand p l e { frames := 0, locals := 0, cells := 0, slots := 0 } s m #[.ref b, .int (Int32.ofNat o), .ref d, .int (Int32.ofNat q), .int (Int32.ofNat len)] below meth c Tl ([] ++ copyLocs d q i) 0 0 → Put d Bk s₁ Tl → Laid B Bk q (q + i) (fun j => Value.int (lo8 (cv A (o + (j - q))))) →
      Steps p.tables e below (s₁.setTop (entryFrame m #[.ref b, .int (Int32.ofNat o), .ref d, .int (Int32.ofNat q), .int (Int32.ofNat len)] 7)) (Tl.setTop (mkF m 3 #[.val (.ref b), .val (.int (Int32.ofNat (o + i))), .val (.ref d), .val (.int (Int32.ofNat (q + i))), .val (.int (Int32.ofNat len)), .val (.int (Int32.ofNat i)), z] [])) → ∃ (T' : State) (B' : Cell) (z' : Slot), Stand p l e { frames := 0, locals := 0, cells := 0, slots := 0 } s m #[.ref b, .int (Int32.ofNat o), .ref d, .int (Int32.ofNat q), .int (Int32.ofNat len)] below meth c T' ([] ++ copyLocs d q len) 0 0 ∧ Put d B' s₁ T' ∧ Laid B B' q (q + len) (fun j => Value.int (lo8 (cv A (o + (j - q))))) ∧
      Steps p.tables e below (s₁.setTop (entryFrame m #[.ref b, .int (Int32.ofNat o), .ref d, .int (Int32.ofNat q), .int (Int32.ofNat len)] 7)) (T'.setTop (mkF m 3 #[.val (.ref b), .val (.int (Int32.ofNat (o + len))), .val (.ref d), .val (.int (Int32.ofNat (q + len))), .val (.int (Int32.ofNat len)), .val (.int (Int32.ofNat len)), z'] [])) := by
    intro r
    induction r with
    | zero =>
      intro i hi z hz Tl Bk Xl pl fl cl
      have hil : i = len := by omega
      rw [hil] at Xl fl cl
      exact ⟨Tl, Bk, z, Xl, pl, fl, cl⟩
    | succ r ih =>
      intro i hi z hz Tl Bk Xl pl fl cl
      have all := X0.warmed.alike.symm.trans Xl.warmed.alike
      have hAl := hA0.keep all (pl.other hne hA0.1)
      have hBk := hB0.like all pl.1 fl.1 fl.2.1 fl.2.2.1
      have hlt : q + i < Bk.slots.size := by rw [fl.2.2.1]; omega
      have c3 : Steps p.tables e below (s₁.setTop (entryFrame m #[.ref b, .int (Int32.ofNat o), .ref d, .int (Int32.ofNat q), .int (Int32.ofNat len)] 7)) (Tl.setTop (mkF m 12 #[.val (.ref b), .val (.int (Int32.ofNat (o + i))), .val (.ref d), .val (.int (Int32.ofNat (q + i))), .val (.int (Int32.ofNat len)), .val (.int (Int32.ofNat i)), z] [.int (Int32.ofNat (o + i)), .ref b])) := cl.trans (by
        refine XS.iload Xl.here hexec rfl (hb hbytes d3) rfl ?_
        refine XS.iload Xl.here hexec rfl (hb hbytes d5) rfl ?_
        refine XS.icmpNo Xl.here hexec rfl (hb hbytes d7) rfl (ii_ge_f (lt32 (by omega) (by omega))) ?_
        refine XS.aloadN Xl.here hexec rfl (hb hbytes d10) rfl rfl ?_
        refine XS.iloadN Xl.here hexec rfl (hb hbytes d11) rfl ?_
        exact Steps.refl _)
      have c4 : Steps p.tables e below (s₁.setTop (entryFrame m #[.ref b, .int (Int32.ofNat o), .ref d, .int (Int32.ofNat q), .int (Int32.ofNat len)] 7)) (Tl.setTop (mkF m 13 #[.val (.ref b), .val (.int (Int32.ofNat (o + i))), .val (.ref d), .val (.int (Int32.ofNat (q + i))), .val (.int (Int32.ofNat len)), .val (.int (Int32.ofNat i)), z] [.int (cv A (o + i))])) := c3.trans (by
        refine Xl.aget hexec hAl rfl (hA.get (i := o + i) (by omega)) rfl rfl (hb hbytes d12) ?_
        exact Steps.refl _)
      have c5 : Steps p.tables e below (s₁.setTop (entryFrame m #[.ref b, .int (Int32.ofNat o), .ref d, .int (Int32.ofNat q), .int (Int32.ofNat len)] 7)) (Tl.setTop (mkF m 15 #[.val (.ref b), .val (.int (Int32.ofNat (o + i))), .val (.ref d), .val (.int (Int32.ofNat (q + i))), .val (.int (Int32.ofNat len)), .val (.int (Int32.ofNat i)), .val (.int (cv A (o + i)))] [])) := c4.trans (by
        refine XS.istoreS Xl.here hexec rfl (hb hbytes d13) rfl rfl hz ?_
        exact Steps.refl _)
      have c6 : Steps p.tables e below (s₁.setTop (entryFrame m #[.ref b, .int (Int32.ofNat o), .ref d, .int (Int32.ofNat q), .int (Int32.ofNat len)] 7)) (Tl.setTop (mkF m 31 #[.val (.ref b), .val (.int (Int32.ofNat (o + i))), .val (.ref d), .val (.int (Int32.ofNat (q + i))), .val (.int (Int32.ofNat len)), .val (.int (Int32.ofNat i)), .val (.int (cv A (o + i)))] [.int (lo8 (cv A (o + i))), .int (Int32.ofNat (q + i)), .ref d])) := c5.trans (by
        refine XS.iload Xl.here hexec rfl (hb hbytes d15) rfl ?_
        refine sipushV Xl.here hexec rfl 255 (hb hbytes d17) (by decide) ?_
        refine XS.icmpYes Xl.here hexec rfl (pc0 := 20) rfl (hb hbytes d20) rfl (ii_le_t (hp i (by omega))) (by decide) rfl ?_
        refine XS.aloadN Xl.here hexec rfl (hb hbytes d26) rfl rfl ?_
        refine XS.iloadN Xl.here hexec rfl (hb hbytes d27) rfl ?_
        refine XS.iload Xl.here hexec rfl (hb hbytes d28) rfl ?_
        refine i2b Xl.here hexec rfl (hb hbytes d30) rfl ?_
        exact Steps.refl _)
      obtain ⟨T7, X7, p7, st7⟩ := Xl.aput hexec hBk rfl hlt rfl (fits_lo8 (cv A (o + i))) (g := (mkF m 31 #[.val (.ref b), .val (.int (Int32.ofNat (o + i))), .val (.ref d), .val (.int (Int32.ofNat (q + i))), .val (.int (Int32.ofNat len)), .val (.int (Int32.ofNat i)), .val (.int (cv A (o + i)))] [.int (lo8 (cv A (o + i))), .int (Int32.ofNat (q + i)), .ref d])) rfl (rest := []) rfl (hb hbytes d31)
      have c8 : Steps p.tables e below (s₁.setTop (entryFrame m #[.ref b, .int (Int32.ofNat o), .ref d, .int (Int32.ofNat q), .int (Int32.ofNat len)] 7)) (T7.setTop (mkF m 32 #[.val (.ref b), .val (.int (Int32.ofNat (o + i))), .val (.ref d), .val (.int (Int32.ofNat (q + i))), .val (.int (Int32.ofNat len)), .val (.int (Int32.ofNat i)), .val (.int (cv A (o + i)))] [])) := c6.trans (st7 _ (Steps.refl _))
      have c9 : Steps p.tables e below (s₁.setTop (entryFrame m #[.ref b, .int (Int32.ofNat o), .ref d, .int (Int32.ofNat q), .int (Int32.ofNat len)] 7)) (T7.setTop (mkF m 3 #[.val (.ref b), .val (.int (Int32.ofNat (o + i) + 1)), .val (.ref d), .val (.int (Int32.ofNat (q + i) + 1)), .val (.int (Int32.ofNat len)), .val (.int (Int32.ofNat i + 1)), .val (.int (cv A (o + i)))] [])) := c8.trans (by
        refine iincV X7.here hexec rfl 1 (hb hbytes d32) (by decide) rfl rfl ?_
        refine iincV X7.here hexec rfl 1 (hb hbytes d35) (by decide) rfl rfl ?_
        refine iincV X7.here hexec rfl 1 (hb hbytes d38) (by decide) rfl rfl ?_
        refine XS.goto X7.here hexec rfl (pc0 := 41) rfl (hb hbytes d41) (by decide) rfl ?_
        exact Steps.refl _)
      have c10 : Steps p.tables e below (s₁.setTop (entryFrame m #[.ref b, .int (Int32.ofNat o), .ref d, .int (Int32.ofNat q), .int (Int32.ofNat len)] 7)) (T7.setTop (mkF m 3 #[.val (.ref b), .val (.int (Int32.ofNat (o + (i + 1)))), .val (.ref d), .val (.int (Int32.ofNat (q + (i + 1)))), .val (.int (Int32.ofNat len)), .val (.int (Int32.ofNat (i + 1))), .val (.int (cv A (o + i)))] [])) := by
        have := c9
        rw [succ32, succ32, succ32] at this
        exact this
      exact ih (i + 1) (by omega) _ (Or.inr ⟨_, rfl, rfl⟩) T7 _ (by rw [copyLocs_step, ← List.append_assoc]; exact X7) (pl.trans p7) (fl.step (by omega) hlt (by simp)) c10
  obtain ⟨T9, B9, z9, X9, p9, f9, g9⟩ := loop len 0 (by omega) .unset (Or.inl rfl) s₁ B (by simpa [copyLocs] using X0) ⟨hB0.1, fun _ _ => rfl, rfl⟩ (Laid.zero _ _ _) c2
  have c11 : Steps p.tables e below (s₁.setTop (entryFrame m #[.ref b, .int (Int32.ofNat o), .ref d, .int (Int32.ofNat q), .int (Int32.ofNat len)] 7)) (T9.setTop (mkF m 46 #[.val (.ref b), .val (.int (Int32.ofNat (o + len))), .val (.ref d), .val (.int (Int32.ofNat (q + len))), .val (.int (Int32.ofNat len)), .val (.int (Int32.ofNat len)), z9] [.int (Int32.ofNat len)])) := g9.trans (by
    refine XS.iload X9.here hexec rfl (hb hbytes d3) rfl ?_
    refine XS.iload X9.here hexec rfl (hb hbytes d5) rfl ?_
    refine XS.icmpYes X9.here hexec rfl (pc0 := 7) rfl (hb hbytes d7) rfl (ii_ge_t (nlt32 (by omega) (Nat.le_refl _))) (by decide) rfl ?_
    refine XS.iload X9.here hexec rfl (hb hbytes d44) rfl ?_
    exact Steps.refl _)
  exact ⟨T9, some (.int (Int32.ofNat len)), _, _, _, X9, by simp, rfl, rfl, (fun h => by cases h), ⟨rfl, B9, p9.from hh0, f9⟩, fun fs hl => c11.trans (X9.ireturnOut hexec hret rfl (Or.inl rfl) (hb hbytes d46) hl)⟩
end Cmp5
namespace Cmp3
def yN : MethodName := ⟨"java/lang/StringUTF16", "compress", "([CII)[B"⟩
abbrev yB : ByteArray := jdk_52_method_16_code
theorem d0 : decode yB 0 = .ok (.iload_n 2, 1) := by decide +kernel
theorem d1 : decode yB 1 = .ok (.newarray .byte, 2) := by decide +kernel
theorem d3 : decode yB 3 = .ok (.astore_n 3, 1) := by decide +kernel
theorem d4 : decode yB 4 = .ok (.aload_n 0, 1) := by decide +kernel
theorem d5 : decode yB 5 = .ok (.iload_n 1, 1) := by decide +kernel
theorem d6 : decode yB 6 = .ok (.aload_n 3, 1) := by decide +kernel
theorem d7 : decode yB 7 = .ok (.iconst 0, 1) := by decide +kernel
theorem d8 : decode yB 8 = .ok (.iload_n 2, 1) := by decide +kernel
theorem d9 : decode yB 9 = .ok (.invokestatic 115, 3) := by decide +kernel
theorem d12 : decode yB 12 = .ok (.istore 4, 2) := by decide +kernel
theorem d14 : decode yB 14 = .ok (.iload 4, 2) := by decide +kernel
theorem d16 : decode yB 16 = .ok (.iload_n 2, 1) := by decide +kernel
theorem d17 : decode yB 17 = .ok (.if_icmp (.eq) 40, 3) := by decide +kernel
theorem d57 : decode yB 57 = .ok (.aload_n 3, 1) := by decide +kernel
theorem d58 : decode yB 58 = .ok (.areturn, 1) := by decide +kernel
def site : List Cond := [.arrayClass .byte, Cmp5.tab] ++ staticW U16 115 Cmp5.yN
def tab : Cond := tabOf yN yB 6 (some (.array .byte)) site
def P (b : Addr) (A : Cell) (o len : Nat) (args : Array Value) (s : State) : Prop := args = #[.ref b, .int (Int32.ofNat o), .int (Int32.ofNat len)] ∧ Ch b A s ∧ o + len ≤ A.slots.size ∧ len ≤ 536870912 ∧ ∀ i, i < len → ¬ 255 < cv A (o + i)
def E (b : Addr) (A : Cell) (o len : Nat) (r : Option Value) (s u : State) : Prop := NewArr .byte "[B" len (fun j => .int (lo8 (cv A (o + j)))) r s u ∧ u.heap.size = s.heap.size + 1
/-- no char of the range above 255: a new byte[] of their low bytes -/
theorem law (l : Launch) (b : Addr) (A : Cell) (o len : Nat) : Law l yN 3 3 1 18 yB 6 (some (.array .byte)) site (P b A o len) (E b A o len) [] 1 len := by
  refine Law.of_walk (plainFor_of_name (by decide +kernel)) (by decide +kernel) (by decide +kernel) (by decide) (fun _ _ h => by rw [h.1]; rfl) (fun _ U U' hal hh h => ⟨h.1, h.2.1.mv hal hh, h.2.2⟩) (fun r U U' V V' h1 hal h2 h => ⟨NewArr.mv r U U' V V' h1 hal h2 h.1, by rw [h1, h2]; exact h.2⟩) ?_
  intro p e s m args below meth c s₁ X0 hexec hbytes hml hret hlk hnm hown hh0 W hP
  obtain ⟨rfl, hA, l1, l2, hp⟩ := hP
  have a31 := hA.1.2.2.2
  have c1 : Steps p.tables e below (s₁.setTop (entryFrame m #[.ref b, .int (Int32.ofNat o), .int (Int32.ofNat len)] 6)) (s₁.setTop (mkF m 0 #[.val (.ref b), .val (.int (Int32.ofNat o)), .val (.int (Int32.ofNat len)), .unset, .unset, .unset] [])) := entry rfl
  have c2 : Steps p.tables e below (s₁.setTop (entryFrame m #[.ref b, .int (Int32.ofNat o), .int (Int32.ofNat len)] 6)) (s₁.setTop (mkF m 1 #[.val (.ref b), .val (.int (Int32.ofNat o)), .val (.int (Int32.ofNat len)), .unset, .unset, .unset] [.int (Int32.ofNat len)])) := c1.trans (by
    refine XS.iloadN X0.here hexec rfl (hb hbytes d0) rfl ?_
    exact Steps.refl _)
  obtain ⟨T3, B3, X3, ba3, bs3, bv3, bh3, bf3, st3⟩ := X0.anew hexec (atype := .byte) (wk W (.arrayClass .byte)) rfl (by show len * 1 ≤ _; omega) (by omega) (g := (mkF m 1 #[.val (.ref b), .val (.int (Int32.ofNat o)), .val (.int (Int32.ofNat len)), .unset, .unset, .unset] [.int (Int32.ofNat len)])) rfl (hb hbytes d1) (rest := []) rfl (Nat.le_refl _) (by show 0 + len ≤ len; omega)
  rw [hh0] at ba3 st3
  have kp3 : XT.Kept s T3 := (XT.Kept.of_eq hh0).push bh3
  have hA3 := hA.keep X3.warmed.alike (kp3 _ _ hA.1.1)
  have hne : b ≠ s.heap.size := hA.1.ne
  have c4 : Steps p.tables e below (s₁.setTop (entryFrame m #[.ref b, .int (Int32.ofNat o), .int (Int32.ofNat len)] 6)) (T3.setTop (mkF m 3 #[.val (.ref b), .val (.int (Int32.ofNat o)), .val (.int (Int32.ofNat len)), .unset, .unset, .unset] [.ref s.heap.size])) := c2.trans (st3 _ (Steps.refl _))
  have c5 : Steps p.tables e below (s₁.setTop (entryFrame m #[.ref b, .int (Int32.ofNat o), .int (Int32.ofNat len)] 6)) (T3.setTop (mkF m 9 #[.val (.ref b), .val (.int (Int32.ofNat o)), .val (.int (Int32.ofNat len)), .val (.ref s.heap.size), .unset, .unset] [.int (Int32.ofNat len), .int 0, .ref s.heap.size, .int (Int32.ofNat o), .ref b])) := c4.trans (by
    refine XS.astoreN X3.here hexec rfl (hb hbytes d3) rfl rfl rfl ?_
    refine XS.aloadN X3.here hexec rfl (hb hbytes d4) rfl rfl ?_
    refine XS.iloadN X3.here hexec rfl (hb hbytes d5) rfl ?_
    refine XS.aloadN X3.here hexec rfl (hb hbytes d6) rfl rfl ?_
    refine iconstV X3.here hexec rfl 0 (hb hbytes d7) (by decide) ?_
    refine XS.iloadN X3.here hexec rfl (hb hbytes d8) rfl ?_
    exact Steps.refl _)
  obtain ⟨v6, T6, X6, E6, g6⟩ := X3.callS hexec (Cmp5.law l b A s.heap.size B3 o 0 len) hown (wks W (staticW U16 115 Cmp5.yN)) (wk W Cmp5.tab) (W := 0) (Nat.le_of_ble_eq_true rfl) (Nat.le_of_ble_eq_true rfl) (Nat.le_refl _) (by show 0 + len + 0 ≤ len; omega) (g := (mkF m 9 #[.val (.ref b), .val (.int (Int32.ofNat o)), .val (.int (Int32.ofNat len)), .val (.ref s.heap.size), .unset, .unset] [.int (Int32.ofNat len), .int (Int32.ofNat 0), .ref s.heap.size, .int (Int32.ofNat o), .ref b])) rfl (by rw [hml]; rfl) c5 (argsL := [.ref b, .int (Int32.ofNat o), .ref s.heap.size, .int (Int32.ofNat 0), .int (Int32.ofNat len)]) (rest := []) rfl rfl (by show 2 * 0 + 0 ≤ _; decide) (hb hbytes d9) (⟨rfl, hA3, ba3, hne, l1, by rw [bs3]; simp, hp⟩)
  obtain ⟨rfl, B6, p6, f6⟩ := E6
  have c7 : Steps p.tables e below (s₁.setTop (entryFrame m #[.ref b, .int (Int32.ofNat o), .int (Int32.ofNat len)] 6)) (T6.setTop (mkF m 12 #[.val (.ref b), .val (.int (Int32.ofNat o)), .val (.int (Int32.ofNat len)), .val (.ref s.heap.size), .unset, .unset] [.int (Int32.ofNat len)])) := g6
  have c8 : Steps p.tables e below (s₁.setTop (entryFrame m #[.ref b, .int (Int32.ofNat o), .int (Int32.ofNat len)] 6)) (T6.setTop (mkF m 58 #[.val (.ref b), .val (.int (Int32.ofNat o)), .val (.int (Int32.ofNat len)), .val (.ref s.heap.size), .val (.int (Int32.ofNat len)), .unset] [.ref s.heap.size])) := c7.trans (by
    refine XS.istore X6.here hexec rfl (hb hbytes d12) rfl rfl ?_
    refine XS.iload X6.here hexec rfl (hb hbytes d14) rfl ?_
    refine XS.iloadN X6.here hexec rfl (hb hbytes d16) rfl ?_
    refine XS.icmpYes X6.here hexec rfl (pc0 := 17) rfl (hb hbytes d17) rfl (ii_eq_t rfl) (by decide) rfl ?_
    refine XS.aloadN X6.here hexec rfl (hb hbytes d57) rfl rfl ?_
    exact Steps.refl _)
  have X8 := X6.wide (L' := []) (cells' := 1) (slots' := len) (fun x hx hlt => by
    simp only [List.nil_append, copyLocs, List.mem_map, List.mem_range] at hx
    obtain ⟨i, -, rfl⟩ := hx
    exact absurd hlt (Nat.lt_irrefl _)) (Nat.le_refl _) (by omega)
  exact ⟨T6, some (.ref s.heap.size), _, _, _, X8, rfl, rfl, rfl, (fun h => by cases h), ⟨⟨rfl, B6, ba3.like (X3.warmed.alike.symm.trans X6.warmed.alike) p6.1 f6.1 f6.2.1 f6.2.2.1, f6.2.1.trans bv3, by rw [X6.warmed.alike.findClass, f6.1]; exact bf3, by rw [f6.2.2.1, bs3]; simp, fun j hj => by rw [f6.2.2.2 j, if_pos (by omega)]; rfl, kp3.put p6 (Nat.le_refl _)⟩, by rw [p6.2.2, bh3, hh0]; simp⟩, fun fs hl => c8.trans (X8.areturnOut hexec rfl hret rfl (hb hbytes d58) hl)⟩
end Cmp3
namespace CodL
def yN : MethodName := ⟨"java/lang/StringUTF16", "coderFromArrayLen", "([BI)B"⟩
abbrev yB : ByteArray := jdk_52_method_15_code
theorem d0 : decode yB 0 = .ok (.iload_n 1, 1) := by decide +kernel
theorem d1 : decode yB 1 = .ok (.aload_n 0, 1) := by decide +kernel
theorem d2 : decode yB 2 = .ok (.arraylength, 1) := by decide +kernel
theorem d3 : decode yB 3 = .ok (.isub, 1) := by decide +kernel
theorem d4 : decode yB 4 = .ok (.bipush 31, 2) := by decide +kernel
theorem d6 : decode yB 6 = .ok (.iushr, 1) := by decide +kernel
theorem d7 : decode yB 7 = .ok (.i2b, 1) := by decide +kernel
theorem d8 : decode yB 8 = .ok (.ireturn, 1) := by decide +kernel
def site : List Cond := []
def tab : Cond := tabOf yN yB 2 (some .byte) site
def P (d : Addr) (B : Cell) (args : Array Value) (s : State) : Prop := args = #[.ref d, .int (Int32.ofNat B.slots.size)] ∧ Arr .byte d B s
def E (r : Option Value) (s u : State) : Prop := XT.PureE (some (.int 0)) r s u
/-- an array as long as the number of chars: LATIN1 -/
theorem law (l : Launch) (d : Addr) (B : Cell) : Law l yN 2 2 0 0 yB 2 (some .byte) site (P d B) E [] 0 0 := by
  refine Law.of_walk (plainFor_of_name (by decide +kernel)) (by decide +kernel) (by decide +kernel) (by decide) (fun _ _ h => by rw [h.1]; rfl) (fun _ U U' hal hh h => ⟨h.1, h.2.mv hal hh⟩) (fun r U U' V V' h1 hal h2 h => XT.PureE.mv r U U' V V' h1 hal h2 h) ?_
  intro p e s m args below meth c s₁ X0 hexec hbytes hml hret hlk hnm hown hh0 W hP
  obtain ⟨rfl, hB⟩ := hP
  have hB0 := hB.mv X0.warmed.alike hh0
  have c1 : Steps p.tables e below (s₁.setTop (entryFrame m #[.ref d, .int (Int32.ofNat B.slots.size)] 2)) (s₁.setTop (mkF m 0 #[.val (.ref d), .val (.int (Int32.ofNat B.slots.size))] [])) := entry rfl
  have c2 : Steps p.tables e below (s₁.setTop (entryFrame m #[.ref d, .int (Int32.ofNat B.slots.size)] 2)) (s₁.setTop (mkF m 2 #[.val (.ref d), .val (.int (Int32.ofNat B.slots.size))] [.ref d, .int (Int32.ofNat B.slots.size)])) := c1.trans (by
    refine XS.iloadN X0.here hexec rfl (hb hbytes d0) rfl ?_
    refine XS.aloadN X0.here hexec rfl (hb hbytes d1) rfl rfl ?_
    exact Steps.refl _)
  have c3 : Steps p.tables e below (s₁.setTop (entryFrame m #[.ref d, .int (Int32.ofNat B.slots.size)] 2)) (s₁.setTop (mkF m 8 #[.val (.ref d), .val (.int (Int32.ofNat B.slots.size))] [.int (lo8 (ushr (Int32.ofNat B.slots.size - Int32.ofNat B.slots.size) 31))])) := c2.trans (by
    refine X0.alen hexec hB0 rfl rfl (hb hbytes d2) ?_
    refine XS.isub X0.here hexec rfl (hb hbytes d3) rfl ?_
    refine bipushV X0.here hexec rfl 31 (hb hbytes d4) (by decide) ?_
    refine iushr X0.here hexec rfl (hb hbytes d6) rfl ?_
    refine i2b X0.here hexec rfl (hb hbytes d7) rfl ?_
    exact Steps.refl _)
  have e0 : lo8 (ushr (Int32.ofNat B.slots.size - Int32.ofNat B.slots.size) 31) = 0 := by rw [Int32.sub_self]; decide
  rw [e0] at c3
  exact ⟨s₁, some (.int 0), _, _, _, X0, rfl, rfl, rfl, (fun h => by cases h), ⟨rfl, hh0⟩, fun fs hl => c3.trans (X0.ireturnOut hexec hret rfl (Or.inr (Or.inr (Or.inl rfl))) (hb hbytes d8) hl)⟩
end CodL
/-- the String at a is Latin-1 over a new byte[] (the heap's one new cell): the low bytes of the len chars of A from o on; every cell but a is kept -/
def Got (a : Addr) (D : Cell) (fV fC : Field) (A : Cell) (o len : Nat) (r : Option Value) (s u : State) : Prop := r = none ∧ ∃ D' V : Cell, Blank "java/lang/String" a D' u ∧ Same D D' [fV.slot, fC.slot] ∧ D'.slots[fV.slot]? = some (.ref s.heap.size) ∧ D'.slots[fC.slot]? = some (.int 0) ∧ Arr .byte s.heap.size V u ∧ V.vm = .none ∧ u.vm.findClass "[B" = some V.cls ∧ V.slots.size = len ∧ (∀ j, j < len → V.slots[j]? = some (.int (lo8 (cv A (o + j))))) ∧ (∀ (y : Addr) (c : Cell), y ≠ a → s.heap[y]? = some c → u.heap[y]? = some c) ∧ u.heap.size = s.heap.size + 1
theorem Got.mv {a : Addr} {D A : Cell} {fV fC : Field} {o len : Nat} : ∀ r (U U' V V' : State), U'.heap = U.heap → V.vm.Alike V'.vm → V'.heap = V.heap → Got a D fV fC A o len r U V → Got a D fV fC A o len r U' V' :=
  fun r U U' V V' h1 hal h2 ⟨e0, D', X, a1, a2, a3, a4, a5, a6, a7, a8, a9, a10, a11⟩ => ⟨e0, D', X, a1.mv hal h2, a2, by rw [h1]; exact a3, a4, by rw [h1]; exact a5.mv hal h2, a6, by rw [hal.findClass]; exact a7, a8, a9, by rw [h1, h2]; exact a10, by rw [h1, h2]; exact a11⟩
namespace New4
def yN : MethodName := ⟨"java/lang/String", "<init>", "([CIILjava/lang/Void;)V"⟩
abbrev yB : ByteArray := jdk_42_method_149_code
theorem d0 : decode yB 0 = .ok (.aload_n 0, 1) := by decide +kernel
theorem d1 : decode yB 1 = .ok (.invokespecial 1, 3) := by decide +kernel
theorem d4 : decode yB 4 = .ok (.iload_n 3, 1) := by decide +kernel
theorem d5 : decode yB 5 = .ok (.ifCond (.ne) 22, 3) := by decide +kernel
theorem d27 : decode yB 27 = .ok (.getstatic 38, 3) := by decide +kernel
theorem d30 : decode yB 30 = .ok (.ifCond (.eq) 28, 3) := by decide +kernel
theorem d33 : decode yB 33 = .ok (.aload_n 1, 1) := by decide +kernel
theorem d34 : decode yB 34 = .ok (.iload_n 2, 1) := by decide +kernel
theorem d35 : decode yB 35 = .ok (.iload_n 3, 1) := by decide +kernel
theorem d36 : decode yB 36 = .ok (.invokestatic 177, 3) := by decide +kernel
theorem d39 : decode yB 39 = .ok (.astore 5, 2) := by decide +kernel
theorem d41 : decode yB 41 = .ok (.aload_n 0, 1) := by decide +kernel
theorem d42 : decode yB 42 = .ok (.aload 5, 2) := by decide +kernel
theorem d44 : decode yB 44 = .ok (.iload_n 3, 1) := by decide +kernel
theorem d45 : decode yB 45 = .ok (.invokestatic 47, 3) := by decide +kernel
theorem d48 : decode yB 48 = .ok (.putfield 15, 3) := by decide +kernel
theorem d51 : decode yB 51 = .ok (.aload_n 0, 1) := by decide +kernel
theorem d52 : decode yB 52 = .ok (.aload 5, 2) := by decide +kernel
theorem d54 : decode yB 54 = .ok (.putfield 9, 3) := by decide +kernel
theorem d57 : decode yB 57 = .ok (.return_, 1) := by decide +kernel
def site : List Cond := [.fieldLink "java/lang/String" 38 "java/lang/String" "COMPACT_STRINGS" "Z", Cmp3.tab, CodL.tab, .laysFinal "java/lang/String" "java/lang/String" "value" "[B", .fieldLink "java/lang/String" 9 "java/lang/String" "value" "[B", .laysFinal "java/lang/String" "java/lang/String" "coder" "B", .fieldLink "java/lang/String" 15 "java/lang/String" "coder" "B"] ++ objW "java/lang/String" 1 ++ staticW "java/lang/String" 177 Cmp3.yN ++ staticW "java/lang/String" 47 CodL.yN
def tab : Cond := tabOf yN yB 6 none site
def P (a : Addr) (D : Cell) (fV fC : Field) (b : Addr) (A : Cell) (z : Int32) (o len : Nat) (args : Array Value) (s : State) : Prop := args = #[.ref a, .ref b, .int (Int32.ofNat o), .int (Int32.ofNat len), .null] ∧ Blank "java/lang/String" a D s ∧ Found "java/lang/String" "value" "[B" fV s ∧ Found "java/lang/String" "coder" "B" fC s ∧ Ch b A s ∧ StaticIs s "java/lang/String" "COMPACT_STRINGS" "Z" (.int z) ∧ ¬ z = 0 ∧ 0 < len ∧ o + len ≤ A.slots.size ∧ len ≤ 536870912 ∧ ∀ i, i < len → ¬ 255 < cv A (o + i)
def E (a : Addr) (D : Cell) (fV fC : Field) (A : Cell) (o len : Nat) (r : Option Value) (s u : State) : Prop := Got a D fV fC A o len r s u
/-- len > 0, no char of the range above 255: a Latin-1 String of their low bytes -/
theorem law (l : Launch) (a : Addr) (D : Cell) (fV fC : Field) (b : Addr) (A : Cell) (z : Int32) (o len : Nat) : Law l yN 5 4 2 35 yB 6 none site (P a D fV fC b A z o len) (E a D fV fC A o len) [⟨a, fC.slot⟩, ⟨a, fV.slot⟩] 1 len := by
  refine Law.of_walk (plainFor_of_name (by decide +kernel)) (by decide +kernel) (by decide +kernel) (by decide) (fun _ _ h => by rw [h.1]; rfl) (fun _ U U' hal hh h => ⟨h.1, h.2.1.mv hal hh, h.2.2.1.al hal, h.2.2.2.1.al hal, h.2.2.2.2.1.mv hal hh, h.2.2.2.2.2.1.there hal hh, h.2.2.2.2.2.2⟩) (fun r U U' V V' h1 hal h2 h => Got.mv r U U' V V' h1 hal h2 h) ?_
  intro p e s m args below meth c s₁ X0 hexec hbytes hml hret hlk hnm hown hh0 W hP
  obtain ⟨rfl, hB, f1, f2, hA, s1, hz, l0, l1, l2, hp⟩ := hP
  have a31 := hA.1.2.2.2
  have c1 : Steps p.tables e below (s₁.setTop (entryFrame m #[.ref a, .ref b, .int (Int32.ofNat o), .int (Int32.ofNat len), .null] 6)) (s₁.setTop (mkF m 0 #[.val (.ref a), .val (.ref b), .val (.int (Int32.ofNat o)), .val (.int (Int32.ofNat len)), .val .null, .unset] [])) := entry rfl
  have c2 : Steps p.tables e below (s₁.setTop (entryFrame m #[.ref a, .ref b, .int (Int32.ofNat o), .int (Int32.ofNat len), .null] 6)) (s₁.setTop (mkF m 1 #[.val (.ref a), .val (.ref b), .val (.int (Int32.ofNat o)), .val (.int (Int32.ofNat len)), .val .null, .unset] [.ref a])) := c1.trans (by
    refine XS.aloadN X0.here hexec rfl (hb hbytes d0) rfl rfl ?_
    exact Steps.refl _)
  obtain ⟨T3, X3, q3, st3⟩ := X0.oinit hexec hown (wks W (objW "java/lang/String" 1)) (g := (mkF m 1 #[.val (.ref a), .val (.ref b), .val (.int (Int32.ofNat o)), .val (.int (Int32.ofNat len)), .val .null, .unset] [.ref a])) rfl (by rw [hml]; rfl) (rest := []) rfl (hb hbytes d1) (W := 0) (by show 2 * 0 + 0 ≤ _; decide) (Nat.le_of_ble_eq_true rfl) (Nat.le_of_ble_eq_true rfl)
  have hh3 := q3.trans hh0
  have c4 : Steps p.tables e below (s₁.setTop (entryFrame m #[.ref a, .ref b, .int (Int32.ofNat o), .int (Int32.ofNat len), .null] 6)) (T3.setTop (mkF m 27 #[.val (.ref a), .val (.ref b), .val (.int (Int32.ofNat o)), .val (.int (Int32.ofNat len)), .val .null, .unset] [])) := (c2.trans (st3 _ (Steps.refl _))).trans (by
    refine XS.iloadN X3.here hexec rfl (hb hbytes d4) rfl ?_
    refine XS.ifYes X3.here hexec rfl (pc0 := 5) rfl (hb hbytes d5) rfl (i0_ne_t (nz32 (by omega) l0)) (by decide) rfl ?_
    exact Steps.refl _)
  obtain ⟨T5, X5, q5, st5⟩ := X3.sget hexec hown (wk W (.fieldLink "java/lang/String" 38 "java/lang/String" "COMPACT_STRINGS" "Z")) s1 (fun _ _ h => by rw [hh3]; exact h) (g := (mkF m 27 #[.val (.ref a), .val (.ref b), .val (.int (Int32.ofNat o)), .val (.int (Int32.ofNat len)), .val .null, .unset] [])) rfl (hb hbytes d27)
  have hh5 := q5.trans hh3
  have c6 : Steps p.tables e below (s₁.setTop (entryFrame m #[.ref a, .ref b, .int (Int32.ofNat o), .int (Int32.ofNat len), .null] 6)) (T5.setTop (mkF m 30 #[.val (.ref a), .val (.ref b), .val (.int (Int32.ofNat o)), .val (.int (Int32.ofNat len)), .val .null, .unset] [.int z])) := c4.trans (st5 _ (Steps.refl _))
  have c7 : Steps p.tables e below (s₁.setTop (entryFrame m #[.ref a, .ref b, .int (Int32.ofNat o), .int (Int32.ofNat len), .null] 6)) (T5.setTop (mkF m 36 #[.val (.ref a), .val (.ref b), .val (.int (Int32.ofNat o)), .val (.int (Int32.ofNat len)), .val .null, .unset] [.int (Int32.ofNat len), .int (Int32.ofNat o), .ref b])) := c6.trans (by
    refine XS.ifNo X5.here hexec rfl (hb hbytes d30) rfl (i0_eq_f hz) ?_
    refine XS.aloadN X5.here hexec rfl (hb hbytes d33) rfl rfl ?_
    refine XS.iloadN X5.here hexec rfl (hb hbytes d34) rfl ?_
    refine XS.iloadN X5.here hexec rfl (hb hbytes d35) rfl ?_
    exact Steps.refl _)
  obtain ⟨v8, T8, X8, E8, g8⟩ := X5.callS hexec (Cmp3.law l b A o len) hown (wks W (staticW "java/lang/String" 177 Cmp3.yN)) (wk W Cmp3.tab) (W := 0) (Nat.le_of_ble_eq_true rfl) (Nat.le_of_ble_eq_true rfl) (Nat.le_refl _) (by show 0 + len ≤ len; omega) (g := (mkF m 36 #[.val (.ref a), .val (.ref b), .val (.int (Int32.ofNat o)), .val (.int (Int32.ofNat len)), .val .null, .unset] [.int (Int32.ofNat len), .int (Int32.ofNat o), .ref b])) rfl (by rw [hml]; rfl) c7 (argsL := [.ref b, .int (Int32.ofNat o), .int (Int32.ofNat len)]) (rest := []) rfl rfl (by show 2 * 0 + 0 ≤ _; decide) (hb hbytes d36) (⟨rfl, hA.mv X5.warmed.alike hh5, l1, l2, hp⟩)
  obtain ⟨e8, z8⟩ := E8
  obtain ⟨rfl, N, n1, n2, n3, n4, n5, n6⟩ := NewArr.mv _ T5 s _ _ hh5.symm (Vm.Alike.refl _) rfl e8
  rw [hh5] at z8
  have hB1 := hB.keep X8.warmed.alike (n6 _ _ hB.1)
  have hne : s.heap.size ≠ a := (Nat.ne_of_lt (Array.getElem?_eq_some_iff.mp hB.1).1).symm
  have c9 : Steps p.tables e below (s₁.setTop (entryFrame m #[.ref a, .ref b, .int (Int32.ofNat o), .int (Int32.ofNat len), .null] 6)) (T8.setTop (mkF m 39 #[.val (.ref a), .val (.ref b), .val (.int (Int32.ofNat o)), .val (.int (Int32.ofNat len)), .val .null, .unset] [.ref s.heap.size])) := g8
  have c10 : Steps p.tables e below (s₁.setTop (entryFrame m #[.ref a, .ref b, .int (Int32.ofNat o), .int (Int32.ofNat len), .null] 6)) (T8.setTop (mkF m 45 #[.val (.ref a), .val (.ref b), .val (.int (Int32.ofNat o)), .val (.int (Int32.ofNat len)), .val .null, .val (.ref s.heap.size)] [.int (Int32.ofNat N.slots.size), .ref s.heap.size, .ref a])) := by
    have hc : Steps p.tables e below (s₁.setTop (entryFrame m #[.ref a, .ref b, .int (Int32.ofNat o), .int (Int32.ofNat len), .null] 6)) (T8.setTop (mkF m 45 #[.val (.ref a), .val (.ref b), .val (.int (Int32.ofNat o)), .val (.int (Int32.ofNat len)), .val .null, .val (.ref s.heap.size)] [.int (Int32.ofNat len), .ref s.heap.size, .ref a])) := c9.trans (by
      refine XS.astore X8.here hexec rfl (hb hbytes d39) rfl rfl rfl ?_
      refine XS.aloadN X8.here hexec rfl (hb hbytes d41) rfl rfl ?_
      refine XS.aload X8.here hexec rfl (hb hbytes d42) rfl rfl ?_
      refine XS.iloadN X8.here hexec rfl (hb hbytes d44) rfl ?_
      exact Steps.refl _)
    rw [n4]; exact hc
  obtain ⟨v11, T11, X11, E11, g11⟩ := X8.callS hexec (CodL.law l s.heap.size N) hown (wks W (staticW "java/lang/String" 47 CodL.yN)) (wk W CodL.tab) (W := 1) (Nat.le_of_ble_eq_true rfl) (Nat.le_of_ble_eq_true rfl) (Nat.le_refl _) (by show 0 + len + 0 ≤ len; omega) (g := (mkF m 45 #[.val (.ref a), .val (.ref b), .val (.int (Int32.ofNat o)), .val (.int (Int32.ofNat len)), .val .null, .val (.ref s.heap.size)] [.int (Int32.ofNat N.slots.size), .ref s.heap.size, .ref a])) rfl (by rw [hml]; rfl) c10 (argsL := [.ref s.heap.size, .int (Int32.ofNat N.slots.size)]) (rest := [.ref a]) rfl rfl (by show 2 * 0 + (1 + 0) ≤ _; decide) (hb hbytes d45) (⟨rfl, n1⟩)
  obtain ⟨rfl, q11⟩ := E11
  have hB11 := hB1.mv (X8.warmed.alike.symm.trans X11.warmed.alike) q11
  have c12 : Steps p.tables e below (s₁.setTop (entryFrame m #[.ref a, .ref b, .int (Int32.ofNat o), .int (Int32.ofNat len), .null] 6)) (T11.setTop (mkF m 48 #[.val (.ref a), .val (.ref b), .val (.int (Int32.ofNat o)), .val (.int (Int32.ofNat len)), .val .null, .val (.ref s.heap.size)] [.int 0, .ref a])) := g11
  obtain ⟨T13, X13, p13, bl13, sl13, st13⟩ := X11.finit hexec hown (wk W (.fieldLink "java/lang/String" 15 "java/lang/String" "coder" "B")) (Or.inr ⟨_, (wk W (.laysFinal "java/lang/String" "java/lang/String" "coder" "B"))⟩) (Or.inl ⟨rfl, hnm⟩) f2 (Or.inl rfl) hB11 (t := .byte) (by decide +kernel) rfl (g := (mkF m 48 #[.val (.ref a), .val (.ref b), .val (.int (Int32.ofNat o)), .val (.int (Int32.ofNat len)), .val .null, .val (.ref s.heap.size)] [.int 0, .ref a])) rfl (rest := []) rfl (hb hbytes d48)
  have c14 : Steps p.tables e below (s₁.setTop (entryFrame m #[.ref a, .ref b, .int (Int32.ofNat o), .int (Int32.ofNat len), .null] 6)) (T13.setTop (mkF m 54 #[.val (.ref a), .val (.ref b), .val (.int (Int32.ofNat o)), .val (.int (Int32.ofNat len)), .val .null, .val (.ref s.heap.size)] [.ref s.heap.size, .ref a])) := (c12.trans (st13 _ (Steps.refl _))).trans (by
    refine XS.aloadN X13.here hexec rfl (hb hbytes d51) rfl rfl ?_
    refine XS.aload X13.here hexec rfl (hb hbytes d52) rfl rfl ?_
    exact Steps.refl _)
  obtain ⟨T15, X15, p15, bl15, sl15, st15⟩ := X13.finit hexec hown (wk W (.fieldLink "java/lang/String" 9 "java/lang/String" "value" "[B")) (Or.inr ⟨_, (wk W (.laysFinal "java/lang/String" "java/lang/String" "value" "[B"))⟩) (Or.inl ⟨rfl, hnm⟩) f1 (Or.inl rfl) bl13 (t := (.array .byte)) (by decide +kernel) rfl (g := (mkF m 54 #[.val (.ref a), .val (.ref b), .val (.int (Int32.ofNat o)), .val (.int (Int32.ofNat len)), .val .null, .val (.ref s.heap.size)] [.ref s.heap.size, .ref a])) rfl (rest := []) rfl (hb hbytes d54)
  have c16 : Steps p.tables e below (s₁.setTop (entryFrame m #[.ref a, .ref b, .int (Int32.ofNat o), .int (Int32.ofNat len), .null] 6)) (T15.setTop (mkF m 57 #[.val (.ref a), .val (.ref b), .val (.int (Int32.ofNat o)), .val (.int (Int32.ofNat len)), .val .null, .val (.ref s.heap.size)] [])) := c14.trans (st15 _ (Steps.refl _))
  have ap := apart (Or.inr ⟨_, (wk W (.laysFinal "java/lang/String" "java/lang/String" "value" "[B"))⟩) (Or.inr ⟨_, (wk W (.laysFinal "java/lang/String" "java/lang/String" "coder" "B"))⟩) f1 f2 (t₁ := .array .byte) (t₂ := .byte) (by decide +kernel) (by decide +kernel) (by decide)
  have al := X8.warmed.alike.symm.trans X15.warmed.alike
  have n7 : T11.heap[s.heap.size]? = some N := by rw [q11]; exact n1.1
  exact ⟨T15, none, _, _, _, X15, by simp, rfl, by omega, (fun _ => rfl), ⟨rfl, _, N, bl15, ((Same.refl D _).set _ (by simp)).set _ (by simp), sl15, (Cell.slots_setSlot_ne _ ap).trans sl13, n1.keep al (p15.other hne (p13.other hne n7)), n2, by rw [al.findClass]; exact n3, n4, n5, fun y c h1 h2 => p15.other h1 (p13.other h1 (by rw [q11]; exact n6 y c h2)), by rw [p15.2.2, p13.2.2, q11]; exact z8⟩, fun fs hl => c16.trans (X15.returnOut hexec hret (hb hbytes d57) hl)⟩
end New4
namespace New1
def yN : MethodName := ⟨"java/lang/String", "<init>", "([C)V"⟩
abbrev yB : ByteArray := jdk_42_method_3_code
theorem d0 : decode yB 0 = .ok (.aload_n 0, 1) := by decide +kernel
theorem d1 : decode yB 1 = .ok (.aload_n 1, 1) := by decide +kernel
theorem d2 : decode yB 2 = .ok (.iconst 0, 1) := by decide +kernel
theorem d3 : decode yB 3 = .ok (.aload_n 1, 1) := by decide +kernel
theorem d4 : decode yB 4 = .ok (.arraylength, 1) := by decide +kernel
theorem d5 : decode yB 5 = .ok (.aconst_null, 1) := by decide +kernel
theorem d6 : decode yB 6 = .ok (.invokespecial 27, 3) := by decide +kernel
theorem d9 : decode yB 9 = .ok (.return_, 1) := by decide +kernel
def site : List Cond := [New4.tab] ++ initW "java/lang/String" 27 New4.yN
def tab : Cond := tabOf yN yB 2 none site
def P (a : Addr) (D : Cell) (fV fC : Field) (b : Addr) (A : Cell) (z : Int32) (args : Array Value) (s : State) : Prop := args = #[.ref a, .ref b] ∧ Blank "java/lang/String" a D s ∧ Found "java/lang/String" "value" "[B" fV s ∧ Found "java/lang/String" "coder" "B" fC s ∧ Ch b A s ∧ StaticIs s "java/lang/String" "COMPACT_STRINGS" "Z" (.int z) ∧ ¬ z = 0 ∧ 0 < A.slots.size ∧ A.slots.size ≤ 536870912 ∧ ∀ i, i < A.slots.size → ¬ 255 < cv A i
def E (a : Addr) (D : Cell) (fV fC : Field) (A : Cell) (r : Option Value) (s u : State) : Prop := Got a D fV fC A 0 A.slots.size r s u
/-- new String(chars), not empty, no char above 255: a Latin-1 String of their low bytes -/
theorem law (l : Launch) (a : Addr) (D : Cell) (fV fC : Field) (b : Addr) (A : Cell) (z : Int32) : Law l yN 2 1 3 52 yB 2 none site (P a D fV fC b A z) (E a D fV fC A) [⟨a, fC.slot⟩, ⟨a, fV.slot⟩] 1 A.slots.size := by
  refine Law.of_walk (plainFor_of_name (by decide +kernel)) (by decide +kernel) (by decide +kernel) (by decide) (fun _ _ h => by rw [h.1]; rfl) (fun _ U U' hal hh h => ⟨h.1, h.2.1.mv hal hh, h.2.2.1.al hal, h.2.2.2.1.al hal, h.2.2.2.2.1.mv hal hh, h.2.2.2.2.2.1.there hal hh, h.2.2.2.2.2.2⟩) (fun r U U' V V' h1 hal h2 h => Got.mv r U U' V V' h1 hal h2 h) ?_
  intro p e s m args below meth c s₁ X0 hexec hbytes hml hret hlk hnm hown hh0 W hP
  obtain ⟨rfl, hB, f1, f2, hA, s1, hz, l0, l2, hp⟩ := hP
  have c1 : Steps p.tables e below (s₁.setTop (entryFrame m #[.ref a, .ref b] 2)) (s₁.setTop (mkF m 0 #[.val (.ref a), .val (.ref b)] [])) := entry rfl
  have c2 : Steps p.tables e below (s₁.setTop (entryFrame m #[.ref a, .ref b] 2)) (s₁.setTop (mkF m 6 #[.val (.ref a), .val (.ref b)] [.null, .int (Int32.ofNat A.slots.size), .int 0, .ref b, .ref a])) := c1.trans (by
    refine XS.aloadN X0.here hexec rfl (hb hbytes d0) rfl rfl ?_
    refine XS.aloadN X0.here hexec rfl (hb hbytes d1) rfl rfl ?_
    refine iconstV X0.here hexec rfl 0 (hb hbytes d2) (by decide) ?_
    refine XS.aloadN X0.here hexec rfl (hb hbytes d3) rfl rfl ?_
    refine X0.alen hexec (hA.1.mv X0.warmed.alike hh0) rfl rfl (hb hbytes d4) ?_
    refine XS.aconstNull X0.here hexec rfl (hb hbytes d5) ?_
    exact Steps.refl _)
  obtain ⟨v3, T3, X3, E3, g3⟩ := X0.callN hexec (New4.law l a D fV fC b A z 0 A.slots.size) rfl hown (wks W (initW "java/lang/String" 27 New4.yN)) (W New4.tab (by simp only [site, List.mem_cons, List.mem_append, true_or, or_true])) (W := 0) (Nat.le_of_ble_eq_true rfl) (Nat.le_of_ble_eq_true rfl) (Nat.le_refl _) (by show 0 + A.slots.size ≤ A.slots.size; omega) (g := (mkF m 6 #[.val (.ref a), .val (.ref b)] [.null, .int (Int32.ofNat A.slots.size), .int (Int32.ofNat 0), .ref b, .ref a])) rfl (by rw [hml]; rfl) c2 (argsL := [.ref b, .int (Int32.ofNat 0), .int (Int32.ofNat A.slots.size), .null]) (rest := []) rfl rfl (by show 2 * 0 + 0 ≤ _; decide) (hb hbytes d6) (⟨rfl, hB.mv X0.warmed.alike hh0, f1.al X0.warmed.alike, f2.al X0.warmed.alike, hA.mv X0.warmed.alike hh0, s1.there X0.warmed.alike hh0, hz, l0, by omega, l2, fun i hi => by rw [Nat.zero_add]; exact hp i hi⟩)
  have e0 := Got.mv _ s₁ s _ _ hh0.symm (Vm.Alike.refl _) rfl E3
  obtain rfl := e0.1
  have c4 : Steps p.tables e below (s₁.setTop (entryFrame m #[.ref a, .ref b] 2)) (T3.setTop (mkF m 9 #[.val (.ref a), .val (.ref b)] [])) := g3
  exact ⟨T3, none, _, _, _, X3, by simp, rfl, by omega, (fun _ => rfl), e0, fun fs hl => c4.trans (X3.returnOut hexec hret (hb hbytes d9) hl)⟩
theorem pays {l : Launch} {R : Room} {p : Program} {e : Env} {below : List Frame} {s : State} {sargs : Array Value} {len W : Nat} (a : Addr) (D : Cell) (fV fC : Field) (b : Addr) (A : Cell) (z : Int32) (htab : tab.before sargs s = true) (hfr : 4 ≤ R.frames) (hlo : W + 65 ≤ R.locals) :
    Back l R p e below s sargs yN len W (fun A₁ a₁ => A₁.cells + 1 ≤ R.cells ∧ A₁.slots + A.slots.size ≤ R.slots ∧ P a D fV fC b A z a₁ A₁.U) (fun A₁ _ v₁ B₁ => E a D fV fC A v₁ A₁.U B₁.U ∧ B₁.locs = A₁.locs ++ [⟨a, fC.slot⟩, ⟨a, fV.slot⟩] ∧ B₁.cells = A₁.cells + 1 ∧ B₁.slots = A₁.slots + A.slots.size) :=
  (law l a D fV fC b A z).pays htab hfr (by omega)
end New1
/-- the byte, read back as charAt reads it, is the char -/
theorem lo8_mask {x : Int32} (h0 : ¬ x < 0) (h1 : ¬ 255 < x) : lo8 x &&& 255 = x := by
  have t : ∀ k : Fin 256, lo8 (Int32.ofNat k.val) &&& 255 = Int32.ofNat k.val := by decide +kernel
  rw [Int32.lt_iff_toInt_lt] at h0 h1
  have e0 : (0 : Int32).toInt = 0 := rfl
  have e1 : (255 : Int32).toInt = 255 := rfl
  obtain ⟨k, hk⟩ : ∃ k : Nat, x.toInt = k := ⟨x.toInt.toNat, by omega⟩
  have hx : x = Int32.ofNat k := Int32.toInt_inj.mp (by rw [hk, Int32.toInt_ofNat_small (by omega)])
  rw [hx]
  exact t ⟨k, by omega⟩
end StrChars
namespace StrChars.Road
open Jvm Sem ClassFile Op Lib Jvm.Stand Jvm.Free Jvm.Free.XT
open Jvm.Lib.Cold (StaticIs)
abbrev ST : String := "java/lang/String"
/-- every table word that New1's law asks, flat -/
abbrev words : List Jvm.Cond := [.code New1.yN New1.yB 2 none, .initialized ST, .methodLink ST 27 New4.yN, .instanceMethod New4.yN,
  .code New4.yN New4.yB 6 none, .fieldLink ST 38 ST "COMPACT_STRINGS" "Z", .laysFinal ST ST "value" "[B", .fieldLink ST 9 ST "value" "[B", .laysFinal ST ST "coder" "B", .fieldLink ST 15 ST "coder" "B",
  .methodLink ST 1 Lib.objectInit, .instanceMethod Lib.objectInit, .code Lib.objectInit ⟨#[0xb1]⟩ 1 none, .methodLink ST 177 Cmp3.yN, .static Cmp3.yN, .methodLink ST 47 CodL.yN, .static CodL.yN,
  .code Cmp3.yN Cmp3.yB 6 (some (.array .byte)), .initialized U16, .arrayClass .byte, .methodLink U16 115 Cmp5.yN, .static Cmp5.yN, .code Cmp5.yN Cmp5.yB 7 (some .int), .code CodL.yN CodL.yB 2 (some .byte)]
theorem tab_of {a : Array Value} {s : State} (h : ∀ w ∈ words, w.before a s = true) : New1.tab.before a s = true := by
  have h5 : Cmp5.tab.before a s = true := unparts (wk h (.code Cmp5.yN Cmp5.yB 7 (some .int))) (wks h (.initialized Cmp5.yN.cls :: Cmp5.site))
  have hc : CodL.tab.before a s = true := unparts (wk h (.code CodL.yN CodL.yB 2 (some .byte))) (wks h (.initialized CodL.yN.cls :: CodL.site))
  have q5 : ∀ w ∈ Cmp5.tab :: words, w.before a s = true := fun w hw => (List.mem_cons.mp hw).elim (fun e => e ▸ h5) (h w)
  have h3 : Cmp3.tab.before a s = true := unparts (wk q5 (.code Cmp3.yN Cmp3.yB 6 (some (.array .byte)))) (wks q5 (.initialized Cmp3.yN.cls :: Cmp3.site))
  have q3 : ∀ w ∈ Cmp3.tab :: CodL.tab :: words, w.before a s = true := fun w hw => (List.mem_cons.mp hw).elim (fun e => e ▸ h3) fun hw => (List.mem_cons.mp hw).elim (fun e => e ▸ hc) (h w)
  have h4 : New4.tab.before a s = true := unparts (wk q3 (.code New4.yN New4.yB 6 none)) (wks q3 (.initialized New4.yN.cls :: New4.site))
  have q4 : ∀ w ∈ New4.tab :: words, w.before a s = true := fun w hw => (List.mem_cons.mp hw).elim (fun e => e ▸ h4) (h w)
  exact unparts (wk q4 (.code New1.yN New1.yB 2 none)) (wks q4 (.initialized New1.yN.cls :: New1.site))
/-- the words ride from the start Z to the walk's own state -/
theorem moved {Z s : State} {a0 args : Array Value} (hZ : Z.Warmed39 s.vm) (hw : ∀ d ∈ words, d.before a0 Z = true) : ∀ d ∈ words, d.before args s = true := fun d hd => by
  have q := hw d hd
  have t : ∀ d ∈ words, d = .arrayClass .byte ∨ (d.onTables && d.keepsFace) = true := by decide +kernel
  rcases t d hd with rfl | t
  · exact RoadKit.mvA hZ q
  · exact RoadKit.mv hZ q t
/-- WHAT COMES BACK, over the tables of the start Z: h the heap at the call, h' behind it -/
def Q (Z : State) (x : Addr) (A : Cell) (h : Heap) (v : Option Value) (h' : Heap) (L : List Loc) : Prop := v = none ∧ (∀ y ∈ L, y.base = x) ∧ RoadKit.Keep h h' [x] ∧ h'.size = h.size + 1 ∧ RoadKit.Exa Z h' x ST ∧ RoadKit.Fld Z h' x ST "value" "[B" (.ref h.size) ∧ RoadKit.Fld Z h' x ST "coder" "B" (.int 0) ∧
  (∃ V : Cell, RoadKit.Arr Z h' h.size V .byte ∧ V.vm = .none ∧ Z.vm.findClass "[B" = some V.cls ∧ V.slots.size = A.slots.size ∧ ∀ j, j < A.slots.size → V.slots[j]? = some (.int (lo8 (cv A j)))) ∧
  ∀ (O n d : String) (w : Value), RoadKit.Fld Z h x O n d w → RoadKit.slotOf Z O n d ≠ RoadKit.slotOf Z ST "value" "[B" → RoadKit.slotOf Z O n d ≠ RoadKit.slotOf Z ST "coder" "B" → RoadKit.Fld Z h' x O n d w
/-- **new String(chars) AT A CALL, IN THE ROAD'S FORM**: for specialBack behind newO: x the fresh String, b the char[] with the cell A -/
theorem back {p : Program} {l : Launch} {e : Env} {R : Room} {s : State} {args : Array Value} {below : List Frame} {len W : Nat} {Z : State} {a0 : Array Value} {h : Heap} (hZ : Z.Warmed39 s.vm) (hw : ∀ d ∈ words, d.before a0 Z = true) {kI : Nat} (wi : (Jvm.Cond.instantiable ST kI).before a0 Z = true)
    {x b : Addr} {A : Cell} {z : Int32} {v0 c0 : Value} (E : RoadKit.Exa Z h x ST) (V : RoadKit.Fld Z h x ST "value" "[B" v0) (C : RoadKit.Fld Z h x ST "coder" "B" c0) (K : RoadKit.Arr Z h b A .char) (hty : Typed .char A) (S : RoadKit.Sta Z h ST "COMPACT_STRINGS" "Z" (.int z)) (hz : ¬ z = 0)
    (l0 : 0 < A.slots.size) (l2 : A.slots.size ≤ 536870912) (hp : ∀ i, i < A.slots.size → ¬ 255 < cv A i) (hfr : 4 ≤ R.frames) (hlo : W + 65 ≤ R.locals) :
    Back l R p e below s args New1.yN len W (fun P a => a = #[.ref x, .ref b] ∧ P.U.heap = h ∧ P.cells + 1 ≤ R.cells ∧ P.slots + A.slots.size ≤ R.slots)
      (fun P _ v B => ∃ L, Q Z x A h v B.U.heap L ∧ B.locs = P.locs ++ L ∧ B.cells = P.cells + 1 ∧ B.slots = P.slots + A.slots.size) := by
  intro m meth c P g ig mk a X hg hsize hdg hW hn hp'
  obtain ⟨rfl, rfl, r1, r2⟩ := hp'
  have al : Z.vm.Alike P.U.vm := hZ.alike.trans X.warmed.alike
  obtain ⟨D, cfV, kV, iV, fV, hD, gV, stV, knV, obV, asV, slV⟩ := id V
  obtain ⟨D', cfC, kC, iC, fC, hD', gC, stC, -, -, asC, slC⟩ := id C
  cases hD.symm.trans hD'
  obtain ⟨D2, kD, e1, e2, e3, e4, e5⟩ := id E
  cases hD.symm.trans e1
  obtain ⟨c2, k2, i1, i2, i3, -⟩ := Cond.instantiable_spec wi
  cases e2.symm.trans i1
  cases e3.symm.trans i2
  obtain ⟨kU, u1, u2⟩ := al.2.2 _ _ e3
  have hB : Blank ST x D P.U := ⟨hD, ⟨knV, fun q hq => by rw [hq] at obV; cases obV⟩, by rw [al.findClass]; exact e2, kU, u1, by rw [u2]; exact i3, by rw [u2]; exact e5 i3⟩
  have F1 : Found ST "value" "[B" fV P.U := ⟨SBG.found_only al ⟨cfV, kV, iV, gV⟩, stV⟩
  have F2 : Found ST "coder" "B" fC P.U := ⟨SBG.found_only al ⟨cfC, kC, iC, gC⟩, stC⟩
  have hA : Ch b A P.U := ⟨⟨K.1, State.isArrayOf_alike al K.2.1, K.2.2, by omega⟩, hty⟩
  have hS : StaticIs P.U ST "COMPACT_STRINGS" "Z" (.int z) := by
    obtain ⟨cfS, iS, kS, fS, st, cS, t1, t2, t3, t4, t5, t6, t7⟩ := S
    exact StaticIs.there (s := { Z with heap := P.U.heap }) ⟨cfS, iS, kS, fS, st, cS, t1, t2, t3, t4, t5, (fun q => by rw [q] at t6; cases t6), t7⟩ al rfl
  obtain ⟨v, B, X', ⟨⟨hv, E', V', q1, q2, q3, q4, q5, q6, q7, q8, q9, q10, q11⟩, hl, hc, hs⟩, st⟩ := New1.pays x D fV fC b A z (tab_of (moved hZ hw)) hfr hlo m meth c P g ig mk _ X hg hsize hdg hW hn ⟨r1, r2, rfl, hB, F1, F2, hA, hS, hz, l0, l2, hp⟩
  have al' : Z.vm.Alike B.U.vm := hZ.alike.trans X'.warmed.alike
  have hsz : E'.slots.size = D.slots.size := by
    obtain ⟨-, -, -, kB, w1, w2, w3⟩ := q1
    obtain ⟨kB', y1, y2⟩ := al'.2.2 _ _ e3
    rw [q2.2.1] at w1
    cases w1.symm.trans y1
    rw [w3, e5 i3, y2]
  refine ⟨v, B, X', ⟨_, ⟨hv, ?_, ⟨by omega, fun y cy hy hn' => q10 y cy (by simpa using hn') hy, fun y cy hy => ?_⟩, q11, ⟨E', _, q1.1, by rw [q2.2.1]; exact e2, by rw [q2.2.1]; exact e3, by rw [q2.1]; exact obV, fun _ => by rw [hsz]; exact e5 i3⟩,
    ⟨E', cfV, kV, iV, fV, q1.1, gV, stV, by rw [q2.1]; exact knV, by rw [q2.1]; exact obV, by rw [q2.2.1]; exact asV, q3⟩, ⟨E', cfC, kC, iC, fC, q1.1, gC, stC, by rw [q2.1]; exact knV, by rw [q2.1]; exact obV, by rw [q2.2.1]; exact asC, q4⟩,
    ⟨V', ⟨q5.1, State.isArrayOf_alike al'.symm q5.2.1, q5.2.2.1⟩, q6, by rw [← al'.findClass]; exact q7, q8, fun j hj => by have := q9 j hj; rwa [Nat.zero_add] at this⟩, fun O n d w F n1 n2 => ?_⟩, hl, hc, hs⟩, st⟩
  · intro y hy
    simp only [List.mem_cons, List.not_mem_nil, or_false] at hy
    rcases hy with rfl | rfl <;> rfl
  · by_cases q : y = x
    · subst q
      cases hD.symm.trans hy
      exact ⟨E', q1.1, q2.2.1, q2.1, hsz⟩
    · exact ⟨cy, q10 y cy q hy, rfl, rfl, rfl⟩
  · obtain ⟨D3, cf, k, i, f, g1, g2, g3, g4, g5, g6, g7⟩ := F
    cases hD.symm.trans g1
    simp only [RoadKit.slotOf, g2, gV, gC, Option.map_some, Option.getD_some] at n1 n2
    exact ⟨E', cf, k, i, f, q1.1, g2, g3, by rw [q2.1]; exact g4, by rw [q2.1]; exact g5, by rw [q2.2.1]; exact g6, by rw [q2.2.2 f.slot (by simp [n1, n2])]; exact g7⟩
end StrChars.Road
namespace StrChars.Road
open Jvm Sem ClassFile Op Lib Jvm.Stand Jvm.Free Jvm.Free.XT
/-- WHAT COMES BACK, the byte[] as a list of values -/
def QA (Z : State) (x : Addr) (zn : Int32) (cs : List Int32) (h : Heap) (v : Option Value) (h' : Heap) (L : List Loc) : Prop := v = none ∧ (∀ y ∈ L, y.base = x) ∧ RoadKit.Keep h h' [x] ∧ h'.size = h.size + 1 ∧ RoadKit.Exa Z h' x ST ∧ RoadKit.Fld Z h' x ST "value" "[B" (.ref h.size) ∧ RoadKit.Fld Z h' x ST "coder" "B" (.int 0) ∧
  (∃ kb, Z.vm.findClass "[B" = some kb ∧ RoadKit.Arv Z h' h.size kb .byte zn (cs.map fun c => .int (lo8 c)) (.int 0)) ∧
  ∀ (O n d : String) (w : Value), RoadKit.Fld Z h x O n d w → RoadKit.slotOf Z O n d ≠ RoadKit.slotOf Z ST "value" "[B" → RoadKit.slotOf Z O n d ≠ RoadKit.slotOf Z ST "coder" "B" → RoadKit.Fld Z h' x O n d w
/-- **new String(chars) AT A CALL, THE ARRAYS AS LISTS**: the char[] at b holds cs, not empty, no char above 255 -/
theorem backArv {p : Program} {l : Launch} {e : Env} {R : Room} {s : State} {args : Array Value} {below : List Frame} {len W : Nat} {Z : State} {a0 : Array Value} {h : Heap} (hZ : Z.Warmed39 s.vm) (hw : ∀ d ∈ words, d.before a0 Z = true) {kI : Nat} (wi : (Jvm.Cond.instantiable ST kI).before a0 Z = true)
    {x b : Addr} {k : ClassId} {zn z : Int32} {cs : List Int32} {dv v0 c0 : Value} (E : RoadKit.Exa Z h x ST) (V : RoadKit.Fld Z h x ST "value" "[B" v0) (C : RoadKit.Fld Z h x ST "coder" "B" c0) (K : RoadKit.Arv Z h b k .char zn (cs.map Value.int) dv) (S : RoadKit.Sta Z h ST "COMPACT_STRINGS" "Z" (.int z)) (hz : ¬ z = 0)
    (hlen : zn.toNatClampNeg = cs.length) (h0 : 0 < cs.length) (hbig : cs.length ≤ 536870912) (hall : ∀ c ∈ cs, ¬ 255 < c) (hfr : 4 ≤ R.frames) (hlo : W + 65 ≤ R.locals) :
    Back l R p e below s args New1.yN len W (fun P a => a = #[.ref x, .ref b] ∧ P.U.heap = h ∧ P.cells + 1 ≤ R.cells ∧ P.slots + cs.length ≤ R.slots)
      (fun P _ v B => ∃ L, QA Z x zn cs h v B.U.heap L ∧ B.locs = P.locs ++ L ∧ B.cells = P.cells + 1 ∧ B.slots = P.slots + cs.length) := by
  obtain ⟨A, K1, K2, K3, K4, K5, K6⟩ := K
  have e : A.slots.size = cs.length := K3.trans hlen
  have hat : ∀ (i : Nat) (hi : i < cs.length), A.slots[i]? = some (.int cs[i]) := fun i hi => by rw [K5 i (by omega)]; simp [List.getD_eq_getElem?_getD, hi]
  have hcv : ∀ (i : Nat) (hi : i < cs.length), cv A i = cs[i] := fun i hi => by unfold cv; rw [hat i hi]
  have hty : Typed .char A := fun i v hv => by
    have hi : i < A.slots.size := (Array.getElem?_eq_some_iff.mp hv).1
    have q := K5 i hi
    rw [hv] at q
    rw [Option.some.inj q]
    exact K6 i hi
  refine Back.mono (back hZ hw wi E V C K1 hty S hz (by omega) (by omega) (fun i hi => by rw [hcv i (by omega)]; exact hall _ (List.getElem_mem _)) hfr hlo) (fun P a hp => ⟨hp.1, hp.2.1, hp.2.2.1, by rw [e]; exact hp.2.2.2⟩) (fun P a v B hp hq => ?_)
  obtain ⟨L, ⟨q1, q2, q3, q4, q5, q6, q7, ⟨V', v1, v2, v3, v4, v5⟩, q9⟩, hl, hc, hs⟩ := hq
  refine ⟨L, ⟨q1, q2, q3, q4, q5, q6, q7, ⟨V'.cls, v3, V', v1, rfl, by rw [v4, e, hlen], K4, fun i hi => ?_, fun i hi => ?_⟩, q9⟩, hl, hc, by rw [hs, e]⟩
  · have hi' : i < cs.length := by omega
    rw [v5 i (by omega), hcv i hi']; simp [List.getD_eq_getElem?_getD, hi']
  · have hi' : i < cs.length := by omega
    simp only [List.getD_eq_getElem?_getD, List.getElem?_map, List.getElem?_eq_getElem hi', Option.map_some, Option.getD_some]
    exact fits_lo8 _
end StrChars.Road
namespace StrChars.Road
open Jvm Sem ClassFile Op Lib Jvm.Stand Jvm.Free Jvm.Free.XT
/-- WHAT COMES BACK, in the writer's own shape -/
def QV (Z : State) (x : Addr) (N : Int32) (bs : List Int32) (h : Heap) (n0 : Nat) (v : Option Value) (h' : Heap) (L : List Loc) : Prop := v = none ∧ RoadKit.Fr n0 L ∧ RoadKit.Keep h h' [x] ∧ RoadKit.Exa Z h' x ST ∧ RoadKit.Fld Z h' x ST "coder" "B" (.int 0) ∧
  ∃ (t : Addr) (kb : ClassId), n0 ≤ t ∧ h.size ≤ t ∧ ¬ t = x ∧ RoadKit.Fld Z h' x ST "value" "[B" (.ref t) ∧ RoadKit.Arv Z h' t kb .byte N (bs.map Value.int) (.int 0)
/-- **new String(chars) AT A CALL, FOR THE WRITER**: a char[] of n known ints, each 0 to 255 -/
theorem backV {p : Program} {l : Launch} {e : Env} {R : Room} {s : State} {args : Array Value} {below : List Frame} {len W : Nat} {Z : State} {a0 : Array Value} {h : Heap} (hZ : Z.Warmed39 s.vm) (hw : ∀ d ∈ words, d.before a0 Z = true) {kI : Nat} (wi : (Jvm.Cond.instantiable ST kI).before a0 Z = true)
    {x b : Addr} {kC : ClassId} {cs bs : List Int32} {d v0 c0 : Value} {z N : Int32} {n n0 : Nat} (hx0 : n0 ≤ x) (hh0 : n0 ≤ h.size) (E : RoadKit.Exa Z h x ST) (V : RoadKit.Fld Z h x ST "value" "[B" v0) (C : RoadKit.Fld Z h x ST "coder" "B" c0) (K : RoadKit.Arv Z h b kC .char N (cs.map Value.int) d) (S : RoadKit.Sta Z h ST "COMPACT_STRINGS" "Z" (.int z)) (hz : ¬ z = 0)
    (hn : cs.length = n) (hN : N = Int32.ofNat n) (l0 : 0 < n) (l2 : n ≤ 4000) (hp : ∀ c ∈ cs, ¬ c < 0 ∧ ¬ (255 : Int32) < c) (hb : bs = cs.map (fun c => c.toInt8.toInt32)) (hfr : 4 ≤ R.frames) (hlo : W + 65 ≤ R.locals) :
    Back l R p e below s args (⟨"java/lang/String", "<init>", "([C)V"⟩ : MethodName) len W (fun P a => a = #[.ref x, .ref b] ∧ P.U.heap = h ∧ P.cells + 1 ≤ R.cells ∧ P.slots + n ≤ R.slots)
      (fun P _ v B => ∃ L, QV Z x N bs h n0 v B.U.heap L ∧ B.locs = P.locs ++ L ∧ B.cells = P.cells + 1 ∧ B.slots = P.slots + n) := by
  subst hn hN hb
  refine Back.mono (backArv hZ hw wi E V C K S hz (n32 (by omega)) l0 (by omega) (fun c hc => (hp c hc).2) hfr hlo) (fun P a hp => hp) (fun P a v B hp hq => ?_)
  obtain ⟨L, ⟨q1, q2, q3, q4, q5, q6, q7, ⟨kb, v1, v2⟩, q9⟩, hl, hc, hs⟩ := hq
  exact ⟨L, ⟨q1, fun y hy => by rw [q2 y hy]; exact hx0, q3, q5, q7, h.size, kb, hh0, Nat.le_refl _, Nat.ne_of_gt E.lt, q6, by rw [List.map_map]; exact v2⟩, hl, hc, hs⟩
end StrChars.Road
namespace StrChars
open Jvm Sem ClassFile Op Lib Jvm.Stand Jvm.Free.XT Jvm.Free.ALB Jvm.Free.JM Jvm.Free
open Jvm.Lib.Cold (StaticIs)
def hi8 (x : Int32) : Int32 := lo8 (x >>> ((8 : Int32) &&& 31))
/-- what StringUTF16.getChar makes of two bytes -/
def pairCh (u v : Int32) : Int32 := (((u &&& 255) <<< ((0 : Int32) &&& 31)) ||| ((v &&& 255) <<< ((8 : Int32) &&& 31))).toUInt32.toUInt16.toUInt32.toInt32
theorem shr0 (c : Int32) : c >>> ((0 : Int32) &&& 31) = c := by
  have e : ((0 : Int32) &&& 31) = 0 := by decide
  rw [e]
  apply Int32.toBitVec_inj.mp
  rw [Int32.toBitVec_shiftRight]
  have e1 : ((0 : Int32).toBitVec.smod 32) = 0#32 := by decide
  rw [e1, BitVec.sshiftRight_eq']
  exact BitVec.sshiftRight_zero
theorem lo8_and (x : Int32) : (lo8 x &&& 255).toBitVec.toNat = x.toBitVec.toNat % 256 := by
  have h : (lo8 x).toBitVec = (x.toBitVec.signExtend 8).signExtend 32 := by rw [lo8, Int8.toBitVec_toInt32, Int32.toBitVec_toInt8]
  rw [Int32.toBitVec_and, BitVec.toNat_and, h]
  have e : ((x.toBitVec.signExtend 8).signExtend 32).toNat % 256 = x.toBitVec.toNat % 256 := by
    rw [BitVec.toNat_signExtend]
    have hlt := x.toBitVec.isLt
    simp only [BitVec.toNat_setWidth, BitVec.toNat_signExtend]
    split <;> split <;> omega
  rw [← e]
  exact Nat.and_two_pow_sub_one_eq_mod _ 8
theorem pair_says {c : Int32} (h0 : ¬ c < 0) (h1 : ¬ 65535 < c) : pairCh (lo8 c) (hi8 c) = c := by
  rw [Int32.lt_iff_toInt_lt] at h0 h1
  have e0 : (0 : Int32).toInt = 0 := rfl
  have e1 : (65535 : Int32).toInt = 65535 := rfl
  have hc : c.toInt = c.toBitVec.toNat := by
    have := c.toBitVec.isLt
    have e : c.toInt = c.toBitVec.toInt := rfl
    rw [e] at h0 h1
    rw [e]
    rw [BitVec.toInt_eq_toNat_cond] at h0 h1 ⊢
    split at h0 <;> split <;> omega
  have hn : c.toBitVec.toNat < 65536 := by omega
  have a1 := lo8_and c
  have a2 : (hi8 c &&& 255).toBitVec.toNat = c.toBitVec.toNat / 256 := by
    rw [hi8, lo8_and]
    have e : ((8 : Int32) &&& 31) = 8 := by decide
    rw [e, Int32.toBitVec_shiftRight]
    have e2 : ((8 : Int32).toBitVec.smod 32) = 8#32 := by decide
    rw [e2, BitVec.sshiftRight_eq', BitVec.toNat_sshiftRight_of_msb_false (by rw [BitVec.msb_eq_false_iff_two_mul_lt]; omega)]
    show c.toBitVec.toNat >>> 8 % 256 = _
    rw [Nat.shiftRight_eq_div_pow]
    omega
  unfold pairCh
  apply Int32.toBitVec_inj.mp
  apply BitVec.eq_of_toNat_eq
  have f0 : ((0 : Int32) &&& 31) = 0 := by decide
  have f8 : ((8 : Int32) &&& 31) = 8 := by decide
  rw [f0, f8]
  have g : (((lo8 c &&& 255) <<< (0 : Int32)) ||| ((hi8 c &&& 255) <<< (8 : Int32))).toBitVec.toNat = c.toBitVec.toNat := by
    rw [Int32.toBitVec_or, Int32.toBitVec_shiftLeft, Int32.toBitVec_shiftLeft]
    have s0 : ((0 : Int32).toBitVec.smod 32) = 0#32 := by decide
    have s8 : ((8 : Int32).toBitVec.smod 32) = 8#32 := by decide
    rw [s0, s8, BitVec.toNat_or]
    simp only [BitVec.shiftLeft_eq', BitVec.toNat_shiftLeft, a1, a2]
    show (c.toBitVec.toNat % 256) <<< 0 % 2 ^ 32 ||| (c.toBitVec.toNat / 256) <<< 8 % 2 ^ 32 = _
    rw [Nat.shiftLeft_zero, Nat.mod_eq_of_lt (show c.toBitVec.toNat % 256 < 2 ^ 32 by omega), Nat.mod_eq_of_lt (show (c.toBitVec.toNat / 256) <<< 8 < 2 ^ 32 by rw [Nat.shiftLeft_eq]; omega), Nat.or_comm, ← Nat.shiftLeft_add_eq_or_of_lt (by omega), Nat.shiftLeft_eq]
    omega
  show BitVec.toNat (((((lo8 c &&& 255) <<< (0 : Int32)) ||| ((hi8 c &&& 255) <<< (8 : Int32))).toBitVec.setWidth 16).setWidth 32) = _
  rw [BitVec.toNat_setWidth, BitVec.toNat_setWidth, g]
  omega
end StrChars
namespace StrChars
open Jvm Sem ClassFile Op Lib Jvm.Stand Jvm.Free.XT Jvm.Free.ALB Jvm.Free.JM Jvm.Free
open Jvm.Lib.Cold (StaticIs)
theorem shr1 {n : Nat} (h : 2 * n < 2 ^ 31) : Int32.ofNat (2 * n) >>> ((1 : Int32) &&& 31) = Int32.ofNat n := by
  have e : ((1 : Int32) &&& 31) = 1 := by decide
  rw [e]
  apply Int32.toBitVec_inj.mp
  rw [Int32.toBitVec_shiftRight]
  have e1 : ((1 : Int32).toBitVec.smod 32) = 1#32 := by decide
  have hm : (BitVec.ofNat 32 (2 * n)).toNat = 2 * n := by rw [BitVec.toNat_ofNat, Nat.mod_eq_of_lt (by omega)]
  rw [e1, BitVec.sshiftRight_eq']
  apply BitVec.eq_of_toNat_eq
  show ((BitVec.ofNat 32 (2 * n)).sshiftRight 1).toNat = (BitVec.ofNat 32 n).toNat
  rw [BitVec.toNat_sshiftRight_of_msb_false (by rw [BitVec.msb_eq_false_iff_two_mul_lt, hm]; omega), hm, BitVec.toNat_ofNat, Nat.shiftRight_eq_div_pow]
  omega
theorem narrow_ch {c : Int32} (h0 : ¬ c < 0) (h1 : ¬ 65535 < c) : narrow .char (.int c) = .int c := by
  have q : narrow .char (.int (pairCh (lo8 c) (hi8 c))) = .int (pairCh (lo8 c) (hi8 c)) := narrow_c _
  rwa [pair_says h0 h1] at q
/-- the array's cell V codes the n chars f 0 .. f (n - 1) by the coder cd, as the JDK does: coder 1 just where some char is above 255 -/
def Cod (cd : Int32) (n : Nat) (f : Nat → Int32) (V : Cell) : Prop := (cd = 0 ∧ V.slots.size = n ∧ ∀ j, j < n → V.slots[j]? = some (.int (lo8 (f j))) ∧ ¬ 255 < f j) ∨ (cd = 1 ∧ V.slots.size = 2 * n ∧ (∀ j, j < n → V.slots[2 * j]? = some (.int (lo8 (f j))) ∧ V.slots[2 * j + 1]? = some (.int (hi8 (f j)))) ∧ ∃ j, j < n ∧ 255 < f j)
theorem Cod.cd {cd : Int32} {n : Nat} {f : Nat → Int32} {V : Cell} (h : Cod cd n f V) : cd = 0 ∨ cd = 1 := h.imp (fun q => q.1) fun q => q.1
theorem Cod.len {cd : Int32} {n : Nat} {f : Nat → Int32} {V : Cell} (h : Cod cd n f V) (hs : V.slots.size < 2 ^ 31) : Int32.ofNat V.slots.size >>> (cd &&& 31) = Int32.ofNat n := by
  rcases h with ⟨rfl, h, -⟩ | ⟨rfl, h, -⟩
  · rw [shr0, h]
  · rw [h, shr1 (by omega)]
/-- **x is a String of the n chars f 0 .. f (n - 1)**, Latin-1 or UTF-16; its array at t has the cell V -/
def Txt (x t : Addr) (V : Cell) (cd : Int32) (n : Nat) (f : Nat → Int32) (U : State) : Prop := Exact "java/lang/String" x U ∧ Has x "java/lang/String" "value" "[B" (.ref t) U ∧ Has x "java/lang/String" "coder" "B" (.int cd) U ∧ XT.Arr .byte t V U ∧ Cod cd n f V ∧ ∀ j, j < n → ¬ f j < 0 ∧ ¬ 65535 < f j
theorem Txt.mv {x t : Addr} {V : Cell} {cd : Int32} {n : Nat} {f : Nat → Int32} {U U' : State} (h : Txt x t V cd n f U) (hal : U.vm.Alike U'.vm) (hh : U'.heap = U.heap) : Txt x t V cd n f U' := ⟨h.1.mv hal hh, h.2.1.mv hal hh, h.2.2.1.mv hal hh, h.2.2.2.1.mv hal hh, h.2.2.2.2⟩
namespace Cdr
def yN : MethodName := ⟨"java/lang/String", "coder", "()B"⟩
abbrev yB : ByteArray := jdk_42_method_152_code
theorem d0 : decode yB 0 = .ok (.getstatic 38, 3) := by decide +kernel
theorem d3 : decode yB 3 = .ok (.ifCond (.eq) 10, 3) := by decide +kernel
theorem d6 : decode yB 6 = .ok (.aload_n 0, 1) := by decide +kernel
theorem d7 : decode yB 7 = .ok (.getfield 15, 3) := by decide +kernel
theorem d10 : decode yB 10 = .ok (.goto 4, 3) := by decide +kernel
theorem d14 : decode yB 14 = .ok (.ireturn, 1) := by decide +kernel
def site : List Cond := [.fieldLink "java/lang/String" 38 "java/lang/String" "COMPACT_STRINGS" "Z", .fieldLink "java/lang/String" 15 "java/lang/String" "coder" "B"]
def tab : Cond := tabOf yN yB 1 (some .byte) site
def P (x : Addr) (cd z : Int32) (args : Array Value) (s : State) : Prop := args = #[.ref x] ∧ Has x "java/lang/String" "coder" "B" (.int cd) s ∧ (cd = 0 ∨ cd = 1) ∧ StaticIs s "java/lang/String" "COMPACT_STRINGS" "Z" (.int z) ∧ ¬ z = 0
def E (cd : Int32) (r : Option Value) (s u : State) : Prop := XT.PureE (some (.int cd)) r s u
theorem law (l : Launch) (x : Addr) (cd z : Int32) : Law l yN 1 0 0 0 yB 1 (some .byte) site (P x cd z) (E cd) [] 0 0 := by
  refine Law.of_walk (plainFor_of_name (by decide +kernel)) (by decide +kernel) (by decide +kernel) (by decide) (fun _ _ h => by rw [h.1]; rfl) (fun _ U U' hal hh h => ⟨h.1, h.2.1.mv hal hh, h.2.2.1, h.2.2.2.1.there hal hh, h.2.2.2.2⟩) (fun r U U' V V' h1 hal h2 h => XT.PureE.mv r U U' V V' h1 hal h2 h) ?_
  intro p e s m args below meth c s₁ X0 hexec hbytes hml hret hlk hnm hown hh0 W hP
  obtain ⟨rfl, hx, hc, s1, hz⟩ := hP
  have c1 : Steps p.tables e below (s₁.setTop (entryFrame m #[.ref x] 1)) (s₁.setTop (mkF m 0 #[.val (.ref x)] [])) := entry rfl
  obtain ⟨T2, X2, q2, st2⟩ := X0.sget hexec hown (wk W (.fieldLink "java/lang/String" 38 "java/lang/String" "COMPACT_STRINGS" "Z")) s1 (fun _ _ h => by rw [hh0]; exact h) (g := (mkF m 0 #[.val (.ref x)] [])) rfl (hb hbytes d0)
  have hh2 := q2.trans hh0
  have c3 : Steps p.tables e below (s₁.setTop (entryFrame m #[.ref x] 1)) (T2.setTop (mkF m 7 #[.val (.ref x)] [.ref x])) := (c1.trans (st2 _ (Steps.refl _))).trans (by
    refine XS.ifNo X2.here hexec rfl (hb hbytes d3) rfl (i0_eq_f hz) ?_
    refine XS.aloadN X2.here hexec rfl (hb hbytes d6) rfl rfl ?_
    exact Steps.refl _)
  obtain ⟨T4, X4, q4, st4⟩ := X2.hget hexec hown (wk W (.fieldLink "java/lang/String" 15 "java/lang/String" "coder" "B")) (hx.mv X2.warmed.alike hh2) (g := (mkF m 7 #[.val (.ref x)] [.ref x])) rfl (rest := []) rfl (hb hbytes d7)
  have c5 : Steps p.tables e below (s₁.setTop (entryFrame m #[.ref x] 1)) (T4.setTop (mkF m 14 #[.val (.ref x)] [.int cd])) := (c3.trans (st4 _ (Steps.refl _))).trans (by
    refine XS.goto X4.here hexec rfl (pc0 := 10) rfl (hb hbytes d10) (by decide) rfl ?_
    exact Steps.refl _)
  exact ⟨T4, some (.int cd), _, _, _, X4, rfl, rfl, rfl, (fun h => by cases h), ⟨rfl, q4.trans hh2⟩, fun fs hl => c5.trans (X4.ireturnOut hexec hret (by rcases hc with rfl | rfl <;> rfl) (Or.inr (Or.inr (Or.inl rfl))) (hb hbytes d14) hl)⟩
end Cdr
namespace Len
def yN : MethodName := ⟨"java/lang/String", "length", "()I"⟩
abbrev yB : ByteArray := jdk_42_method_54_code
theorem d0 : decode yB 0 = .ok (.aload_n 0, 1) := by decide +kernel
theorem d1 : decode yB 1 = .ok (.getfield 9, 3) := by decide +kernel
theorem d4 : decode yB 4 = .ok (.arraylength, 1) := by decide +kernel
theorem d5 : decode yB 5 = .ok (.aload_n 0, 1) := by decide +kernel
theorem d6 : decode yB 6 = .ok (.invokevirtual 335, 3) := by decide +kernel
theorem d9 : decode yB 9 = .ok (.ishr, 1) := by decide +kernel
theorem d10 : decode yB 10 = .ok (.ireturn, 1) := by decide +kernel
def site : List Cond := [.fieldLink "java/lang/String" 9 "java/lang/String" "value" "[B", Cdr.tab] ++ virtW "java/lang/String" 335 "java/lang/String" Cdr.yN Cdr.yN
def tab : Cond := tabOf yN yB 1 (some .int) site
def P (x t : Addr) (V : Cell) (cd : Int32) (n : Nat) (f : Nat → Int32) (z : Int32) (args : Array Value) (s : State) : Prop := args = #[.ref x] ∧ Txt x t V cd n f s ∧ StaticIs s "java/lang/String" "COMPACT_STRINGS" "Z" (.int z) ∧ ¬ z = 0
def E (n : Nat) (r : Option Value) (s u : State) : Prop := XT.PureE (some (.int (Int32.ofNat n))) r s u
/-- length() of a String of n chars, in either coding -/
theorem law (l : Launch) (x t : Addr) (V : Cell) (cd : Int32) (n : Nat) (f : Nat → Int32) (z : Int32) : Law l yN 1 0 1 13 yB 1 (some .int) site (P x t V cd n f z) (E n) [] 0 0 := by
  refine Law.of_walk (plainFor_of_name (by decide +kernel)) (by decide +kernel) (by decide +kernel) (by decide) (fun _ _ h => by rw [h.1]; rfl) (fun _ U U' hal hh h => ⟨h.1, h.2.1.mv hal hh, h.2.2.1.there hal hh, h.2.2.2⟩) (fun r U U' V V' h1 hal h2 h => XT.PureE.mv r U U' V V' h1 hal h2 h) ?_
  intro p e s m args below meth c s₁ X0 hexec hbytes hml hret hlk hnm hown hh0 W hP
  obtain ⟨rfl, hx, s1, hz⟩ := hP
  have v31 := hx.2.2.2.1.2.2.2
  have c1 : Steps p.tables e below (s₁.setTop (entryFrame m #[.ref x] 1)) (s₁.setTop (mkF m 1 #[.val (.ref x)] [.ref x])) := Steps.trans (entry rfl) (by
    show Steps p.tables e below (s₁.setTop (mkF m 0 #[.val (.ref x)] [])) _
    refine XS.aloadN X0.here hexec rfl (hb hbytes d0) rfl rfl ?_
    exact Steps.refl _)
  obtain ⟨T2, X2, q2, st2⟩ := X0.hget hexec hown (wk W (.fieldLink "java/lang/String" 9 "java/lang/String" "value" "[B")) (hx.mv X0.warmed.alike hh0).2.1 (g := (mkF m 1 #[.val (.ref x)] [.ref x])) rfl (rest := []) rfl (hb hbytes d1)
  have hh2 := q2.trans hh0
  have hx2 := hx.mv X2.warmed.alike hh2
  have c3 : Steps p.tables e below (s₁.setTop (entryFrame m #[.ref x] 1)) (T2.setTop (mkF m 6 #[.val (.ref x)] [.ref x, .int (Int32.ofNat V.slots.size)])) := (c1.trans (st2 _ (Steps.refl _))).trans (by
    refine X2.alen hexec hx2.2.2.2.1 rfl rfl (hb hbytes d4) ?_
    refine XS.aloadN X2.here hexec rfl (hb hbytes d5) rfl rfl ?_
    exact Steps.refl _)
  obtain ⟨v4, T4, X4, E4, g4⟩ := X2.callV hexec (Cdr.law l x cd z) hown (wks W (virtW "java/lang/String" 335 "java/lang/String" Cdr.yN Cdr.yN)) rfl (by decide) (wk W Cdr.tab) (W := 1) (Nat.le_of_ble_eq_true rfl) (Nat.le_of_ble_eq_true rfl) (Nat.le_refl _) (Nat.le_refl _) (hx2.1.fc X2.warmed.alike) hx2.1.is (g := (mkF m 6 #[.val (.ref x)] [.ref x, .int (Int32.ofNat V.slots.size)])) rfl (by rw [hml]; rfl) c3 (argsL := []) (rest := [.int (Int32.ofNat V.slots.size)]) rfl rfl (by show 2 * 0 + (1 + 0) ≤ _; decide) (hb hbytes d6) (⟨rfl, hx2.2.2.1, hx.2.2.2.2.1.cd, s1.there X2.warmed.alike hh2, hz⟩)
  obtain ⟨rfl, q4⟩ := E4
  have c5 : Steps p.tables e below (s₁.setTop (entryFrame m #[.ref x] 1)) (T4.setTop (mkF m 10 #[.val (.ref x)] [.int (Int32.ofNat V.slots.size >>> (cd &&& 31))])) := Steps.trans g4 (by
    refine ishr X4.here hexec rfl (hb hbytes d9) rfl ?_
    exact Steps.refl _)
  rw [hx.2.2.2.2.1.len v31] at c5
  exact ⟨T4, some (.int (Int32.ofNat n)), _, _, _, X4, rfl, rfl, rfl, (fun h => by cases h), ⟨rfl, q4.trans hh2⟩, fun fs hl => c5.trans (X4.ireturnOut hexec hret rfl (Or.inl rfl) (hb hbytes d10) hl)⟩
theorem pays {l : Launch} {R : Room} {p : Program} {e : Env} {below : List Frame} {s : State} {sargs : Array Value} {len W : Nat} (x t : Addr) (V : Cell) (cd : Int32) (n : Nat) (f : Nat → Int32) (z : Int32) (htab : tab.before sargs s = true) (hfr : 2 ≤ R.frames) (hlo : W + 25 ≤ R.locals) :
    Back l R p e below s sargs yN len W (fun A₁ a₁ => A₁.cells + 0 ≤ R.cells ∧ A₁.slots + 0 ≤ R.slots ∧ P x t V cd n f z a₁ A₁.U) (fun A₁ _ v₁ B₁ => E n v₁ A₁.U B₁.U ∧ B₁.locs = A₁.locs ++ [] ∧ B₁.cells = A₁.cells + 0 ∧ B₁.slots = A₁.slots + 0) :=
  (law l x t V cd n f z).pays htab hfr (by omega)
end Len
end StrChars
namespace StrChars.Road
open Jvm Sem ClassFile Op Lib Jvm.Stand Jvm.Free Jvm.Free.XT
open Jvm.Lib.Cold (StaticIs)
theorem consq {a : Array Value} {s : State} {c : Jvm.Cond} {L : List Jvm.Cond} (h0 : c.before a s = true) (h : ∀ w ∈ L, w.before a s = true) : ∀ w ∈ c :: L, w.before a s = true := fun w hw => (List.mem_cons.mp hw).elim (fun e => e ▸ h0) (h w)
/-- the words of String.length(), either coding -/
abbrev wordsLen : List Jvm.Cond := [.code Len.yN Len.yB 1 (some .int), .initialized ST, .fieldLink ST 9 ST "value" "[B", .fieldLink ST 38 ST "COMPACT_STRINGS" "Z", .fieldLink ST 15 ST "coder" "B", .code Cdr.yN Cdr.yB 1 (some .byte), .methodLink ST 335 Cdr.yN, .declares Cdr.yN, .selects ST Cdr.yN Cdr.yN, .instanceMethod Cdr.yN]
theorem tabLen_of {a : Array Value} {s : State} (h : ∀ w ∈ wordsLen, w.before a s = true) : Len.tab.before a s = true := by
  have hc : Cdr.tab.before a s = true := unparts (wk h (.code Cdr.yN Cdr.yB 1 (some .byte))) (wks h (.initialized Cdr.yN.cls :: Cdr.site))
  have q := consq hc h
  exact unparts (wk q (.code Len.yN Len.yB 1 (some .int))) (wks q (.initialized Len.yN.cls :: Len.site))
theorem movedLen {Z s : State} {a0 args : Array Value} (hZ : Z.Warmed39 s.vm) (hw : ∀ d ∈ wordsLen, d.before a0 Z = true) : ∀ d ∈ wordsLen, d.before args s = true := fun d hd => by
  have q := hw d hd
  have t : ∀ d ∈ wordsLen, d = .arrayClass .byte ∨ (d.onTables && d.keepsFace) = true := by decide +kernel
  rcases t d hd with rfl | t
  · exact RoadKit.mvA hZ q
  · exact RoadKit.mv hZ q t
/-- the bytes of the chars cs, low before high -/
def wideBytes : List Int32 → List Value
  | [] => []
  | c :: cs => .int (lo8 c) :: .int (hi8 c) :: wideBytes cs
theorem wide_lo (d : Value) : ∀ (cs : List Int32) (j : Nat), j < cs.length → (wideBytes cs).getD (2 * j) d = .int (lo8 (cs.getD j 0))
  | [], j, h => absurd h (Nat.not_lt_zero j)
  | c :: cs, 0, _ => rfl
  | c :: cs, j + 1, h => by
    have q := wide_lo d cs j (by simpa using h)
    rw [show 2 * (j + 1) = 2 * j + 1 + 1 from by omega]
    simpa [wideBytes] using q
theorem wide_hi (d : Value) : ∀ (cs : List Int32) (j : Nat), j < cs.length → (wideBytes cs).getD (2 * j + 1) d = .int (hi8 (cs.getD j 0))
  | [], j, h => absurd h (Nat.not_lt_zero j)
  | c :: cs, 0, _ => rfl
  | c :: cs, j + 1, h => by
    have q := wide_hi d cs j (by simpa using h)
    rw [show 2 * (j + 1) + 1 = 2 * j + 1 + 1 + 1 from by omega]
    simpa [wideBytes] using q
theorem low_at (d : Value) (cs : List Int32) (j : Nat) (h : j < cs.length) : (cs.map fun c => Value.int (lo8 c)).getD j d = .int (lo8 (cs.getD j 0)) := by
  simp [List.getD_eq_getElem?_getD, h]
/-- an array of N2 bytes vs codes the chars cs by the coder cd -/
def CodA (cs : List Int32) (cd N2 : Int32) (vs : List Value) : Prop := (cd = 0 ∧ N2 = Int32.ofNat cs.length ∧ vs = (cs.map fun c => Value.int (lo8 c)) ∧ ∀ c ∈ cs, ¬ 255 < c) ∨ (cd = 1 ∧ N2 = Int32.ofNat (2 * cs.length) ∧ vs = wideBytes cs ∧ ∃ c ∈ cs, 255 < c)
theorem CodA.cod {cs : List Int32} {cd N2 : Int32} {vs : List Value} {V : Cell} (h : CodA cs cd N2 vs) (hn : 2 * cs.length < 2 ^ 31) (hs : V.slots.size = N2.toNatClampNeg) (hv : RoadKit.Has V vs (.int 0)) : Cod cd cs.length (fun j => cs.getD j 0) V := by
  rcases h with ⟨rfl, rfl, rfl, h⟩ | ⟨rfl, rfl, rfl, c, hc, hw⟩
  · rw [n32 (by omega)] at hs
    exact Or.inl ⟨rfl, hs, fun j hj => ⟨by rw [hv j (by omega), low_at _ _ _ hj], by
      have e : cs.getD j 0 = cs[j] := by simp [List.getD_eq_getElem?_getD, hj]
      show ¬ 255 < cs.getD j 0
      rw [e]; exact h _ (List.getElem_mem _)⟩⟩
  · rw [n32 (by omega)] at hs
    obtain ⟨j, hj, rfl⟩ := List.getElem_of_mem hc
    exact Or.inr ⟨rfl, hs, fun j hj => ⟨by rw [hv _ (by omega), wide_lo _ _ _ hj], by rw [hv _ (by omega), wide_hi _ _ _ hj]⟩, j, hj, by
      have e : cs.getD j 0 = cs[j] := by simp [List.getD_eq_getElem?_getD, hj]
      show 255 < cs.getD j 0
      rw [e]; exact hw⟩
/-- an object of exactly java/lang/String, its two fields found: as the laws ask it -/
theorem strObj {Z U : State} {a0 : Array Value} {kI : Nat} (wi : (Jvm.Cond.instantiable ST kI).before a0 Z = true) (al : Z.vm.Alike U.vm) {x : Addr} {v0 c0 : Value} (E : RoadKit.Exa Z U.heap x ST) (V : RoadKit.Fld Z U.heap x ST "value" "[B" v0) (C : RoadKit.Fld Z U.heap x ST "coder" "B" c0) :
    ∃ (D : Cell) (fV fC : Field), Blank ST x D U ∧ Found ST "value" "[B" fV U ∧ Found ST "coder" "B" fC U ∧ D.slots[fV.slot]? = some v0 ∧ D.slots[fC.slot]? = some c0 ∧ RoadKit.slotOf Z ST "value" "[B" = fV.slot ∧ RoadKit.slotOf Z ST "coder" "B" = fC.slot := by
  obtain ⟨D, cfV, kV, iV, fV, hD, gV, stV, knV, obV, asV, slV⟩ := V
  obtain ⟨D', cfC, kC, iC, fC, hD', gC, stC, -, -, asC, slC⟩ := C
  cases hD.symm.trans hD'
  obtain ⟨D2, kD, e1, e2, e3, e4, e5⟩ := E
  cases hD.symm.trans e1
  obtain ⟨c2, k2, i1, i2, i3, -⟩ := Cond.instantiable_spec wi
  cases e2.symm.trans i1
  cases e3.symm.trans i2
  obtain ⟨kU, u1, u2⟩ := al.2.2 _ _ e3
  exact ⟨D, fV, fC, ⟨hD, ⟨knV, fun q hq => by rw [hq] at obV; cases obV⟩, by rw [al.findClass]; exact e2, kU, u1, by rw [u2]; exact i3, by rw [u2]; exact e5 i3⟩, ⟨SBG.found_only al ⟨cfV, kV, iV, gV⟩, stV⟩, ⟨SBG.found_only al ⟨cfC, kC, iC, gC⟩, stC⟩, slV, slC, by simp [RoadKit.slotOf, gV], by simp [RoadKit.slotOf, gC]⟩
theorem sta_is {Z U : State} (al : Z.vm.Alike U.vm) {C n d : String} {v : Value} (S : RoadKit.Sta Z U.heap C n d v) : StaticIs U C n d v := by
  obtain ⟨cfS, iS, kS, fS, st, cS, t1, t2, t3, t4, t5, t6, t7⟩ := S
  exact StaticIs.there (s := { Z with heap := U.heap }) ⟨cfS, iS, kS, fS, st, cS, t1, t2, t3, t4, t5, (fun q => by rw [q] at t6; cases t6), t7⟩ al rfl
/-- **length() OF SUCH A STRING** -/
theorem lenW {p : Program} {l : Launch} {e : Env} {R : Room} {s : State} {args : Array Value} {below : List Frame} {len W : Nat} {Z : State} {a0 : Array Value} {h : Heap} (hZ : Z.Warmed39 s.vm) (hw : ∀ d ∈ wordsLen, d.before a0 Z = true) {kI : Nat} (wi : (Jvm.Cond.instantiable ST kI).before a0 Z = true)
    {x t : Addr} {kb : ClassId} {cs : List Int32} {cd N2 z : Int32} {vs : List Value} (E : RoadKit.Exa Z h x ST) (V : RoadKit.Fld Z h x ST "value" "[B" (.ref t)) (C : RoadKit.Fld Z h x ST "coder" "B" (.int cd)) (K : RoadKit.Arv Z h t kb .byte N2 vs (.int 0)) (hc : CodA cs cd N2 vs) (hb : ∀ c ∈ cs, ¬ c < 0 ∧ ¬ (65535 : Int32) < c)
    (S : RoadKit.Sta Z h ST "COMPACT_STRINGS" "Z" (.int z)) (hz : ¬ z = 0) (l2 : cs.length ≤ 4000) (hfr : 2 ≤ R.frames) (hlo : W + 25 ≤ R.locals) :
    Back l R p e below s args (⟨"java/lang/String", "length", "()I"⟩ : MethodName) len W (fun P a => a = #[.ref x] ∧ P.U.heap = h ∧ P.cells + 0 ≤ R.cells ∧ P.slots + 0 ≤ R.slots)
      (fun P _ v B => ∃ L, (v = some (.int (Int32.ofNat cs.length)) ∧ L = [] ∧ B.U.heap = h) ∧ B.locs = P.locs ++ L ∧ B.cells = P.cells + 0 ∧ B.slots = P.slots + 0) := by
  obtain ⟨A, K1, K2, K3, K4, K5, K6⟩ := K
  have hcod := hc.cod (by omega) K3 K5
  intro m meth c P g ig mk a X hg hsize hdg hW hn hp'
  obtain ⟨rfl, rfl, r1, r2⟩ := hp'
  have al : Z.vm.Alike P.U.vm := hZ.alike.trans X.warmed.alike
  obtain ⟨D, fV, fC, hB, F1, F2, g1, g2, -, -⟩ := strObj wi al E V C
  have hx : Txt x t A cd cs.length (fun j => cs.getD j 0) P.U := ⟨⟨_, hB.2.2.1, D, hB.1, rfl, by cases q : D.vm <;> first | rfl | exact absurd q (hB.2.1.2 _)⟩, Has.of hB F1 g1, Has.of hB F2 g2, ⟨K1.1, State.isArrayOf_alike al K1.2.1, K1.2.2, by rcases hcod with ⟨-, q, -⟩ | ⟨-, q, -⟩ <;> omega⟩, hcod, fun j hj => by
    have e : cs.getD j 0 = cs[j] := by simp [List.getD_eq_getElem?_getD, hj]
    show ¬ cs.getD j 0 < 0 ∧ ¬ 65535 < cs.getD j 0
    rw [e]; exact hb _ (List.getElem_mem _)⟩
  obtain ⟨v, B, X', ⟨⟨hv, hh⟩, hl, hk, hs⟩, st⟩ := Len.pays x t A cd cs.length (fun j => cs.getD j 0) z (tabLen_of (movedLen hZ hw)) hfr hlo m meth c P g ig mk _ X hg hsize hdg hW hn ⟨r1, r2, rfl, hx, sta_is al S, hz⟩
  exact ⟨v, B, X', ⟨[], ⟨hv, rfl, hh⟩, hl, hk, hs⟩, st⟩
end StrChars.Road
namespace StrChars
open Jvm Sem ClassFile Op Lib Jvm.Stand Jvm.Free.XT Jvm.Free.ALB Jvm.Free.JM Jvm.Free
open Jvm.Lib.Cold (StaticIs)
namespace Emp
def yN : MethodName := ⟨"java/lang/String", "isEmpty", "()Z"⟩
abbrev yB : ByteArray := jdk_42_method_55_code
theorem d0 : decode yB 0 = .ok (.aload_n 0, 1) := by decide +kernel
theorem d1 : decode yB 1 = .ok (.getfield 9, 3) := by decide +kernel
theorem d4 : decode yB 4 = .ok (.arraylength, 1) := by decide +kernel
theorem d5 : decode yB 5 = .ok (.ifCond (.ne) 7, 3) := by decide +kernel
theorem d8 : decode yB 8 = .ok (.iconst 1, 1) := by decide +kernel
theorem d9 : decode yB 9 = .ok (.goto 4, 3) := by decide +kernel
theorem d12 : decode yB 12 = .ok (.iconst 0, 1) := by decide +kernel
theorem d13 : decode yB 13 = .ok (.ireturn, 1) := by decide +kernel
def site : List Cond := [.fieldLink "java/lang/String" 9 "java/lang/String" "value" "[B"]
def tab : Cond := tabOf yN yB 1 (some .boolean) site
def P (x t : Addr) (V : Cell) (cd : Int32) (n : Nat) (f : Nat → Int32) (args : Array Value) (s : State) : Prop := args = #[.ref x] ∧ Txt x t V cd n f s
def E (n : Nat) (r : Option Value) (s u : State) : Prop := XT.PureE (some (.int (if n = 0 then 1 else 0))) r s u
/-- isEmpty() of a String of n chars -/
theorem law (l : Launch) (x t : Addr) (V : Cell) (cd : Int32) (n : Nat) (f : Nat → Int32) : Law l yN 1 0 0 0 yB 1 (some .boolean) site (P x t V cd n f) (E n) [] 0 0 := by
  refine Law.of_walk (plainFor_of_name (by decide +kernel)) (by decide +kernel) (by decide +kernel) (by decide) (fun _ _ h => by rw [h.1]; rfl) (fun _ U U' hal hh h => ⟨h.1, h.2.mv hal hh⟩) (fun r U U' V V' h1 hal h2 h => XT.PureE.mv r U U' V V' h1 hal h2 h) ?_
  intro p e s m args below meth c s₁ X0 hexec hbytes hml hret hlk hnm hown hh0 W hP
  obtain ⟨rfl, hx⟩ := hP
  have v31 := hx.2.2.2.1.2.2.2
  have c1 : Steps p.tables e below (s₁.setTop (entryFrame m #[.ref x] 1)) (s₁.setTop (mkF m 1 #[.val (.ref x)] [.ref x])) := Steps.trans (entry rfl) (by
    show Steps p.tables e below (s₁.setTop (mkF m 0 #[.val (.ref x)] [])) _
    refine XS.aloadN X0.here hexec rfl (hb hbytes d0) rfl rfl ?_
    exact Steps.refl _)
  obtain ⟨T2, X2, q2, st2⟩ := X0.hget hexec hown (wk W (.fieldLink "java/lang/String" 9 "java/lang/String" "value" "[B")) (hx.mv X0.warmed.alike hh0).2.1 (g := (mkF m 1 #[.val (.ref x)] [.ref x])) rfl (rest := []) rfl (hb hbytes d1)
  have hh2 := q2.trans hh0
  have hx2 := hx.mv X2.warmed.alike hh2
  have c3 : Steps p.tables e below (s₁.setTop (entryFrame m #[.ref x] 1)) (T2.setTop (mkF m 5 #[.val (.ref x)] [.int (Int32.ofNat V.slots.size)])) := (c1.trans (st2 _ (Steps.refl _))).trans (by
    refine X2.alen hexec hx2.2.2.2.1 rfl rfl (hb hbytes d4) ?_
    exact Steps.refl _)
  have hz : V.slots.size = 0 ↔ n = 0 := by
    rcases hx.2.2.2.2.1 with ⟨-, q, -⟩ | ⟨-, q, -⟩ <;> omega
  by_cases h0 : n = 0
  · have c4 : Steps p.tables e below (s₁.setTop (entryFrame m #[.ref x] 1)) (T2.setTop (mkF m 13 #[.val (.ref x)] [.int 1])) := c3.trans (by
      refine XS.ifNo X2.here hexec rfl (hb hbytes d5) rfl (i0_ne_f (by rw [hz.mpr h0]; rfl)) ?_
      refine iconstV X2.here hexec rfl 1 (hb hbytes d8) (by decide) ?_
      refine XS.goto X2.here hexec rfl (pc0 := 9) rfl (hb hbytes d9) (by decide) rfl ?_
      exact Steps.refl _)
    exact ⟨T2, some (.int 1), _, _, _, X2, rfl, rfl, rfl, (fun h => by cases h), ⟨by rw [if_pos h0], hh2⟩, fun fs hl => c4.trans (X2.ireturnOut hexec hret rfl (Or.inr (Or.inl rfl)) (hb hbytes d13) hl)⟩
  · have c4 : Steps p.tables e below (s₁.setTop (entryFrame m #[.ref x] 1)) (T2.setTop (mkF m 13 #[.val (.ref x)] [.int 0])) := c3.trans (by
      refine XS.ifYes X2.here hexec rfl (pc0 := 5) rfl (hb hbytes d5) rfl (i0_ne_t (nz32 v31 (by omega))) (by decide) rfl ?_
      refine iconstV X2.here hexec rfl 0 (hb hbytes d12) (by decide) ?_
      exact Steps.refl _)
    exact ⟨T2, some (.int 0), _, _, _, X2, rfl, rfl, rfl, (fun h => by cases h), ⟨by rw [if_neg h0], hh2⟩, fun fs hl => c4.trans (X2.ireturnOut hexec hret rfl (Or.inr (Or.inl rfl)) (hb hbytes d13) hl)⟩
theorem pays {l : Launch} {R : Room} {p : Program} {e : Env} {below : List Frame} {s : State} {sargs : Array Value} {len W : Nat} (x t : Addr) (V : Cell) (cd : Int32) (n : Nat) (f : Nat → Int32) (htab : tab.before sargs s = true) (hfr : 1 ≤ R.frames) (hlo : W + 12 ≤ R.locals) :
    Back l R p e below s sargs yN len W (fun A₁ a₁ => A₁.cells + 0 ≤ R.cells ∧ A₁.slots + 0 ≤ R.slots ∧ P x t V cd n f a₁ A₁.U) (fun A₁ _ v₁ B₁ => E n v₁ A₁.U B₁.U ∧ B₁.locs = A₁.locs ++ [] ∧ B₁.cells = A₁.cells + 0 ∧ B₁.slots = A₁.slots + 0) :=
  (law l x t V cd n f).pays htab hfr (by omega)
end Emp
/-- what place i of a byte[]'s cell holds -/
def yv (A : Cell) (i : Nat) : Int32 := match A.slots[i]? with | some (.int x) => x | _ => 0
theorem yv_get {a : Addr} {A : Cell} {U : State} (h : XT.Arr .byte a A U) (ht : Typed .byte A) {i : Nat} (hi : i < A.slots.size) : A.slots[i]? = some (.int (yv A i)) := by
  have e := Array.getElem?_eq_getElem hi
  have f := ht i _ e
  unfold yv; rw [e]
  generalize A.slots[i] = v at f
  cases v <;> simp [fits] at f ⊢
/-- the two arrays are equal, place for place -/
def EqC (A B : Cell) : Prop := A.slots.size = B.slots.size ∧ ∀ i, i < A.slots.size → yv A i = yv B i
/-- a boolean that says whether p -/
def Says01 (q : Prop) (r : Option Value) (s u : State) : Prop := ∃ v : Int32, r = some (.int v) ∧ u.heap = s.heap ∧ ((v = 1 ∧ q) ∨ (v = 0 ∧ ¬ q))
theorem Says01.mv {q : Prop} : ∀ r (U U' V V' : State), U'.heap = U.heap → V.vm.Alike V'.vm → V'.heap = V.heap → Says01 q r U V → Says01 q r U' V' :=
  fun r U U' V V' h1 _ h2 ⟨v, a, b, c⟩ => ⟨v, a, by rw [h1, h2]; exact b, c⟩
namespace LEq
def yN : MethodName := ⟨"java/lang/StringLatin1", "equals", "([B[B)Z"⟩
abbrev yB : ByteArray := jdk_43_method_13_code
theorem d0 : decode yB 0 = .ok (.aload_n 0, 1) := by decide +kernel
theorem d1 : decode yB 1 = .ok (.arraylength, 1) := by decide +kernel
theorem d2 : decode yB 2 = .ok (.aload_n 1, 1) := by decide +kernel
theorem d3 : decode yB 3 = .ok (.arraylength, 1) := by decide +kernel
theorem d4 : decode yB 4 = .ok (.if_icmp (.ne) 30, 3) := by decide +kernel
theorem d7 : decode yB 7 = .ok (.iconst 0, 1) := by decide +kernel
theorem d8 : decode yB 8 = .ok (.istore_n 2, 1) := by decide +kernel
theorem d9 : decode yB 9 = .ok (.iload_n 2, 1) := by decide +kernel
theorem d10 : decode yB 10 = .ok (.aload_n 0, 1) := by decide +kernel
theorem d11 : decode yB 11 = .ok (.arraylength, 1) := by decide +kernel
theorem d12 : decode yB 12 = .ok (.if_icmp (.ge) 20, 3) := by decide +kernel
theorem d15 : decode yB 15 = .ok (.aload_n 0, 1) := by decide +kernel
theorem d16 : decode yB 16 = .ok (.iload_n 2, 1) := by decide +kernel
theorem d17 : decode yB 17 = .ok (.baload, 1) := by decide +kernel
theorem d18 : decode yB 18 = .ok (.aload_n 1, 1) := by decide +kernel
theorem d19 : decode yB 19 = .ok (.iload_n 2, 1) := by decide +kernel
theorem d20 : decode yB 20 = .ok (.baload, 1) := by decide +kernel
theorem d21 : decode yB 21 = .ok (.if_icmp (.eq) 5, 3) := by decide +kernel
theorem d24 : decode yB 24 = .ok (.iconst 0, 1) := by decide +kernel
theorem d25 : decode yB 25 = .ok (.ireturn, 1) := by decide +kernel
theorem d26 : decode yB 26 = .ok (.iinc 2 1, 3) := by decide +kernel
theorem d29 : decode yB 29 = .ok (.goto (-20), 3) := by decide +kernel
theorem d32 : decode yB 32 = .ok (.iconst 1, 1) := by decide +kernel
theorem d33 : decode yB 33 = .ok (.ireturn, 1) := by decide +kernel
theorem d34 : decode yB 34 = .ok (.iconst 0, 1) := by decide +kernel
theorem d35 : decode yB 35 = .ok (.ireturn, 1) := by decide +kernel
def site : List Cond := []
def tab : Cond := tabOf yN yB 3 (some .boolean) site
def P (a : Addr) (A : Cell) (b : Addr) (B : Cell) (args : Array Value) (s : State) : Prop := args = #[.ref a, .ref b] ∧ XT.Arr .byte a A s ∧ Typed .byte A ∧ XT.Arr .byte b B s ∧ Typed .byte B
/-- whether two byte[] are equal, place for place -/
theorem law (l : Launch) (a : Addr) (A : Cell) (b : Addr) (B : Cell) : Law l yN 2 2 0 0 yB 3 (some .boolean) site (P a A b B) (Says01 (EqC A B)) [] 0 0 := by
  refine Law.of_walk (plainFor_of_name (by decide +kernel)) (by decide +kernel) (by decide +kernel) (by decide) (fun _ _ h => by rw [h.1]; rfl) (fun _ U U' hal hh h => ⟨h.1, h.2.1.mv hal hh, h.2.2.1, h.2.2.2.1.mv hal hh, h.2.2.2.2⟩) (fun r U U' V V' h1 hal h2 h => Says01.mv r U U' V V' h1 hal h2 h) ?_
  intro p e s m args below meth c s₁ X0 hexec hbytes hml hret hlk hnm hown hh0 W hP
  obtain ⟨rfl, hA, tA, hB, tB⟩ := hP
  have a31 := hA.2.2.2
  have b31 := hB.2.2.2
  have hA0 := hA.mv X0.warmed.alike hh0
  have hB0 := hB.mv X0.warmed.alike hh0
  have c1 : Steps p.tables e below (s₁.setTop (entryFrame m #[.ref a, .ref b] 3)) (s₁.setTop (mkF m 0 #[.val (.ref a), .val (.ref b), .unset] [])) := entry rfl
  have c2 : Steps p.tables e below (s₁.setTop (entryFrame m #[.ref a, .ref b] 3)) (s₁.setTop (mkF m 4 #[.val (.ref a), .val (.ref b), .unset] [.int (Int32.ofNat B.slots.size), .int (Int32.ofNat A.slots.size)])) := c1.trans (by
    refine XS.aloadN X0.here hexec rfl (hb hbytes d0) rfl rfl ?_
    refine X0.alen hexec hA0 rfl rfl (hb hbytes d1) ?_
    refine XS.aloadN X0.here hexec rfl (hb hbytes d2) rfl rfl ?_
    refine X0.alen hexec hB0 rfl rfl (hb hbytes d3) ?_
    exact Steps.refl _)
  by_cases hs : A.slots.size = B.slots.size
  · have c3 : Steps p.tables e below (s₁.setTop (entryFrame m #[.ref a, .ref b] 3)) (s₁.setTop (mkF m 9 #[.val (.ref a), .val (.ref b), .val (.int 0)] [])) := c2.trans (by
      refine XS.icmpNo X0.here hexec rfl (hb hbytes d4) rfl (ii_ne_f (by rw [hs])) ?_
      refine iconstV X0.here hexec rfl 0 (hb hbytes d7) (by decide) ?_
      refine XS.istoreN X0.here hexec rfl (hb hbytes d8) rfl rfl ?_
      exact Steps.refl _)
    have loop : ∀ (r i : Nat), i + r = A.slots.size → (∀ j, j < i → yv A j = yv B j) → Steps p.tables e below (s₁.setTop (entryFrame m #[.ref a, .ref b] 3)) (s₁.setTop (mkF m 9 #[.val (.ref a), .val (.ref b), .val (.int (Int32.ofNat i))] [])) → ∃ (pc : Nat) (Ls : Array Slot) (v : Int32), (pc = 25 ∨ pc = 33) ∧ ((v = 1 ∧ EqC A B) ∨ (v = 0 ∧ ¬ EqC A B)) ∧ Steps p.tables e below (s₁.setTop (entryFrame m #[.ref a, .ref b] 3)) (s₁.setTop (mkF m pc Ls [.int v])) := by
      intro r
      induction r with
      | zero =>
        intro i hi he cl
        exact ⟨33, _, 1, Or.inr rfl, Or.inl ⟨rfl, hs, fun j hj => he j (by omega)⟩, cl.trans (by
          refine XS.iloadN X0.here hexec rfl (hb hbytes d9) rfl ?_
          refine XS.aloadN X0.here hexec rfl (hb hbytes d10) rfl rfl ?_
          refine X0.alen hexec hA0 rfl rfl (hb hbytes d11) ?_
          refine XS.icmpYes X0.here hexec rfl (pc0 := 12) rfl (hb hbytes d12) rfl (ii_ge_t (nlt32 (by omega) (by omega))) (by decide) rfl ?_
          refine iconstV X0.here hexec rfl 1 (hb hbytes d32) (by decide) ?_
          exact Steps.refl _)⟩
      | succ r ih =>
        intro i hi he cl
        have c4 : Steps p.tables e below (s₁.setTop (entryFrame m #[.ref a, .ref b] 3)) (s₁.setTop (mkF m 21 #[.val (.ref a), .val (.ref b), .val (.int (Int32.ofNat i))] [.int (yv B i), .int (yv A i)])) := cl.trans (by
          refine XS.iloadN X0.here hexec rfl (hb hbytes d9) rfl ?_
          refine XS.aloadN X0.here hexec rfl (hb hbytes d10) rfl rfl ?_
          refine X0.alen hexec hA0 rfl rfl (hb hbytes d11) ?_
          refine XS.icmpNo X0.here hexec rfl (hb hbytes d12) rfl (ii_ge_f (lt32 (by omega) (by omega))) ?_
          refine XS.aloadN X0.here hexec rfl (hb hbytes d15) rfl rfl ?_
          refine XS.iloadN X0.here hexec rfl (hb hbytes d16) rfl ?_
          refine X0.aget hexec hA0 rfl (yv_get hA tA (i := i) (by omega)) rfl rfl (hb hbytes d17) ?_
          refine XS.aloadN X0.here hexec rfl (hb hbytes d18) rfl rfl ?_
          refine XS.iloadN X0.here hexec rfl (hb hbytes d19) rfl ?_
          refine X0.aget hexec hB0 rfl (yv_get hB tB (i := i) (by omega)) rfl rfl (hb hbytes d20) ?_
          exact Steps.refl _)
        by_cases hv : yv A i = yv B i
        · have c5 : Steps p.tables e below (s₁.setTop (entryFrame m #[.ref a, .ref b] 3)) (s₁.setTop (mkF m 9 #[.val (.ref a), .val (.ref b), .val (.int (Int32.ofNat i + 1))] [])) := c4.trans (by
            refine XS.icmpYes X0.here hexec rfl (pc0 := 21) rfl (hb hbytes d21) rfl (ii_eq_t hv) (by decide) rfl ?_
            refine iincV X0.here hexec rfl 1 (hb hbytes d26) (by decide) rfl rfl ?_
            refine XS.goto X0.here hexec rfl (pc0 := 29) rfl (hb hbytes d29) (by decide) rfl ?_
            exact Steps.refl _)
          rw [succ32] at c5
          exact ih (i + 1) (by omega) (fun j hj => by
            by_cases e : j = i
            · rw [e]; exact hv
            · exact he j (by omega)) c5
        · exact ⟨25, _, 0, Or.inl rfl, Or.inr ⟨rfl, fun q => hv (q.2 i (by omega))⟩, c4.trans (by
            refine XS.icmpNo X0.here hexec rfl (hb hbytes d21) rfl (ii_eq_f hv) ?_
            refine iconstV X0.here hexec rfl 0 (hb hbytes d24) (by decide) ?_
            exact Steps.refl _)⟩
    obtain ⟨pc, Ls, v, hpc, hv, cz⟩ := loop A.slots.size 0 (by omega) (fun j hj => absurd hj (Nat.not_lt_zero j)) c3
    have nv : narrow .boolean (.int v) = .int v := by rcases hv with ⟨rfl, -⟩ | ⟨rfl, -⟩ <;> rfl
    rcases hpc with rfl | rfl
    · exact ⟨s₁, some (.int v), _, _, _, X0, rfl, rfl, rfl, (fun h => by cases h), ⟨v, rfl, hh0, hv⟩, fun fs hl => cz.trans (X0.ireturnOut hexec hret nv (Or.inr (Or.inl rfl)) (hb hbytes d25) hl)⟩
    · exact ⟨s₁, some (.int v), _, _, _, X0, rfl, rfl, rfl, (fun h => by cases h), ⟨v, rfl, hh0, hv⟩, fun fs hl => cz.trans (X0.ireturnOut hexec hret nv (Or.inr (Or.inl rfl)) (hb hbytes d33) hl)⟩
  · have c3 : Steps p.tables e below (s₁.setTop (entryFrame m #[.ref a, .ref b] 3)) (s₁.setTop (mkF m 35 #[.val (.ref a), .val (.ref b), .unset] [.int 0])) := c2.trans (by
      refine XS.icmpYes X0.here hexec rfl (pc0 := 4) rfl (hb hbytes d4) rfl (ii_ne_t (ne32 a31 b31 hs)) (by decide) rfl ?_
      refine iconstV X0.here hexec rfl 0 (hb hbytes d34) (by decide) ?_
      exact Steps.refl _)
    exact ⟨s₁, some (.int 0), _, _, _, X0, rfl, rfl, rfl, (fun h => by cases h), ⟨0, rfl, hh0, Or.inr ⟨rfl, fun q => hs q.1⟩⟩, fun fs hl => c3.trans (X0.ireturnOut hexec hret rfl (Or.inr (Or.inl rfl)) (hb hbytes d35) hl)⟩
end LEq
theorem Cod.ty {cd : Int32} {n : Nat} {f : Nat → Int32} {V : Cell} (h : Cod cd n f V) : Typed .byte V := fun i v hv => by
  have hi : i < V.slots.size := (Array.getElem?_eq_some_iff.mp hv).1
  rcases h with ⟨-, k1, k2⟩ | ⟨-, k1, k2, -⟩
  · rw [(k2 i (by omega)).1] at hv; cases hv; exact fits_lo8 _
  · rcases Nat.mod_two_eq_zero_or_one i with e | e
    · obtain ⟨j, rfl⟩ : ∃ j, i = 2 * j := ⟨i / 2, by omega⟩
      rw [(k2 j (by omega)).1] at hv; cases hv; exact fits_lo8 _
    · obtain ⟨j, rfl⟩ : ∃ j, i = 2 * j + 1 := ⟨i / 2, by omega⟩
      rw [(k2 j (by omega)).2] at hv; cases hv; exact fits_lo8 _
/-- the same text -/
def SameT (n : Nat) (f : Nat → Int32) (k : Nat) (g : Nat → Int32) : Prop := n = k ∧ ∀ j, j < n → f j = g j
theorem lo8_inj {x y : Int32} (h0 : ¬ x < 0) (h1 : ¬ 255 < x) (k0 : ¬ y < 0) (k1 : ¬ 255 < y) (h : lo8 x = lo8 y) : x = y := by
  rw [← lo8_mask h0 h1, ← lo8_mask k0 k1, h]
/-- arrays coded by one coder are equal just where the texts are -/
theorem Cod.eqv {cd : Int32} {n k : Nat} {f g : Nat → Int32} {V V' : Cell} (h : Cod cd n f V) (h' : Cod cd k g V') (hf : ∀ j, j < n → ¬ f j < 0 ∧ ¬ 65535 < f j) (hg : ∀ j, j < k → ¬ g j < 0 ∧ ¬ 65535 < g j) : EqC V V' ↔ SameT n f k g := by
  have yvv : ∀ {W : Cell} {i : Nat} {x : Int32}, W.slots[i]? = some (.int x) → yv W i = x := fun q => by unfold yv; rw [q]
  rcases h with ⟨rfl, k1, k2⟩ | ⟨rfl, k1, k2, -⟩
  · rcases h' with ⟨-, m1, m2⟩ | ⟨e, -⟩
    · constructor
      · rintro ⟨e1, e2⟩
        refine ⟨by omega, fun j hj => ?_⟩
        have q := e2 j (by omega)
        rw [yvv (k2 j hj).1, yvv (m2 j (by omega)).1] at q
        exact lo8_inj (hf j hj).1 (k2 j hj).2 (hg j (by omega)).1 (m2 j (by omega)).2 q
      · rintro ⟨rfl, e2⟩
        refine ⟨by omega, fun j hj => ?_⟩
        rw [yvv (k2 j (by omega)).1, yvv (m2 j (by omega)).1, e2 j (by omega)]
    · exact absurd e (by decide)
  · rcases h' with ⟨e, -⟩ | ⟨-, m1, m2, -⟩
    · exact absurd e (by decide)
    · constructor
      · rintro ⟨e1, e2⟩
        refine ⟨by omega, fun j hj => ?_⟩
        have q1 := e2 (2 * j) (by omega)
        have q2 := e2 (2 * j + 1) (by omega)
        rw [yvv (k2 j hj).1, yvv (m2 j (by omega)).1] at q1
        rw [yvv (k2 j hj).2, yvv (m2 j (by omega)).2] at q2
        rw [← pair_says (hf j hj).1 (hf j hj).2, ← pair_says (hg j (by omega)).1 (hg j (by omega)).2, q1, q2]
      · rintro ⟨rfl, e2⟩
        refine ⟨by omega, fun i hi => ?_⟩
        rcases Nat.mod_two_eq_zero_or_one i with e | e
        · obtain ⟨j, rfl⟩ : ∃ j, i = 2 * j := ⟨i / 2, by omega⟩
          rw [yvv (k2 j (by omega)).1, yvv (m2 j (by omega)).1, e2 j (by omega)]
        · obtain ⟨j, rfl⟩ : ∃ j, i = 2 * j + 1 := ⟨i / 2, by omega⟩
          rw [yvv (k2 j (by omega)).2, yvv (m2 j (by omega)).2, e2 j (by omega)]
/-- two codings differ: so do the texts -/
theorem Cod.dif {cd cd' : Int32} {n k : Nat} {f g : Nat → Int32} {V V' : Cell} (h : Cod cd n f V) (h' : Cod cd' k g V') (hne : ¬ cd = cd') : ¬ SameT n f k g := by
  rintro ⟨rfl, e⟩
  rcases h with ⟨rfl, -, k2⟩ | ⟨rfl, -, -, j, hj, hw⟩
  · rcases h' with ⟨rfl, -⟩ | ⟨-, -, -, j, hj, hw⟩
    · exact hne rfl
    · exact (k2 j hj).2 (by rw [e j hj]; exact hw)
  · rcases h' with ⟨-, -, m2⟩ | ⟨rfl, -⟩
    · exact (m2 j hj).2 (by rw [← e j hj]; exact hw)
    · exact hne rfl
/-- an object of exactly C is an instance of C -/
theorem cinst {p : Program} {l : Launch} {e : Env} {R : Room} {s : State} {m : MethodId} {args : Array Value} {below : List Frame} {meth : Method} {c : Code} {T : State} {locs : List Loc} {cells slots : Nat} (X : Stand p l e R s m args below meth c T locs cells slots) (hexec : p.tables.exec = Jvm.exec) {own C : String} {index : Nat} (hown : s.vm.findClass own = some m.cls) (hlink : (Cond.classLink own index C).before args s = true) {a : Addr} (hE : Exact C a T)
    {g : JFrame} (hg : g.method = m) {rest : List Value} (hstack : g.stack = .ref a :: rest) (hdg : decode c.code g.pc = .ok (.instanceof index, 3)) :
    ∃ T', Stand p l e R s m args below meth c T' locs cells slots ∧ T'.heap = T.heap ∧ ∀ target, Steps p.tables e below (T'.setTop { g with pc := g.pc + 3, stack := .int 1 :: rest }) target → Steps p.tables e below (T.setTop g) target := by
  obtain ⟨cB, h1, D, h2, h3, h4⟩ := hE
  have h1' : s.vm.findClass C = some cB := by rw [← X.warmed.alike.findClass]; exact h1
  obtain ⟨vm', X', st⟩ := X.instanceofYes hexec hown hlink h2 h4 h1' (by rw [h3]; exact Jvm.Free.SB.assignable_self _ _) hg hstack hdg
  exact ⟨_, X', rfl, st⟩
theorem cself {p : Program} {l : Launch} {e : Env} {R : Room} {s : State} {m : MethodId} {args : Array Value} {below : List Frame} {meth : Method} {c : Code} {T : State} {locs : List Loc} {cells slots : Nat} (X : Stand p l e R s m args below meth c T locs cells slots) (hexec : p.tables.exec = Jvm.exec) {own C : String} {index : Nat} (hown : s.vm.findClass own = some m.cls) (hlink : (Cond.classLink own index C).before args s = true) {a : Addr} (hE : Exact C a T)
    {g : JFrame} (hg : g.method = m) {rest : List Value} (hstack : g.stack = .ref a :: rest) (hdg : decode c.code g.pc = .ok (.checkcast index, 3)) :
    ∃ T', Stand p l e R s m args below meth c T' locs cells slots ∧ T'.heap = T.heap ∧ ∀ target, Steps p.tables e below (T'.setTop { g with pc := g.pc + 3, stack := .ref a :: rest }) target → Steps p.tables e below (T.setTop g) target := by
  obtain ⟨cB, h1, D, h2, h3, h4⟩ := hE
  have h1' : s.vm.findClass C = some cB := by rw [← X.warmed.alike.findClass]; exact h1
  obtain ⟨vm', X', st⟩ := X.checkcastYes hexec hown hlink h2 h4 h1' (by rw [h3]; exact Jvm.Free.SB.assignable_self _ _) hg hstack hdg
  exact ⟨_, X', rfl, fun t h => st t (by rw [← hstack] at h; exact h)⟩
namespace SEq
def yN : MethodName := ⟨"java/lang/String", "equals", "(Ljava/lang/Object;)Z"⟩
abbrev yB : ByteArray := jdk_42_method_66_code
theorem d0 : decode yB 0 = .ok (.aload_n 0, 1) := by decide +kernel
theorem d1 : decode yB 1 = .ok (.aload_n 1, 1) := by decide +kernel
theorem d2 : decode yB 2 = .ok (.if_acmp (.ne) 5, 3) := by decide +kernel
theorem d5 : decode yB 5 = .ok (.iconst 1, 1) := by decide +kernel
theorem d6 : decode yB 6 = .ok (.ireturn, 1) := by decide +kernel
theorem d7 : decode yB 7 = .ok (.aload_n 1, 1) := by decide +kernel
theorem d8 : decode yB 8 = .ok (.instanceof 10, 3) := by decide +kernel
theorem d11 : decode yB 11 = .ok (.ifCond (.eq) 43, 3) := by decide +kernel
theorem d14 : decode yB 14 = .ok (.aload_n 1, 1) := by decide +kernel
theorem d15 : decode yB 15 = .ok (.checkcast 10, 3) := by decide +kernel
theorem d18 : decode yB 18 = .ok (.astore_n 2, 1) := by decide +kernel
theorem d19 : decode yB 19 = .ok (.getstatic 38, 3) := by decide +kernel
theorem d22 : decode yB 22 = .ok (.ifCond (.eq) 14, 3) := by decide +kernel
theorem d25 : decode yB 25 = .ok (.aload_n 0, 1) := by decide +kernel
theorem d26 : decode yB 26 = .ok (.getfield 15, 3) := by decide +kernel
theorem d29 : decode yB 29 = .ok (.aload_n 2, 1) := by decide +kernel
theorem d30 : decode yB 30 = .ok (.getfield 15, 3) := by decide +kernel
theorem d33 : decode yB 33 = .ok (.if_icmp (.ne) 21, 3) := by decide +kernel
theorem d36 : decode yB 36 = .ok (.aload_n 0, 1) := by decide +kernel
theorem d37 : decode yB 37 = .ok (.getfield 9, 3) := by decide +kernel
theorem d40 : decode yB 40 = .ok (.aload_n 2, 1) := by decide +kernel
theorem d41 : decode yB 41 = .ok (.getfield 9, 3) := by decide +kernel
theorem d44 : decode yB 44 = .ok (.invokestatic 541, 3) := by decide +kernel
theorem d47 : decode yB 47 = .ok (.ifCond (.eq) 7, 3) := by decide +kernel
theorem d50 : decode yB 50 = .ok (.iconst 1, 1) := by decide +kernel
theorem d51 : decode yB 51 = .ok (.goto 4, 3) := by decide +kernel
theorem d54 : decode yB 54 = .ok (.iconst 0, 1) := by decide +kernel
theorem d55 : decode yB 55 = .ok (.ireturn, 1) := by decide +kernel
def site : List Cond := [.classLink "java/lang/String" 10 "java/lang/String", .fieldLink "java/lang/String" 38 "java/lang/String" "COMPACT_STRINGS" "Z", .fieldLink "java/lang/String" 15 "java/lang/String" "coder" "B", .fieldLink "java/lang/String" 9 "java/lang/String" "value" "[B", LEq.tab] ++ staticW "java/lang/String" 541 LEq.yN
def tab : Cond := tabOf yN yB 3 (some .boolean) site
def P (x t : Addr) (V : Cell) (cd : Int32) (n : Nat) (f : Nat → Int32) (y t' : Addr) (V' : Cell) (cd' : Int32) (k : Nat) (g : Nat → Int32) (z : Int32) (args : Array Value) (s : State) : Prop := args = #[.ref x, .ref y] ∧ Txt x t V cd n f s ∧ Txt y t' V' cd' k g s ∧ StaticIs s "java/lang/String" "COMPACT_STRINGS" "Z" (.int z) ∧ ¬ z = 0
/-- equals(Object) of two Strings: whether the texts are the same -/
theorem law (l : Launch) (x t : Addr) (V : Cell) (cd : Int32) (n : Nat) (f : Nat → Int32) (y t' : Addr) (V' : Cell) (cd' : Int32) (k : Nat) (g : Nat → Int32) (z : Int32) : Law l yN 2 1 1 14 yB 3 (some .boolean) site (P x t V cd n f y t' V' cd' k g z) (Says01 (SameT n f k g)) [] 0 0 := by
  refine Law.of_walk (plainFor_of_name (by decide +kernel)) (by decide +kernel) (by decide +kernel) (by decide) (fun _ _ h => by rw [h.1]; rfl) (fun _ U U' hal hh h => ⟨h.1, h.2.1.mv hal hh, h.2.2.1.mv hal hh, h.2.2.2.1.there hal hh, h.2.2.2.2⟩) (fun r U U' V V' h1 hal h2 h => Says01.mv r U U' V V' h1 hal h2 h) ?_
  intro p e s m args below meth c s₁ X0 hexec hbytes hml hret hlk hnm hown hh0 W hP
  obtain ⟨rfl, hx, hy, s1, hz⟩ := hP
  have c1 : Steps p.tables e below (s₁.setTop (entryFrame m #[.ref x, .ref y] 3)) (s₁.setTop (mkF m 2 #[.val (.ref x), .val (.ref y), .unset] [.ref y, .ref x])) := Steps.trans (entry rfl) (by
    show Steps p.tables e below (s₁.setTop (mkF m 0 #[.val (.ref x), .val (.ref y), .unset] [])) _
    refine XS.aloadN X0.here hexec rfl (hb hbytes d0) rfl rfl ?_
    refine XS.aloadN X0.here hexec rfl (hb hbytes d1) rfl rfl ?_
    exact Steps.refl _)
  by_cases hxy : x = y
  · have c2 : Steps p.tables e below (s₁.setTop (entryFrame m #[.ref x, .ref y] 3)) (s₁.setTop (mkF m 6 #[.val (.ref x), .val (.ref y), .unset] [.int 1])) := c1.trans (by
      refine acmpNo X0.here hexec rfl (hb hbytes d2) rfl rfl rfl (by simp [acmp, hxy]) ?_
      refine iconstV X0.here hexec rfl 1 (hb hbytes d5) (by decide) ?_
      exact Steps.refl _)
    subst hxy
    have ec : cd = cd' := by
      obtain ⟨D, fd, a1, a2, a3⟩ := hx.2.2.1
      obtain ⟨D', fd', b1, b2, b3⟩ := hy.2.2.1
      cases a1.symm.trans b1
      obtain ⟨q1, q2, q3, q4⟩ := a2.1
      obtain ⟨r1, r2, r3, r4⟩ := b2.1
      cases q4.symm.trans r4
      cases a3.symm.trans b3; rfl
    have et : t = t' := by
      obtain ⟨D, fd, a1, a2, a3⟩ := hx.2.1
      obtain ⟨D', fd', b1, b2, b3⟩ := hy.2.1
      cases a1.symm.trans b1
      obtain ⟨q1, q2, q3, q4⟩ := a2.1
      obtain ⟨r1, r2, r3, r4⟩ := b2.1
      cases q4.symm.trans r4
      cases a3.symm.trans b3; rfl
    subst ec et
    have ev : V = V' := by cases hx.2.2.2.1.1.symm.trans hy.2.2.2.1.1; rfl
    subst ev
    have hs : SameT n f k g := (Cod.eqv hx.2.2.2.2.1 hy.2.2.2.2.1 hx.2.2.2.2.2 hy.2.2.2.2.2).mp ⟨rfl, fun _ _ => rfl⟩
    exact ⟨s₁, some (.int 1), _, _, _, X0, rfl, rfl, rfl, (fun h => by cases h), ⟨1, rfl, hh0, Or.inl ⟨rfl, hs⟩⟩, fun fs hl => c2.trans (X0.ireturnOut hexec hret rfl (Or.inr (Or.inl rfl)) (hb hbytes d6) hl)⟩
  · have c2 : Steps p.tables e below (s₁.setTop (entryFrame m #[.ref x, .ref y] 3)) (s₁.setTop (mkF m 8 #[.val (.ref x), .val (.ref y), .unset] [.ref y])) := c1.trans (by
      refine acmpYes X0.here hexec rfl (pc0 := 2) rfl (hb hbytes d2) rfl rfl rfl (by simp [acmp, hxy]) (by decide) rfl ?_
      refine XS.aloadN X0.here hexec rfl (hb hbytes d7) rfl rfl ?_
      exact Steps.refl _)
    obtain ⟨T3, X3, q3, st3⟩ := cinst X0 hexec hown (wk W (.classLink "java/lang/String" 10 "java/lang/String")) (hy.mv X0.warmed.alike hh0).1 (g := (mkF m 8 #[.val (.ref x), .val (.ref y), .unset] [.ref y])) rfl (rest := []) rfl (hb hbytes d8)
    have hh3 := q3.trans hh0
    have c4 : Steps p.tables e below (s₁.setTop (entryFrame m #[.ref x, .ref y] 3)) (T3.setTop (mkF m 15 #[.val (.ref x), .val (.ref y), .unset] [.ref y])) := (c2.trans (st3 _ (Steps.refl _))).trans (by
      refine XS.ifNo X3.here hexec rfl (hb hbytes d11) rfl (i0_eq_f (by decide)) ?_
      refine XS.aloadN X3.here hexec rfl (hb hbytes d14) rfl rfl ?_
      exact Steps.refl _)
    obtain ⟨T5, X5, q5, st5⟩ := cself X3 hexec hown (wk W (.classLink "java/lang/String" 10 "java/lang/String")) (hy.mv X3.warmed.alike hh3).1 (g := (mkF m 15 #[.val (.ref x), .val (.ref y), .unset] [.ref y])) rfl (rest := []) rfl (hb hbytes d15)
    have hh5 := q5.trans hh3
    have c6 : Steps p.tables e below (s₁.setTop (entryFrame m #[.ref x, .ref y] 3)) (T5.setTop (mkF m 19 #[.val (.ref x), .val (.ref y), .val (.ref y)] [])) := (c4.trans (st5 _ (Steps.refl _))).trans (by
      refine XS.astoreN X5.here hexec rfl (hb hbytes d18) rfl rfl rfl ?_
      exact Steps.refl _)
    obtain ⟨T7, X7, q7, st7⟩ := X5.sget hexec hown (wk W (.fieldLink "java/lang/String" 38 "java/lang/String" "COMPACT_STRINGS" "Z")) s1 (fun _ _ h => by rw [hh5]; exact h) (g := (mkF m 19 #[.val (.ref x), .val (.ref y), .val (.ref y)] [])) rfl (hb hbytes d19)
    have hh7 := q7.trans hh5
    have c8 : Steps p.tables e below (s₁.setTop (entryFrame m #[.ref x, .ref y] 3)) (T7.setTop (mkF m 26 #[.val (.ref x), .val (.ref y), .val (.ref y)] [.ref x])) := (c6.trans (st7 _ (Steps.refl _))).trans (by
      refine XS.ifNo X7.here hexec rfl (hb hbytes d22) rfl (i0_eq_f hz) ?_
      refine XS.aloadN X7.here hexec rfl (hb hbytes d25) rfl rfl ?_
      exact Steps.refl _)
    obtain ⟨T9, X9, q9, st9⟩ := X7.hget hexec hown (wk W (.fieldLink "java/lang/String" 15 "java/lang/String" "coder" "B")) (hx.mv X7.warmed.alike hh7).2.2.1 (g := (mkF m 26 #[.val (.ref x), .val (.ref y), .val (.ref y)] [.ref x])) rfl (rest := []) rfl (hb hbytes d26)
    have hh9 := q9.trans hh7
    have c10 : Steps p.tables e below (s₁.setTop (entryFrame m #[.ref x, .ref y] 3)) (T9.setTop (mkF m 30 #[.val (.ref x), .val (.ref y), .val (.ref y)] [.ref y, .int cd])) := (c8.trans (st9 _ (Steps.refl _))).trans (by
      refine XS.aloadN X9.here hexec rfl (hb hbytes d29) rfl rfl ?_
      exact Steps.refl _)
    obtain ⟨T11, X11, q11, st11⟩ := X9.hget hexec hown (wk W (.fieldLink "java/lang/String" 15 "java/lang/String" "coder" "B")) (hy.mv X9.warmed.alike hh9).2.2.1 (g := (mkF m 30 #[.val (.ref x), .val (.ref y), .val (.ref y)] [.ref y, .int cd])) rfl (rest := [.int cd]) rfl (hb hbytes d30)
    have hh11 := q11.trans hh9
    have c12 : Steps p.tables e below (s₁.setTop (entryFrame m #[.ref x, .ref y] 3)) (T11.setTop (mkF m 33 #[.val (.ref x), .val (.ref y), .val (.ref y)] [.int cd', .int cd])) := c10.trans (st11 _ (Steps.refl _))
    by_cases hcd : cd = cd'
    · subst hcd
      have c13 : Steps p.tables e below (s₁.setTop (entryFrame m #[.ref x, .ref y] 3)) (T11.setTop (mkF m 37 #[.val (.ref x), .val (.ref y), .val (.ref y)] [.ref x])) := c12.trans (by
        refine XS.icmpNo X11.here hexec rfl (hb hbytes d33) rfl (ii_ne_f rfl) ?_
        refine XS.aloadN X11.here hexec rfl (hb hbytes d36) rfl rfl ?_
        exact Steps.refl _)
      obtain ⟨T14, X14, q14, st14⟩ := X11.hget hexec hown (wk W (.fieldLink "java/lang/String" 9 "java/lang/String" "value" "[B")) (hx.mv X11.warmed.alike hh11).2.1 (g := (mkF m 37 #[.val (.ref x), .val (.ref y), .val (.ref y)] [.ref x])) rfl (rest := []) rfl (hb hbytes d37)
      have hh14 := q14.trans hh11
      have c15 : Steps p.tables e below (s₁.setTop (entryFrame m #[.ref x, .ref y] 3)) (T14.setTop (mkF m 41 #[.val (.ref x), .val (.ref y), .val (.ref y)] [.ref y, .ref t])) := (c13.trans (st14 _ (Steps.refl _))).trans (by
        refine XS.aloadN X14.here hexec rfl (hb hbytes d40) rfl rfl ?_
        exact Steps.refl _)
      obtain ⟨T16, X16, q16, st16⟩ := X14.hget hexec hown (wk W (.fieldLink "java/lang/String" 9 "java/lang/String" "value" "[B")) (hy.mv X14.warmed.alike hh14).2.1 (g := (mkF m 41 #[.val (.ref x), .val (.ref y), .val (.ref y)] [.ref y, .ref t])) rfl (rest := [.ref t]) rfl (hb hbytes d41)
      have hh16 := q16.trans hh14
      have c17 : Steps p.tables e below (s₁.setTop (entryFrame m #[.ref x, .ref y] 3)) (T16.setTop (mkF m 44 #[.val (.ref x), .val (.ref y), .val (.ref y)] [.ref t', .ref t])) := c15.trans (st16 _ (Steps.refl _))
      obtain ⟨v18, T18, X18, E18, g18⟩ := X16.callS hexec (LEq.law l t V t' V') hown (wks W (staticW "java/lang/String" 541 LEq.yN)) (wk W LEq.tab) (W := 0) (Nat.le_of_ble_eq_true rfl) (Nat.le_of_ble_eq_true rfl) (Nat.le_refl _) (Nat.le_refl _) (g := (mkF m 44 #[.val (.ref x), .val (.ref y), .val (.ref y)] [.ref t', .ref t])) rfl (by rw [hml]; rfl) c17 (argsL := [.ref t, .ref t']) (rest := []) rfl rfl (by show 2 * 0 + 0 ≤ _; decide) (hb hbytes d44) (⟨rfl, hx.2.2.2.1.mv X16.warmed.alike hh16, hx.2.2.2.2.1.ty, hy.2.2.2.1.mv X16.warmed.alike hh16, hy.2.2.2.2.1.ty⟩)
      obtain ⟨v, rfl, q18, hv⟩ := E18
      have iff := Cod.eqv hx.2.2.2.2.1 hy.2.2.2.2.1 hx.2.2.2.2.2 hy.2.2.2.2.2
      rcases hv with ⟨rfl, he⟩ | ⟨rfl, he⟩
      · have c19 : Steps p.tables e below (s₁.setTop (entryFrame m #[.ref x, .ref y] 3)) (T18.setTop (mkF m 55 #[.val (.ref x), .val (.ref y), .val (.ref y)] [.int 1])) := Steps.trans g18 (by
          refine XS.ifNo X18.here hexec rfl (hb hbytes d47) rfl (i0_eq_f (by decide)) ?_
          refine iconstV X18.here hexec rfl 1 (hb hbytes d50) (by decide) ?_
          refine XS.goto X18.here hexec rfl (pc0 := 51) rfl (hb hbytes d51) (by decide) rfl ?_
          exact Steps.refl _)
        exact ⟨T18, some (.int 1), _, _, _, X18, rfl, rfl, rfl, (fun h => by cases h), ⟨1, rfl, q18.trans hh16, Or.inl ⟨rfl, iff.mp he⟩⟩, fun fs hl => c19.trans (X18.ireturnOut hexec hret rfl (Or.inr (Or.inl rfl)) (hb hbytes d55) hl)⟩
      · have c19 : Steps p.tables e below (s₁.setTop (entryFrame m #[.ref x, .ref y] 3)) (T18.setTop (mkF m 55 #[.val (.ref x), .val (.ref y), .val (.ref y)] [.int 0])) := Steps.trans g18 (by
          refine XS.ifYes X18.here hexec rfl (pc0 := 47) rfl (hb hbytes d47) rfl (i0_eq_t rfl) (by decide) rfl ?_
          refine iconstV X18.here hexec rfl 0 (hb hbytes d54) (by decide) ?_
          exact Steps.refl _)
        exact ⟨T18, some (.int 0), _, _, _, X18, rfl, rfl, rfl, (fun h => by cases h), ⟨0, rfl, q18.trans hh16, Or.inr ⟨rfl, fun q => he (iff.mpr q)⟩⟩, fun fs hl => c19.trans (X18.ireturnOut hexec hret rfl (Or.inr (Or.inl rfl)) (hb hbytes d55) hl)⟩
    · have c13 : Steps p.tables e below (s₁.setTop (entryFrame m #[.ref x, .ref y] 3)) (T11.setTop (mkF m 55 #[.val (.ref x), .val (.ref y), .val (.ref y)] [.int 0])) := c12.trans (by
        refine XS.icmpYes X11.here hexec rfl (pc0 := 33) rfl (hb hbytes d33) rfl (ii_ne_t hcd) (by decide) rfl ?_
        refine iconstV X11.here hexec rfl 0 (hb hbytes d54) (by decide) ?_
        exact Steps.refl _)
      exact ⟨T11, some (.int 0), _, _, _, X11, rfl, rfl, rfl, (fun h => by cases h), ⟨0, rfl, hh11, Or.inr ⟨rfl, Cod.dif hx.2.2.2.2.1 hy.2.2.2.2.1 hcd⟩⟩, fun fs hl => c13.trans (X11.ireturnOut hexec hret rfl (Or.inr (Or.inl rfl)) (hb hbytes d55) hl)⟩
theorem pays {l : Launch} {R : Room} {p : Program} {e : Env} {below : List Frame} {s : State} {sargs : Array Value} {len W : Nat} (x t : Addr) (V : Cell) (cd : Int32) (n : Nat) (f : Nat → Int32) (y t' : Addr) (V' : Cell) (cd' : Int32) (k : Nat) (g : Nat → Int32) (z : Int32) (htab : tab.before sargs s = true) (hfr : 2 ≤ R.frames) (hlo : W + 28 ≤ R.locals) :
    Back l R p e below s sargs yN len W (fun A₁ a₁ => A₁.cells + 0 ≤ R.cells ∧ A₁.slots + 0 ≤ R.slots ∧ P x t V cd n f y t' V' cd' k g z a₁ A₁.U) (fun A₁ _ v₁ B₁ => Says01 (SameT n f k g) v₁ A₁.U B₁.U ∧ B₁.locs = A₁.locs ++ [] ∧ B₁.cells = A₁.cells + 0 ∧ B₁.slots = A₁.slots + 0) :=
  (law l x t V cd n f y t' V' cd' k g z).pays htab hfr (by omega)
end SEq
end StrChars
namespace StrChars.Road
open Jvm Sem ClassFile Op Lib Jvm.Stand Jvm.Free Jvm.Free.XT
open Jvm.Lib.Cold (StaticIs)
/-- the words of String.isEmpty() -/
abbrev wordsEmp : List Jvm.Cond := [.code Emp.yN Emp.yB 1 (some .boolean), .initialized ST, .fieldLink ST 9 ST "value" "[B"]
theorem tabEmp_of {a : Array Value} {s : State} (h : ∀ w ∈ wordsEmp, w.before a s = true) : Emp.tab.before a s = true := unparts (wk h (.code Emp.yN Emp.yB 1 (some .boolean))) (wks h (.initialized Emp.yN.cls :: Emp.site))
theorem movedEmp {Z s : State} {a0 args : Array Value} (hZ : Z.Warmed39 s.vm) (hw : ∀ d ∈ wordsEmp, d.before a0 Z = true) : ∀ d ∈ wordsEmp, d.before args s = true := fun d hd => by
  have t : ∀ d ∈ wordsEmp, (d.onTables && d.keepsFace) = true := by decide +kernel
  exact RoadKit.mv hZ (hw d hd) (t d hd)
/-- the words of String.equals(Object) -/
abbrev wordsEq : List Jvm.Cond := [.code SEq.yN SEq.yB 3 (some .boolean), .initialized ST, .classLink ST 10 ST, .fieldLink ST 38 ST "COMPACT_STRINGS" "Z", .fieldLink ST 15 ST "coder" "B", .fieldLink ST 9 ST "value" "[B", .methodLink ST 541 LEq.yN, .static LEq.yN, .code LEq.yN LEq.yB 3 (some .boolean), .initialized "java/lang/StringLatin1"]
theorem tabEq_of {a : Array Value} {s : State} (h : ∀ w ∈ wordsEq, w.before a s = true) : SEq.tab.before a s = true := by
  have hl : LEq.tab.before a s = true := unparts (wk h (.code LEq.yN LEq.yB 3 (some .boolean))) (wks h (.initialized LEq.yN.cls :: LEq.site))
  have q := consq hl h
  exact unparts (wk q (.code SEq.yN SEq.yB 3 (some .boolean))) (wks q (.initialized SEq.yN.cls :: SEq.site))
theorem movedEq {Z s : State} {a0 args : Array Value} (hZ : Z.Warmed39 s.vm) (hw : ∀ d ∈ wordsEq, d.before a0 Z = true) : ∀ d ∈ wordsEq, d.before args s = true := fun d hd => by
  have t : ∀ d ∈ wordsEq, (d.onTables && d.keepsFace) = true := by decide +kernel
  exact RoadKit.mv hZ (hw d hd) (t d hd)
/-- the road's facts of a String, as the laws ask it -/
theorem txt_of {Z U : State} {a0 : Array Value} {kI : Nat} (wi : (Jvm.Cond.instantiable ST kI).before a0 Z = true) (al : Z.vm.Alike U.vm) {x t : Addr} {kb : ClassId} {cs : List Int32} {cd N2 : Int32} {vs : List Value} (E : RoadKit.Exa Z U.heap x ST) (V : RoadKit.Fld Z U.heap x ST "value" "[B" (.ref t)) (C : RoadKit.Fld Z U.heap x ST "coder" "B" (.int cd)) (K : RoadKit.Arv Z U.heap t kb .byte N2 vs (.int 0)) (hc : CodA cs cd N2 vs) (hb : ∀ c ∈ cs, ¬ c < 0 ∧ ¬ (65535 : Int32) < c) (l2 : cs.length ≤ 4000) :
    ∃ A, Txt x t A cd cs.length (fun j => cs.getD j 0) U := by
  obtain ⟨A, K1, K2, K3, K4, K5, K6⟩ := K
  have hcod := hc.cod (by omega) K3 K5
  obtain ⟨D, fV, fC, hB, F1, F2, g1, g2, -, -⟩ := strObj wi al E V C
  exact ⟨A, ⟨_, hB.2.2.1, D, hB.1, rfl, by cases q : D.vm <;> first | rfl | exact absurd q (hB.2.1.2 _)⟩, Has.of hB F1 g1, Has.of hB F2 g2, ⟨K1.1, State.isArrayOf_alike al K1.2.1, K1.2.2, by rcases hcod with ⟨-, q, -⟩ | ⟨-, q, -⟩ <;> omega⟩, hcod, fun j hj => by
    have e : cs.getD j 0 = cs[j] := by simp [List.getD_eq_getElem?_getD, hj]
    show ¬ cs.getD j 0 < 0 ∧ ¬ 65535 < cs.getD j 0
    rw [e]; exact hb _ (List.getElem_mem _)⟩
theorem same_list (cs ds : List Int32) : SameT cs.length (fun j => cs.getD j 0) ds.length (fun j => ds.getD j 0) ↔ cs = ds := by
  constructor
  · rintro ⟨e, q⟩
    refine List.ext_getElem e fun j h1 h2 => ?_
    have := q j h1
    simpa [List.getD_eq_getElem?_getD, h1, h2] using this
  · rintro rfl
    exact ⟨rfl, fun _ _ => rfl⟩
/-- **isEmpty() OF SUCH A STRING** -/
theorem empW {p : Program} {l : Launch} {e : Env} {R : Room} {s : State} {args : Array Value} {below : List Frame} {len W : Nat} {Z : State} {a0 : Array Value} {h : Heap} (hZ : Z.Warmed39 s.vm) (hw : ∀ d ∈ wordsEmp, d.before a0 Z = true) {kI : Nat} (wi : (Jvm.Cond.instantiable ST kI).before a0 Z = true)
    {x t : Addr} {kb : ClassId} {cs : List Int32} {cd N2 : Int32} {vs : List Value} (E : RoadKit.Exa Z h x ST) (V : RoadKit.Fld Z h x ST "value" "[B" (.ref t)) (C : RoadKit.Fld Z h x ST "coder" "B" (.int cd)) (K : RoadKit.Arv Z h t kb .byte N2 vs (.int 0)) (hc : CodA cs cd N2 vs) (hb : ∀ c ∈ cs, ¬ c < 0 ∧ ¬ (65535 : Int32) < c) (l2 : cs.length ≤ 4000) (hfr : 1 ≤ R.frames) (hlo : W + 12 ≤ R.locals) :
    Back l R p e below s args (⟨"java/lang/String", "isEmpty", "()Z"⟩ : MethodName) len W (fun P a => a = #[.ref x] ∧ P.U.heap = h ∧ P.cells + 0 ≤ R.cells ∧ P.slots + 0 ≤ R.slots)
      (fun P _ v B => ∃ L, (v = some (.int (if cs.length = 0 then 1 else 0)) ∧ L = [] ∧ B.U.heap = h) ∧ B.locs = P.locs ++ L ∧ B.cells = P.cells + 0 ∧ B.slots = P.slots + 0) := by
  intro m meth c P g ig mk a X hg hsize hdg hW hn hp'
  obtain ⟨rfl, rfl, r1, r2⟩ := hp'
  have al : Z.vm.Alike P.U.vm := hZ.alike.trans X.warmed.alike
  obtain ⟨A, hx⟩ := txt_of wi al E V C K hc hb l2
  obtain ⟨v, B, X', ⟨⟨hv, hh⟩, hl, hk, hs⟩, st⟩ := Emp.pays x t A cd cs.length (fun j => cs.getD j 0) (tabEmp_of (movedEmp hZ hw)) hfr hlo m meth c P g ig mk _ X hg hsize hdg hW hn ⟨r1, r2, rfl, hx⟩
  exact ⟨v, B, X', ⟨[], ⟨hv, rfl, hh⟩, hl, hk, hs⟩, st⟩
/-- **equals(Object) OF TWO SUCH STRINGS**: 1 just where the chars are the same -/
theorem eqW {p : Program} {l : Launch} {e : Env} {R : Room} {s : State} {args : Array Value} {below : List Frame} {len W : Nat} {Z : State} {a0 : Array Value} {h : Heap} (hZ : Z.Warmed39 s.vm) (hw : ∀ d ∈ wordsEq, d.before a0 Z = true) {kI : Nat} (wi : (Jvm.Cond.instantiable ST kI).before a0 Z = true)
    {x t : Addr} {kb : ClassId} {cs : List Int32} {cd N2 : Int32} {vs : List Value} (E : RoadKit.Exa Z h x ST) (V : RoadKit.Fld Z h x ST "value" "[B" (.ref t)) (C : RoadKit.Fld Z h x ST "coder" "B" (.int cd)) (K : RoadKit.Arv Z h t kb .byte N2 vs (.int 0)) (hc : CodA cs cd N2 vs) (hb : ∀ c ∈ cs, ¬ c < 0 ∧ ¬ (65535 : Int32) < c) (l2 : cs.length ≤ 4000)
    {y t' : Addr} {kb' : ClassId} {ds : List Int32} {cd' N2' : Int32} {vs' : List Value} (E' : RoadKit.Exa Z h y ST) (V' : RoadKit.Fld Z h y ST "value" "[B" (.ref t')) (C' : RoadKit.Fld Z h y ST "coder" "B" (.int cd')) (K' : RoadKit.Arv Z h t' kb' .byte N2' vs' (.int 0)) (hc' : CodA ds cd' N2' vs') (hb' : ∀ c ∈ ds, ¬ c < 0 ∧ ¬ (65535 : Int32) < c) (l2' : ds.length ≤ 4000)
    {z : Int32} (S : RoadKit.Sta Z h ST "COMPACT_STRINGS" "Z" (.int z)) (hz : ¬ z = 0) (hfr : 2 ≤ R.frames) (hlo : W + 28 ≤ R.locals) :
    Back l R p e below s args (⟨"java/lang/String", "equals", "(Ljava/lang/Object;)Z"⟩ : MethodName) len W (fun P a => a = #[.ref x, .ref y] ∧ P.U.heap = h ∧ P.cells + 0 ≤ R.cells ∧ P.slots + 0 ≤ R.slots)
      (fun P _ v B => ∃ L, (((v = some (.int 1) ∧ cs = ds) ∨ (v = some (.int 0) ∧ ¬ cs = ds)) ∧ L = [] ∧ B.U.heap = h) ∧ B.locs = P.locs ++ L ∧ B.cells = P.cells + 0 ∧ B.slots = P.slots + 0) := by
  intro m meth c P g ig mk a X hg hsize hdg hW hn hp'
  obtain ⟨rfl, rfl, r1, r2⟩ := hp'
  have al : Z.vm.Alike P.U.vm := hZ.alike.trans X.warmed.alike
  obtain ⟨A, hx⟩ := txt_of wi al E V C K hc hb l2
  obtain ⟨A', hy⟩ := txt_of wi al E' V' C' K' hc' hb' l2'
  obtain ⟨v, B, X', ⟨⟨w, hv, hh, hq⟩, hl, hk, hs⟩, st⟩ := SEq.pays x t A cd cs.length (fun j => cs.getD j 0) y t' A' cd' ds.length (fun j => ds.getD j 0) z (tabEq_of (movedEq hZ hw)) hfr hlo m meth c P g ig mk _ X hg hsize hdg hW hn ⟨r1, r2, rfl, hx, hy, sta_is al S, hz⟩
  refine ⟨v, B, X', ⟨[], ⟨?_, rfl, hh⟩, hl, hk, hs⟩, st⟩
  rcases hq with ⟨rfl, q⟩ | ⟨rfl, q⟩
  · exact Or.inl ⟨hv, (same_list cs ds).mp q⟩
  · exact Or.inr ⟨hv, fun e => q ((same_list cs ds).mpr e)⟩
end StrChars.Road
namespace StrChars.Road
open Jvm Sem ClassFile Op Lib Jvm.Stand Jvm.Free Jvm.Free.XT
open Jvm.Lib.Cold (StaticIs)
/-- what backV says of its String, as the contracts of this text ask it: cs's low bytes, coder 0 -/
theorem codOf {cs : List Int32} {n : Nat} (hn : cs.length = n) (hb : ∀ c ∈ cs, ¬ 255 < c) : CodA cs 0 (Int32.ofNat n) ((cs.map lo8).map Value.int) := Or.inl ⟨rfl, by rw [hn], by simp [List.map_map, Function.comp_def], hb⟩
end StrChars.Road
end Jvm.Pilot.@@N@@
namespace Jvm.Pilot.@@N@@
open Jvm Jvm.ClassFile Sem Op Lib Jvm.Free Jvm.Stand Jvm.LawKit Jvm.RoadKit Bundle Jvm.Pilot.@@N@@.Jvm.D
abbrev yq0 : MethodName := ⟨"com/example/crud4/crud4/SqlBuilder", "values", "()Ljava/util/List;"⟩
abbrev yq1 : MethodName := ⟨"com/example/crud4/crud4/SqlBuilder", "text", "()Ljava/lang/String;"⟩
abbrev yq2 : MethodName := ⟨"java/util/ArrayList", "<init>", "()V"⟩
abbrev yq3 : MethodName := ⟨"java/lang/String", "equals", "(Ljava/lang/Object;)Z"⟩
abbrev yq4 : MethodName := ⟨"java/util/ArrayList", "size", "()I"⟩
abbrev yq5 : MethodName := ⟨"java/util/List", "size", "()I"⟩
abbrev yq6 : MethodName := ⟨"com/example/crud4/crud4/SqlBuilder", "add", "(Ljava/lang/String;Ljava/util/List;Ljava/util/List;)V"⟩
abbrev yq7 : MethodName := ⟨"java/lang/Integer", "valueOf", "(I)Ljava/lang/Integer;"⟩
abbrev yq8 : MethodName := ⟨"java/lang/String", "<init>", "([C)V"⟩
abbrev yq9 : MethodName := ⟨"java/lang/String", "isEmpty", "()Z"⟩
abbrev yq10 : MethodName := ⟨"java/lang/String", "coder", "()B"⟩
abbrev yq11 : MethodName := ⟨"java/lang/Math", "min", "(II)I"⟩
abbrev yq12 : MethodName := ⟨"java/lang/Integer", "intValue", "()I"⟩
abbrev yq13 : MethodName := ⟨"java/util/ArrayList", "add", "(Ljava/lang/Object;)Z"⟩
abbrev yq14 : MethodName := ⟨"com/example/crud4/crud4/StatementParameter", "<init>", "(Ljava/lang/String;Ljava/lang/Object;)V"⟩
abbrev yq15 : MethodName := ⟨"com/example/crud4/crud4/SqlBuilder", "nested", "()Lcom/example/crud4/crud4/SqlBuilder;"⟩
abbrev yq16 : MethodName := ⟨"com/example/crud4/crud4/SqlBuilder", "parameter", "()Lcom/example/crud4/crud4/StatementParameter;"⟩
abbrev yq17 : MethodName := ⟨"com/example/crud4/crud4/SqlBuilder", "placeholders", "()Ljava/util/List;"⟩
abbrev yq18 : MethodName := ⟨"java/lang/StringBuilder", "length", "()I"⟩
abbrev yq19 : MethodName := ⟨"java/util/Arrays", "copyOf", "([Ljava/lang/Object;ILjava/lang/Class;)[Ljava/lang/Object;"⟩
abbrev yq20 : MethodName := ⟨"java/util/Arrays", "copyOf", "([Ljava/lang/Object;I)[Ljava/lang/Object;"⟩
abbrev yq21 : MethodName := ⟨"java/util/ArrayList", "toArray", "()[Ljava/lang/Object;"⟩
abbrev yq22 : MethodName := ⟨"java/util/ArrayList", "addAll", "(Ljava/util/Collection;)Z"⟩
abbrev yq23 : MethodName := ⟨"com/example/crud4/crud4/SqlBuilder", "<init>", "(Lcom/example/crud4/crud4/StatementParameter;)V"⟩
abbrev yq24 : MethodName := ⟨"java/util/List", "add", "(Ljava/lang/Object;)Z"⟩
abbrev yq25 : MethodName := ⟨"java/lang/String", "length", "()I"⟩
abbrev yq26 : MethodName := ⟨"java/lang/AbstractStringBuilder", "length", "()I"⟩
abbrev yq27 : MethodName := ⟨"java/lang/AbstractStringBuilder", "getValue", "()[B"⟩
abbrev yq28 : MethodName := ⟨"java/lang/AbstractStringBuilder", "isLatin1", "()Z"⟩
abbrev yq29 : MethodName := ⟨"java/lang/String", "getBytes", "([BIB)V"⟩
abbrev yq30 : MethodName := ⟨"java/lang/StringBuilder", "append", "(Ljava/lang/String;)Ljava/lang/StringBuilder;"⟩
abbrev yq31 : MethodName := ⟨"java/lang/StringBuilder", "toString", "()Ljava/lang/String;"⟩
abbrev yq32 : MethodName := ⟨"java/lang/Integer", "<init>", "(I)V"⟩
abbrev yq33 : MethodName := ⟨"java/util/ArrayList", "grow", "(I)[Ljava/lang/Object;"⟩
abbrev yq34 : MethodName := ⟨"java/util/ArrayList", "elementData", "(I)Ljava/lang/Object;"⟩
abbrev yq35 : MethodName := ⟨"java/util/ArrayList", "get", "(I)Ljava/lang/Object;"⟩
abbrev yq36 : MethodName := ⟨"java/util/HashMap", "<init>", "()V"⟩
abbrev EL0 : List (String × Nat) := [("com/example/crud4/crud4/SqlBuilderNestedPinLaw", 29), ("com/example/crud4/crud4/SqlBuilderNestedPinLaw", 69)]
theorem tw {a0 : Array Value} {Z : State} (hw : ∀ d ∈ tables_1, d.before a0 Z = true) {d : Jvm.Cond} (i : Nat) (h : tables_1[i]? = some d) : d.before a0 Z = true := hw _ (List.mem_of_getElem? h)
/-! own kit: a walk written forwards. Go: the run goes on from this frame and ends as P says. -/
def Go (tb : Tables) (e : Env) (below : List Frame) (P : State → Prop) (T : State) (f : JFrame) : Prop := ∃ t, Steps tb e below (T.setTop f) t ∧ P t
section WK
variable {tb : Tables} {e : Env} {below : List Frame} {P : State → Prop} {T : State} {m : MethodId} {c : Code} {pc pc' : Nat} {Ls l' : Array Slot} {st : List Value}
theorem Go.next {T' : State} {f f' : JFrame} (k : ∀ t, Steps tb e below (T'.setTop f') t → Steps tb e below (T.setTop f) t) (r : Go tb e below P T' f') : Go tb e below P T f := by
  obtain ⟨t, h1, h2⟩ := r; exact ⟨t, k t h1, h2⟩
theorem Go.jump {T' : State} {f f' : JFrame} (k : Steps tb e below (T.setTop f) (T'.setTop f')) (r : Go tb e below P T' f') : Go tb e below P T f := by
  obtain ⟨t, h1, h2⟩ := r; exact ⟨t, k.trans h1, h2⟩
theorem Go.mono {P' : State → Prop} {f : JFrame} (k : Go tb e below P T f) (q : ∀ t, P t → P' t) : Go tb e below P' T f := by
  obtain ⟨t, h1, h2⟩ := k; exact ⟨t, h1, q t h2⟩
variable [Ours tb]
theorem w_aloadN (h : At T m c below) (hx : tb.exec = Jvm.exec) {k : Fin 4} {v : Value} (hd : decode c.code pc = .ok (.aload_n k, 1)) (hl : Ls[k.val]? = some (.val v)) (hv : v.isRef = true) (hp : pc + 1 = pc') (r : Go tb e below P T (mkF m pc' Ls (v :: st))) : Go tb e below P T (mkF m pc Ls st) := by
  subst hp; exact Go.next (fun t hr => XS.aloadN h hx rfl hd hl hv hr) r
theorem w_aload (h : At T m c below) (hx : tb.exec = Jvm.exec) {k : Nat} {v : Value} (hd : decode c.code pc = .ok (.aload k, 2)) (hl : Ls[k]? = some (.val v)) (hv : v.isRef = true) (hp : pc + 2 = pc') (r : Go tb e below P T (mkF m pc' Ls (v :: st))) : Go tb e below P T (mkF m pc Ls st) := by
  subst hp; exact Go.next (fun t hr => XS.aload h hx rfl hd hl hv hr) r
theorem w_iloadN (h : At T m c below) (hx : tb.exec = Jvm.exec) {k : Fin 4} {v : Int32} (hd : decode c.code pc = .ok (.iload_n k, 1)) (hl : Ls[k.val]? = some (.val (.int v))) (hp : pc + 1 = pc') (r : Go tb e below P T (mkF m pc' Ls (.int v :: st))) : Go tb e below P T (mkF m pc Ls st) := by
  subst hp; exact Go.next (fun t hr => XS.iloadN h hx rfl hd hl hr) r
theorem w_iload (h : At T m c below) (hx : tb.exec = Jvm.exec) {k : Nat} {v : Int32} (hd : decode c.code pc = .ok (.iload k, 2)) (hl : Ls[k]? = some (.val (.int v))) (hp : pc + 2 = pc') (r : Go tb e below P T (mkF m pc' Ls (.int v :: st))) : Go tb e below P T (mkF m pc Ls st) := by
  subst hp; exact Go.next (fun t hr => XS.iload h hx rfl hd hl hr) r
theorem w_iconst (h : At T m c below) (hx : tb.exec = Jvm.exec) {i : Int} {z : Int32} (hd : decode c.code pc = .ok (.iconst i, 1)) (hz : Int32.ofInt i = z) (hp : pc + 1 = pc') (r : Go tb e below P T (mkF m pc' Ls (.int z :: st))) : Go tb e below P T (mkF m pc Ls st) := by
  subst hp hz; exact Go.next (fun t hr => XS.iconst h hx rfl hd hr) r
theorem w_bipush (h : At T m c below) (hx : tb.exec = Jvm.exec) {i : Int} {z : Int32} (hd : decode c.code pc = .ok (.bipush i, 2)) (hz : (Int8.ofInt i).toInt32 = z) (hp : pc + 2 = pc') (r : Go tb e below P T (mkF m pc' Ls (.int z :: st))) : Go tb e below P T (mkF m pc Ls st) := by
  subst hp hz; exact Go.next (fun t hr => XS.bipush h hx rfl hd hr) r
theorem w_sipush (h : At T m c below) (hx : tb.exec = Jvm.exec) {i : Int} {z : Int32} (hd : decode c.code pc = .ok (.sipush i, 3)) (hz : (Int16.ofInt i).toInt32 = z) (hp : pc + 3 = pc') (r : Go tb e below P T (mkF m pc' Ls (.int z :: st))) : Go tb e below P T (mkF m pc Ls st) := by
  subst hp hz; exact Go.next (fun t hr => XS.sipush h hx rfl hd hr) r
theorem w_null (h : At T m c below) (hx : tb.exec = Jvm.exec) (hd : decode c.code pc = .ok (.aconst_null, 1)) (hp : pc + 1 = pc') (r : Go tb e below P T (mkF m pc' Ls (.null :: st))) : Go tb e below P T (mkF m pc Ls st) := by
  subst hp; exact Go.next (fun t hr => XS.aconstNull h hx rfl hd hr) r
theorem w_iadd (h : At T m c below) (hx : tb.exec = Jvm.exec) {x y : Int32} (hd : decode c.code pc = .ok (.iadd, 1)) (hp : pc + 1 = pc') (r : Go tb e below P T (mkF m pc' Ls (.int (x + y) :: st))) : Go tb e below P T (mkF m pc Ls (.int y :: .int x :: st)) := by
  subst hp; exact Go.next (fun t hr => XS.iadd h hx rfl hd rfl hr) r
theorem w_isub (h : At T m c below) (hx : tb.exec = Jvm.exec) {x y : Int32} (hd : decode c.code pc = .ok (.isub, 1)) (hp : pc + 1 = pc') (r : Go tb e below P T (mkF m pc' Ls (.int (x - y) :: st))) : Go tb e below P T (mkF m pc Ls (.int y :: .int x :: st)) := by
  subst hp; exact Go.next (fun t hr => XS.isub h hx rfl hd rfl hr) r
theorem w_imul (h : At T m c below) (hx : tb.exec = Jvm.exec) {x y : Int32} (hd : decode c.code pc = .ok (.imul, 1)) (hp : pc + 1 = pc') (r : Go tb e below P T (mkF m pc' Ls (.int (x * y) :: st))) : Go tb e below P T (mkF m pc Ls (.int y :: .int x :: st)) := by
  subst hp; exact Go.next (fun t hr => XS.imul h hx rfl hd rfl hr) r
theorem w_iand (h : At T m c below) (hx : tb.exec = Jvm.exec) {x y : Int32} (hd : decode c.code pc = .ok (.iand, 1)) (hp : pc + 1 = pc') (r : Go tb e below P T (mkF m pc' Ls (.int (x &&& y) :: st))) : Go tb e below P T (mkF m pc Ls (.int y :: .int x :: st)) := by
  subst hp; exact Go.next (fun t hr => XS.iand h hx rfl hd rfl hr) r
theorem w_ior (h : At T m c below) (hx : tb.exec = Jvm.exec) {x y : Int32} (hd : decode c.code pc = .ok (.ior, 1)) (hp : pc + 1 = pc') (r : Go tb e below P T (mkF m pc' Ls (.int (x ||| y) :: st))) : Go tb e below P T (mkF m pc Ls (.int y :: .int x :: st)) := by
  subst hp; exact Go.next (fun t hr => Jvm.Free.XT.ior h hx rfl hd rfl hr) r
theorem w_ixor (h : At T m c below) (hx : tb.exec = Jvm.exec) {x y : Int32} (hd : decode c.code pc = .ok (.ixor, 1)) (hp : pc + 1 = pc') (r : Go tb e below P T (mkF m pc' Ls (.int (x ^^^ y) :: st))) : Go tb e below P T (mkF m pc Ls (.int y :: .int x :: st)) := by
  subst hp; exact Go.next (fun t hr => Jvm.Free.XT.ixor h hx rfl hd rfl hr) r
theorem w_ishl (h : At T m c below) (hx : tb.exec = Jvm.exec) {x y : Int32} (hd : decode c.code pc = .ok (.ishl, 1)) (hp : pc + 1 = pc') (r : Go tb e below P T (mkF m pc' Ls (.int (x <<< (y &&& 31)) :: st))) : Go tb e below P T (mkF m pc Ls (.int y :: .int x :: st)) := by
  subst hp; exact Go.next (fun t hr => Jvm.Free.XT.ishl h hx rfl hd rfl hr) r
theorem w_ishr (h : At T m c below) (hx : tb.exec = Jvm.exec) {x y : Int32} (hd : decode c.code pc = .ok (.ishr, 1)) (hp : pc + 1 = pc') (r : Go tb e below P T (mkF m pc' Ls (.int (x >>> (y &&& 31)) :: st))) : Go tb e below P T (mkF m pc Ls (.int y :: .int x :: st)) := by
  subst hp; exact Go.next (fun t hr => Jvm.Free.XT.ishr h hx rfl hd rfl hr) r
theorem w_iushr (h : At T m c below) (hx : tb.exec = Jvm.exec) {x y : Int32} (hd : decode c.code pc = .ok (.iushr, 1)) (hp : pc + 1 = pc') (r : Go tb e below P T (mkF m pc' Ls (.int (x.toUInt32 >>> (y &&& 31).toUInt32).toInt32 :: st))) : Go tb e below P T (mkF m pc Ls (.int y :: .int x :: st)) := by
  subst hp; exact Go.next (fun t hr => Jvm.Free.XT.iushr h hx rfl hd rfl hr) r
theorem w_irem (h : At T m c below) (hx : tb.exec = Jvm.exec) {x y : Int32} (hd : decode c.code pc = .ok (.irem, 1)) (hy : y ≠ 0) (hp : pc + 1 = pc') (r : Go tb e below P T (mkF m pc' Ls (.int (x % y) :: st))) : Go tb e below P T (mkF m pc Ls (.int y :: .int x :: st)) := by
  subst hp
  have q : x - x / y * y = x % y := irem_eq_mod x y
  exact Go.next (fun t hr => XS.irem h hx rfl hd rfl hy (by rw [q]; exact hr)) r
theorem w_i2b (h : At T m c below) (hx : tb.exec = Jvm.exec) {x : Int32} (hd : decode c.code pc = .ok (.i2b, 1)) (hp : pc + 1 = pc') (r : Go tb e below P T (mkF m pc' Ls (.int x.toInt8.toInt32 :: st))) : Go tb e below P T (mkF m pc Ls (.int x :: st)) := by
  subst hp; exact Go.next (fun t hr => Jvm.Free.XT.i2b h hx rfl hd rfl hr) r
theorem w_i2c (h : At T m c below) (hx : tb.exec = Jvm.exec) {x : Int32} (hd : decode c.code pc = .ok (.i2c, 1)) (hp : pc + 1 = pc') (r : Go tb e below P T (mkF m pc' Ls (.int x.toUInt32.toUInt16.toUInt32.toInt32 :: st))) : Go tb e below P T (mkF m pc Ls (.int x :: st)) := by
  subst hp; exact Go.next (fun t hr => Jvm.Free.XT.i2c h hx rfl hd rfl hr) r
theorem w_dup (h : At T m c below) (hx : tb.exec = Jvm.exec) {x : Value} (hd : decode c.code pc = .ok (.dup, 1)) (hc : x.category = 1) (hp : pc + 1 = pc') (r : Go tb e below P T (mkF m pc' Ls (x :: x :: st))) : Go tb e below P T (mkF m pc Ls (x :: st)) := by
  subst hp; exact Go.next (fun t hr => XS.dup h hx rfl hd rfl hc hr) r
theorem w_pop (h : At T m c below) (hx : tb.exec = Jvm.exec) {x : Value} (hd : decode c.code pc = .ok (.pop, 1)) (hc : x.category = 1) (hp : pc + 1 = pc') (r : Go tb e below P T (mkF m pc' Ls st)) : Go tb e below P T (mkF m pc Ls (x :: st)) := by
  subst hp; exact Go.next (fun t hr => Jvm.Free.XT.pop h hx rfl hd rfl hc hr) r
theorem w_istoreN (h : At T m c below) (hx : tb.exec = Jvm.exec) {k : Fin 4} {x : Int32} (hd : decode c.code pc = .ok (.istore_n k, 1)) (hl : storeLocals Ls k.val (.int x) = some l') (hp : pc + 1 = pc') (r : Go tb e below P T (mkF m pc' l' st)) : Go tb e below P T (mkF m pc Ls (.int x :: st)) := by
  subst hp; exact Go.next (fun t hr => XS.istoreN h hx rfl hd rfl hl hr) r
theorem w_istore (h : At T m c below) (hx : tb.exec = Jvm.exec) {k : Nat} {x : Int32} (hd : decode c.code pc = .ok (.istore k, 2)) (hl : storeLocals Ls k (.int x) = some l') (hp : pc + 2 = pc') (r : Go tb e below P T (mkF m pc' l' st)) : Go tb e below P T (mkF m pc Ls (.int x :: st)) := by
  subst hp; exact Go.next (fun t hr => XS.istore h hx rfl hd rfl hl hr) r
theorem w_astoreN (h : At T m c below) (hx : tb.exec = Jvm.exec) {k : Fin 4} {x : Value} (hd : decode c.code pc = .ok (.astore_n k, 1)) (hv : x.isRef = true) (hl : storeLocals Ls k.val x = some l') (hp : pc + 1 = pc') (r : Go tb e below P T (mkF m pc' l' st)) : Go tb e below P T (mkF m pc Ls (x :: st)) := by
  subst hp; exact Go.next (fun t hr => XS.astoreN h hx rfl hd rfl hv hl hr) r
theorem w_astore (h : At T m c below) (hx : tb.exec = Jvm.exec) {k : Nat} {x : Value} (hd : decode c.code pc = .ok (.astore k, 2)) (hv : x.isRef = true) (hl : storeLocals Ls k x = some l') (hp : pc + 2 = pc') (r : Go tb e below P T (mkF m pc' l' st)) : Go tb e below P T (mkF m pc Ls (x :: st)) := by
  subst hp; exact Go.next (fun t hr => XS.astore h hx rfl hd rfl hv hl hr) r
theorem w_iinc (h : At T m c below) (hx : tb.exec = Jvm.exec) {k : Nat} {cst : Int} {x z : Int32} (hd : decode c.code pc = .ok (.iinc k cst, 3)) (hl : Ls[k]? = some (.val (.int x))) (hz : Int32.ofInt cst = z) (hl' : storeLocals Ls k (.int (x + z)) = some l') (hp : pc + 3 = pc') (r : Go tb e below P T (mkF m pc' l' st)) : Go tb e below P T (mkF m pc Ls st) := by
  subst hp hz; exact Go.next (fun t hr => XS.iinc h hx rfl hd hl hl' hr) r
theorem w_goto (h : At T m c below) (hx : tb.exec = Jvm.exec) {o : Int} (hd : decode c.code pc = .ok (.goto o, 3)) (ho : 0 ≤ (pc : Int) + o) (hp : ((pc : Int) + o).toNat = pc') (r : Go tb e below P T (mkF m pc' Ls st)) : Go tb e below P T (mkF m pc Ls st) :=
  Go.next (fun t hr => XS.goto h hx rfl rfl hd ho hp hr) r
theorem w_ifYes (h : At T m c below) (hx : tb.exec = Jvm.exec) {cd : ClassFile.Cond} {x : Int32} {o : Int} (hd : decode c.code pc = .ok (.ifCond cd o, 3)) (hc : if_icmp.holds cd x 0 = true) (ho : 0 ≤ (pc : Int) + o) (hp : ((pc : Int) + o).toNat = pc') (r : Go tb e below P T (mkF m pc' Ls st)) : Go tb e below P T (mkF m pc Ls (.int x :: st)) :=
  Go.next (fun t hr => XS.ifYes h hx rfl rfl hd rfl ((if0 _ _).trans hc) ho hp hr) r
theorem w_ifNo (h : At T m c below) (hx : tb.exec = Jvm.exec) {cd : ClassFile.Cond} {x : Int32} {o : Int} (hd : decode c.code pc = .ok (.ifCond cd o, 3)) (hc : if_icmp.holds cd x 0 = false) (hp : pc + 3 = pc') (r : Go tb e below P T (mkF m pc' Ls st)) : Go tb e below P T (mkF m pc Ls (.int x :: st)) := by
  subst hp; exact Go.next (fun t hr => XS.ifNo h hx rfl hd rfl ((if0 _ _).trans hc) hr) r
theorem w_icmpYes (h : At T m c below) (hx : tb.exec = Jvm.exec) {cd : ClassFile.Cond} {x y : Int32} {o : Int} (hd : decode c.code pc = .ok (.if_icmp cd o, 3)) (hc : if_icmp.holds cd x y = true) (ho : 0 ≤ (pc : Int) + o) (hp : ((pc : Int) + o).toNat = pc') (r : Go tb e below P T (mkF m pc' Ls st)) : Go tb e below P T (mkF m pc Ls (.int y :: .int x :: st)) :=
  Go.next (fun t hr => XS.icmpYes h hx rfl rfl hd rfl hc ho hp hr) r
theorem w_icmpNo (h : At T m c below) (hx : tb.exec = Jvm.exec) {cd : ClassFile.Cond} {x y : Int32} {o : Int} (hd : decode c.code pc = .ok (.if_icmp cd o, 3)) (hc : if_icmp.holds cd x y = false) (hp : pc + 3 = pc') (r : Go tb e below P T (mkF m pc' Ls st)) : Go tb e below P T (mkF m pc Ls (.int y :: .int x :: st)) := by
  subst hp; exact Go.next (fun t hr => XS.icmpNo h hx rfl hd rfl hc hr) r
theorem w_ifnullYes (h : At T m c below) (hx : tb.exec = Jvm.exec) {o : Int} (hd : decode c.code pc = .ok (.ifnull o, 3)) (ho : 0 ≤ (pc : Int) + o) (hp : ((pc : Int) + o).toNat = pc') (r : Go tb e below P T (mkF m pc' Ls st)) : Go tb e below P T (mkF m pc Ls (.null :: st)) :=
  Go.next (fun t hr => XS.ifnullYes h hx rfl rfl hd rfl ho hp hr) r
theorem w_ifnullNo (h : At T m c below) (hx : tb.exec = Jvm.exec) {b : Addr} {o : Int} (hd : decode c.code pc = .ok (.ifnull o, 3)) (hp : pc + 3 = pc') (r : Go tb e below P T (mkF m pc' Ls st)) : Go tb e below P T (mkF m pc Ls (.ref b :: st)) := by
  subst hp; exact Go.next (fun t hr => XS.ifnullNo h hx rfl hd rfl hr) r
theorem w_ifnonnullYes (h : At T m c below) (hx : tb.exec = Jvm.exec) {b : Addr} {o : Int} (hd : decode c.code pc = .ok (.ifnonnull o, 3)) (ho : 0 ≤ (pc : Int) + o) (hp : ((pc : Int) + o).toNat = pc') (r : Go tb e below P T (mkF m pc' Ls st)) : Go tb e below P T (mkF m pc Ls (.ref b :: st)) :=
  Go.next (fun t hr => Jvm.Free.XT.ifnonnullYes h hx rfl rfl hd rfl ho hp hr) r
theorem w_ifnonnullNo (h : At T m c below) (hx : tb.exec = Jvm.exec) {o : Int} (hd : decode c.code pc = .ok (.ifnonnull o, 3)) (hp : pc + 3 = pc') (r : Go tb e below P T (mkF m pc' Ls st)) : Go tb e below P T (mkF m pc Ls (.null :: st)) := by
  subst hp; exact Go.next (fun t hr => Jvm.Free.XT.ifnonnullNo h hx rfl hd rfl hr) r
theorem w_acmpYes (h : At T m c below) (hx : tb.exec = Jvm.exec) {cd : ACond} {x y : Value} {o : Int} (hd : decode c.code pc = .ok (.if_acmp cd o, 3)) (h1 : x.isRef = true) (h2 : y.isRef = true) (hc : Jvm.Free.XT.acmp cd x y = true) (ho : 0 ≤ (pc : Int) + o) (hp : ((pc : Int) + o).toNat = pc') (r : Go tb e below P T (mkF m pc' Ls st)) : Go tb e below P T (mkF m pc Ls (y :: x :: st)) :=
  Go.next (fun t hr => Jvm.Free.XT.acmpYes h hx rfl rfl hd rfl h1 h2 hc ho hp hr) r
theorem w_acmpNo (h : At T m c below) (hx : tb.exec = Jvm.exec) {cd : ACond} {x y : Value} {o : Int} (hd : decode c.code pc = .ok (.if_acmp cd o, 3)) (h1 : x.isRef = true) (h2 : y.isRef = true) (hc : Jvm.Free.XT.acmp cd x y = false) (hp : pc + 3 = pc') (r : Go tb e below P T (mkF m pc' Ls st)) : Go tb e below P T (mkF m pc Ls (y :: x :: st)) := by
  subst hp; exact Go.next (fun t hr => Jvm.Free.XT.acmpNo h hx rfl hd rfl h1 h2 hc hr) r
end WK
section WE
variable {p : Program} {l : Launch} {e : Env} {R : Room} {s : State} {m : MethodId} {args : Array Value} {below : List Frame} {meth : Method} {c : Code} {T : State} {locs : List Loc} {cells slots : Nat} {pc : Nat} {Ls : Array Slot} {st : List Value} {Q : Option Value → Heap → List Loc → Prop} {K N : Nat} {Z : State} {h h0 h1 h' : Heap}
/-- how a body ends: it returned, Q, and the frame -/
def EndN (s : State) (below : List Frame) (Q : Option Value → Heap → List Loc → Prop) (K N : Nat) (t : State) : Prop := t.status = .running ∧ ∃ v L, Ended t below (.returned v) ∧ Q v t.heap L ∧ FrameEnd s (.returned v) t L K N
theorem endI (X : Stand p l e R s m args below meth c T locs cells slots) (hx : p.tables.exec = Jvm.exec) (hlk : meth.locks = false) {z : Int32} (hret : meth.sig.returnType = some .int) (hd : decode c.code pc = .ok (.ireturn, 1)) (hc : cells ≤ K) (hs : slots ≤ N) (hQ : Q (some (.int z)) T.heap locs) : Go p.tables e below (EndN s below Q K N) T (mkF m pc Ls (.int z :: st)) := by
  obtain ⟨fs, hr, hrun, hended, hW, hsame⟩ := X.leave (v := some (.int z)) (fun h => by rw [hret] at h; cases h) hlk
  exact ⟨_, retI X hx hret hd hr, hrun, _, _, hended, hQ, ⟨_, rfl⟩, hW, hsame.mono hc hs⟩
theorem endZ (X : Stand p l e R s m args below meth c T locs cells slots) (hx : p.tables.exec = Jvm.exec) (hlk : meth.locks = false) {z z' : Int32} {t : FieldType} (hret : meth.sig.returnType = some t) (ht : t = .boolean ∨ t = .byte ∨ t = .char ∨ t = .short) (hd : decode c.code pc = .ok (.ireturn, 1)) (hz : nar t z = z') (hc : cells ≤ K) (hs : slots ≤ N) (hQ : Q (some (.int z')) T.heap locs) : Go p.tables e below (EndN s below Q K N) T (mkF m pc Ls (.int z :: st)) := by
  subst hz
  obtain ⟨fs, hr, hrun, hended, hW, hsame⟩ := X.leave (v := some (.int (nar t z))) (fun h => by rw [hret] at h; cases h) hlk
  exact ⟨_, retN X hx hret ht hd hr, hrun, _, _, hended, hQ, ⟨_, rfl⟩, hW, hsame.mono hc hs⟩
theorem endV (X : Stand p l e R s m args below meth c T locs cells slots) (hx : p.tables.exec = Jvm.exec) (hlk : meth.locks = false) (hret : meth.sig.returnType = none) (hd : decode c.code pc = .ok (.return_, 1)) (hc : cells ≤ K) (hs : slots ≤ N) (hQ : Q none T.heap locs) : Go p.tables e below (EndN s below Q K N) T (mkF m pc Ls []) := by
  obtain ⟨fs, hr, hrun, hended, hW, hsame⟩ := X.leave (v := none) (fun _ => rfl) hlk
  exact ⟨_, X.returnOut hx hret hd hr, hrun, _, _, hended, hQ, ⟨_, rfl⟩, hW, hsame.mono hc hs⟩
theorem retR (X : Stand p l e R s m args below meth c T locs cells slots) (hx : p.tables.exec = Jvm.exec) {v : Value} {t : FieldType} (hv : v.isRef = true) (hret : meth.sig.returnType = some t) (ht : t.isReference = true) (hd : decode c.code pc = .ok (.areturn, 1)) {fs : List Frame}
    (hl : ∀ (f : JFrame) (acts : List Action), f.method = m → f.locked = none → f.entered = [] → (doReturn e (T.setTop f) acts (some v)).1 = T.setFrames fs) : Steps p.tables e below (T.setTop (mkF m pc Ls (v :: st))) (T.setFrames fs) := by
  have hm' : T.vm.method? m = some meth := X.method'
  rcases ref_cases hv with rfl | ⟨a, rfl⟩
  all_goals
    show Steps p.tables e below (T.setTop { method := m, pc := pc, locals := Ls, stack := _ :: st, locked := none }) _
    jvm_step X.here [X.here.top, hx, hd, hm', hret, ht, Value.isRef]
    first | (intro acts; rw [hl _ acts rfl rfl rfl]) | rw [hl _ _ rfl rfl rfl]
    exact Steps.refl _
theorem endR (X : Stand p l e R s m args below meth c T locs cells slots) (hx : p.tables.exec = Jvm.exec) (hlk : meth.locks = false) {v : Value} {t : FieldType} (hv : v.isRef = true) (hret : meth.sig.returnType = some t) (ht : t.isReference = true) (hd : decode c.code pc = .ok (.areturn, 1)) (hc : cells ≤ K) (hs : slots ≤ N) (hQ : Q (some v) T.heap locs) : Go p.tables e below (EndN s below Q K N) T (mkF m pc Ls (v :: st)) := by
  obtain ⟨fs, hr, hrun, hended, hW, hsame⟩ := X.leave (v := some v) (fun h => by rw [hret] at h; cases h) hlk
  exact ⟨_, retR X hx hv hret ht hd hr, hrun, _, _, hended, hQ, ⟨_, rfl⟩, hW, hsame.mono hc hs⟩
/-- a body's contract: from the heap h0, with these arguments, it returns as Q says -/
abbrev Ct (l : Launch) (y : MethodName) (bytes : ByteArray) (maxL : Nat) (ret : Option FieldType) (rm : Room) (Z : State) (as' : Array Value) (h0 : Heap) (Q : Option Value → Heap → List Loc → Prop) : Prop :=
  MetFree l y (head1 [Jvm.Cond.code y bytes maxL ret] rm) (fun a U => a = as' ∧ Z.Warmed39 U.vm ∧ U.heap = h0) (fun _ _ _ _ _ => True) (fun _ U o U' => ∃ v L, o = .returned v ∧ Q v U'.heap L ∧ FrameEnd U o U' L rm.cells rm.slots)
theorem ct_of {y : MethodName} {bytes : ByteArray} {maxL : Nat} {ret : Option FieldType} {rm : Room} {as' : Array Value} {ws : List Jvm.Cond} (hpn : plainFor y = true)
    (body : ∀ (p : Program) (e : Env) (s : State) (m : MethodId) (below : List Frame) (meth : Method) (c : Code) (s₁ : State), Stand p l e rm s m as' below meth c s₁ [] 0 0 → p.tables.exec = Jvm.exec → c.code = bytes → c.maxLocals = maxL → meth.sig.returnType = ret → meth.name = y.name → meth.locks = false → s.vm.findClass y.cls = some m.cls → Z.Warmed39 s.vm → s.heap = h0 → s₁.heap = h0 → Go p.tables e below (EndN s below Q K N) s₁ (entryFrame m as' maxL)) :
    MetFree l y (head1 (Jvm.Cond.code y bytes maxL ret :: ws) rm) (fun a U => a = as' ∧ Z.Warmed39 U.vm ∧ U.heap = h0) (fun _ _ _ _ _ => True) (fun _ U o U' => ∃ v L, o = .returned v ∧ Q v U'.heap L ∧ FrameEnd U o U' L K N) := by
  refine MetFree.of_bodySF hpn hisR ?_
  intro p e s m args below meth c s₁ Bd hml0 hP hK
  obtain ⟨rfl, hZ, hh⟩ := hP
  have e0 : s₁.heap = h0 := by rw [← hh, Bd.state]; rfl
  obtain ⟨t, g1, g2, v, L, g3, g4, g5⟩ := body p e s m below meth c s₁ (Stand.of_body Bd) Bd.exec Bd.bytes hml0 Bd.returns (name_of_methodNamed Bd.named Bd.method).1 Bd.notSynchronized (findClass_of_methodNamed Bd.named) hZ hh e0
  exact ⟨t, _, g1, g2, g3, v, L, rfl, g4, g5⟩
theorem Ext.rfl' : Ext h h := ⟨Nat.le_refl _, fun _ _ q => q⟩
theorem Ext.trs (E : Ext h0 h) (E' : Ext h h') : Ext h0 h' := ⟨Nat.le_trans E.1 E'.1, fun a c q => E'.2 a c (E.2 a c q)⟩
theorem Ext.wr {a : Addr} {sl : Nat} {v : Value} (E : Ext h0 h) (W : Wr h h' a sl v) (q : h0.size ≤ a) : Ext h0 h' := by
  refine ⟨Nat.le_trans E.1 (Nat.le_of_eq W.size.symm), fun b c hb => ?_⟩
  obtain ⟨cb', h1, -, -, -, h5, -⟩ := wr_at W (E.2 b c hb)
  have : b ≠ a := Nat.ne_of_lt (Nat.lt_of_lt_of_le (Array.getElem?_eq_some_iff.mp hb).1 q)
  rw [h1, h5 this]
theorem Ext.kp {ws : List Addr} (E : Ext h0 h) (K : Keep h h' ws) (q : ∀ x ∈ ws, h0.size ≤ x) : Ext h0 h' :=
  ⟨Nat.le_trans E.1 K.1, fun b c hb => K.2.1 b c (E.2 b c hb) fun hm => absurd (q b hm) (Nat.not_le.mpr (Array.getElem?_eq_some_iff.mp hb).1)⟩
theorem Ext.keep (E : Ext h h') : Keep h h' [] := (Keep.refl h []).ext E
theorem w_arraylength (X : Stand p l e R s m args below meth c T locs cells slots) (hx : p.tables.exec = Jvm.exec) (hZ : Z.Warmed39 s.vm) (eT : T.heap = h) {a : Addr} {k : ClassId} {ty : FieldType} {n : Int32} {vs : List Value} {dv : Value} (A : Arv Z h a k ty n vs dv) (hd : decode c.code pc = .ok (.arraylength, 1)) {pc' : Nat} (hp : pc + 1 = pc') {P : State → Prop} (r : Go p.tables e below P T (mkF m pc' Ls (.int n :: st))) : Go p.tables e below P T (mkF m pc Ls (.ref a :: st)) := by
  obtain ⟨cl, Ar, -, S, M, -, -⟩ := A
  subst hp
  exact Go.next (fun t hr => X.arraylength hx (by rw [eT]; exact Ar.1) (State.isArrayOf_alike hZ.alike Ar.2.1) (g := mkF m pc Ls (.ref a :: st)) rfl rfl hd _ (by rw [len_of S M]; exact hr)) r
theorem w_caload (X : Stand p l e R s m args below meth c T locs cells slots) (hx : p.tables.exec = Jvm.exec) (hZ : Z.Warmed39 s.vm) (eT : T.heap = h) {a : Addr} {k : ClassId} {n j : Int32} {vs : List Value} {dv v : Value} (A : Arv Z h a k .char n vs dv) (hj : ¬ j < 0 ∧ j < n) (hv : vs.getD j.toNatClampNeg dv = v) (hd : decode c.code pc = .ok (.caload, 1)) {pc' : Nat} (hp : pc + 1 = pc') {P : State → Prop} (r : Go p.tables e below P T (mkF m pc' Ls (v :: st))) : Go p.tables e below P T (mkF m pc Ls (.int j :: .ref a :: st)) := by
  obtain ⟨cl, Ar, -, S, M, H, -⟩ := A
  subst hp
  exact Go.next (fun t hr => X.caload hx (by rw [eT]; exact Ar.1) (State.isArrayOf_alike hZ.alike Ar.2.1) Ar.2.2 (inb_of S hj) (H.at (inb_of S hj) hv) (g := mkF m pc Ls (.int j :: .ref a :: st)) rfl rfl hd _ hr) r
theorem w_baload (X : Stand p l e R s m args below meth c T locs cells slots) (hx : p.tables.exec = Jvm.exec) (hZ : Z.Warmed39 s.vm) (eT : T.heap = h) {a : Addr} {k : ClassId} {n j : Int32} {vs : List Value} {dv v : Value} (A : Arv Z h a k .byte n vs dv) (hj : ¬ j < 0 ∧ j < n) (hv : vs.getD j.toNatClampNeg dv = v) (hd : decode c.code pc = .ok (.baload, 1)) {pc' : Nat} (hp : pc + 1 = pc') {P : State → Prop} (r : Go p.tables e below P T (mkF m pc' Ls (v :: st))) : Go p.tables e below P T (mkF m pc Ls (.int j :: .ref a :: st)) := by
  obtain ⟨cl, Ar, -, S, M, H, -⟩ := A
  subst hp
  exact Go.next (fun t hr => X.baloadBytes hx (by rw [eT]; exact Ar.1) (State.isArrayOf_alike hZ.alike Ar.2.1) Ar.2.2 (inb_of S hj) (H.at (inb_of S hj) hv) (g := mkF m pc Ls (.int j :: .ref a :: st)) rfl rfl hd _ hr) r
theorem w_aaload (X : Stand p l e R s m args below meth c T locs cells slots) (hx : p.tables.exec = Jvm.exec) (hZ : Z.Warmed39 s.vm) (eT : T.heap = h) {a : Addr} {k : ClassId} {ty : FieldType} {n j : Int32} {vs : List Value} {dv v : Value} (A : Arv Z h a k ty n vs dv) (hty : ty.isReference = true) (hj : ¬ j < 0 ∧ j < n) (hv : vs.getD j.toNatClampNeg dv = v) (hd : decode c.code pc = .ok (.aaload, 1)) {pc' : Nat} (hp : pc + 1 = pc') {P : State → Prop} (r : Go p.tables e below P T (mkF m pc' Ls (v :: st))) : Go p.tables e below P T (mkF m pc Ls (.int j :: .ref a :: st)) := by
  obtain ⟨cl, Ar, -, S, M, H, -⟩ := A
  subst hp
  exact Go.next (fun t hr => X.aaload hx (by rw [eT]; exact Ar.1) (State.isArrayOf_alike hZ.alike Ar.2.1) hty Ar.2.2 (inb_of S hj) (H.at (inb_of S hj) hv) (g := mkF m pc Ls (.int j :: .ref a :: st)) rfl rfl hd _ hr) r
theorem w_castore (X : Stand p l e R s m args below meth c T locs cells slots) (hx : p.tables.exec = Jvm.exec) (hZ : Z.Warmed39 s.vm) (eT : T.heap = h) {a : Addr} {k : ClassId} {n j z : Int32} {vs : List Value} {dv : Value} (A : Arv Z h a k .char n vs dv) (hj : ¬ j < 0 ∧ j < n) (i : Nat) (hi : j.toNatClampNeg = i) (hl : i < vs.length) (hd : decode c.code pc = .ok (.castore, 1)) {pc' : Nat} (hp : pc + 1 = pc') {P : State → Prop}
    (r : ∀ T' h', Stand p l e R s m args below meth c T' (locs ++ [⟨a, i⟩]) cells slots → T'.heap = h' → Wr h h' a i (.int (nar .char z)) → Arv Z h' a k .char n (vs.set i (.int (nar .char z))) dv → Go p.tables e below P T' (mkF m pc' Ls st)) : Go p.tables e below P T (mkF m pc Ls (.int z :: .int j :: .ref a :: st)) := by
  obtain ⟨cl, Ar, q1, S, M, H, G⟩ := A
  subst hp
  obtain ⟨T', h', X', e', W, stp⟩ := stC X hx hZ eT Ar (j := j) (inb_of S hj) (g := mkF m pc Ls (.int z :: .int j :: .ref a :: st)) rfl rfl hd
  have W' : Wr h h' a i (.int (nar .char z)) := by rw [← hi]; exact W
  exact Go.next stp (r T' h' (by rw [← hi]; exact X') e' W' (Arv.set Ar q1 S M H G (fits_nar_char _) W i hi hl))
theorem w_bastore (X : Stand p l e R s m args below meth c T locs cells slots) (hx : p.tables.exec = Jvm.exec) (hZ : Z.Warmed39 s.vm) (eT : T.heap = h) {a : Addr} {k : ClassId} {n j z : Int32} {vs : List Value} {dv : Value} (A : Arv Z h a k .byte n vs dv) (hj : ¬ j < 0 ∧ j < n) (i : Nat) (hi : j.toNatClampNeg = i) (hl : i < vs.length) (hd : decode c.code pc = .ok (.bastore, 1)) {pc' : Nat} (hp : pc + 1 = pc') {P : State → Prop}
    (r : ∀ T' h', Stand p l e R s m args below meth c T' (locs ++ [⟨a, i⟩]) cells slots → T'.heap = h' → Wr h h' a i (.int z.toInt8.toInt32) → Arv Z h' a k .byte n (vs.set i (.int z.toInt8.toInt32)) dv → Go p.tables e below P T' (mkF m pc' Ls st)) : Go p.tables e below P T (mkF m pc Ls (.int z :: .int j :: .ref a :: st)) := by
  obtain ⟨cl, Ar, q1, S, M, H, G⟩ := A
  subst hp
  obtain ⟨T', h', X', e', W, stp⟩ := stB X hx hZ eT Ar (j := j) (inb_of S hj) (g := mkF m pc Ls (.int z :: .int j :: .ref a :: st)) rfl rfl hd
  have W' : Wr h h' a i (.int z.toInt8.toInt32) := by rw [← hi]; exact W
  exact Go.next stp (r T' h' (by rw [← hi]; exact X') e' W' (Arv.set Ar q1 S M H G (fits_nar_byte _) W i hi hl))
end WE

section WH
variable {p : Program} {l : Launch} {e : Env} {R : Room} {s : State} {m : MethodId} {args : Array Value} {below : List Frame} {meth : Method} {c : Code} {T : State} {locs : List Loc} {cells slots : Nat} {pc pc' : Nat} {Ls : Array Slot} {st stk : List Value} {P : State → Prop} {Z : State} {a0 : Array Value} {h : Heap}
theorem w_getF (X : Stand p l e R s m args below meth c T locs cells slots) (hx : p.tables.exec = Jvm.exec) (hZ : Z.Warmed39 s.vm) {own R0 O n d : String} {index : Nat} (hown : s.vm.findClass own = some m.cls) (w : (Jvm.Cond.fieldLink own index R0 n d).before a0 Z = true) (via : Via Z R0 O n d)
    (eT : T.heap = h) {a : Addr} {v : Value} (F : Fld Z h a O n d v) (hd : decode c.code pc = .ok (.getfield index, 3)) (hp : pc + 3 = pc') (r : ∀ T', Stand p l e R s m args below meth c T' locs cells slots → T'.heap = h → Go p.tables e below P T' (mkF m pc' Ls (v :: st))) : Go p.tables e below P T (mkF m pc Ls (.ref a :: st)) := by
  subst hp
  obtain ⟨T', X', e', stp⟩ := getF X hx hZ hown (host := "") (Or.inl w) via eT F (g := mkF m pc Ls (.ref a :: st)) rfl rfl hd
  exact Go.next stp (r T' X' e')
theorem w_getS (X : Stand p l e R s m args below meth c T locs cells slots) (hx : p.tables.exec = Jvm.exec) (hZ : Z.Warmed39 s.vm) {own R0 O n d : String} {index : Nat} (hown : s.vm.findClass own = some m.cls) (w : (Jvm.Cond.fieldLink own index R0 n d).before a0 Z = true) (via : Via Z R0 O n d)
    (eT : T.heap = h) {v : Value} (F : Sta Z h O n d v) (hd : decode c.code pc = .ok (.getstatic index, 3)) (hp : pc + 3 = pc') (r : ∀ T', Stand p l e R s m args below meth c T' locs cells slots → T'.heap = h → Go p.tables e below P T' (mkF m pc' Ls (v :: st))) : Go p.tables e below P T (mkF m pc Ls st) := by
  subst hp
  obtain ⟨T', X', e', stp⟩ := getS2 X hx hZ hown (host := "") (Or.inl w) via eT F (g := mkF m pc Ls st) rfl hd
  exact Go.next stp (r T' X' e')
theorem w_putF (X : Stand p l e R s m args below meth c T locs cells slots) (hx : p.tables.exec = Jvm.exec) (hZ : Z.Warmed39 s.vm) {own R0 O n d C : String} {index kk : Nat} {ty : FieldType} (hown : s.vm.findClass own = some m.cls) (w : (Jvm.Cond.fieldLink own index R0 n d).before a0 Z = true) (via : Via Z R0 O n d)
    (eT : T.heap = h) {a : Addr} {v old : Value} (F : Fld Z h a O n d old) (E : Exa Z h a C) (L : (Jvm.Cond.lays C O n d).before a0 Z = true ∨ ((Jvm.Cond.laysFinal C O n d).before a0 Z = true ∧ own = O ∧ meth.name = "<init>")) (wi : (Jvm.Cond.instantiable C kk).before a0 Z = true)
    (hty : parseFieldDescriptor d = some ty) (hn : narrow ty v = v) (hf : fits ty v = true) (hd : decode c.code pc = .ok (.putfield index, 3)) (hp : pc + 3 = pc')
    (r : ∀ T' h', Stand p l e R s m args below meth c T' (locs ++ [⟨a, Jvm.RoadKit.slotOf Z O n d⟩]) cells slots → T'.heap = h' → Wr h h' a (Jvm.RoadKit.slotOf Z O n d) v → Go p.tables e below P T' (mkF m pc' Ls st)) : Go p.tables e below P T (mkF m pc Ls (v :: .ref a :: st)) := by
  subst hp
  obtain ⟨T', h', X', e', W, stp⟩ := putF X hx hZ hown (host := "") (Or.inl w) via eT F E L wi hty hn hf (g := mkF m pc Ls (v :: .ref a :: st)) rfl rfl hd
  exact Go.next stp (r T' h' X' e' W)
theorem w_new (X : Stand p l e R s m args below meth c T locs cells slots) (hx : p.tables.exec = Jvm.exec) (hZ : Z.Warmed39 s.vm) {own C : String} {index n : Nat} (hown : s.vm.findClass own = some m.cls) (w : (Jvm.Cond.classLink own index C).before a0 Z = true) (wi : (Jvm.Cond.instantiable C n).before a0 Z = true) (wz : (Jvm.Cond.initialized C).before a0 Z = true) (eT : T.heap = h)
    (hd : decode c.code pc = .ok (.new index, 3)) (hc : cells + 1 ≤ R.cells) (hl : slots + n ≤ R.slots) (hp : pc + 3 = pc')
    (r : ∀ T' h' b, h.size = b → Stand p l e R s m args below meth c T' locs (cells + 1) (slots + n) → T'.heap = h' → Ext h h' → Exa Z h' b C → (∀ {O nm d : String} {ty : FieldType}, Laid Z a0 C O nm d → parseFieldDescriptor d = some ty → Fld Z h' b O nm d (defaultValue ty)) → (∃ cell : Cell, h'[b]? = some cell ∧ cell.vm = .none ∧ cell.monitor = {}) → Go p.tables e below P T' (mkF m pc' Ls (.ref b :: st))) : Go p.tables e below P T (mkF m pc Ls st) := by
  subst hp
  obtain ⟨T', h', X', e', E, A, D, U, stp⟩ := newO X hx hZ hown w wi wz eT (g := mkF m pc Ls st) rfl hd hc hl
  exact Go.next stp (r T' h' _ rfl X' e' E A D U)
theorem w_newarray (X : Stand p l e R s m args below meth c T locs cells slots) (hx : p.tables.exec = Jvm.exec) (hZ : Z.Warmed39 s.vm) {aty : ArrayType} {ty : FieldType} {dv : Value} (hty : newarray.typeOf aty = ty) (hdv : defaultValue ty = dv) (w : (Jvm.Cond.arrayClass ty).before a0 Z = true) (eT : T.heap = h) {n : Int32} (hd : decode c.code pc = .ok (.newarray aty, 2)) (hn : ¬ n < 0) {cap : Nat} (hcap : n.toNatClampNeg ≤ cap) (hb : cap * 8 ≤ 536870912) (hc : cells + 1 ≤ R.cells) (hl : slots + cap ≤ R.slots) (hp : pc + 2 = pc')
    (r : ∀ T' h' b k, h.size = b → Stand p l e R s m args below meth c T' locs (cells + 1) (slots + cap) → T'.heap = h' → Ext h h' → Arv Z h' b k ty n (List.replicate n.toNatClampNeg dv) dv → Go p.tables e below P T' (mkF m pc' Ls (.ref b :: st))) : Go p.tables e below P T (mkF m pc Ls (.int n :: st)) := by
  subst hp hty hdv
  obtain ⟨T', h', k, X', e', E, A, stp⟩ := newP X hx hZ w eT (g := mkF m pc Ls (.int n :: st)) rfl hd rfl hn hcap hb hc hl
  exact Go.next stp (r T' h' _ k rfl X' e' E ((Arv.new A hn).pad (pad_rep [] _ _)))
abbrev BackQ (l : Launch) (R : Room) (p : Program) (e : Env) (below : List Frame) (s : State) (args : Array Value) (y : MethodName) (W : Nat) (as' : Array Value) (h : Heap) (kc ks : Nat) (Q : Option Value → Heap → List Loc → Prop) : Prop :=
  Back l R p e below s args y 3 W (fun A a => a = as' ∧ A.U.heap = h ∧ A.cells + kc ≤ R.cells ∧ A.slots + ks ≤ R.slots) (fun A _ v B => ∃ L, Q v B.U.heap L ∧ B.locs = A.locs ++ L ∧ B.cells = A.cells + kc ∧ B.slots = A.slots + ks)
theorem backC {y : MethodName} {bytes : ByteArray} {maxL : Nat} {ret : Option FieldType} {rm : Room} {W : Nat} {as' : Array Value} {Q : Option Value → Heap → List Loc → Prop} (hM : Ct l y bytes maxL ret rm Z as' h Q) (hZ : Z.Warmed39 s.vm) (wc : (Jvm.Cond.code y bytes maxL ret).before a0 Z = true) (wz : (Jvm.Cond.initialized y.cls).before a0 Z = true) (hf : rm.frames + 1 ≤ R.frames) (hl : W + (maxL + 11) + rm.locals ≤ R.locals) : BackQ l R p e below s args y W as' h rm.cells rm.slots Q :=
  backOf hM hZ wc wz hf hl
theorem w_static (X : Stand p l e R s m args below meth c T locs cells slots) (hx : p.tables.exec = Jvm.exec) (hZ : Z.Warmed39 s.vm) {own : String} {index : Nat} {y : MethodName} {bytes : ByteArray} {maxL : Nat} {ret : Option FieldType} {sig : MethodDescriptor} (hown : s.vm.findClass own = some m.cls) (w1 : (Jvm.Cond.methodLink own index y).before a0 Z = true) (w2 : (Jvm.Cond.static y).before a0 Z = true) (w3 : (Jvm.Cond.initialized y.cls).before a0 Z = true) (w4 : (Jvm.Cond.code y bytes maxL ret).before a0 Z = true)
    (hy : y.cls ≠ "java/lang/invoke/MethodHandle" ∧ y.cls ≠ "java/lang/invoke/VarHandle") {W kc ks : Nat} {as' : Array Value} {Q : Option Value → Heap → List Loc → Prop} (hK : BackQ l R p e below s args y W as' h kc ks Q) (eT : T.heap = h) (hsize : Ls.size = c.maxLocals) {argsL : List Value} (hsig : parseMethodDescriptor y.desc = some sig) (hlen : argsL.length = sig.parameters.length) (hstk : stk = argsL.reverse ++ st) (has : argsL.toArray = as') (hW : (st.map fun v => v.category).sum ≤ W) (hd : decode c.code pc = .ok (.invokestatic index, 3)) (hc : cells + kc ≤ R.cells) (hs : slots + ks ≤ R.slots) (hp : pc + 3 = pc')
    (r : ∀ T' v L, Stand p l e R s m args below meth c T' (locs ++ L) (cells + kc) (slots + ks) → Q v T'.heap L → Go p.tables e below P T' (mkF m pc' Ls (v.toList ++ st))) : Go p.tables e below P T (mkF m pc Ls stk) := by
  subst hp hstk
  obtain ⟨v, _, ⟨T', L', k', n'⟩, -, X', ⟨Lc, hQ, l', y', z'⟩, stp⟩ := Jvm.LawKit.callS X hx (y := y) hown (mvT hZ w1) (mvT hZ w2) (mvT hZ w3) (mvT hZ w4) hy hK (g := mkF m pc Ls (argsL.reverse ++ st)) rfl hsize (argsL := argsL) (rest := st) (lenOf hsig hlen) rfl (by show 2 * 0 + _ ≤ _; omega) hd (fun _ _ => ⟨has, eT, hc, hs⟩)
  dsimp only at X' hQ l' y' z' stp
  subst l' y' z'
  exact Go.next stp (r T' v Lc X' hQ)
theorem w_virtual (X : Stand p l e R s m args below meth c T locs cells slots) (hx : p.tables.exec = Jvm.exec) (hZ : Z.Warmed39 s.vm) {own C : String} {index : Nat} {y z : MethodName} {sig : MethodDescriptor} (hown : s.vm.findClass own = some m.cls) (w1 : (Jvm.Cond.methodLink own index y).before a0 Z = true) (w2 : (Jvm.Cond.declares y).before a0 Z = true) (hnf : NotFace s y) (w3 : (Jvm.Cond.selects C y z).before a0 Z = true) (w4 : (Jvm.Cond.instanceMethod z).before a0 Z = true)
    (hy : y.cls ≠ "java/lang/invoke/MethodHandle" ∧ y.cls ≠ "java/lang/invoke/VarHandle") {W kc ks : Nat} {as' : Array Value} {Q : Option Value → Heap → List Loc → Prop} (hK : BackQ l R p e below s args z W as' h kc ks Q) (eT : T.heap = h) {b : Addr} (E : Exa Z h b C) (hsize : Ls.size = c.maxLocals) {argsL : List Value} (hsig : parseMethodDescriptor y.desc = some sig) (hlen : argsL.length = sig.parameters.length) (hstk : stk = argsL.reverse ++ .ref b :: st) (has : (.ref b :: argsL).toArray = as') (hW : (st.map fun v => v.category).sum ≤ W) (hd : decode c.code pc = .ok (.invokevirtual index, 3)) (hc : cells + kc ≤ R.cells) (hs : slots + ks ≤ R.slots) (hp : pc + 3 = pc')
    (r : ∀ T' v L, Stand p l e R s m args below meth c T' (locs ++ L) (cells + kc) (slots + ks) → Q v T'.heap L → Go p.tables e below P T' (mkF m pc' Ls (v.toList ++ st))) : Go p.tables e below P T (mkF m pc Ls stk) := by
  subst hp hstk
  obtain ⟨cq, kq, qa, qb, qc⟩ := isOf hZ eT E
  obtain ⟨v, _, ⟨T', L', k', n'⟩, -, X', ⟨Lc, hQ, l', y', z'⟩, stp⟩ := X.virtualBack hx (y := y) (z := z) hown (mvT hZ w1) (mvT hZ w2) hnf (mvT hZ w3) (mvT hZ w4) hy hK qa qc (g := mkF m pc Ls (argsL.reverse ++ .ref b :: st)) rfl hsize (Steps.refl _) (argsL := argsL) (rest := st) (lenOf hsig hlen) rfl (by show 2 * 0 + _ ≤ _; omega) hd (fun _ _ => ⟨has, eT, hc, hs⟩)
  dsimp only at X' hQ l' y' z' stp
  subst l' y' z'
  exact Go.jump stp (r T' v Lc X' hQ)
theorem w_special (X : Stand p l e R s m args below meth c T locs cells slots) (hx : p.tables.exec = Jvm.exec) (hZ : Z.Warmed39 s.vm) {own : String} {index : Nat} {y : MethodName} {bytes : ByteArray} {maxL : Nat} {sig : MethodDescriptor} (hy1 : y.name = "<init>") (hown : s.vm.findClass own = some m.cls) (w1 : (Jvm.Cond.methodLink own index y).before a0 Z = true) (w2 : (Jvm.Cond.instanceMethod y).before a0 Z = true) (w4 : (Jvm.Cond.code y bytes maxL none).before a0 Z = true)
    (hy : y.cls ≠ "java/lang/invoke/MethodHandle" ∧ y.cls ≠ "java/lang/invoke/VarHandle") {W kc ks : Nat} {as' : Array Value} {Q : Option Value → Heap → List Loc → Prop} (hK : BackQ l R p e below s args y W as' h kc ks Q) (eT : T.heap = h) {b : Addr} (hsize : Ls.size = c.maxLocals) {argsL : List Value} (hsig : parseMethodDescriptor y.desc = some sig) (hlen : argsL.length = sig.parameters.length) (hstk : stk = argsL.reverse ++ .ref b :: st) (has : (.ref b :: argsL).toArray = as') (hW : (st.map fun v => v.category).sum ≤ W) (hd : decode c.code pc = .ok (.invokespecial index, 3)) (hc : cells + kc ≤ R.cells) (hs : slots + ks ≤ R.slots) (hp : pc + 3 = pc')
    (r : ∀ T' v L, Stand p l e R s m args below meth c T' (locs ++ L) (cells + kc) (slots + ks) → Q v T'.heap L → Go p.tables e below P T' (mkF m pc' Ls (v.toList ++ st))) : Go p.tables e below P T (mkF m pc Ls stk) := by
  subst hp hstk
  obtain ⟨v, _, ⟨T', L', k', n'⟩, -, X', ⟨Lc, hQ, l', y', z'⟩, stp⟩ := X.specialBack hx (y := y) hy1 hown (mvT hZ w1) (mvT hZ w2) (mvT hZ w4) hy hK (g := mkF m pc Ls (argsL.reverse ++ .ref b :: st)) rfl hsize (Steps.refl _) (a := b) (argsL := argsL) (rest := st) (lenOf hsig hlen) rfl (by show 2 * 0 + _ ≤ _; omega) hd (fun _ _ => ⟨has, eT, hc, hs⟩)
  dsimp only at X' hQ l' y' z' stp
  subst l' y' z'
  exact Go.jump stp (r T' v Lc X' hQ)
theorem w_initO (X : Stand p l e R s m args below meth c T locs cells slots) (hx : p.tables.exec = Jvm.exec) (hZ : Z.Warmed39 s.vm) {own : String} {idx : Nat} (hown : s.vm.findClass own = some m.cls) (w1 : (Jvm.Cond.methodLink own idx Lib.objectInit).before a0 Z = true) (w2 : (Jvm.Cond.instanceMethod Lib.objectInit).before a0 Z = true)
    (w3 : (Jvm.Cond.code Lib.objectInit ⟨#[0xb1]⟩ 1 none).before a0 Z = true) (eT : T.heap = h) (hsize : Ls.size = c.maxLocals) {a : Addr} (hd : decode c.code pc = .ok (.invokespecial idx, 3)) (hf : 1 ≤ R.frames) {W : Nat} (hW : (st.map fun v => v.category).sum ≤ W) (hl : W + 12 ≤ R.locals) (hp : pc + 3 = pc') (r : ∀ T', Stand p l e R s m args below meth c T' locs cells slots → T'.heap = h → Go p.tables e below P T' (mkF m pc' Ls st)) : Go p.tables e below P T (mkF m pc Ls (.ref a :: st)) := by
  subst hp
  obtain ⟨T', X', e', stp⟩ := initO X hx hZ hown w1 w2 w3 eT (g := mkF m pc Ls (.ref a :: st)) rfl hsize rfl hd hf (W := W) (by show 2 * 0 + _ ≤ _; omega) hl
  exact Go.next stp (r T' X' e')
theorem w_castY (X : Stand p l e R s m args below meth c T locs cells slots) (hx : p.tables.exec = Jvm.exec) (hZ : Z.Warmed39 s.vm) {own K : String} {index : Nat} (hown : s.vm.findClass own = some m.cls) (w : (Jvm.Cond.classLink own index K).before a0 Z = true) (eT : T.heap = h) {a : Addr} (F : Ins Z h a K true) (hd : decode c.code pc = .ok (.checkcast index, 3)) (hp : pc + 3 = pc') (r : ∀ T', Stand p l e R s m args below meth c T' locs cells slots → T'.heap = h → Go p.tables e below P T' (mkF m pc' Ls (.ref a :: st))) : Go p.tables e below P T (mkF m pc Ls (.ref a :: st)) := by
  subst hp
  obtain ⟨T', X', e', stp⟩ := castY X hx hZ hown w eT F (g := mkF m pc Ls (.ref a :: st)) rfl rfl hd
  exact Go.next stp (r T' X' e')
theorem w_instY (X : Stand p l e R s m args below meth c T locs cells slots) (hx : p.tables.exec = Jvm.exec) (hZ : Z.Warmed39 s.vm) {own K : String} {index : Nat} (hown : s.vm.findClass own = some m.cls) (w : (Jvm.Cond.classLink own index K).before a0 Z = true) (eT : T.heap = h) {a : Addr} (F : Ins Z h a K true) (hd : decode c.code pc = .ok (.instanceof index, 3)) (hp : pc + 3 = pc') (r : ∀ T', Stand p l e R s m args below meth c T' locs cells slots → T'.heap = h → Go p.tables e below P T' (mkF m pc' Ls (.int 1 :: st))) : Go p.tables e below P T (mkF m pc Ls (.ref a :: st)) := by
  subst hp
  obtain ⟨T', X', e', stp⟩ := instY X hx hZ hown w eT F (g := mkF m pc Ls (.ref a :: st)) rfl rfl hd
  exact Go.next stp (r T' X' e')
theorem w_cloneA (X : Stand p l e R s m args below meth c T locs cells slots) (hx : p.tables.exec = Jvm.exec) (hZ : Z.Warmed39 s.vm) {own ad : String} {index : Nat} (hown : s.vm.findClass own = some m.cls)
    (w1 : (Jvm.Cond.methodLink own index ⟨ad, "clone", "()Ljava/lang/Object;"⟩).before a0 Z = true) (w2 : (Jvm.Cond.sameMethod ad "java/lang/Object" "clone" "()Ljava/lang/Object;").before a0 Z = true) (w3 : (Jvm.Cond.native ⟨"java/lang/Object", "clone", "()Ljava/lang/Object;"⟩).before a0 Z = true)
    (w4 : (Jvm.Cond.instanceMethod ⟨"java/lang/Object", "clone", "()Ljava/lang/Object;"⟩).before a0 Z = true) (w5 : (Jvm.Cond.selects ad ⟨ad, "clone", "()Ljava/lang/Object;"⟩ ⟨"java/lang/Object", "clone", "()Ljava/lang/Object;"⟩).before a0 Z = true) (w6 : (Jvm.Cond.castable ad "java/lang/Cloneable").before a0 Z = true)
    (eT : T.heap = h) {a : Addr} {k : ClassId} {ty : FieldType} {n : Int32} {vs : List Value} {dv : Value} (A : Arv Z h a k ty n vs dv) (E : Exa Z h a ad) (hsize : Ls.size = c.maxLocals) (hd : decode c.code pc = .ok (.invokevirtual index, 3))
    (hf : 1 ≤ R.frames) {W cap : Nat} (hW : (st.map fun v => v.category).sum ≤ W) (hl : W + 14 ≤ R.locals) (hcap : n.toNatClampNeg ≤ cap) (hc : cells + 1 ≤ R.cells) (hsl : slots + cap ≤ R.slots) (hp : pc + 3 = pc')
    (r : ∀ T' h' b, h.size = b → Stand p l e R s m args below meth c T' locs (cells + 1) (slots + cap) → T'.heap = h' → Ext h h' → Arv Z h' b k ty n vs dv → Exa Z h' b ad → Go p.tables e below P T' (mkF m pc' Ls (.ref b :: st))) : Go p.tables e below P T (mkF m pc Ls (.ref a :: st)) := by
  subst hp
  obtain ⟨cl, Ar, q1, S, M, H, G⟩ := A
  have F : FitC Z cl := fitC_of Ar fun i hi v hv => by rw [H i hi] at hv; cases hv; exact G i hi
  obtain ⟨T', h', X', e', Ex, A', E', stp⟩ := cloneA X hx hZ hown w1 w2 w3 w4 w5 w6 eT Ar E F (g := mkF m pc Ls (.ref a :: st)) rfl hsize rfl hd hf (W := W) (cap := cap) (by show 2 * 0 + _ ≤ _; omega) hl (by rw [S]; exact hcap) hc hsl
  exact Go.next stp (r T' h' _ rfl X' e' Ex ⟨cloneOf cl, A', q1, S, M, H, G⟩ E')
end WH
theorem w_ldcI {p : Program} {l : Launch} {e : Env} {R : Room} {s : State} {m : MethodId} {args : Array Value} {below : List Frame} {meth : Method} {c : Code} {T : State} {locs : List Loc} {cells slots : Nat} {pc pc' : Nat} {Ls : Array Slot} {st : List Value} {P : State → Prop} {Z : State} {a0 : Array Value}
    (X : Stand p l e R s m args below meth c T locs cells slots) (hx : p.tables.exec = Jvm.exec) (hZ : Z.Warmed39 s.vm) {own : String} {index : Nat} {v : Int32} (hown : s.vm.findClass own = some m.cls) (w : (Jvm.Cond.constant own index v).before a0 Z = true) (hd : decode c.code pc = .ok (.ldc index, 2)) (hp : pc + 2 = pc') (r : Go p.tables e below P T (mkF m pc' Ls (.int v :: st))) : Go p.tables e below P T (mkF m pc Ls st) := by
  subst hp
  exact Go.next (fun t hr => X.ldcI hx hown (mvT hZ w) (g := mkF m pc Ls st) rfl hd hr) r

/-! the same for walks that may load String constants (the base's tables move: s.setVm vm0) -/
section WW
variable {p : Program} {l : Launch} {e : Env} {R : Room} {s : State} {vm0 : Vm} {m : MethodId} {args : Array Value} {below : List Frame} {meth : Method} {c : Code} {T : State} {locs : List Loc} {cells slots : Nat} {pc pc' : Nat} {Ls : Array Slot} {st stk : List Value} {P : State → Prop} {Z : State} {a0 : Array Value} {h h0 : Heap} {EL : List (String × Nat)} {Q : Option Value → Heap → List Loc → Prop} {K N k0 : Nat}
/-- how such a body ends -/
def EndW (Z : State) (EL : List (String × Nat)) (s : State) (below : List Frame) (Q : Option Value → Heap → List Loc → Prop) (K N : Nat) (t : State) : Prop := t.status = .running ∧ ∃ v L, Ended t below (.returned v) ∧ Q v t.heap L ∧ CHr Z EL s.vm s.heap t.vm t.heap ∧ ReturnedEndW s (.returned v) t L K N
/-- what a wide walk carries from step to step: the constants' book, and that the tables only grew -/
def Wd (Z : State) (a0 : Array Value) (EL : List (String × Nat)) (s : State) (own : String) (cl : ClassId) (vm0 : Vm) (h : Heap) : Prop := (∃ k0, s.Since vm0 k0 ∧ k0 ≤ h.size) ∧ Z.Warmed39 vm0 ∧ vm0.findClass own = some cl ∧ CHr Z EL s.vm s.heap vm0 h ∧ EW Z a0 EL
theorem Wd.ext {own : String} {cl : ClassId} {h' : Heap} (W : Wd Z a0 EL s own cl vm0 h) (E : Ext h h') : Wd Z a0 EL s own cl vm0 h' := by
  obtain ⟨⟨k0, q1, q2⟩, q3, q4, q5, q6⟩ := W
  exact ⟨⟨k0, q1, Nat.le_trans q2 E.1⟩, q3, q4, q5.trans (CHr.ext E q5.1), q6⟩
theorem Wd.wr {own : String} {cl : ClassId} {h' : Heap} {a : Addr} {sl : Nat} {v : Value} (D : Wd Z a0 EL s own cl vm0 h) (W : Wr h h' a sl v) (S : Safe Z EL vm0 h a) : Wd Z a0 EL s own cl vm0 h' := by
  obtain ⟨⟨k0, q1, q2⟩, q3, q4, q5, q6⟩ := D
  exact ⟨⟨k0, q1, by rw [W.size]; exact q2⟩, q3, q4, q5.trans (CHr.wr W S q5.1), q6⟩
theorem Wd.keep {own : String} {cl : ClassId} {h' : Heap} {ws : List Addr} (D : Wd Z a0 EL s own cl vm0 h) (Kp : Keep h h' ws) (S : ∀ x ∈ ws, Safe Z EL vm0 h x) : Wd Z a0 EL s own cl vm0 h' := by
  obtain ⟨⟨k0, q1, q2⟩, q3, q4, q5, q6⟩ := D
  exact ⟨⟨k0, q1, Nat.le_trans q2 Kp.1⟩, q3, q4, q5.trans (CHr.keep Kp S q5.1), q6⟩
theorem Wd.zw {own : String} {cl : ClassId} (D : Wd Z a0 EL s own cl vm0 h) : Z.Warmed39 (s.setVm vm0).vm := D.2.1
theorem Wd.ow {own : String} {cl : ClassId} (D : Wd Z a0 EL s own cl vm0 h) : (s.setVm vm0).vm.findClass own = some cl := D.2.2.1
theorem Wd.end_ {own : String} (D : Wd Z a0 EL s own m.cls vm0 h) (X : Stand p l e R (s.setVm vm0) m args below meth c T locs cells slots) (eT : T.heap = h) : CHr Z EL s.vm s.heap T.vm T.heap := by
  subst eT; exact D.2.2.2.1.trans (CHv.at X D.2.1 D.2.2.2.2 D.2.2.2.1.1)
theorem endIW {own : String} (X : Stand p l e R (s.setVm vm0) m args below meth c T locs cells slots) (hx : p.tables.exec = Jvm.exec) (D : Wd Z a0 EL s own m.cls vm0 h) (eT : T.heap = h) (hlk : meth.locks = false) {z : Int32} (hret : meth.sig.returnType = some .int) (hd : decode c.code pc = .ok (.ireturn, 1)) (hc : cells ≤ K) (hs : slots ≤ N) (hQ : Q (some (.int z)) T.heap locs) : Go p.tables e below (EndW Z EL s below Q K N) T (mkF m pc Ls (.int z :: st)) := by
  obtain ⟨k0, q1, q2⟩ := D.1
  obtain ⟨fs, hr, hrun, hended, h1, h2, h3, h4⟩ := X.leaveW q1 (by rw [eT]; exact q2) (v := some (.int z)) (fun h => by rw [hret] at h; cases h) hlk
  exact ⟨_, retI X hx hret hd hr, hrun, _, _, hended, hQ, (show CHr Z EL s.vm s.heap T.vm T.heap from D.end_ X eT), h1, h2, h3, h4.mono hc hs⟩
theorem endZW {own : String} (X : Stand p l e R (s.setVm vm0) m args below meth c T locs cells slots) (hx : p.tables.exec = Jvm.exec) (D : Wd Z a0 EL s own m.cls vm0 h) (eT : T.heap = h) (hlk : meth.locks = false) {z z' : Int32} {t : FieldType} (hret : meth.sig.returnType = some t) (ht : t = .boolean ∨ t = .byte ∨ t = .char ∨ t = .short) (hd : decode c.code pc = .ok (.ireturn, 1)) (hz : nar t z = z') (hc : cells ≤ K) (hs : slots ≤ N) (hQ : Q (some (.int z')) T.heap locs) : Go p.tables e below (EndW Z EL s below Q K N) T (mkF m pc Ls (.int z :: st)) := by
  subst hz
  obtain ⟨k0, q1, q2⟩ := D.1
  obtain ⟨fs, hr, hrun, hended, h1, h2, h3, h4⟩ := X.leaveW q1 (by rw [eT]; exact q2) (v := some (.int (nar t z))) (fun h => by rw [hret] at h; cases h) hlk
  exact ⟨_, retN X hx hret ht hd hr, hrun, _, _, hended, hQ, (show CHr Z EL s.vm s.heap T.vm T.heap from D.end_ X eT), h1, h2, h3, h4.mono hc hs⟩
theorem endVW {own : String} (X : Stand p l e R (s.setVm vm0) m args below meth c T locs cells slots) (hx : p.tables.exec = Jvm.exec) (D : Wd Z a0 EL s own m.cls vm0 h) (eT : T.heap = h) (hlk : meth.locks = false) (hret : meth.sig.returnType = none) (hd : decode c.code pc = .ok (.return_, 1)) (hc : cells ≤ K) (hs : slots ≤ N) (hQ : Q none T.heap locs) : Go p.tables e below (EndW Z EL s below Q K N) T (mkF m pc Ls []) := by
  obtain ⟨k0, q1, q2⟩ := D.1
  obtain ⟨fs, hr, hrun, hended, h1, h2, h3, h4⟩ := X.leaveW q1 (by rw [eT]; exact q2) (v := none) (fun _ => rfl) hlk
  exact ⟨_, X.returnOut hx hret hd hr, hrun, _, _, hended, hQ, (show CHr Z EL s.vm s.heap T.vm T.heap from D.end_ X eT), h1, h2, h3, h4.mono hc hs⟩
theorem endRW {own : String} (X : Stand p l e R (s.setVm vm0) m args below meth c T locs cells slots) (hx : p.tables.exec = Jvm.exec) (D : Wd Z a0 EL s own m.cls vm0 h) (eT : T.heap = h) (hlk : meth.locks = false) {v : Value} {t : FieldType} (hv : v.isRef = true) (hret : meth.sig.returnType = some t) (ht : t.isReference = true) (hd : decode c.code pc = .ok (.areturn, 1)) (hc : cells ≤ K) (hs : slots ≤ N) (hQ : Q (some v) T.heap locs) : Go p.tables e below (EndW Z EL s below Q K N) T (mkF m pc Ls (v :: st)) := by
  obtain ⟨k0, q1, q2⟩ := D.1
  obtain ⟨fs, hr, hrun, hended, h1, h2, h3, h4⟩ := X.leaveW q1 (by rw [eT]; exact q2) (v := some v) (fun h => by rw [hret] at h; cases h) hlk
  exact ⟨_, retR X hx hv hret ht hd hr, hrun, _, _, hended, hQ, (show CHr Z EL s.vm s.heap T.vm T.heap from D.end_ X eT), h1, h2, h3, h4.mono hc hs⟩
abbrev CtW (l : Launch) (y : MethodName) (bytes : ByteArray) (maxL : Nat) (ret : Option FieldType) (rm : Room) (Z : State) (EL : List (String × Nat)) (as' : Array Value) (h0 : Heap) (Q : Option Value → Heap → List Loc → Prop) : Prop :=
  MetFree l y (head1 [Jvm.Cond.code y bytes maxL ret] rm) (fun a U => a = as' ∧ Z.Warmed39 U.vm ∧ U.heap = h0 ∧ CHv Z EL U.vm h0) (fun _ _ _ _ _ => True) (fun _ U o U' => ∃ v L, o = .returned v ∧ Q v U'.heap L ∧ CHr Z EL U.vm U.heap U'.vm U'.heap ∧ ReturnedEndW U o U' L rm.cells rm.slots)
theorem ct_ofW {y : MethodName} {bytes : ByteArray} {maxL : Nat} {ret : Option FieldType} {rm : Room} {as' : Array Value} {ws : List Jvm.Cond} (hpn : plainFor y = true) (hEL : EW Z a0 EL)
    (body : ∀ (p : Program) (e : Env) (s : State) (m : MethodId) (below : List Frame) (meth : Method) (c : Code) (s₁ : State), Stand p l e rm (s.setVm s.vm) m as' below meth c s₁ [] 0 0 → p.tables.exec = Jvm.exec → c.code = bytes → c.maxLocals = maxL → meth.sig.returnType = ret → meth.name = y.name → meth.locks = false → Wd Z a0 EL s y.cls m.cls s.vm h0 → s.heap = h0 → s₁.heap = h0 → Go p.tables e below (EndW Z EL s below Q K N) s₁ (entryFrame m as' maxL)) :
    MetFree l y (head1 (Jvm.Cond.code y bytes maxL ret :: ws) rm) (fun a U => a = as' ∧ Z.Warmed39 U.vm ∧ U.heap = h0 ∧ CHv Z EL U.vm h0) (fun _ _ _ _ _ => True) (fun _ U o U' => ∃ v L, o = .returned v ∧ Q v U'.heap L ∧ CHr Z EL U.vm U.heap U'.vm U'.heap ∧ ReturnedEndW U o U' L K N) := by
  refine MetFree.of_bodySF hpn hisR ?_
  intro p e s m args below meth c s₁ Bd hml0 hP hK
  obtain ⟨rfl, hZ, hh, hCH⟩ := hP
  have e0 : s₁.heap = h0 := by rw [← hh, Bd.state]; rfl
  have W : Wd Z a0 EL s y.cls m.cls s.vm h0 := ⟨⟨0, (State.WarmedH.refl s).since 0, Nat.zero_le _⟩, hZ, findClass_of_methodNamed Bd.named, by rw [hh]; exact CHr.refl hCH, hEL⟩
  obtain ⟨t, g1, g2, v, L, g3, g4, g5, g6⟩ := body p e s m below meth c s₁ (Stand.of_body Bd) Bd.exec Bd.bytes hml0 Bd.returns (name_of_methodNamed Bd.named Bd.method).1 Bd.notSynchronized W hh e0
  exact ⟨t, _, g1, g2, g3, v, L, rfl, g4, g5, g6⟩
/-- ldc of a String constant whose text is known -/
theorem w_ldcS {own : String} (X : Stand p l e R (s.setVm vm0) m args below meth c T locs cells slots) (hx : p.tables.exec = Jvm.exec) (D : Wd Z a0 EL s own m.cls vm0 h) {text : String} {index : Nat} (w : (Jvm.Cond.stringLink own index text).before a0 Z = true) (wS : ∀ a ∈ Bundle.stringAtoms, a.before a0 Z = true) (eT : T.heap = h) (hmem : (own, index) ∈ EL)
    {vs : List Value} {z : Int32} (ht : (∀ c ∈ text.toList, c.toNat < 256) ∧ text.toList.map (fun c => Value.int (Jvm.Lit.byteI c.toNat.toUInt16)) = vs) (hz : ¬ z < 0) (hl : z.toNatClampNeg = vs.length)
    (hd : decode c.code pc = .ok (.ldc index, 2)) {n : Nat} (hn : 4 * text.toList.length ≤ n) (hbig : n ≤ 536870912) (hc : cells + 2 ≤ R.cells) (hl' : slots + (n + 4) ≤ R.slots) (hp : pc + 2 = pc')
    (r : ∀ (a : Addr) (T' : State) (h' : Heap) (b : Addr) (k : ClassId), Stand p l e R (s.setVm T'.vm) m args below meth c T' locs (cells + 2) (slots + (n + 4)) → T'.heap = h' → Ext h h' → Wd Z a0 EL s own m.cls T'.vm h' → Exa Z h' a "java/lang/String" → Fld Z h' a "java/lang/String" "coder" "B" (.int 0) → Fld Z h' a "java/lang/String" "value" "[B" (.ref b) → Arv Z h' b k .byte z vs (.int 0) → CHr Z EL vm0 h T'.vm h' → Lit (s.setVm T'.vm) own index a → (∀ x, Safe Z EL T'.vm h' x → x ≠ a ∧ x ≠ b) → Go p.tables e below P T' (mkF m pc' Ls (.ref a :: st))) : Go p.tables e below P T (mkF m pc Ls st) := by
  subst hp
  obtain ⟨⟨k0, q1, q2⟩, q3, q4, q5, q6⟩ := D
  obtain ⟨a, T', h', k1, b, k, g1, g2, g3, g4, g5, g6, g7, g8, g9, g10, g11, g12, g13, g14, g15, g16, stp⟩ := ldcCH X hx q3 q4 w wS eT q1 q2 q6 hmem q5.1 ht hz hl (g := mkF m pc Ls st) rfl hd hn hbig hc hl'
  exact Go.next stp (r a T' h' b k g1 g2 g3 ⟨⟨k1, g4, g5⟩, g6, g7, q5.trans g14, q6⟩ g8 g9 g10 g11 g14 g15 g16)
theorem w_ldcA {own : String} (X : Stand p l e R (s.setVm vm0) m args below meth c T locs cells slots) (hx : p.tables.exec = Jvm.exec) (D : Wd Z a0 EL s own m.cls vm0 h) {text : String} {index : Nat} (w : (Jvm.Cond.stringLink own index text).before a0 Z = true) {a : Addr} (L : Lit (s.setVm vm0) own index a) (hd : decode c.code pc = .ok (.ldc index, 2)) (hp : pc + 2 = pc') (r : Go p.tables e below P T (mkF m pc' Ls (.ref a :: st))) : Go p.tables e below P T (mkF m pc Ls st) := by
  subst hp
  exact Go.next (ldcAgain X hx D.2.1 D.2.2.1 w L (g := mkF m pc Ls st) rfl hd) r
abbrev BackQW (l : Launch) (R : Room) (p : Program) (e : Env) (below : List Frame) (s : State) (vm0 : Vm) (args : Array Value) (y : MethodName) (W : Nat) (as' : Array Value) (Z : State) (EL : List (String × Nat)) (h : Heap) (kc ks : Nat) (Q : Option Value → Heap → List Loc → Prop) : Prop :=
  BackS l R p e below (s.setVm vm0) args y 3 W (fun A a => a = as' ∧ A.U.heap = h ∧ A.cells + kc ≤ R.cells ∧ A.slots + ks ≤ R.slots) (fun A _ v B => ∃ L, Q v B.U.heap L ∧ B.locs = A.locs ++ L ∧ B.cells = A.cells + kc ∧ B.slots = A.slots + ks ∧ CHr Z EL vm0 h B.U.vm B.U.heap)
theorem Wd.on {own : String} {T' : State} (D : Wd Z a0 EL s own m.cls vm0 h) (hS : (s.setVm vm0).Since T'.vm T'.heap.size) (hh : h.size ≤ T'.heap.size) (C : CHr Z EL vm0 h T'.vm T'.heap) : Wd Z a0 EL s own m.cls T'.vm T'.heap := by
  obtain ⟨⟨k0, q1, q2⟩, q3, q4, q5, q6⟩ := D
  exact ⟨⟨_, q1.trans hS (Nat.le_trans q2 hh), Nat.le_refl _⟩, State.Warmed39.trans (t := s.setVm vm0) q3 hS.1, (hS.1.alike.findClass _ _).trans q4, q5.trans C, q6⟩
theorem backCW {own : String} {y : MethodName} {bytes : ByteArray} {maxL : Nat} {ret : Option FieldType} {rm : Room} {W : Nat} {as' : Array Value} {Q : Option Value → Heap → List Loc → Prop} (hM : CtW l y bytes maxL ret rm Z EL as' h Q) (D : Wd Z a0 EL s own m.cls vm0 h) (wc : (Jvm.Cond.code y bytes maxL ret).before a0 Z = true) (wz : (Jvm.Cond.initialized y.cls).before a0 Z = true) (hf : rm.frames + 1 ≤ R.frames) (hl : W + (maxL + 11) + rm.locals ≤ R.locals) : BackQW l R p e below s vm0 args y W as' Z EL h rm.cells rm.slots Q :=
  backOfSH hM D.2.1 wc wz hf hl D.2.2.2.2 D.2.2.2.1.1
theorem w_staticW {own : String} (X : Stand p l e R (s.setVm vm0) m args below meth c T locs cells slots) (hx : p.tables.exec = Jvm.exec) (D : Wd Z a0 EL s own m.cls vm0 h) {index : Nat} {y : MethodName} {bytes : ByteArray} {maxL : Nat} {ret : Option FieldType} {sig : MethodDescriptor} (w1 : (Jvm.Cond.methodLink own index y).before a0 Z = true) (w2 : (Jvm.Cond.static y).before a0 Z = true) (w3 : (Jvm.Cond.initialized y.cls).before a0 Z = true) (w4 : (Jvm.Cond.code y bytes maxL ret).before a0 Z = true)
    (hy : y.cls ≠ "java/lang/invoke/MethodHandle" ∧ y.cls ≠ "java/lang/invoke/VarHandle") {W kc ks : Nat} {as' : Array Value} {Q : Option Value → Heap → List Loc → Prop} (hK : BackQW l R p e below s vm0 args y W as' Z EL h kc ks Q) (eT : T.heap = h) (hsize : Ls.size = c.maxLocals) {argsL : List Value} (hsig : parseMethodDescriptor y.desc = some sig) (hlen : argsL.length = sig.parameters.length) (hstk : stk = argsL.reverse ++ st) (has : argsL.toArray = as') (hW : (st.map fun v => v.category).sum ≤ W) (hd : decode c.code pc = .ok (.invokestatic index, 3)) (hc : cells + kc ≤ R.cells) (hs : slots + ks ≤ R.slots) (hp : pc + 3 = pc')
    (r : ∀ T' v L, Stand p l e R (s.setVm T'.vm) m args below meth c T' (locs ++ L) (cells + kc) (slots + ks) → Wd Z a0 EL s own m.cls T'.vm T'.heap → CHr Z EL vm0 h T'.vm T'.heap → Q v T'.heap L → Go p.tables e below P T' (mkF m pc' Ls (v.toList ++ st))) : Go p.tables e below P T (mkF m pc Ls stk) := by
  subst hp hstk
  obtain ⟨v, _, ⟨T', L', k', n'⟩, -, X', hS, hh, ⟨Lc, hQ, l', y', z', hC⟩, stp⟩ := callSS X hx (y := y) D.ow (mvT D.zw w1) (mvT D.zw w2) (mvT D.zw w3) (mvT D.zw w4) hy hK (g := mkF m pc Ls (argsL.reverse ++ st)) rfl hsize (argsL := argsL) (rest := st) (lenOf hsig hlen) rfl (by show 2 * 0 + _ ≤ _; omega) hd (fun _ _ => ⟨has, eT, hc, hs⟩)
  dsimp only at X' hQ l' y' z' hC hS hh stp
  subst l' y' z'
  exact Go.jump stp (r T' v Lc X' (D.on hS (by rw [← eT]; exact hh) hC) hC hQ)
theorem w_specialW {own : String} (X : Stand p l e R (s.setVm vm0) m args below meth c T locs cells slots) (hx : p.tables.exec = Jvm.exec) (D : Wd Z a0 EL s own m.cls vm0 h) {index : Nat} {y : MethodName} {bytes : ByteArray} {maxL : Nat} {sig : MethodDescriptor} (hy1 : y.name = "<init>") (w1 : (Jvm.Cond.methodLink own index y).before a0 Z = true) (w2 : (Jvm.Cond.instanceMethod y).before a0 Z = true) (w4 : (Jvm.Cond.code y bytes maxL none).before a0 Z = true)
    (hy : y.cls ≠ "java/lang/invoke/MethodHandle" ∧ y.cls ≠ "java/lang/invoke/VarHandle") {W kc ks : Nat} {as' : Array Value} {Q : Option Value → Heap → List Loc → Prop} (hK : BackQW l R p e below s vm0 args y W as' Z EL h kc ks Q) (eT : T.heap = h) {b : Addr} (hsize : Ls.size = c.maxLocals) {argsL : List Value} (hsig : parseMethodDescriptor y.desc = some sig) (hlen : argsL.length = sig.parameters.length) (hstk : stk = argsL.reverse ++ .ref b :: st) (has : (.ref b :: argsL).toArray = as') (hW : (st.map fun v => v.category).sum ≤ W) (hd : decode c.code pc = .ok (.invokespecial index, 3)) (hc : cells + kc ≤ R.cells) (hs : slots + ks ≤ R.slots) (hp : pc + 3 = pc')
    (r : ∀ T' v L, Stand p l e R (s.setVm T'.vm) m args below meth c T' (locs ++ L) (cells + kc) (slots + ks) → Wd Z a0 EL s own m.cls T'.vm T'.heap → CHr Z EL vm0 h T'.vm T'.heap → Q v T'.heap L → Go p.tables e below P T' (mkF m pc' Ls (v.toList ++ st))) : Go p.tables e below P T (mkF m pc Ls stk) := by
  subst hp hstk
  obtain ⟨v, _, ⟨T', L', k', n'⟩, -, X', hS, hh, ⟨Lc, hQ, l', y', z', hC⟩, stp⟩ := X.specialBackS hx (y := y) hy1 D.ow (mvT D.zw w1) (mvT D.zw w2) (mvT D.zw w4) hy hK (g := mkF m pc Ls (argsL.reverse ++ .ref b :: st)) rfl hsize (Steps.refl _) (a := b) (argsL := argsL) (rest := st) (lenOf hsig hlen) rfl (by show 2 * 0 + _ ≤ _; omega) hd (fun _ _ => ⟨has, eT, hc, hs⟩)
  dsimp only at X' hQ l' y' z' hC hS hh stp
  subst l' y' z'
  exact Go.jump stp (r T' v Lc X' (D.on hS (by rw [← eT]; exact hh) hC) hC hQ)
end WW

theorem Safe.null {Z : State} {EL : List (String × Nat)} {vm : Vm} {h : Heap} {x : Addr} (hal : Z.vm.Alike vm) (E : Exa Z h x "java/lang/String") (F : Fld Z h x "java/lang/String" "value" "[B" .null) : Safe Z EL vm h x := fun B => by
  obtain ⟨cell, k, e1, e2, e3, -, -⟩ := E
  obtain ⟨pr, -, u, a, -, q, -, G, rfl | rfl⟩ := B
  · obtain ⟨cS, ⟨⟨s1, s2, s3, ⟨cv, kv, iv, s4, s4'⟩, -, s6, s7, s8, -⟩, -⟩, -⟩ := G
    obtain ⟨kv', z4⟩ := ff_back (U := Wst Z vm h) hal s4
    obtain ⟨c2, cf, kf, i, f, g1, g2, -, -, -, -, g7⟩ := F
    cases (show h[q.sa]? = some q.sC from s1).symm.trans g1
    cases z4.symm.trans g2
    rw [s8] at g7; cases g7
  · have hd := (show h[q.sd]? = some q.SA from G.hd)
    cases hd.symm.trans e1
    obtain ⟨cS, -, -, f, -⟩ := G
    have f' : vm.findClass "[B" = some q.SA.cls := f
    rw [hal.findClass] at f'
    obtain ⟨k1, q1, q2⟩ := Vm.findClass_spec f'
    obtain ⟨k2, q3, q4⟩ := Vm.findClass_spec e2
    cases q1.symm.trans q3
    have := q2.symm.trans q4
    exact absurd this (by decide)

/-! Strings: the object at x is a String that spells the chars cs -/
def StrOf (Z : State) (h : Heap) (x : Addr) (cs : List Int32) : Prop := ∃ (t : Addr) (kb : ClassId) (cd N2 : Int32) (vs : List Value), Exa Z h x "java/lang/String" ∧ Fld Z h x "java/lang/String" "value" "[B" (.ref t) ∧ Fld Z h x "java/lang/String" "coder" "B" (.int cd) ∧ Arv Z h t kb .byte N2 vs (.int 0) ∧ StrChars.Road.CodA cs cd N2 vs ∧ (∀ c ∈ cs, ¬ c < 0 ∧ ¬ (65535 : Int32) < c) ∧ cs.length ≤ 4000
theorem StrOf.ext {Z : State} {h h' : Heap} {x : Addr} {cs : List Int32} (F : StrOf Z h x cs) (E : Ext h h') : StrOf Z h' x cs := by
  obtain ⟨t, kb, cd, N2, vs, a, b, c, d, r⟩ := F; exact ⟨t, kb, cd, N2, vs, a.ext E, b.ext E, c.ext E, d.ext E, r⟩
theorem StrOf.exa {Z : State} {h : Heap} {x : Addr} {cs : List Int32} (F : StrOf Z h x cs) : Exa Z h x "java/lang/String" := by
  obtain ⟨t, kb, cd, N2, vs, a, r⟩ := F; exact a
abbrev QEq (cs ds : List Int32) (h : Heap) (v : Option Value) (h' : Heap) (L : List Loc) : Prop := ((v = some (.int 1) ∧ cs = ds) ∨ (v = some (.int 0) ∧ ¬ cs = ds)) ∧ L = [] ∧ h' = h

theorem k_eq {p : Program} {l : Launch} {e : Env} {R : Room} {s : State} {args : Array Value} {below : List Frame} {W : Nat} {Z : State} {a0 : Array Value} {h : Heap} (hZ : Z.Warmed39 s.vm) (hw : ∀ d ∈ StrChars.Road.wordsEq, d.before a0 Z = true) (wi : (Jvm.Cond.instantiable "java/lang/String" 4).before a0 Z = true)
    {x y : Addr} {cs ds : List Int32} (A : StrOf Z h x cs) (B : StrOf Z h y ds) {z : Int32} (S : Sta Z h "java/lang/String" "COMPACT_STRINGS" "Z" (.int z)) (hz : ¬ z = 0) (hfr : 2 ≤ R.frames) (hlo : W + 28 ≤ R.locals) :
    BackQ l R p e below s args yq3 W #[.ref x, .ref y] h 0 0 (QEq cs ds h) := by
  obtain ⟨t, kb, cd, N2, vs, a1, a2, a3, a4, a5, a6, a7⟩ := A
  obtain ⟨t', kb', cd', N2', vs', b1, b2, b3, b4, b5, b6, b7⟩ := B
  exact StrChars.Road.eqW hZ hw wi a1 a2 a3 a4 a5 a6 a7 b1 b2 b3 b4 b5 b6 b7 S hz hfr hlo

abbrev QNew (Z : State) (x : Addr) (cs : List Int32) (h : Heap) (n0 : Nat) (v : Option Value) (h' : Heap) (L : List Loc) : Prop := v = none ∧ Fr n0 L ∧ Keep h h' [x] ∧ StrOf Z h' x cs
theorem k_newL {p : Program} {l : Launch} {e : Env} {R : Room} {s : State} {args : Array Value} {below : List Frame} {W : Nat} {Z : State} {a0 : Array Value} {h : Heap} (hZ : Z.Warmed39 s.vm) (hw : ∀ d ∈ StrChars.Road.words, d.before a0 Z = true) (wi : (Jvm.Cond.instantiable "java/lang/String" 4).before a0 Z = true)
    {x b : Addr} {kC : ClassId} {cs : List Int32} {d v0 c0 : Value} {z N : Int32} {n n0 : Nat} (hx0 : n0 ≤ x) (hh0 : n0 ≤ h.size) (E : Exa Z h x "java/lang/String") (V : Fld Z h x "java/lang/String" "value" "[B" v0) (C : Fld Z h x "java/lang/String" "coder" "B" c0) (K : Arv Z h b kC .char N (cs.map Value.int) d) (S : Sta Z h "java/lang/String" "COMPACT_STRINGS" "Z" (.int z)) (hz : ¬ z = 0)
    (hn : cs.length = n) (hN : N = Int32.ofNat n) (l0 : 0 < n) (l2 : n ≤ 4000) (hp : ∀ c ∈ cs, ¬ c < 0 ∧ ¬ (255 : Int32) < c) (hfr : 4 ≤ R.frames) (hlo : W + 65 ≤ R.locals) :
    BackQ l R p e below s args yq8 W #[.ref x, .ref b] h 1 n (QNew Z x cs h n0) := by
  refine Back.mono (StrChars.Road.backV hZ hw wi hx0 hh0 E V C K S hz hn hN l0 l2 hp rfl hfr hlo) (fun P a q => q) (fun P a v B q hq => ?_)
  obtain ⟨L, ⟨q1, q2, q3, q4, q5, t, kb, q6, q7, q8, q9, q10⟩, r⟩ := hq
  subst hN
  exact ⟨L, ⟨q1, q2, q3, t, kb, 0, _, _, q4, q9, q5, q10, StrChars.Road.codOf hn (fun c hc => (hp c hc).2), fun c hc => ⟨(hp c hc).1, fun q => (hp c hc).2 (by rw [Int32.lt_iff_toInt_lt] at q ⊢; exact Int.lt_trans (by decide) q)⟩, by omega⟩, r⟩

abbrev QLen (cs : List Int32) (h : Heap) (v : Option Value) (h' : Heap) (L : List Loc) : Prop := v = some (.int (Int32.ofNat cs.length)) ∧ L = [] ∧ h' = h
theorem k_len {p : Program} {l : Launch} {e : Env} {R : Room} {s : State} {args : Array Value} {below : List Frame} {W : Nat} {Z : State} {a0 : Array Value} {h : Heap} (hZ : Z.Warmed39 s.vm) (hw : ∀ d ∈ StrChars.Road.wordsLen, d.before a0 Z = true) (wi : (Jvm.Cond.instantiable "java/lang/String" 4).before a0 Z = true)
    {x : Addr} {cs : List Int32} (A : StrOf Z h x cs) {z : Int32} (S : Sta Z h "java/lang/String" "COMPACT_STRINGS" "Z" (.int z)) (hz : ¬ z = 0) (hfr : 2 ≤ R.frames) (hlo : W + 25 ≤ R.locals) :
    BackQ l R p e below s args yq25 W #[.ref x] h 0 0 (QLen cs h) := by
  obtain ⟨t, kb, cd, N2, vs, a1, a2, a3, a4, a5, a6, a7⟩ := A
  exact StrChars.Road.lenW hZ hw wi a1 a2 a3 a4 a5 a6 S hz a7 hfr hlo

/-! from the case's words to facts of the start's heap -/
section ST
variable {args : Array Value} {Z : State}
theorem st_int {t : Term} {n : Int32} (h : (Jvm.Cond.eq t (.int n)).value args Z none Z [] = some true) : t.eval args Z none [] Z = some (.int n) := by
  obtain ⟨x, y, e1, e2, k1, k2⟩ := cmp_v (Or.inl h)
  have e2' : y = .int n := (Option.some.inj e2).symm
  subst e2'
  obtain ⟨z, rfl⟩ := k2
  have : z = n := by simpa [Cond.value, e1, Term.eval] using h
  subst this; exact e1
theorem st_ref {t u : Term} {a : Addr} (hu : u.eval args Z none [] Z = some (.ref a)) (h : (Jvm.Cond.eq t u).value args Z none Z [] = some true) : t.eval args Z none [] Z = some (.ref a) := by
  obtain ⟨x, y, e1, e2, k1, k2⟩ := cmp_v (Or.inl h)
  cases hu.symm.trans e2
  have hx : x.isRef = true := k2.2
  rcases ref_cases hx with rfl | ⟨b, rfl⟩
  · simp [Cond.value, e1, hu] at h
  · have : b = a := by simpa [Cond.value, e1, hu] using h
    subst this; exact e1
theorem st_len {t : Term} {a : Addr} {cl : Cell} {ty : FieldType} {n : Int32} (ht : t.eval args Z none [] Z = some (.ref a)) (A : Arr Z Z.heap a cl ty) (h : (Jvm.Cond.eq (.length t) (.int n)).value args Z none Z [] = some true) : cl.slots.size < 2 ^ 31 ∧ cl.slots.size.toInt32 = n := by
  have e := st_int h
  have hat := A.fin (Vm.Alike.refl _)
  simp only [Term.eval, ht, Option.bind_eq_bind, Option.bind_some, hat, Option.pure_def] at e
  by_cases q : cl.slots.size < 2 ^ 31
  · rw [if_pos q] at e; exact ⟨q, by cases e; rfl⟩
  · rw [if_neg q] at e; cases e
theorem st_elem {t i : Term} {a : Addr} {cl : Cell} {ty : FieldType} {j : Int32} {v : Value} (ht : t.eval args Z none [] Z = some (.ref a)) (A : Arr Z Z.heap a cl ty) (hi : i.eval args Z none [] Z = some (.int j)) (h : (Term.elem t i).eval args Z none [] Z = some v) : cl.slots[j.toNatClampNeg]? = some v := (elem_in h ht hi A.1).2
/-- the bytes of the array that t names, one word each -/
def ElemsEq (args : Array Value) (Z : State) (t : Term) : Nat → List Int32 → Prop
  | _, [] => True
  | i, b :: r => (Jvm.Cond.eq (.elem t (.int (Int32.ofNat i))) (.int b)).value args Z none Z [] = some true ∧ ElemsEq args Z t (i + 1) r
theorem st_has {t : Term} {a : Addr} {cl : Cell} {ty : FieldType} (ht : t.eval args Z none [] Z = some (.ref a)) (A : Arr Z Z.heap a cl ty) : ∀ (bs : List Int32) (i : Nat), i + bs.length < 2 ^ 31 → ElemsEq args Z t i bs → HasL cl i (bs.map Value.int)
  | [], _, _, _ => trivial
  | b :: r, i, hi, h => ⟨by
      have q := st_elem ht A (j := Int32.ofNat i) rfl (st_int h.1)
      have e : (Int32.ofNat i).toNatClampNeg = i := by
        have : (Int32.ofNat i).toInt = i := Int32.toInt_ofNat_small (by simp at hi; omega)
        simp only [Int32.toNatClampNeg, this]; rfl
      rwa [e] at q, st_has ht A r (i + 1) (by simp at hi; omega) h.2⟩
theorem st_str (hf : Fit Z) {t : Term} {x : Addr} {n : Int32} {cs bs : List Int32} (ht : t.eval args Z none [] Z = some (.ref x)) (h1 : (Jvm.Cond.exactly t "java/lang/String").value args Z none Z [] = some true) (h2 : (Jvm.Cond.eq (.field t "java/lang/String" "coder" "B") (.int 0)).value args Z none Z [] = some true)
    (h3 : (Jvm.Cond.arrayOf (.field t "java/lang/String" "value" "[B") .byte).value args Z none Z [] = some true) (h4 : (Jvm.Cond.eq (.length (.field t "java/lang/String" "value" "[B")) (.int n)).value args Z none Z [] = some true) (h5 : ElemsEq args Z (.field t "java/lang/String" "value" "[B") 0 bs)
    (hb : bs = cs.map StrChars.lo8) (hn : n = Int32.ofNat cs.length) (hl : cs.length ≤ 4000) (hc : ∀ c ∈ cs, ¬ c < 0 ∧ ¬ (255 : Int32) < c) : StrOf Z Z.heap x cs := by
  obtain ⟨b, eb⟩ := arr_v h3
  obtain ⟨cl, A⟩ := Arr.start eb h3
  obtain ⟨l1, l2⟩ := st_len eb A h4
  have nn : n.toInt = cs.length := by rw [hn]; exact Int32.toInt_ofNat_small (by omega)
  have lb : bs.length = cs.length := by rw [hb]; simp
  have V : Arv Z Z.heap b cl.cls .byte n (bs.map Value.int) (.int 0) := Arv.start hf A l1 l2 (by rw [Int32.lt_iff_toInt_lt, nn]; simp) (by simp only [Int32.toNatClampNeg, nn]; simp [lb]) (st_has eb A bs 0 (by omega) h5)
  refine ⟨b, cl.cls, 0, n, _, Exa.start ht h1, Fld.start ((fld_at ht).symm.trans eb), Fld.start ((fld_at ht).symm.trans (st_int h2)), V, ?_, fun c q => ⟨(hc c q).1, fun r => (hc c q).2 (by rw [Int32.lt_iff_toInt_lt] at r ⊢; exact Int.lt_trans (by decide) r)⟩, hl⟩
  subst hb hn
  exact Or.inl ⟨rfl, rfl, by simp [List.map_map, Function.comp_def], fun c q => (hc c q).2⟩
end ST

/-! small numbers as Int32, lists as arrays' contents -/
theorem n_toInt {n : Nat} (h : n < 2 ^ 31) : (Int32.ofNat n).toInt = n := Int32.toInt_ofNat_small h
theorem n_nn {n : Nat} (h : n < 2 ^ 31) : ¬ Int32.ofNat n < 0 := by rw [Int32.lt_iff_toInt_lt, n_toInt h]; simp
theorem n_lt {i n : Nat} (h : i < n) (hn : n < 2 ^ 31) : Int32.ofNat i < Int32.ofNat n := by rw [Int32.lt_iff_toInt_lt, n_toInt hn, n_toInt (by omega)]; omega
theorem n_nlt {i n : Nat} (h : n ≤ i) (hn : i < 2 ^ 31) : ¬ Int32.ofNat i < Int32.ofNat n := by rw [Int32.lt_iff_toInt_lt, n_toInt hn, n_toInt (by omega)]; omega
theorem n_nat {n : Nat} (h : n < 2 ^ 31) : (Int32.ofNat n).toNatClampNeg = n := by simp only [Int32.toNatClampNeg, n_toInt h]; rfl
theorem n_succ (i : Nat) : Int32.ofNat i + (1 : Int32) = Int32.ofNat (i + 1) := (Int32.ofNat_add i 1).symm
theorem n_ne {i n : Nat} (h : i < n) (hn : n < 2 ^ 31) : ¬ Int32.ofNat i = Int32.ofNat n := fun q => by
  have := congrArg Int32.toInt q
  rw [n_toInt hn, n_toInt (by omega)] at this; omega
theorem n_shl1 {i : Nat} (h : 2 * i < 2 ^ 31) : Int32.ofNat i <<< ((1 : Int32) &&& 31) = Int32.ofNat (2 * i) := by
  have e : ((1 : Int32) &&& 31) = 1 := by decide
  rw [e]
  apply Int32.toBitVec_inj.mp
  have e1 : (Int32.ofNat i).toBitVec = BitVec.ofNat 32 i := rfl
  have e2 : (Int32.ofNat (2 * i)).toBitVec = BitVec.ofNat 32 (2 * i) := rfl
  have e3 : (Int32.ofNat i <<< (1 : Int32)).toBitVec = (Int32.ofNat i).toBitVec <<< 1 := rfl
  rw [e3, e1, e2]
  apply BitVec.eq_of_toNat_eq
  simp [BitVec.toNat_shiftLeft, Nat.shiftLeft_eq]
  omega
theorem in_rng {i n : Nat} (h : i < n) (hn : n < 2 ^ 31) : ¬ Int32.ofNat i < 0 ∧ Int32.ofNat i < Int32.ofNat n := ⟨n_nn (by omega), n_lt h hn⟩
theorem at_chr {cs : List Int32} {i : Nat} {d : Value} (h : i < cs.length) (hl : cs.length < 2 ^ 31) : (cs.map Value.int).getD (Int32.ofNat i).toNatClampNeg d = .int (cs.getD i 0) := by
  rw [n_nat (by omega)]; simp [List.getD_eq_getElem?_getD, h]
theorem set_app {α : Type} (A B : List α) (z v : α) (i : Nat) (h : A.length = i) : (A ++ z :: B).set i v = A ++ v :: B := by subst h; simp
/-- an array of bytes of which the first i are written -/
def fillB (cs : List Int32) (i : Nat) : List Value := (cs.take i).map (fun c => Value.int (StrChars.lo8 c)) ++ List.replicate (cs.length - i) (.int 0)
theorem fillB_len {cs : List Int32} {i : Nat} (h : i ≤ cs.length) : (fillB cs i).length = cs.length := by simp [fillB]; omega
theorem fillB_zero (cs : List Int32) : fillB cs 0 = List.replicate cs.length (.int 0) := by simp [fillB]
theorem fillB_all (cs : List Int32) : fillB cs cs.length = cs.map (fun c => Value.int (StrChars.lo8 c)) := by simp [fillB]
theorem take_succ' {cs : List Int32} {i : Nat} (h : i < cs.length) : cs.take (i + 1) = cs.take i ++ [cs.getD i 0] := by
  rw [List.take_add_one]; simp [List.getD_eq_getElem?_getD, h]
theorem fillB_set {cs : List Int32} {i : Nat} (h : i < cs.length) : (fillB cs i).set i (.int (StrChars.lo8 (cs.getD i 0))) = fillB cs (i + 1) := by
  have e : cs.length - i = (cs.length - (i + 1)) + 1 := by omega
  unfold fillB
  rw [e, List.replicate_succ, set_app _ _ _ _ _ (by simp; omega), take_succ' h]
  simp
/-- .. of two bytes a char -/
def fillW (cs : List Int32) (i : Nat) : List Value := StrChars.Road.wideBytes (cs.take i) ++ List.replicate (2 * (cs.length - i)) (.int 0)
theorem wide_len (cs : List Int32) : (StrChars.Road.wideBytes cs).length = 2 * cs.length := by
  induction cs with
  | nil => rfl
  | cons c r ih => simp [StrChars.Road.wideBytes] at ih ⊢; omega
theorem wide_app (cs : List Int32) (c : Int32) : StrChars.Road.wideBytes (cs ++ [c]) = StrChars.Road.wideBytes cs ++ [.int (StrChars.lo8 c), .int (StrChars.hi8 c)] := by
  induction cs with
  | nil => rfl
  | cons d r ih => simp [StrChars.Road.wideBytes] at ih ⊢; exact ih
theorem fillW_len {cs : List Int32} {i : Nat} (h : i ≤ cs.length) : (fillW cs i).length = 2 * cs.length := by simp [fillW, wide_len]; omega
theorem fillW_zero (cs : List Int32) : fillW cs 0 = List.replicate (2 * cs.length) (.int 0) := by simp [fillW, StrChars.Road.wideBytes]
theorem fillW_all (cs : List Int32) : fillW cs cs.length = StrChars.Road.wideBytes cs := by simp [fillW]
theorem fillW_set {cs : List Int32} {i : Nat} (h : i < cs.length) : ((fillW cs i).set (2 * i) (.int (StrChars.lo8 (cs.getD i 0)))).set (2 * i + 1) (.int (StrChars.hi8 (cs.getD i 0))) = fillW cs (i + 1) := by
  have e : 2 * (cs.length - i) = (2 * (cs.length - (i + 1)) + 1) + 1 := by omega
  have l1 : (StrChars.Road.wideBytes (cs.take i)).length = 2 * i := by rw [wide_len]; simp; omega
  unfold fillW
  rw [e, List.replicate_succ, List.replicate_succ, set_app _ _ _ _ _ l1]
  rw [show StrChars.Road.wideBytes (cs.take i) ++ Value.int (StrChars.lo8 (cs.getD i 0)) :: Value.int 0 :: List.replicate (2 * (cs.length - (i + 1))) (Value.int 0) = (StrChars.Road.wideBytes (cs.take i) ++ [Value.int (StrChars.lo8 (cs.getD i 0))]) ++ Value.int 0 :: List.replicate (2 * (cs.length - (i + 1))) (Value.int 0) from by simp]
  rw [set_app _ _ _ _ _ (by simp [l1]), take_succ' h, wide_app]
  simp
theorem nar_c2 (x : Int32) : nar .char (x.toUInt32.toUInt16.toUInt32.toInt32) = x.toUInt32.toUInt16.toUInt32.toInt32 := by
  generalize x.toUInt32.toUInt16 = u
  show (u.toUInt32.toInt32).toUInt32.toUInt16.toUInt32.toInt32 = _
  have e1 : u.toUInt32.toInt32.toUInt32 = u.toUInt32 := rfl
  have e2 : u.toUInt32.toUInt16 = u := by simp
  rw [e1, e2]

theorem own_nf {s : State} {a0 : Array Value} {C : String} {x y y' : MethodName} (w' : (Jvm.Cond.selects C x y').before a0 s = true) (hc : y'.cls = y.cls) : NotFace s y := fun r0 h0 => by
  obtain ⟨_, _, m2, -, -, q3, -, kP, hkP, hkPi⟩ := Cond.selects_spec w'
  have hc1 := findClass_of_methodNamed h0
  have hc2 := findClass_of_methodNamed q3
  rw [hc, hc1] at hc2
  have e : r0.cls = m2.cls := Option.some.inj hc2
  exact ⟨kP, by rw [e]; exact hkP, hkPi⟩
theorem own_same {Z : State} {a0 : Array Value} {C : String} {x y y' : MethodName} (w : (Jvm.Cond.instanceMethod y).before a0 Z = true) (hy : y.cls ≠ "java/lang/invoke/MethodHandle" ∧ y.cls ≠ "java/lang/invoke/VarHandle") (w' : (Jvm.Cond.selects C x y').before a0 Z = true) (hc : y'.cls = y.cls) : (Jvm.Cond.sameMethod y.cls y.cls y.name y.desc).before a0 Z = true := by
  obtain ⟨mk, methM, hn, -⟩ := Cond.instanceMethod_spec w
  obtain ⟨_, _, m2, -, -, q3, -, kP, hkP, hkPi⟩ := Cond.selects_spec w'
  have hf := State.methodFound?_of_named hn hy
  have hc1 := findClass_of_methodNamed hn
  have hc2 := findClass_of_methodNamed q3
  rw [hc, hc1] at hc2
  have e : mk.cls = m2.cls := Option.some.inj hc2
  have hn' : Z.methodNamed? ⟨y.cls, y.name, y.desc⟩ = some mk := hn
  simp [Cond.before, Cond.holds, Cond.value, hc1, hf, hn', e, hkP, hkPi]
section WP
variable {p : Program} {l : Launch} {e : Env} {R : Room} {s : State} {m : MethodId} {args : Array Value} {below : List Frame} {meth : Method} {c : Code} {T : State} {locs : List Loc} {cells slots : Nat} {pc pc' : Nat} {Ls : Array Slot} {st stk : List Value} {P : State → Prop} {Z : State} {a0 : Array Value} {h : Heap}
/-- invokevirtual of a private method -/
theorem w_private (X : Stand p l e R s m args below meth c T locs cells slots) (hx : p.tables.exec = Jvm.exec) (hZ : Z.Warmed39 s.vm) {own C C' : String} {index : Nat} {y : MethodName} {bytes : ByteArray} {maxL : Nat} {ret : Option FieldType} {sig : MethodDescriptor} (hown : s.vm.findClass own = some m.cls) (w1 : (Jvm.Cond.methodLink own index y).before a0 Z = true) (w2 : (Jvm.Cond.instanceMethod y).before a0 Z = true) (wp : (Jvm.Cond.privateMethod y).before a0 Z = true) (w3 : (Jvm.Cond.selects C y y).before a0 Z = true) (w4 : (Jvm.Cond.code y bytes maxL ret).before a0 Z = true)
    (hy : y.cls ≠ "java/lang/invoke/MethodHandle" ∧ y.cls ≠ "java/lang/invoke/VarHandle") {W kc ks : Nat} {as' : Array Value} {Q : Option Value → Heap → List Loc → Prop} (hK : BackQ l R p e below s args y W as' h kc ks Q) (eT : T.heap = h) {b : Addr} (E : Exa Z h b C') (hsize : Ls.size = c.maxLocals) {argsL : List Value} (hsig : parseMethodDescriptor y.desc = some sig) (hlen : argsL.length = sig.parameters.length) (hstk : stk = argsL.reverse ++ .ref b :: st) (has : (.ref b :: argsL).toArray = as') (hW : (st.map fun v => v.category).sum ≤ W) (hd : decode c.code pc = .ok (.invokevirtual index, 3)) (hc : cells + kc ≤ R.cells) (hs : slots + ks ≤ R.slots) (hp : pc + 3 = pc')
    (r : ∀ T' v L, Stand p l e R s m args below meth c T' (locs ++ L) (cells + kc) (slots + ks) → Q v T'.heap L → Go p.tables e below P T' (mkF m pc' Ls (v.toList ++ st))) : Go p.tables e below P T (mkF m pc Ls stk) := by
  subst hp hstk
  have v2 : (Jvm.Cond.instanceMethod y).before args s = true := mvT hZ w2
  have v3 : (Jvm.Cond.selects C y y).before args s = true := mvT hZ w3
  have v4 : (Jvm.Cond.code y bytes maxL ret).before args s = true := mvT hZ w4
  obtain ⟨mk, methM, hnamed, hmethM, hstM, habM⟩ := Cond.instanceMethod_spec v2
  obtain ⟨methM', cM, hmethM', -, -, -, -, -, -, hsigM⟩ := Cond.code_spec hnamed v4
  cases hmethM.symm.trans hmethM'
  obtain ⟨c2, r2, m2, -, -, q3, -, kP, hkP, hkPi⟩ := Cond.selects_spec v3
  cases hnamed.symm.trans q3
  obtain ⟨cell, qa, qb⟩ := E.cell
  have hsel : selectMethod e.platform s.vm cell.cls mk = .method mk := selectMethod_private hmethM (Cond.privateMethod_at (mvP hZ wp (args := args)) mk methM hnamed hmethM)
  obtain ⟨vm₁, X₁, hstep₁⟩ := X.invokevirtual hx hown (mvT hZ w1) hnamed hmethM hstM hkP hkPi hy (a := b) (cell := cell) (by rw [eT]; exact qa) qb hsel hmethM habM hkP hkPi (g := mkF m pc Ls (argsL.reverse ++ .ref b :: st)) rfl (argsL := argsL) (rest := st) (lenOf hsig hlen _ hsigM) rfl hd
  obtain ⟨v, ⟨T', L', k', n'⟩, X', ⟨Lc, hQ, l', y', z'⟩, stp⟩ := hK m meth c ⟨T.setVm vm₁, locs, cells, slots⟩ { mkF m pc Ls (argsL.reverse ++ .ref b :: st) with stack := st } (.invokevirtual index) mk (.ref b :: argsL).toArray X₁ rfl hsize hd (by show 2 * 0 + (st.map fun v => v.category).sum ≤ W; omega) (X₁.named hnamed) ⟨has, eT, hc, hs⟩
  dsimp only at X' hQ l' y' z' stp
  subst l' y' z'
  exact Go.jump ((hstep₁ _ fun acts => by rw [doInvoke_state]; exact Steps.refl _).trans stp) (r T' v Lc X' hQ)
/-- invokespecial of the superclass's method -/
theorem w_super (X : Stand p l e R s m args below meth c T locs cells slots) (hx : p.tables.exec = Jvm.exec) (hZ : Z.Warmed39 s.vm) {own K : String} {index : Nat} {y : MethodName} {bytes : ByteArray} {maxL : Nat} {ret : Option FieldType} {sig : MethodDescriptor} (hown : s.vm.findClass own = some m.cls) (w1 : (Jvm.Cond.methodLink own index y).before a0 Z = true) (w2 : (Jvm.Cond.sameMethod y.cls y.cls y.name y.desc).before a0 Z = true) (w3 : (Jvm.Cond.instanceMethod y).before a0 Z = true) (w4 : (Jvm.Cond.superclass own y.cls).before a0 Z = true) (wc : (Jvm.Cond.code y bytes maxL ret).before a0 Z = true) (hn : y.name ≠ "<init>")
    {W kc ks : Nat} {as' : Array Value} {Q : Option Value → Heap → List Loc → Prop} (hK : BackQ l R p e below s args y W as' h kc ks Q) (eT : T.heap = h) {b : Addr} (F : Ins Z h b K true) (hsize : Ls.size = c.maxLocals) {argsL : List Value} (hsig : parseMethodDescriptor y.desc = some sig) (hlen : argsL.length = sig.parameters.length) (hstk : stk = argsL.reverse ++ .ref b :: st) (has : (.ref b :: argsL).toArray = as') (hW : (st.map fun v => v.category).sum ≤ W) (hd : decode c.code pc = .ok (.invokespecial index, 3)) (hc : cells + kc ≤ R.cells) (hs : slots + ks ≤ R.slots) (hp : pc + 3 = pc')
    (r : ∀ T' v L, Stand p l e R s m args below meth c T' (locs ++ L) (cells + kc) (slots + ks) → Q v T'.heap L → Go p.tables e below P T' (mkF m pc' Ls (v.toList ++ st))) : Go p.tables e below P T (mkF m pc Ls stk) := by
  subst hp hstk
  obtain ⟨v, _, ⟨T', L', k', n'⟩, -, X', ⟨Lc, hQ, l', y', z'⟩, stp⟩ := superBack X hx hZ (y := y) hown w1 w2 w3 w4 hn hK eT F (g := mkF m pc Ls (argsL.reverse ++ .ref b :: st)) rfl hsize wc (argsL := argsL) (rest := st) (lenOf hsig hlen) rfl (by show 2 * 0 + _ ≤ _; omega) hd (fun _ _ => ⟨has, eT, hc, hs⟩)
  dsimp only at X' hQ l' y' z' stp
  subst l' y' z'
  exact Go.jump stp (r T' v Lc X' hQ)
/-- System.arraycopy -/
theorem w_cpA (X : Stand p l e R s m args below meth c T locs cells slots) (hx : p.tables.exec = Jvm.exec) (hZ : Z.Warmed39 s.vm) {own : String} {index : Nat} (hown : s.vm.findClass own = some m.cls) (w1 : (Jvm.Cond.methodLink own index Jvm.Stand.acN).before a0 Z = true) (w2 : (Jvm.Cond.native Jvm.Stand.acN).before a0 Z = true) (w3 : (Jvm.Cond.static Jvm.Stand.acN).before a0 Z = true) (w4 : (Jvm.Cond.initialized "java/lang/System").before a0 Z = true) (eT : T.heap = h)
    {a b : Addr} {k k' : ClassId} {ty ty' : FieldType} {z z' : Int32} {n d : Nat} {vs vd us : List Value} {dv dd : Value} (A : Arv Z h a k ty z vs dv) (B : Arv Z h b k' ty' z' vd dd) (hty : (ty = ty' ∧ refKind ty = false) ∨ (refKind ty = true ∧ refKind ty' = true ∧ StoL Z h b us))
    (hn : n ≤ z.toNatClampNeg) (hdn : d + n ≤ z'.toNatClampNeg) (hus : us = vs.take n) (hl : n ≤ vs.length) (hl' : d + n ≤ vd.length) (hb : d + n < 2 ^ 31) {n0 : Nat} (N : Fr n0 locs) (ge : n0 ≤ b) (hsize : Ls.size = c.maxLocals) (hd : decode c.code pc = .ok (.invokestatic index, 3))
    (hf : 1 ≤ R.frames) {W : Nat} (hW : (st.map fun v => v.category).sum ≤ W) (hlo : W + 18 ≤ R.locals) (hp : pc + 3 = pc')
    (r : ∀ T' h' L, Stand p l e R s m args below meth c T' L cells slots → T'.heap = h' → Fr n0 L → Keep h h' [b] → Arv Z h' b k' ty' z' (vd.take d ++ us ++ vd.drop (d + n)) dd → Go p.tables e below P T' (mkF m pc' Ls st)) : Go p.tables e below P T (mkF m pc Ls (.int (Int32.ofNat n) :: .int (Int32.ofNat d) :: .ref b :: .int 0 :: .ref a :: st)) := by
  subst hp
  have en : (Int32.ofNat n).toNatClampNeg = n := n_nat (by omega)
  have ed : (Int32.ofNat d).toNatClampNeg = d := n_nat (by omega)
  have e0 : (0 : Int32).toNatClampNeg = 0 := rfl
  have hus' : us = (List.range (Int32.ofNat n).toNatClampNeg).map fun i => vs.getD ((0 : Int32).toNatClampNeg + i) dv := by
    rw [en, hus, e0]
    apply List.ext_getElem
    · simp; omega
    · intro i h1 h2
      have : i < vs.length := by simp at h1; omega
      simp [List.getD_eq_getElem?_getD, this]
  obtain ⟨T', h', L, X', e', N', K', V', stp⟩ := cpA X hx hZ hown w1 w2 w3 w4 eT A B hty (sp := 0) (dp := Int32.ofNat d) (nn := Int32.ofNat n) (by decide) (n_nn (by omega)) (n_nn (by omega)) (by rw [en, e0]; omega) (by rw [en, ed]; omega) hus' (by rw [en, ed]; omega) N ge (g := mkF m pc Ls (.int (Int32.ofNat n) :: .int (Int32.ofNat d) :: .ref b :: .int 0 :: .ref a :: st)) rfl hsize (rest := st) rfl hd hf (W := W) (by show 2 * 0 + _ ≤ _; omega) (by show W + (7 + 11) ≤ _; omega)
  rw [en, ed] at V'
  exact Go.next stp (r T' h' L X' e' N' K' V')
end WP
theorem n_add (a b : Nat) : Int32.ofNat a + Int32.ofNat b = Int32.ofNat (a + b) := (Int32.ofNat_add a b).symm
theorem n_sub {a b : Nat} (h : b ≤ a) : Int32.ofNat a - Int32.ofNat b = Int32.ofNat (a - b) := by
  have e : Int32.ofNat a = Int32.ofNat (a - b) + Int32.ofNat b := by rw [n_add]; congr 1; omega
  rw [e]; exact Int32.add_sub_cancel _ _
theorem n_shl0 (x : Int32) : x <<< ((0 : Int32) &&& 31) = x := by
  have e : ((0 : Int32) &&& 31) = 0 := by decide
  rw [e]
  apply Int32.toBitVec_inj.mp
  have e3 : (x <<< (0 : Int32)).toBitVec = x.toBitVec <<< 0 := rfl
  rw [e3]; simp
theorem n_shr0 (x : Int32) : x >>> ((0 : Int32) &&& 31) = x := StrChars.shr0 x
theorem n_le0 {a b : Nat} (h : a ≤ b) (hb : b < 2 ^ 31) : ¬ (0 : Int32) < Int32.ofNat a - Int32.ofNat b := by
  rw [Int32.lt_iff_toInt_lt, Int32.toInt_sub, n_toInt hb, n_toInt (by omega)]
  have e0 : (0 : Int32).toInt = 0 := rfl
  rw [e0, Int.bmod_eq_of_le (by omega) (by omega)]
  omega
theorem n_pos {a b : Nat} (h : b < a) (ha : a < 2 ^ 31) : (0 : Int32) < Int32.ofNat a - Int32.ofNat b := by
  rw [n_sub (by omega), Int32.lt_iff_toInt_lt, n_toInt (by omega)]
  have e0 : (0 : Int32).toInt = 0 := rfl
  rw [e0]; omega

section WR
variable {p : Program} {l : Launch} {e : Env} {R : Room} {s : State} {m : MethodId} {args : Array Value} {below : List Frame} {meth : Method} {c : Code} {T : State} {locs : List Loc} {cells slots : Nat} {pc pc' : Nat} {Ls : Array Slot} {st stk : List Value} {P : State → Prop} {Z : State} {a0 : Array Value} {h : Heap}
/-- the Class object of C is made -/
def MirO (Z : State) (C : String) (mm : Addr) : Prop := ∃ (c : ClassId) (k : Class), Z.vm.findClass C = some c ∧ Z.vm.classes[c]? = some k ∧ k.mirror = some mm
theorem w_ldcM (X : Stand p l e R s m args below meth c T locs cells slots) (hx : p.tables.exec = Jvm.exec) (hZ : Z.Warmed39 s.vm) {own C : String} {index : Nat} (hown : s.vm.findClass own = some m.cls) (w : (Jvm.Cond.classLink own index C).before a0 Z = true) (eT : T.heap = h) {a : Addr} (M : MirO Z C a) (hd : decode c.code pc = .ok (.ldc index, 2)) (hp : pc + 2 = pc') (r : ∀ T', Stand p l e R s m args below meth c T' locs cells slots → T'.heap = h → Go p.tables e below P T' (mkF m pc' Ls (.ref a :: st))) : Go p.tables e below P T (mkF m pc Ls st) := by
  subst hp
  obtain ⟨c1, k, h1, h2, h3⟩ := M
  obtain ⟨k', q, ek⟩ := hZ.alike.2.2 _ _ h2
  have f1 : s.vm.findClass C = some c1 := by rw [hZ.alike.findClass]; exact h1
  have f3 : k'.mirror = some a := by rw [ek]; exact h3
  have hev : (Term.mirror C).eval args s none [] s = some (.ref a) := by simp [Term.eval, f1, q, f3]
  obtain ⟨vm', X', stp⟩ := X.ldcMirror hx hown (mvT hZ w) hev (g := mkF m pc Ls st) rfl hd
  exact Go.next stp (r _ X' eT)
theorem w_anewarray (X : Stand p l e R s m args below meth c T locs cells slots) (hx : p.tables.exec = Jvm.exec) (hZ : Z.Warmed39 s.vm) {own C ad : String} {index : Nat} (hown : s.vm.findClass own = some m.cls) (w1 : (Jvm.Cond.classLink own index C).before a0 Z = true) (w2 : (Jvm.Cond.arrayOver (.object C)).before a0 Z = true) (had : "[" ++ (FieldType.object C).toString = ad) (eT : T.heap = h) {n : Int32} (hd : decode c.code pc = .ok (.anewarray index, 3)) (hn : ¬ n < 0) {cap : Nat} (hcap : n.toNatClampNeg ≤ cap) (hb : cap * 8 ≤ 536870912) (hc : cells + 1 ≤ R.cells) (hl : slots + cap ≤ R.slots) (hp : pc + 3 = pc')
    (r : ∀ T' h' b k, h.size = b → Stand p l e R s m args below meth c T' locs (cells + 1) (slots + cap) → T'.heap = h' → Ext h h' → Arv Z h' b k (.object C) n (List.replicate n.toNatClampNeg .null) .null → Exa Z h' b ad → Ovr Z k C → Go p.tables e below P T' (mkF m pc' Ls (.ref b :: st))) : Go p.tables e below P T (mkF m pc Ls (.int n :: st)) := by
  subst hp
  obtain ⟨T', h', k, X', e', E, A, EX, O, stp⟩ := newRE X hx hZ hown w1 w2 eT (g := mkF m pc Ls (.int n :: st)) rfl hd rfl hn hcap hb hc hl had
  exact Go.next stp (r T' h' _ k rfl X' e' E ((Arv.new A hn).pad (pad_rep [] _ _)) EX O)
theorem w_aastore (X : Stand p l e R s m args below meth c T locs cells slots) (hx : p.tables.exec = Jvm.exec) (hZ : Z.Warmed39 s.vm) (eT : T.heap = h) {a y : Addr} {k : ClassId} {C : String} {n j : Int32} {vs : List Value} {dv : Value} (A : Arv Z h a k (.object C) n vs dv) (O : Ovr Z k C) (I : Ins Z h y C true) (hj : ¬ j < 0 ∧ j < n) (i : Nat) (hi : j.toNatClampNeg = i) (hl : i < vs.length) (hd : decode c.code pc = .ok (.aastore, 1)) (hp : pc + 1 = pc')
    (r : ∀ T' h', Stand p l e R s m args below meth c T' (locs ++ [⟨a, i⟩]) cells slots → T'.heap = h' → Wr h h' a i (.ref y) → Arv Z h' a k (.object C) n (vs.set i (.ref y)) dv → Go p.tables e below P T' (mkF m pc' Ls st)) : Go p.tables e below P T (mkF m pc Ls (.ref y :: .int j :: .ref a :: st)) := by
  obtain ⟨cl, Ar, q1, S, M, H, G⟩ := A
  subst hp
  obtain ⟨T', h', X', e', W, stp⟩ := stR X hx hZ eT Ar (j := j) (v := .ref y) (inb_of S hj) rfl (Sto.ofV Ar q1 O I) (g := mkF m pc Ls (.ref y :: .int j :: .ref a :: st)) rfl rfl hd
  have W' : Wr h h' a i (.ref y) := by rw [← hi]; exact W
  exact Go.next stp (r T' h' (by rw [← hi]; exact X') e' W' (Arv.set Ar q1 S M H G rfl W i hi hl))
theorem w_instN (X : Stand p l e R s m args below meth c T locs cells slots) (hx : p.tables.exec = Jvm.exec) (hZ : Z.Warmed39 s.vm) {own K C : String} {index : Nat} (hown : s.vm.findClass own = some m.cls) (w : (Jvm.Cond.classLink own index K).before a0 Z = true) (eT : T.heap = h) {a : Addr} (E : Exa Z h a C) (F : ∃ c t, Z.vm.findClass C = some c ∧ Z.vm.findClass K = some t ∧ Z.vm.assignable c t = false) (hd : decode c.code pc = .ok (.instanceof index, 3)) (hp : pc + 3 = pc') (r : ∀ T', Stand p l e R s m args below meth c T' locs cells slots → T'.heap = h → Go p.tables e below P T' (mkF m pc' Ls (.int 0 :: st))) : Go p.tables e below P T (mkF m pc Ls (.ref a :: st)) := by
  subst hp
  obtain ⟨T', X', e', stp⟩ := instNo X hx hZ hown w eT E F (g := mkF m pc Ls (.ref a :: st)) rfl rfl hd
  exact Go.next stp (r T' X' e')
abbrev BackQ5 (l : Launch) (R : Room) (p : Program) (e : Env) (below : List Frame) (s : State) (args : Array Value) (y : MethodName) (W : Nat) (as' : Array Value) (h : Heap) (kc ks : Nat) (Q : Option Value → Heap → List Loc → Prop) : Prop :=
  Back l R p e below s args y 5 W (fun A a => a = as' ∧ A.U.heap = h ∧ A.cells + kc ≤ R.cells ∧ A.slots + ks ≤ R.slots) (fun A _ v B => ∃ L, Q v B.U.heap L ∧ B.locs = A.locs ++ L ∧ B.cells = A.cells + kc ∧ B.slots = A.slots + ks)
theorem backC5 {y : MethodName} {bytes : ByteArray} {maxL : Nat} {ret : Option FieldType} {rm : Room} {W : Nat} {as' : Array Value} {Q : Option Value → Heap → List Loc → Prop} (hM : Ct l y bytes maxL ret rm Z as' h Q) (hZ : Z.Warmed39 s.vm) (wc : (Jvm.Cond.code y bytes maxL ret).before a0 Z = true) (wz : (Jvm.Cond.initialized y.cls).before a0 Z = true) (hf : rm.frames + 1 ≤ R.frames) (hl : W + (maxL + 11) + rm.locals ≤ R.locals) : BackQ5 l R p e below s args y W as' h rm.cells rm.slots Q :=
  backOf hM hZ wc wz hf hl
theorem w_interface (X : Stand p l e R s m args below meth c T locs cells slots) (hx : p.tables.exec = Jvm.exec) (hZ : Z.Warmed39 s.vm) {own C : String} {index count : Nat} {y z : MethodName} {sig : MethodDescriptor} (hown : s.vm.findClass own = some m.cls) (w1 : (Jvm.Cond.methodLink own index y).before a0 Z = true) (w2 : (Jvm.Cond.declares y).before a0 Z = true) (w3 : (Jvm.Cond.interfaceMethod y.cls y.cls y.name y.desc).before args s = true) (w4 : (Jvm.Cond.selects C y z).before a0 Z = true) (w5 : (Jvm.Cond.instanceMethod z).before a0 Z = true) (w6 : (Jvm.Cond.publicMethod z).before a0 Z = true) (w7 : (Jvm.Cond.unhidden C y.name y.desc).before a0 Z = true) (w8 : (Jvm.Cond.castable C y.cls).before a0 Z = true)
    (hy : y.cls ≠ "java/lang/invoke/MethodHandle" ∧ y.cls ≠ "java/lang/invoke/VarHandle") {W kc ks : Nat} {as' : Array Value} {Q : Option Value → Heap → List Loc → Prop} (hK : BackQ5 l R p e below s args z W as' h kc ks Q) (eT : T.heap = h) {b : Addr} (E : Exa Z h b C) (hsize : Ls.size = c.maxLocals) {argsL : List Value} (hsig : parseMethodDescriptor y.desc = some sig) (hlen : argsL.length = sig.parameters.length) (hstk : stk = argsL.reverse ++ .ref b :: st) (has : (.ref b :: argsL).toArray = as') (hW : (st.map fun v => v.category).sum ≤ W) (hd : decode c.code pc = .ok (.invokeinterface index count, 5)) (hc : cells + kc ≤ R.cells) (hs : slots + ks ≤ R.slots) (hp : pc + 5 = pc')
    (r : ∀ T' v L, Stand p l e R s m args below meth c T' (locs ++ L) (cells + kc) (slots + ks) → Q v T'.heap L → Go p.tables e below P T' (mkF m pc' Ls (v.toList ++ st))) : Go p.tables e below P T (mkF m pc Ls stk) := by
  subst hp hstk
  obtain ⟨cq, kq, qa, qb, qc⟩ := isOf hZ eT E
  obtain ⟨v, _, ⟨T', L', k', n'⟩, -, X', ⟨Lc, hQ, l', y', z'⟩, stp⟩ := X.interfaceBack hx (xi := y) (y := z) hown (mvT hZ w1) (mvT hZ w2) w3 (mvT hZ w4) (mvT hZ w5) (mvT hZ w6) (mvT hZ w7) (mvT hZ w8) hy hK qa qb qc (g := mkF m pc Ls (argsL.reverse ++ .ref b :: st)) rfl hsize (Steps.refl _) (argsL := argsL) (rest := st) (lenOf hsig hlen) rfl (by show 2 * 0 + _ ≤ _; omega) hd (fun _ _ => ⟨has, eT, hc, hs⟩)
  dsimp only at X' hQ l' y' z' stp
  subst l' y' z'
  exact Go.jump stp (r T' v Lc X' hQ)
theorem w_getSN (X : Stand p l e R s m args below meth c T locs cells slots) (hx : p.tables.exec = Jvm.exec) (hZ : Z.Warmed39 s.vm) {own R0 n d host : String} {index : Nat} (hown : s.vm.findClass own = some m.cls) (w : (Jvm.Cond.fieldLinkNest own index R0 n d host).before a0 Z = true) (eT : T.heap = h) {v : Value} (F : Sta Z h R0 n d v) (hd : decode c.code pc = .ok (.getstatic index, 3)) (hp : pc + 3 = pc') (r : ∀ T', Stand p l e R s m args below meth c T' locs cells slots → T'.heap = h → Go p.tables e below P T' (mkF m pc' Ls (v :: st))) : Go p.tables e below P T (mkF m pc Ls st) := by
  subst hp
  obtain ⟨T', X', e', stp⟩ := getS2 X hx hZ hown (host := host) (Or.inr w) Via.refl eT F (g := mkF m pc Ls st) rfl hd
  exact Go.next stp (r T' X' e')
end WR
theorem w_tswIn {tb : Tables} {e : Env} {below : List Frame} {P : State → Prop} {T : State} {m : MethodId} {c : Code} {pc pc' : Nat} {Ls : Array Slot} {st : List Value} [Ours tb] (h : At T m c below) (hx : tb.exec = Jvm.exec) {dflt low high : Int} {offs : Array Int} {len : Nat} {o : Int} {i : Int32} (hd : decode c.code pc = .ok (.tableswitch dflt low high offs, len)) (hin : ¬ (i.toInt < low ∨ i.toInt > high)) (hoff : offs[(i.toInt - low).toNat]? = some o) (ho : 0 ≤ (pc : Int) + o) (hp : ((pc : Int) + o).toNat = pc') (r : Go tb e below P T (mkF m pc' Ls st)) : Go tb e below P T (mkF m pc Ls (.int i :: st)) :=
  Go.next (fun t hr => XS.tswIn h hx rfl rfl hd rfl hin hoff ho hp hr) r

theorem w_dupx1 {tb : Tables} {e : Env} {below : List Frame} {P : State → Prop} {T : State} {m : MethodId} {c : Code} {pc pc' : Nat} {Ls : Array Slot} {st : List Value} [Ours tb] (h : At T m c below) (hx : tb.exec = Jvm.exec) {x y : Value} (hd : decode c.code pc = .ok (.dup_x1, 1)) (hc : x.category = 1) (hc' : y.category = 1) (hp : pc + 1 = pc') (r : Go tb e below P T (mkF m pc' Ls (x :: y :: x :: st))) : Go tb e below P T (mkF m pc Ls (x :: y :: st)) := by
  subst hp; exact Go.next (fun t hr => Jvm.Free.XT.dupX1 h hx rfl hd rfl hc hc' hr) r
section WA
variable {p : Program} {l : Launch} {e : Env} {R : Room} {s : State} {m : MethodId} {args : Array Value} {below : List Frame} {meth : Method} {c : Code} {T : State} {locs : List Loc} {cells slots : Nat} {pc pc' : Nat} {Ls : Array Slot} {st stk : List Value} {P : State → Prop} {Z : State} {a0 : Array Value} {h : Heap}
theorem w_ldcF (X : Stand p l e R s m args below meth c T locs cells slots) (hx : p.tables.exec = Jvm.exec) (hZ : Z.Warmed39 s.vm) {own : String} {index : Nat} {v : UInt32} (hown : s.vm.findClass own = some m.cls) (w : (Jvm.Cond.constantFloat own index v).before a0 Z = true) (hd : decode c.code pc = .ok (.ldc index, 2)) (hp : pc + 2 = pc') (r : Go p.tables e below P T (mkF m pc' Ls (.float v :: st))) : Go p.tables e below P T (mkF m pc Ls st) := by
  subst hp
  exact Go.next (fun t hr => X.ldcFloatC hx hown (mvT hZ w) (g := mkF m pc Ls st) rfl hd _ hr) r
theorem w_aaloadA (X : Stand p l e R s m args below meth c T locs cells slots) (hx : p.tables.exec = Jvm.exec) (hZ : Z.Warmed39 s.vm) (eT : T.heap = h) {a : Addr} {cl : Cell} {ty : FieldType} {j : Int32} {v : Value} (A : Arr Z h a cl ty) (hty : ty.isReference = true) (hj : ¬ (j < 0 ∨ cl.slots.size ≤ j.toNatClampNeg)) (hv : cl.slots[j.toNatClampNeg]? = some v) (hd : decode c.code pc = .ok (.aaload, 1)) (hp : pc + 1 = pc') (r : Go p.tables e below P T (mkF m pc' Ls (v :: st))) : Go p.tables e below P T (mkF m pc Ls (.int j :: .ref a :: st)) := by
  subst hp
  exact Go.next (fun t hr => X.aaload hx (by rw [eT]; exact A.1) (State.isArrayOf_alike hZ.alike A.2.1) hty A.2.2 hj hv (g := mkF m pc Ls (.int j :: .ref a :: st)) rfl rfl hd _ hr) r
/-- Object.getClass() -/
theorem w_getClass (X : Stand p l e R s m args below meth c T locs cells slots) (hx : p.tables.exec = Jvm.exec) (hZ : Z.Warmed39 s.vm) {own C : String} {index : Nat} (hown : s.vm.findClass own = some m.cls)
    (w1 : (Jvm.Cond.methodLink own index ⟨"java/lang/Object", "getClass", "()Ljava/lang/Class;"⟩).before a0 Z = true) (w2 : (Jvm.Cond.declares ⟨"java/lang/Object", "getClass", "()Ljava/lang/Class;"⟩).before a0 Z = true) (w4 : (Jvm.Cond.selects C ⟨"java/lang/Object", "getClass", "()Ljava/lang/Class;"⟩ ⟨"java/lang/Object", "getClass", "()Ljava/lang/Class;"⟩).before a0 Z = true)
    (w5 : (Jvm.Cond.instanceMethod ⟨"java/lang/Object", "getClass", "()Ljava/lang/Class;"⟩).before a0 Z = true) (w6 : (Jvm.Cond.native ⟨"java/lang/Object", "getClass", "()Ljava/lang/Class;"⟩).before a0 Z = true) (eT : T.heap = h) {a mr : Addr} (E : Exa Z h a C) (M : MirO Z C mr)
    (hsize : Ls.size = c.maxLocals) (hd : decode c.code pc = .ok (.invokevirtual index, 3)) (hf : 1 ≤ R.frames) {W : Nat} (hW : (st.map fun v => v.category).sum ≤ W) (hl : W + 14 ≤ R.locals) (hp : pc + 3 = pc') (r : ∀ T', Stand p l e R s m args below meth c T' locs cells slots → T'.heap = h → Go p.tables e below P T' (mkF m pc' Ls (.ref mr :: st))) : Go p.tables e below P T (mkF m pc Ls (.ref a :: st)) := by
  subst hp
  obtain ⟨cB, kB, i1, i2, i3⟩ := isOf hZ eT E
  obtain ⟨cc, kc, m1, m2, m3⟩ := M
  rw [hZ.alike.findClass] at i1
  cases i1.symm.trans m1
  obtain ⟨k', q, ek⟩ := hZ.alike.2.2 _ _ m2
  obtain ⟨vm', X', stp⟩ := X.getClassOf hx hown (mvT hZ w1) (mvT hZ w2) (notFace_of_selects (args := #[]) (mvT hZ w4)) (mvT hZ w4) (mvT hZ w5) (mvT hZ w6) (by rw [hZ.alike.findClass]; exact m1) i3 q (by rw [ek]; exact m3) (g := mkF m pc Ls (.ref a :: st)) rfl hsize (rest := st) rfl hd hf (by show _ + (3 + 11) ≤ _; show 2 * 0 + _ + (3 + 11) ≤ _; omega)
  exact Go.next stp (r _ X' eT)
end WA

theorem own_wLen : ∀ d ∈ StrChars.Road.wordsLen, d ∈ tables_1 := by decide +kernel
theorem own_wEq : ∀ d ∈ StrChars.Road.wordsEq, d ∈ tables_1 := by decide +kernel
theorem own_wNew : ∀ d ∈ StrChars.Road.words, d ∈ tables_1 := by decide +kernel
theorem own_wEmp : ∀ d ∈ StrChars.Road.wordsEmp, d ∈ tables_1 := by decide +kernel
theorem own_wStr : ∀ d ∈ Bundle.stringAtoms, d ∈ tables_1 := by decide +kernel
abbrev QEmp (cs : List Int32) (h : Heap) (v : Option Value) (h' : Heap) (L : List Loc) : Prop := v = some (.int (if cs.length = 0 then 1 else 0)) ∧ L = [] ∧ h' = h
theorem k_emp {p : Program} {l : Launch} {e : Env} {R : Room} {s : State} {args : Array Value} {below : List Frame} {W : Nat} {Z : State} {a0 : Array Value} {h : Heap} (hZ : Z.Warmed39 s.vm) (hw : ∀ d ∈ StrChars.Road.wordsEmp, d.before a0 Z = true) (wi : (Jvm.Cond.instantiable "java/lang/String" 4).before a0 Z = true)
    {x : Addr} {cs : List Int32} (A : StrOf Z h x cs) (hfr : 1 ≤ R.frames) (hlo : W + 12 ≤ R.locals) :
    BackQ l R p e below s args yq9 W #[.ref x] h 0 0 (QEmp cs h) := by
  obtain ⟨t, kb, cd, N2, vs, a1, a2, a3, a4, a5, a6, a7⟩ := A
  exact StrChars.Road.empW hZ hw wi a1 a2 a3 a4 a5 a6 a7 hfr hlo
theorem nar_c {c : Int32} (h : ¬ c < 0 ∧ ¬ (65535 : Int32) < c) : nar .char c = c := by
  have q := StrChars.narrow_ch h.1 h.2; simp only [narrow, Value.int.injEq] at q; exact q
theorem m255 (x : Int32) : ¬ (x &&& 255) < 0 ∧ ¬ (255 : Int32) < (x &&& 255) := by
  have h := c_and x 255 (by decide)
  have e : (255 : Int32).toInt = 255 := rfl
  have z : (0 : Int32).toInt = 0 := rfl
  rw [Int32.lt_iff_toInt_lt, Int32.lt_iff_toInt_lt]
  omega
theorem m255c (x : Int32) : nar .char ((x &&& 255).toUInt32.toUInt16.toUInt32.toInt32) = x &&& 255 := by
  have h := m255 x
  have r : ¬ (x &&& 255) < 0 ∧ ¬ (65535 : Int32) < (x &&& 255) := ⟨h.1, fun q => h.2 (by rw [Int32.lt_iff_toInt_lt] at q ⊢; exact Int.lt_trans (by decide) q)⟩
  show nar .char (nar .char (x &&& 255)) = _
  rw [nar_c r, nar_c r]
def two (x : Int32) : List Int32 := [x &&& 255, (x.toUInt32 >>> ((8 : Int32) &&& 31).toUInt32).toInt32 &&& 255]
def SqOf (Z : State) (h : Heap) (o p b pl vl : Addr) : Prop := Exa Z h o "com/example/crud4/crud4/SqlBuilder" ∧ Fld Z h o "com/example/crud4/crud4/SqlBuilder" "text" "Ljava/lang/StringBuilder;" (.ref b) ∧ Fld Z h o "com/example/crud4/crud4/SqlBuilder" "placeholders" "Ljava/util/List;" (.ref pl) ∧ Fld Z h o "com/example/crud4/crud4/SqlBuilder" "values" "Ljava/util/List;" (.ref vl) ∧ Fld Z h o "com/example/crud4/crud4/SqlBuilder" "parameter" "Lcom/example/crud4/crud4/StatementParameter;" (.ref p)
theorem SqOf.ext {Z : State} {h h' : Heap} {o p b pl vl : Addr} (F : SqOf Z h o p b pl vl) (E : Ext h h') : SqOf Z h' o p b pl vl := ⟨F.1.ext E, F.2.1.ext E, F.2.2.1.ext E, F.2.2.2.1.ext E, F.2.2.2.2.ext E⟩
theorem SqOf.keep {Z : State} {h h' : Heap} {o p b pl vl : Addr} {ws : List Addr} (F : SqOf Z h o p b pl vl) (K : Keep h h' ws) (q : o ∉ ws) : SqOf Z h' o p b pl vl := ⟨F.1.keep K, F.2.1.keep K q, F.2.2.1.keep K q, F.2.2.2.1.keep K q, F.2.2.2.2.keep K q⟩


def lobs (cs : List Int32) : List Value := cs.map (fun c => Value.int (StrChars.lo8 c))
theorem lobs_len (cs : List Int32) : (lobs cs).length = cs.length := by simp [lobs]
theorem lobs_app (cs ds : List Int32) : lobs (cs ++ ds) = lobs cs ++ lobs ds := by simp [lobs]
/-- the bytes of a builder's array: the chars, then zeros -/
def padB (cs : List Int32) (N : Nat) : List Value := lobs cs ++ List.replicate (N - cs.length) (.int 0)
theorem padB_len {cs : List Int32} {N : Nat} (h : cs.length ≤ N) : (padB cs N).length = N := by simp [padB, lobs_len]; omega
theorem padB_put {cs ds : List Int32} {N : Nat} (h : cs.length + ds.length ≤ N) : (padB cs N).take cs.length ++ lobs ds ++ (padB cs N).drop (cs.length + ds.length) = padB (cs ++ ds) N := by
  have e1 : (padB cs N).take cs.length = lobs cs := by simp [padB, ← lobs_len cs]
  have e2 : (padB cs N).drop (cs.length + ds.length) = List.replicate (N - (cs.length + ds.length)) (.int 0) := by
    unfold padB
    rw [← List.drop_drop]
    rw [show cs.length = (lobs cs).length from (lobs_len cs).symm, List.drop_left, List.drop_replicate]
    congr 1; rw [lobs_len]; omega
  rw [e1, e2]; simp [padB, lobs_app]
theorem padB_take {cs : List Int32} {N : Nat} : (padB cs N).take cs.length = lobs cs := by simp [padB, ← lobs_len cs]
theorem padB_grow {cs : List Int32} (h : cs.length ≤ 16) : padB cs 16 ++ List.replicate 18 (.int 0) = padB cs 34 := by
  unfold padB
  rw [List.append_assoc, List.replicate_append_replicate]
  congr 2; omega
def LatC (cs : List Int32) : Prop := ∀ c ∈ cs, ¬ c < 0 ∧ ¬ (255 : Int32) < c
theorem LatC.app {cs ds : List Int32} (A : LatC cs) (B : LatC ds) : LatC (cs ++ ds) := fun c q => (List.mem_append.mp q).elim (A c) (B c)
def SbOf (Z : State) (h : Heap) (b t : Addr) (kt : ClassId) (cs : List Int32) (N : Nat) : Prop := Exa Z h b "java/lang/StringBuilder" ∧ Fld Z h b "java/lang/AbstractStringBuilder" "value" "[B" (.ref t) ∧ Fld Z h b "java/lang/AbstractStringBuilder" "coder" "B" (.int 0) ∧ Fld Z h b "java/lang/AbstractStringBuilder" "count" "I" (.int (Int32.ofNat cs.length)) ∧ Arv Z h t kt .byte (Int32.ofNat N) (padB cs N) (.int 0) ∧ cs.length ≤ N ∧ N ≤ 4000 ∧ LatC cs
theorem SbOf.ext {Z : State} {h h' : Heap} {b t : Addr} {kt : ClassId} {cs : List Int32} {N : Nat} (F : SbOf Z h b t kt cs N) (E : Ext h h') : SbOf Z h' b t kt cs N := ⟨F.1.ext E, F.2.1.ext E, F.2.2.1.ext E, F.2.2.2.1.ext E, F.2.2.2.2.1.ext E, F.2.2.2.2.2⟩
theorem SbOf.keep {Z : State} {h h' : Heap} {b t : Addr} {kt : ClassId} {cs : List Int32} {N : Nat} {ws : List Addr} (F : SbOf Z h b t kt cs N) (K : Keep h h' ws) (q1 : b ∉ ws) (q2 : t ∉ ws) : SbOf Z h' b t kt cs N := ⟨F.1.keep K, F.2.1.keep K q1, F.2.2.1.keep K q1, F.2.2.2.1.keep K q1, F.2.2.2.2.1.keep K q2, F.2.2.2.2.2⟩
/-- a String of Latin1 chars -/
def LstOf (Z : State) (h : Heap) (x u : Addr) (ku : ClassId) (cs : List Int32) : Prop := Exa Z h x "java/lang/String" ∧ Fld Z h x "java/lang/String" "value" "[B" (.ref u) ∧ Fld Z h x "java/lang/String" "coder" "B" (.int 0) ∧ Arv Z h u ku .byte (Int32.ofNat cs.length) (lobs cs) (.int 0) ∧ cs.length ≤ 4000 ∧ LatC cs
theorem LstOf.str {Z : State} {h : Heap} {x u : Addr} {ku : ClassId} {cs : List Int32} (F : LstOf Z h x u ku cs) : StrOf Z h x cs := by
  obtain ⟨a, b, c, d, e, f⟩ := F
  exact ⟨u, ku, 0, _, _, a, b, c, d, Or.inl ⟨rfl, rfl, rfl, fun q r => (f q r).2⟩, fun q r => ⟨(f q r).1, fun g => (f q r).2 (by rw [Int32.lt_iff_toInt_lt] at g ⊢; exact Int.lt_trans (by decide) g)⟩, e⟩
theorem LstOf.of {Z : State} {h : Heap} {x : Addr} {cs : List Int32} (F : StrOf Z h x cs) (hl : LatC cs) : ∃ u ku, LstOf Z h x u ku cs := by
  obtain ⟨t, kb, cd, N2, vs, a, b, c, d, e, f, g⟩ := F
  rcases e with ⟨rfl, rfl, rfl, -⟩ | ⟨-, -, -, q, hq, r⟩
  · exact ⟨t, kb, a, b, c, d, g, hl⟩
  · exact absurd r (hl q hq).2
theorem LstOf.ext {Z : State} {h h' : Heap} {x u : Addr} {ku : ClassId} {cs : List Int32} (F : LstOf Z h x u ku cs) (E : Ext h h') : LstOf Z h' x u ku cs := ⟨F.1.ext E, F.2.1.ext E, F.2.2.1.ext E, F.2.2.2.1.ext E, F.2.2.2.2⟩
theorem LstOf.keep {Z : State} {h h' : Heap} {x u : Addr} {ku : ClassId} {cs : List Int32} {ws : List Addr} (F : LstOf Z h x u ku cs) (K : Keep h h' ws) (q1 : x ∉ ws) (q2 : u ∉ ws) : LstOf Z h' x u ku cs := ⟨F.1.keep K, F.2.1.keep K q1, F.2.2.1.keep K q1, F.2.2.2.1.keep K q2, F.2.2.2.2⟩

theorem d_jdk_42m_152_0 : decode jdk_42_method_152_code 0 = .ok (.getstatic 38, 3) := by decide +kernel
theorem d_jdk_42m_152_3 : decode jdk_42_method_152_code 3 = .ok (.ifCond .eq 10, 3) := by decide +kernel
theorem d_jdk_42m_152_6 : decode jdk_42_method_152_code 6 = .ok (.aload_n 0, 1) := by decide +kernel
theorem d_jdk_42m_152_7 : decode jdk_42_method_152_code 7 = .ok (.getfield 15, 3) := by decide +kernel
theorem d_jdk_42m_152_10 : decode jdk_42_method_152_code 10 = .ok (.goto 4, 3) := by decide +kernel
theorem d_jdk_42m_152_14 : decode jdk_42_method_152_code 14 = .ok (.ireturn, 1) := by decide +kernel
theorem pn_0 : plainName "java/lang/String" = true := by first | (simp [plainName, overriddenIn]; done) | decide +kernel
set_option maxRecDepth 65536 in
set_option maxHeartbeats 40000000 in
theorem rmCoder (l : Launch) (Z : State) (a0 : Array Value) (hw : ∀ d ∈ tables_1, d.before a0 Z = true) (x : Addr) (z cd : Int32) (h0 : Heap) (SC : Sta Z h0 "java/lang/String" "COMPACT_STRINGS" "Z" (.int z)) (hz : ¬ z = 0) (F : Fld Z h0 x "java/lang/String" "coder" "B" (.int cd)) (hcd : nar .byte cd = cd) :
    Ct l yq10 jdk_42_method_152_code 1 (some .byte) ({ frames := 0, cells := 0, slots := 0, locals := 0 } : Room) Z #[(.ref x)] h0 (fun v h L => v = some (.int cd) ∧ L = [] ∧ h = h0) := by
  refine ct_of (Q := fun v h L => v = some (.int cd) ∧ L = [] ∧ h = h0) (plainFor_of_name pn_0) ?_
  intro p e s m below meth c s₁ X0 hx hby hml hret hnm hlk hown hZ hs0 e0
  rw [show entryFrame m #[(.ref x)] 1 = mkF m 0 #[.val (.ref x)] [] from by first | (simp [entryFrame, mkF, argsToLocals, Value.category]; done) | rfl]
  refine w_getS X0 hx hZ hown (tw hw 21 rfl) Via.refl e0 SC (hb hby d_jdk_42m_152_0) (pc' := 3) rfl ?_
  intro T1 X1 e1
  refine w_ifNo X1.here hx (hb hby d_jdk_42m_152_3) (feq (show ¬ (z = (0 : Int32)) from hz)).1 (pc' := 6) rfl ?_
  refine w_aloadN X1.here hx (hb hby d_jdk_42m_152_6) rfl rfl (pc' := 7) rfl ?_
  refine w_getF X1 hx hZ hown (tw hw 33 rfl) Via.refl e1 F (hb hby d_jdk_42m_152_7) (pc' := 10) rfl ?_
  intro T2 X2 e2
  refine w_goto X2.here hx (hb hby d_jdk_42m_152_10) (pc' := 14) (by decide) (by decide) ?_
  exact endZ X2 hx hlk hret (by simp) (hb hby d_jdk_42m_152_14) (hcd) (by decide) (by decide) (by rw [e2]; exact ⟨rfl, rfl, rfl⟩)
theorem d_jdk_68m_6_0 : decode jdk_68_method_6_code 0 = .ok (.aload_n 0, 1) := by decide +kernel
theorem d_jdk_68m_6_1 : decode jdk_68_method_6_code 1 = .ok (.getfield 79, 3) := by decide +kernel
theorem d_jdk_68m_6_4 : decode jdk_68_method_6_code 4 = .ok (.ireturn, 1) := by decide +kernel
theorem pn_1 : plainName "java/lang/AbstractStringBuilder" = true := by first | (simp [plainName, overriddenIn]; done) | decide +kernel
set_option maxRecDepth 65536 in
set_option maxHeartbeats 40000000 in
theorem rmLenA (l : Launch) (Z : State) (a0 : Array Value) (hw : ∀ d ∈ tables_1, d.before a0 Z = true) (b t : Addr) (kt : ClassId) (cs : List Int32) (N : Nat) (h0 : Heap) (B : SbOf Z h0 b t kt cs N) :
    Ct l yq26 jdk_68_method_6_code 1 (some .int) ({ frames := 0, cells := 0, slots := 0, locals := 0 } : Room) Z #[(.ref b)] h0 (fun v h L => v = some (.int (Int32.ofNat cs.length)) ∧ L = [] ∧ h = h0) := by
  refine ct_of (Q := fun v h L => v = some (.int (Int32.ofNat cs.length)) ∧ L = [] ∧ h = h0) (plainFor_of_name pn_1) ?_
  intro p e s m below meth c s₁ X0 hx hby hml hret hnm hlk hown hZ hs0 e0
  rw [show entryFrame m #[(.ref b)] 1 = mkF m 0 #[.val (.ref b)] [] from by first | (simp [entryFrame, mkF, argsToLocals, Value.category]; done) | rfl]
  refine w_aloadN X0.here hx (hb hby d_jdk_68m_6_0) rfl rfl (pc' := 1) rfl ?_
  refine w_getF X0 hx hZ hown (tw hw 206 rfl) Via.refl e0 B.2.2.2.1 (hb hby d_jdk_68m_6_1) (pc' := 4) rfl ?_
  intro T3 X3 e3
  exact endI X3 hx hlk hret (hb hby d_jdk_68m_6_4) (by decide) (by decide) (by rw [e3]; exact ⟨rfl, rfl, rfl⟩)
theorem d_jdk_67m_93_0 : decode jdk_67_method_93_code 0 = .ok (.aload_n 0, 1) := by decide +kernel
theorem pd_0 : parseMethodDescriptor "()I" = some ⟨[], some .int⟩ := by decide +kernel
theorem d_jdk_67m_93_1 : decode jdk_67_method_93_code 1 = .ok (.invokespecial 343, 3) := by decide +kernel
theorem d_jdk_67m_93_4 : decode jdk_67_method_93_code 4 = .ok (.ireturn, 1) := by decide +kernel
theorem pn_2 : plainName "java/lang/StringBuilder" = true := by first | (simp [plainName, overriddenIn]; done) | decide +kernel
set_option maxRecDepth 65536 in
set_option maxHeartbeats 40000000 in
theorem rmLenS (l : Launch) (Z : State) (a0 : Array Value) (hw : ∀ d ∈ tables_1, d.before a0 Z = true) (b t : Addr) (kt : ClassId) (cs : List Int32) (N : Nat) (h0 : Heap) (B : SbOf Z h0 b t kt cs N) :
    Ct l yq18 jdk_67_method_93_code 1 (some .int) ({ frames := 1, cells := 0, slots := 0, locals := 12 } : Room) Z #[(.ref b)] h0 (fun v h L => v = some (.int (Int32.ofNat cs.length)) ∧ L = [] ∧ h = h0) := by
  refine ct_of (Q := fun v h L => v = some (.int (Int32.ofNat cs.length)) ∧ L = [] ∧ h = h0) (plainFor_of_name pn_2) ?_
  intro p e s m below meth c s₁ X0 hx hby hml hret hnm hlk hown hZ hs0 e0
  rw [show entryFrame m #[(.ref b)] 1 = mkF m 0 #[.val (.ref b)] [] from by first | (simp [entryFrame, mkF, argsToLocals, Value.category]; done) | rfl]
  refine w_aloadN X0.here hx (hb hby d_jdk_67m_93_0) rfl rfl (pc' := 1) rfl ?_
  refine w_super X0 hx hZ (y := yq26) hown (tw hw 203 rfl) (own_same (tw hw 199 rfl) (by decide) (tw hw 195 rfl) rfl) (tw hw 199 rfl) (tw hw 204 rfl) (tw hw 205 rfl) (by decide) (backC (W := 0) (rmLenA l Z a0 hw b t kt cs N h0 B) hZ (tw hw 205 rfl) (tw hw 145 rfl) (by decide) (by decide)) e0 (Ins.self B.1) (by rw [hml]; rfl) (argsL := []) (st := []) pd_0 rfl rfl rfl (Nat.le_of_ble_eq_true rfl) (hb hby d_jdk_67m_93_1) (by decide) (by decide) (pc' := 4) rfl ?_
  intro T4 v4 L4 X4 Q4
  obtain ⟨rfl, rfl, hh⟩ := Q4
  show Go _ _ _ _ T4 (mkF m 4 _ [(.int (Int32.ofNat cs.length))])
  exact endI X4 hx hlk hret (hb hby d_jdk_67m_93_4) (by decide) (by decide) (⟨rfl, rfl, hh⟩)
theorem d_jdk_68m_64_0 : decode jdk_68_method_64_code 0 = .ok (.aload_n 0, 1) := by decide +kernel
theorem d_jdk_68m_64_1 : decode jdk_68_method_64_code 1 = .ok (.getfield 15, 3) := by decide +kernel
theorem d_jdk_68m_64_4 : decode jdk_68_method_64_code 4 = .ok (.areturn, 1) := by decide +kernel
set_option maxRecDepth 65536 in
set_option maxHeartbeats 40000000 in
theorem rmGetV (l : Launch) (Z : State) (a0 : Array Value) (hw : ∀ d ∈ tables_1, d.before a0 Z = true) (b t : Addr) (kt : ClassId) (cs : List Int32) (N : Nat) (h0 : Heap) (B : SbOf Z h0 b t kt cs N) :
    Ct l yq27 jdk_68_method_64_code 1 (some (.array .byte)) ({ frames := 0, cells := 0, slots := 0, locals := 0 } : Room) Z #[(.ref b)] h0 (fun v h L => v = some (.ref t) ∧ L = [] ∧ h = h0) := by
  refine ct_of (Q := fun v h L => v = some (.ref t) ∧ L = [] ∧ h = h0) (plainFor_of_name pn_1) ?_
  intro p e s m below meth c s₁ X0 hx hby hml hret hnm hlk hown hZ hs0 e0
  rw [show entryFrame m #[(.ref b)] 1 = mkF m 0 #[.val (.ref b)] [] from by first | (simp [entryFrame, mkF, argsToLocals, Value.category]; done) | rfl]
  refine w_aloadN X0.here hx (hb hby d_jdk_68m_64_0) rfl rfl (pc' := 1) rfl ?_
  refine w_getF X0 hx hZ hown (tw hw 149 rfl) Via.refl e0 B.2.1 (hb hby d_jdk_68m_64_1) (pc' := 4) rfl ?_
  intro T5 X5 e5
  exact endR X5 hx hlk rfl hret rfl (hb hby d_jdk_68m_64_4) (by decide) (by decide) (by rw [e5]; exact ⟨rfl, rfl, rfl⟩)
theorem d_jdk_68m_68_0 : decode jdk_68_method_68_code 0 = .ok (.getstatic 18, 3) := by decide +kernel
theorem d_jdk_68m_68_3 : decode jdk_68_method_68_code 3 = .ok (.ifCond .eq 14, 3) := by decide +kernel
theorem d_jdk_68m_68_6 : decode jdk_68_method_68_code 6 = .ok (.aload_n 0, 1) := by decide +kernel
theorem d_jdk_68m_68_7 : decode jdk_68_method_68_code 7 = .ok (.getfield 22, 3) := by decide +kernel
theorem d_jdk_68m_68_10 : decode jdk_68_method_68_code 10 = .ok (.ifCond .ne 7, 3) := by decide +kernel
theorem d_jdk_68m_68_13 : decode jdk_68_method_68_code 13 = .ok (.iconst 1, 1) := by decide +kernel
theorem d_jdk_68m_68_14 : decode jdk_68_method_68_code 14 = .ok (.goto 4, 3) := by decide +kernel
theorem d_jdk_68m_68_18 : decode jdk_68_method_68_code 18 = .ok (.ireturn, 1) := by decide +kernel
set_option maxRecDepth 65536 in
set_option maxHeartbeats 40000000 in
theorem rmIsL (l : Launch) (Z : State) (a0 : Array Value) (hw : ∀ d ∈ tables_1, d.before a0 Z = true) (b t : Addr) (kt : ClassId) (cs : List Int32) (N : Nat) (h0 : Heap) (B : SbOf Z h0 b t kt cs N) (z : Int32) (SC : Sta Z h0 "java/lang/String" "COMPACT_STRINGS" "Z" (.int z)) (hz : ¬ z = 0) :
    Ct l yq28 jdk_68_method_68_code 1 (some .boolean) ({ frames := 0, cells := 0, slots := 0, locals := 0 } : Room) Z #[(.ref b)] h0 (fun v h L => v = some (.int 1) ∧ L = [] ∧ h = h0) := by
  refine ct_of (Q := fun v h L => v = some (.int 1) ∧ L = [] ∧ h = h0) (plainFor_of_name pn_1) ?_
  intro p e s m below meth c s₁ X0 hx hby hml hret hnm hlk hown hZ hs0 e0
  rw [show entryFrame m #[(.ref b)] 1 = mkF m 0 #[.val (.ref b)] [] from by first | (simp [entryFrame, mkF, argsToLocals, Value.category]; done) | rfl]
  refine w_getS X0 hx hZ hown (tw hw 148 rfl) Via.refl e0 SC (hb hby d_jdk_68m_68_0) (pc' := 3) rfl ?_
  intro T6 X6 e6
  refine w_ifNo X6.here hx (hb hby d_jdk_68m_68_3) (feq (show ¬ (z = (0 : Int32)) from hz)).1 (pc' := 6) rfl ?_
  refine w_aloadN X6.here hx (hb hby d_jdk_68m_68_6) rfl rfl (pc' := 7) rfl ?_
  refine w_getF X6 hx hZ hown (tw hw 151 rfl) Via.refl e6 B.2.2.1 (hb hby d_jdk_68m_68_7) (pc' := 10) rfl ?_
  intro T7 X7 e7
  refine w_ifNo X7.here hx (hb hby d_jdk_68m_68_10) (teq (show (0 : Int32) = (0 : Int32) from rfl)).2 (pc' := 13) rfl ?_
  refine w_iconst X7.here hx (hb hby d_jdk_68m_68_13) (z := 1) rfl (pc' := 14) rfl ?_
  refine w_goto X7.here hx (hb hby d_jdk_68m_68_14) (pc' := 18) (by decide) (by decide) ?_
  exact endZ X7 hx hlk hret (by simp) (hb hby d_jdk_68m_68_18) (show nar .boolean (1 : Int32) = (1 : Int32) from rfl) (by decide) (by decide) (by rw [e7]; exact ⟨rfl, rfl, rfl⟩)
theorem d_jdk_68m_2_0 : decode jdk_68_method_2_code 0 = .ok (.aload_n 0, 1) := by decide +kernel
theorem d_jdk_68m_2_1 : decode jdk_68_method_2_code 1 = .ok (.invokespecial 3, 3) := by decide +kernel
theorem d_jdk_68m_2_4 : decode jdk_68_method_2_code 4 = .ok (.getstatic 18, 3) := by decide +kernel
theorem d_jdk_68m_2_7 : decode jdk_68_method_2_code 7 = .ok (.ifCond .eq 18, 3) := by decide +kernel
theorem d_jdk_68m_2_10 : decode jdk_68_method_2_code 10 = .ok (.aload_n 0, 1) := by decide +kernel
theorem d_jdk_68m_2_11 : decode jdk_68_method_2_code 11 = .ok (.iload_n 1, 1) := by decide +kernel
theorem d_jdk_68m_2_12 : decode jdk_68_method_2_code 12 = .ok (.newarray .byte, 2) := by decide +kernel
theorem d_jdk_68m_2_14 : decode jdk_68_method_2_code 14 = .ok (.putfield 15, 3) := by decide +kernel
theorem d_jdk_68m_2_17 : decode jdk_68_method_2_code 17 = .ok (.aload_n 0, 1) := by decide +kernel
theorem d_jdk_68m_2_18 : decode jdk_68_method_2_code 18 = .ok (.iconst 0, 1) := by decide +kernel
theorem d_jdk_68m_2_19 : decode jdk_68_method_2_code 19 = .ok (.putfield 22, 3) := by decide +kernel
theorem d_jdk_68m_2_22 : decode jdk_68_method_2_code 22 = .ok (.goto 16, 3) := by decide +kernel
theorem d_jdk_68m_2_38 : decode jdk_68_method_2_code 38 = .ok (.return_, 1) := by decide +kernel
set_option maxRecDepth 65536 in
set_option maxHeartbeats 40000000 in
theorem rmAbi (l : Launch) (Z : State) (a0 : Array Value) (hw : ∀ d ∈ tables_1, d.before a0 Z = true) (b : Addr) (z : Int32) (h0 : Heap) (n0 : Nat) (gb : n0 ≤ b) (SC : Sta Z h0 "java/lang/String" "COMPACT_STRINGS" "Z" (.int z)) (hz : ¬ z = 0) (EX : Exa Z h0 b "java/lang/StringBuilder") (FV : Fld Z h0 b "java/lang/AbstractStringBuilder" "value" "[B" .null) (FC : Fld Z h0 b "java/lang/AbstractStringBuilder" "coder" "B" (.int 0)) (FN : Fld Z h0 b "java/lang/AbstractStringBuilder" "count" "I" (.int 0)) :
    Ct l (⟨"java/lang/AbstractStringBuilder", "<init>", "(I)V"⟩ : MethodName) jdk_68_method_2_code 2 none ({ frames := 1, cells := 1, slots := 16, locals := 12 } : Room) Z #[(.ref b), (.int (16 : Int32))] h0 (fun v h L => v = none ∧ Fr n0 L ∧ Keep h0 h [b] ∧ ∃ t kt, h0.size ≤ t ∧ SbOf Z h b t kt [] 16) := by
  refine ct_of (Q := fun v h L => v = none ∧ Fr n0 L ∧ Keep h0 h [b] ∧ ∃ t kt, h0.size ≤ t ∧ SbOf Z h b t kt [] 16) (plainFor_of_name pn_1) ?_
  intro p e s m below meth c s₁ X0 hx hby hml hret hnm hlk hown hZ hs0 e0
  have N0 := Fr.nil n0
  rw [show entryFrame m #[(.ref b), (.int (16 : Int32))] 2 = mkF m 0 #[.val (.ref b), .val (.int (16 : Int32))] [] from by first | (simp [entryFrame, mkF, argsToLocals, Value.category]; done) | rfl]
  refine w_aloadN X0.here hx (hb hby d_jdk_68m_2_0) rfl rfl (pc' := 1) rfl ?_
  refine w_initO X0 hx hZ hown (tw hw 147 rfl) (tw hw 19 rfl) (tw hw 20 rfl) e0 (by rw [hml]; rfl) (hb hby d_jdk_68m_2_1) (by decide) (W := 0) (Nat.le_of_ble_eq_true rfl) (by decide) (pc' := 4) rfl ?_
  intro T8 X8 e8
  refine w_getS X8 hx hZ hown (tw hw 148 rfl) Via.refl e8 SC (hb hby d_jdk_68m_2_4) (pc' := 7) rfl ?_
  intro T9 X9 e9
  refine w_ifNo X9.here hx (hb hby d_jdk_68m_2_7) (feq (show ¬ (z = (0 : Int32)) from hz)).1 (pc' := 10) rfl ?_
  refine w_aloadN X9.here hx (hb hby d_jdk_68m_2_10) rfl rfl (pc' := 11) rfl ?_
  refine w_iloadN X9.here hx (hb hby d_jdk_68m_2_11) rfl (pc' := 12) rfl ?_
  refine w_newarray X9 hx hZ (ty := .byte) (dv := (.int 0)) rfl rfl (tw hw 26 rfl) e9 (n := (16 : Int32)) (hb hby d_jdk_68m_2_12) (by decide) (cap := 16) (by decide) (by decide) (by decide) (by decide) (pc' := 14) rfl ?_
  intro T10 h10 t kt gt X10 e10 E10 V
  have ge_t_h0 : h0.size ≤ t := Nat.le_trans (Ext.rfl' : Ext h0 h0).1 (Nat.le_of_eq gt)
  have C11 : Ext h0 h10 := Ext.trs Ext.rfl' E10
  have ne : t ≠ b := Nat.ne_of_gt (Nat.lt_of_lt_of_le EX.lt ge_t_h0)
  have EX1 := EX.ext C11
  have FV1 := FV.ext C11
  have FC1 := FC.ext C11
  have FN1 := FN.ext C11
  refine w_putF X10 hx hZ hown (tw hw 149 rfl) Via.refl e10 FV1 EX1 (Or.inl (tw hw 150 rfl)) (tw hw 136 rfl) (ty := (.array .byte)) (by decide) rfl rfl (hb hby d_jdk_68m_2_14) (pc' := 17) rfl ?_
  intro T12 h12 X12 e12 W12
  have N1 := Fr.snoc X12 N0 gb
  have EX2 := EX1.wr W12
  have FV2 := Fld.same W12 FV1
  have FC2 := FC1.other W12 (Or.inr (slot_ne (Or.inl (tw hw 152 rfl)) (Or.inl (tw hw 150 rfl)) (by decide) (t := .byte) (t' := (.array .byte)) (by decide) (by decide)))
  have FN2 := FN1.other W12 (Or.inr (slot_ne (Or.inl (tw hw 207 rfl)) (Or.inl (tw hw 150 rfl)) (by decide) (t := .int) (t' := (.array .byte)) (by decide) (by decide)))
  refine w_aloadN X12.here hx (hb hby d_jdk_68m_2_17) rfl rfl (pc' := 18) rfl ?_
  refine w_iconst X12.here hx (hb hby d_jdk_68m_2_18) (z := 0) rfl (pc' := 19) rfl ?_
  refine w_putF X12 hx hZ hown (tw hw 151 rfl) Via.refl e12 FC2 EX2 (Or.inl (tw hw 152 rfl)) (tw hw 136 rfl) (ty := .byte) (by decide) rfl rfl (hb hby d_jdk_68m_2_19) (pc' := 22) rfl ?_
  intro T13 h13 X13 e13 W13
  have N2 := Fr.snoc X13 N1 gb
  refine w_goto X13.here hx (hb hby d_jdk_68m_2_22) (pc' := 38) (by decide) (by decide) ?_
  exact endV X13 hx hlk hret (hb hby d_jdk_68m_2_38) (by decide) (by decide) (by rw [e13]; exact ⟨rfl, N2, (((Keep.refl h0 [b]).ext C11).wr W12 (Or.inl (List.mem_cons_self ..))).wr W13 (Or.inl (List.mem_cons_self ..)), t, kt, ge_t_h0, EX2.wr W13, FV2.other W13 (Or.inr (slot_ne (Or.inl (tw hw 150 rfl)) (Or.inl (tw hw 152 rfl)) (by decide) (t := (.array .byte)) (t' := .byte) (by decide) (by decide))), Fld.same W13 FC2, FN2.other W13 (Or.inr (slot_ne (Or.inl (tw hw 207 rfl)) (Or.inl (tw hw 152 rfl)) (by decide) (t := .int) (t' := .byte) (by decide) (by decide))), (V.other W12 ne).other W13 ne, by decide, by decide, (fun c q => nomatch q)⟩)
theorem d_jdk_67m_1_0 : decode jdk_67_method_1_code 0 = .ok (.aload_n 0, 1) := by decide +kernel
theorem d_jdk_67m_1_1 : decode jdk_67_method_1_code 1 = .ok (.bipush 16, 2) := by decide +kernel
theorem pd_1 : parseMethodDescriptor "(I)V" = some ⟨[.int], none⟩ := by decide +kernel
theorem d_jdk_67m_1_3 : decode jdk_67_method_1_code 3 = .ok (.invokespecial 1, 3) := by decide +kernel
theorem d_jdk_67m_1_6 : decode jdk_67_method_1_code 6 = .ok (.return_, 1) := by decide +kernel
set_option maxRecDepth 65536 in
set_option maxHeartbeats 40000000 in
theorem rmSbI (l : Launch) (Z : State) (a0 : Array Value) (hw : ∀ d ∈ tables_1, d.before a0 Z = true) (b : Addr) (z : Int32) (h0 : Heap) (n0 : Nat) (gb : n0 ≤ b) (SC : Sta Z h0 "java/lang/String" "COMPACT_STRINGS" "Z" (.int z)) (hz : ¬ z = 0) (EX : Exa Z h0 b "java/lang/StringBuilder") (FV : Fld Z h0 b "java/lang/AbstractStringBuilder" "value" "[B" .null) (FC : Fld Z h0 b "java/lang/AbstractStringBuilder" "coder" "B" (.int 0)) (FN : Fld Z h0 b "java/lang/AbstractStringBuilder" "count" "I" (.int 0)) :
    Ct l (⟨"java/lang/StringBuilder", "<init>", "()V"⟩ : MethodName) jdk_67_method_1_code 1 none ({ frames := 2, cells := 1, slots := 16, locals := 25 } : Room) Z #[(.ref b)] h0 (fun v h L => v = none ∧ Fr n0 L ∧ Keep h0 h [b] ∧ ∃ t kt, h0.size ≤ t ∧ SbOf Z h b t kt [] 16) := by
  refine ct_of (Q := fun v h L => v = none ∧ Fr n0 L ∧ Keep h0 h [b] ∧ ∃ t kt, h0.size ≤ t ∧ SbOf Z h b t kt [] 16) (plainFor_of_name pn_2) ?_
  intro p e s m below meth c s₁ X0 hx hby hml hret hnm hlk hown hZ hs0 e0
  have N0 := Fr.nil n0
  rw [show entryFrame m #[(.ref b)] 1 = mkF m 0 #[.val (.ref b)] [] from by first | (simp [entryFrame, mkF, argsToLocals, Value.category]; done) | rfl]
  refine w_aloadN X0.here hx (hb hby d_jdk_67m_1_0) rfl rfl (pc' := 1) rfl ?_
  refine w_bipush X0.here hx (hb hby d_jdk_67m_1_1) (z := 16) rfl (pc' := 3) rfl ?_
  refine w_special X0 hx hZ (y := (⟨"java/lang/AbstractStringBuilder", "<init>", "(I)V"⟩ : MethodName)) rfl hown (tw hw 141 rfl) (tw hw 142 rfl) (tw hw 146 rfl) (by decide) (backC (W := 0) (rmAbi l Z a0 hw b z h0 n0 gb SC hz EX FV FC FN) hZ (tw hw 146 rfl) (tw hw 145 rfl) (by decide) (by decide)) e0 (by rw [hml]; rfl) (argsL := [(.int (16 : Int32))]) (st := []) pd_1 rfl rfl rfl (Nat.le_of_ble_eq_true rfl) (hb hby d_jdk_67m_1_3) (by decide) (by decide) (pc' := 6) rfl ?_
  intro T14 v14 L14 X14 Q14
  obtain ⟨rfl, N1, K1, G⟩ := Q14
  show Go _ _ _ _ T14 (mkF m 6 _ [])
  have N2 := Fr.app N0 N1
  exact endV X14 hx hlk hret (hb hby d_jdk_67m_1_6) (by decide) (by decide) (⟨rfl, N2, K1, G⟩)
theorem d_jdk_29m_69_0 : decode jdk_29_method_69_code 0 = .ok (.iload_n 0, 1) := by decide +kernel
theorem d_jdk_29m_69_1 : decode jdk_29_method_69_code 1 = .ok (.iload_n 1, 1) := by decide +kernel
theorem d_jdk_29m_69_2 : decode jdk_29_method_69_code 2 = .ok (.if_icmp .gt 7, 3) := by decide +kernel
theorem d_jdk_29m_69_9 : decode jdk_29_method_69_code 9 = .ok (.iload_n 1, 1) := by decide +kernel
theorem d_jdk_29m_69_10 : decode jdk_29_method_69_code 10 = .ok (.ireturn, 1) := by decide +kernel
set_option maxRecDepth 65536 in
set_option maxHeartbeats 40000000 in
theorem rmMinR (l : Launch) (Z : State) (a0 : Array Value) (hw : ∀ d ∈ tables_1, d.before a0 Z = true) (x y : Int32) (h0 : Heap) (hxy : y < x) :
    Ct l yq11 jdk_29_method_69_code 2 (some .int) ({ frames := 0, cells := 0, slots := 0, locals := 0 } : Room) Z #[(.int x), (.int y)] h0 (fun v h L => v = some (.int y) ∧ L = [] ∧ h = h0) := by
  refine ct_of (Q := fun v h L => v = some (.int y) ∧ L = [] ∧ h = h0) (Jvm.Free.JP.mathPlain rfl (by decide +kernel)) ?_
  intro p e s m below meth c s₁ X0 hx hby hml hret hnm hlk hown hZ hs0 e0
  rw [show entryFrame m #[(.int x), (.int y)] 2 = mkF m 0 #[.val (.int x), .val (.int y)] [] from by first | (simp [entryFrame, mkF, argsToLocals, Value.category]; done) | rfl]
  refine w_iloadN X0.here hx (hb hby d_jdk_29m_69_0) rfl (pc' := 1) rfl ?_
  refine w_iloadN X0.here hx (hb hby d_jdk_29m_69_1) rfl (pc' := 2) rfl ?_
  refine w_icmpYes X0.here hx (hb hby d_jdk_29m_69_2) (tlt (show y < x from hxy)).2.2.1 (pc' := 9) (by decide) (by decide) ?_
  refine w_iloadN X0.here hx (hb hby d_jdk_29m_69_9) rfl (pc' := 10) rfl ?_
  exact endI X0 hx hlk hret (hb hby d_jdk_29m_69_10) (by decide) (by decide) (by rw [e0]; exact ⟨rfl, rfl, rfl⟩)
theorem d_jdk_68m_9_0 : decode jdk_68_method_9_code 0 = .ok (.aload_n 0, 1) := by decide +kernel
theorem d_jdk_68m_9_1 : decode jdk_68_method_9_code 1 = .ok (.getfield 15, 3) := by decide +kernel
theorem d_jdk_68m_9_4 : decode jdk_68_method_9_code 4 = .ok (.arraylength, 1) := by decide +kernel
theorem d_jdk_68m_9_5 : decode jdk_68_method_9_code 5 = .ok (.aload_n 0, 1) := by decide +kernel
theorem d_jdk_68m_9_6 : decode jdk_68_method_9_code 6 = .ok (.getfield 22, 3) := by decide +kernel
theorem d_jdk_68m_9_9 : decode jdk_68_method_9_code 9 = .ok (.ishr, 1) := by decide +kernel
theorem d_jdk_68m_9_10 : decode jdk_68_method_9_code 10 = .ok (.istore_n 2, 1) := by decide +kernel
theorem d_jdk_68m_9_11 : decode jdk_68_method_9_code 11 = .ok (.iload_n 1, 1) := by decide +kernel
theorem d_jdk_68m_9_12 : decode jdk_68_method_9_code 12 = .ok (.iload_n 2, 1) := by decide +kernel
theorem d_jdk_68m_9_13 : decode jdk_68_method_9_code 13 = .ok (.isub, 1) := by decide +kernel
theorem d_jdk_68m_9_14 : decode jdk_68_method_9_code 14 = .ok (.ifCond .le 24, 3) := by decide +kernel
theorem d_jdk_68m_9_38 : decode jdk_68_method_9_code 38 = .ok (.return_, 1) := by decide +kernel
set_option maxRecDepth 65536 in
set_option maxHeartbeats 40000000 in
theorem rmEnsF (l : Launch) (Z : State) (a0 : Array Value) (hw : ∀ d ∈ tables_1, d.before a0 Z = true) (b t : Addr) (kt : ClassId) (cs : List Int32) (N mn : Nat) (h0 : Heap) (B : SbOf Z h0 b t kt cs N) (hm : mn ≤ N) :
    Ct l (⟨"java/lang/AbstractStringBuilder", "ensureCapacityInternal", "(I)V"⟩ : MethodName) jdk_68_method_9_code 3 none ({ frames := 0, cells := 0, slots := 0, locals := 0 } : Room) Z #[(.ref b), (.int (Int32.ofNat mn))] h0 (fun v h L => v = none ∧ L = [] ∧ h = h0) := by
  refine ct_of (Q := fun v h L => v = none ∧ L = [] ∧ h = h0) (plainFor_of_name pn_1) ?_
  intro p e s m below meth c s₁ X0 hx hby hml hret hnm hlk hown hZ hs0 e0
  rw [show entryFrame m #[(.ref b), (.int (Int32.ofNat mn))] 3 = mkF m 0 #[.val (.ref b), .val (.int (Int32.ofNat mn)), .unset] [] from by first | (simp [entryFrame, mkF, argsToLocals, Value.category]; done) | rfl]
  refine w_aloadN X0.here hx (hb hby d_jdk_68m_9_0) rfl rfl (pc' := 1) rfl ?_
  refine w_getF X0 hx hZ hown (tw hw 149 rfl) Via.refl e0 B.2.1 (hb hby d_jdk_68m_9_1) (pc' := 4) rfl ?_
  intro T15 X15 e15
  refine w_arraylength X15 hx hZ e15 B.2.2.2.2.1 (hb hby d_jdk_68m_9_4) (pc' := 5) rfl ?_
  refine w_aloadN X15.here hx (hb hby d_jdk_68m_9_5) rfl rfl (pc' := 6) rfl ?_
  refine w_getF X15 hx hZ hown (tw hw 151 rfl) Via.refl e15 B.2.2.1 (hb hby d_jdk_68m_9_6) (pc' := 9) rfl ?_
  intro T16 X16 e16
  refine w_ishr X16.here hx (hb hby d_jdk_68m_9_9) (pc' := 10) rfl ?_
  rw [n_shr0]
  show Go _ _ _ _ T16 (mkF m 10 _ [(.int (Int32.ofNat N))])
  refine w_istoreN X16.here hx (hb hby d_jdk_68m_9_10) (l' := #[.val (.ref b), .val (.int (Int32.ofNat mn)), .val (.int (Int32.ofNat N))]) rfl (pc' := 11) rfl ?_
  refine w_iloadN X16.here hx (hb hby d_jdk_68m_9_11) rfl (pc' := 12) rfl ?_
  refine w_iloadN X16.here hx (hb hby d_jdk_68m_9_12) rfl (pc' := 13) rfl ?_
  refine w_isub X16.here hx (hb hby d_jdk_68m_9_13) (pc' := 14) rfl ?_
  refine w_ifYes X16.here hx (hb hby d_jdk_68m_9_14) (flt (show ¬ ((0 : Int32) < ((Int32.ofNat mn) - (Int32.ofNat N))) from n_le0 hm (by have := B.2.2.2.2.2.2.1; omega))).2.2.2 (pc' := 38) (by decide) (by decide) ?_
  exact endV X16 hx hlk hret (hb hby d_jdk_68m_9_38) (by decide) (by decide) (by rw [e16]; exact ⟨rfl, rfl, rfl⟩)
theorem d_jdk_68m_71_0 : decode jdk_68_method_71_code 0 = .ok (.getstatic 18, 3) := by decide +kernel
theorem d_jdk_68m_71_3 : decode jdk_68_method_71_code 3 = .ok (.ifCond .eq 18, 3) := by decide +kernel
theorem d_jdk_68m_71_6 : decode jdk_68_method_71_code 6 = .ok (.aload_n 0, 1) := by decide +kernel
theorem d_jdk_68m_71_7 : decode jdk_68_method_71_code 7 = .ok (.getfield 22, 3) := by decide +kernel
theorem d_jdk_68m_71_10 : decode jdk_68_method_71_code 10 = .ok (.aload_n 1, 1) := by decide +kernel
theorem pd_2 : parseMethodDescriptor "()B" = some ⟨[], some .byte⟩ := by decide +kernel
theorem d_jdk_68m_71_11 : decode jdk_68_method_71_code 11 = .ok (.invokevirtual 40, 3) := by decide +kernel
theorem d_jdk_68m_71_14 : decode jdk_68_method_71_code 14 = .ok (.if_icmp .eq 7, 3) := by decide +kernel
theorem d_jdk_68m_71_21 : decode jdk_68_method_71_code 21 = .ok (.return_, 1) := by decide +kernel
set_option maxRecDepth 65536 in
set_option maxHeartbeats 40000000 in
theorem rmInfN (l : Launch) (Z : State) (a0 : Array Value) (hw : ∀ d ∈ tables_1, d.before a0 Z = true) (b t x u : Addr) (kt ku : ClassId) (cs ds : List Int32) (N : Nat) (z : Int32) (h0 : Heap) (SC : Sta Z h0 "java/lang/String" "COMPACT_STRINGS" "Z" (.int z)) (hz : ¬ z = 0) (B : SbOf Z h0 b t kt cs N) (G : LstOf Z h0 x u ku ds) :
    Ct l (⟨"java/lang/AbstractStringBuilder", "inflateIfNeededFor", "(Ljava/lang/String;)V"⟩ : MethodName) jdk_68_method_71_code 2 none ({ frames := 1, cells := 0, slots := 0, locals := 13 } : Room) Z #[(.ref b), (.ref x)] h0 (fun v h L => v = none ∧ L = [] ∧ h = h0) := by
  refine ct_of (Q := fun v h L => v = none ∧ L = [] ∧ h = h0) (plainFor_of_name pn_1) ?_
  intro p e s m below meth c s₁ X0 hx hby hml hret hnm hlk hown hZ hs0 e0
  rw [show entryFrame m #[(.ref b), (.ref x)] 2 = mkF m 0 #[.val (.ref b), .val (.ref x)] [] from by first | (simp [entryFrame, mkF, argsToLocals, Value.category]; done) | rfl]
  refine w_getS X0 hx hZ hown (tw hw 148 rfl) Via.refl e0 SC (hb hby d_jdk_68m_71_0) (pc' := 3) rfl ?_
  intro T17 X17 e17
  refine w_ifNo X17.here hx (hb hby d_jdk_68m_71_3) (feq (show ¬ (z = (0 : Int32)) from hz)).1 (pc' := 6) rfl ?_
  refine w_aloadN X17.here hx (hb hby d_jdk_68m_71_6) rfl rfl (pc' := 7) rfl ?_
  refine w_getF X17 hx hZ hown (tw hw 151 rfl) Via.refl e17 B.2.2.1 (hb hby d_jdk_68m_71_7) (pc' := 10) rfl ?_
  intro T18 X18 e18
  refine w_aloadN X18.here hx (hb hby d_jdk_68m_71_10) rfl rfl (pc' := 11) rfl ?_
  refine w_virtual X18 hx hZ (y := yq10) (z := yq10) hown (tw hw 295 rfl) (tw hw 276 rfl) (notFace_of_selects (args := #[]) (mvT hZ (tw hw 278 rfl))) (tw hw 278 rfl) (tw hw 277 rfl) (by decide) (backC (W := 1) (rmCoder l Z a0 hw x z 0 h0 SC hz G.2.2.1 rfl) hZ (tw hw 279 rfl) (tw hw 10 rfl) (by decide) (by decide)) e18 G.1 (by rw [hml]; rfl) (argsL := []) (st := [(.int (0 : Int32))]) pd_2 rfl rfl rfl (Nat.le_of_ble_eq_true rfl) (hb hby d_jdk_68m_71_11) (by decide) (by decide) (pc' := 14) rfl ?_
  intro T19 v19 L19 X19 Q19
  obtain ⟨rfl, rfl, hh⟩ := Q19
  show Go _ _ _ _ T19 (mkF m 14 _ [(.int (0 : Int32)), (.int (0 : Int32))])
  refine w_icmpYes X19.here hx (hb hby d_jdk_68m_71_14) (teq (show (0 : Int32) = (0 : Int32) from rfl)).1 (pc' := 21) (by decide) (by decide) ?_
  exact endV X19 hx hlk hret (hb hby d_jdk_68m_71_21) (by decide) (by decide) (⟨rfl, by simp, hh⟩)
theorem d_jdk_42m_147_0 : decode jdk_42_method_147_code 0 = .ok (.aload_n 0, 1) := by decide +kernel
theorem d_jdk_42m_147_1 : decode jdk_42_method_147_code 1 = .ok (.invokevirtual 335, 3) := by decide +kernel
theorem d_jdk_42m_147_4 : decode jdk_42_method_147_code 4 = .ok (.iload_n 3, 1) := by decide +kernel
theorem d_jdk_42m_147_5 : decode jdk_42_method_147_code 5 = .ok (.if_icmp .ne 23, 3) := by decide +kernel
theorem d_jdk_42m_147_8 : decode jdk_42_method_147_code 8 = .ok (.aload_n 0, 1) := by decide +kernel
theorem d_jdk_42m_147_9 : decode jdk_42_method_147_code 9 = .ok (.getfield 9, 3) := by decide +kernel
theorem d_jdk_42m_147_12 : decode jdk_42_method_147_code 12 = .ok (.iconst 0, 1) := by decide +kernel
theorem d_jdk_42m_147_13 : decode jdk_42_method_147_code 13 = .ok (.aload_n 1, 1) := by decide +kernel
theorem d_jdk_42m_147_14 : decode jdk_42_method_147_code 14 = .ok (.iload_n 2, 1) := by decide +kernel
theorem d_jdk_42m_147_15 : decode jdk_42_method_147_code 15 = .ok (.iload_n 3, 1) := by decide +kernel
theorem d_jdk_42m_147_16 : decode jdk_42_method_147_code 16 = .ok (.ishl, 1) := by decide +kernel
theorem d_jdk_42m_147_17 : decode jdk_42_method_147_code 17 = .ok (.aload_n 0, 1) := by decide +kernel
theorem d_jdk_42m_147_18 : decode jdk_42_method_147_code 18 = .ok (.getfield 9, 3) := by decide +kernel
theorem d_jdk_42m_147_21 : decode jdk_42_method_147_code 21 = .ok (.arraylength, 1) := by decide +kernel
theorem d_jdk_42m_147_22 : decode jdk_42_method_147_code 22 = .ok (.invokestatic 212, 3) := by decide +kernel
theorem d_jdk_42m_147_25 : decode jdk_42_method_147_code 25 = .ok (.goto 18, 3) := by decide +kernel
theorem d_jdk_42m_147_43 : decode jdk_42_method_147_code 43 = .ok (.return_, 1) := by decide +kernel
set_option maxRecDepth 65536 in
set_option maxHeartbeats 40000000 in
theorem rmGetB (l : Launch) (Z : State) (a0 : Array Value) (hw : ∀ d ∈ tables_1, d.before a0 Z = true) (x u t : Addr) (ku kt : ClassId) (ds : List Int32) (vd : List Value) (q M : Nat) (z : Int32) (h0 : Heap) (n0 : Nat) (ge : n0 ≤ t) (SC : Sta Z h0 "java/lang/String" "COMPACT_STRINGS" "Z" (.int z)) (hz : ¬ z = 0) (G : LstOf Z h0 x u ku ds) (V : Arv Z h0 t kt .byte (Int32.ofNat M) vd (.int 0)) (hM : M ≤ 4000) (hvd : vd.length = M) (hq : q + ds.length ≤ M) :
    Ct l yq29 jdk_42_method_147_code 4 none ({ frames := 1, cells := 0, slots := 0, locals := 18 } : Room) Z #[(.ref x), (.ref t), (.int (Int32.ofNat q)), (.int (0 : Int32))] h0 (fun v h L => v = none ∧ Fr n0 L ∧ Keep h0 h [t] ∧ Arv Z h t kt .byte (Int32.ofNat M) (vd.take q ++ lobs ds ++ vd.drop (q + ds.length)) (.int 0)) := by
  refine ct_of (Q := fun v h L => v = none ∧ Fr n0 L ∧ Keep h0 h [t] ∧ Arv Z h t kt .byte (Int32.ofNat M) (vd.take q ++ lobs ds ++ vd.drop (q + ds.length)) (.int 0)) (plainFor_of_name pn_0) ?_
  intro p e s m below meth c s₁ X0 hx hby hml hret hnm hlk hown hZ hs0 e0
  have N0 := Fr.nil n0
  rw [show entryFrame m #[(.ref x), (.ref t), (.int (Int32.ofNat q)), (.int (0 : Int32))] 4 = mkF m 0 #[.val (.ref x), .val (.ref t), .val (.int (Int32.ofNat q)), .val (.int (0 : Int32))] [] from by first | (simp [entryFrame, mkF, argsToLocals, Value.category]; done) | rfl]
  refine w_aloadN X0.here hx (hb hby d_jdk_42m_147_0) rfl rfl (pc' := 1) rfl ?_
  refine w_virtual X0 hx hZ (y := yq10) (z := yq10) hown (tw hw 275 rfl) (tw hw 276 rfl) (notFace_of_selects (args := #[]) (mvT hZ (tw hw 278 rfl))) (tw hw 278 rfl) (tw hw 277 rfl) (by decide) (backC (W := 0) (rmCoder l Z a0 hw x z 0 h0 SC hz G.2.2.1 rfl) hZ (tw hw 279 rfl) (tw hw 10 rfl) (by decide) (by decide)) e0 G.1 (by rw [hml]; rfl) (argsL := []) (st := []) pd_2 rfl rfl rfl (Nat.le_of_ble_eq_true rfl) (hb hby d_jdk_42m_147_1) (by decide) (by decide) (pc' := 4) rfl ?_
  intro T20 v20 L20 X20 Q20
  obtain ⟨rfl, rfl, hh⟩ := Q20
  show Go _ _ _ _ T20 (mkF m 4 _ [(.int (0 : Int32))])
  rw [List.append_nil] at X20
  refine w_iloadN X20.here hx (hb hby d_jdk_42m_147_4) rfl (pc' := 5) rfl ?_
  refine w_icmpNo X20.here hx (hb hby d_jdk_42m_147_5) (teq (show (0 : Int32) = (0 : Int32) from rfl)).2 (pc' := 8) rfl ?_
  refine w_aloadN X20.here hx (hb hby d_jdk_42m_147_8) rfl rfl (pc' := 9) rfl ?_
  refine w_getF X20 hx hZ hown (tw hw 35 rfl) Via.refl hh G.2.1 (hb hby d_jdk_42m_147_9) (pc' := 12) rfl ?_
  intro T21 X21 e21
  refine w_iconst X21.here hx (hb hby d_jdk_42m_147_12) (z := 0) rfl (pc' := 13) rfl ?_
  refine w_aloadN X21.here hx (hb hby d_jdk_42m_147_13) rfl rfl (pc' := 14) rfl ?_
  refine w_iloadN X21.here hx (hb hby d_jdk_42m_147_14) rfl (pc' := 15) rfl ?_
  refine w_iloadN X21.here hx (hb hby d_jdk_42m_147_15) rfl (pc' := 16) rfl ?_
  refine w_ishl X21.here hx (hb hby d_jdk_42m_147_16) (pc' := 17) rfl ?_
  rw [n_shl0]
  show Go _ _ _ _ T21 (mkF m 17 _ [(.int (Int32.ofNat q)), (.ref t), (.int (0 : Int32)), (.ref u)])
  refine w_aloadN X21.here hx (hb hby d_jdk_42m_147_17) rfl rfl (pc' := 18) rfl ?_
  refine w_getF X21 hx hZ hown (tw hw 35 rfl) Via.refl e21 G.2.1 (hb hby d_jdk_42m_147_18) (pc' := 21) rfl ?_
  intro T22 X22 e22
  refine w_arraylength X22 hx hZ e22 G.2.2.2.1 (hb hby d_jdk_42m_147_21) (pc' := 22) rfl ?_
  refine w_cpA X22 hx hZ hown (tw hw 301 rfl) (tw hw 229 rfl) (tw hw 227 rfl) (tw hw 228 rfl) e22 (n := ds.length) (d := q) (us := (lobs ds).take ds.length) G.2.2.2.1 V (Or.inl ⟨rfl, rfl⟩) (by rw [n_nat (by have := G.2.2.2.2.1; omega)]; omega) (by rw [n_nat (by omega)]; omega) rfl (by rw [lobs_len]; omega) (by omega) (by have := G.2.2.2.2.1; omega) N0 ge (by rw [hml]; rfl) (hb hby d_jdk_42m_147_22) (by decide) (W := 0) (Nat.le_of_ble_eq_true rfl) (by decide) (pc' := 25) rfl ?_
  intro T23 h23 L23 X23 e23 N23 K23 V23
  refine w_goto X23.here hx (hb hby d_jdk_42m_147_25) (pc' := 43) (by decide) (by decide) ?_
  rw [show (lobs ds).take ds.length = lobs ds from List.take_of_length_le (by rw [lobs_len]; omega)] at V23
  exact endV X23 hx hlk hret (hb hby d_jdk_42m_147_43) (by decide) (by decide) (by rw [e23]; exact ⟨rfl, N23, K23, V23⟩)
theorem d_jdk_68m_73_0 : decode jdk_68_method_73_code 0 = .ok (.aload_n 0, 1) := by decide +kernel
theorem d_jdk_68m_73_1 : decode jdk_68_method_73_code 1 = .ok (.aload_n 2, 1) := by decide +kernel
theorem pd_3 : parseMethodDescriptor "(Ljava/lang/String;)V" = some ⟨[(.object "java/lang/String")], none⟩ := by decide +kernel
theorem d_jdk_68m_73_2 : decode jdk_68_method_73_code 2 = .ok (.invokevirtual 397, 3) := by decide +kernel
theorem d_jdk_68m_73_5 : decode jdk_68_method_73_code 5 = .ok (.aload_n 2, 1) := by decide +kernel
theorem d_jdk_68m_73_6 : decode jdk_68_method_73_code 6 = .ok (.aload_n 0, 1) := by decide +kernel
theorem d_jdk_68m_73_7 : decode jdk_68_method_73_code 7 = .ok (.getfield 15, 3) := by decide +kernel
theorem d_jdk_68m_73_10 : decode jdk_68_method_73_code 10 = .ok (.iload_n 1, 1) := by decide +kernel
theorem d_jdk_68m_73_11 : decode jdk_68_method_73_code 11 = .ok (.aload_n 0, 1) := by decide +kernel
theorem d_jdk_68m_73_12 : decode jdk_68_method_73_code 12 = .ok (.getfield 22, 3) := by decide +kernel
theorem pd_4 : parseMethodDescriptor "([BIB)V" = some ⟨[(.array .byte), .int, .byte], none⟩ := by decide +kernel
theorem d_jdk_68m_73_15 : decode jdk_68_method_73_code 15 = .ok (.invokevirtual 399, 3) := by decide +kernel
theorem d_jdk_68m_73_18 : decode jdk_68_method_73_code 18 = .ok (.return_, 1) := by decide +kernel
set_option maxRecDepth 65536 in
set_option maxHeartbeats 40000000 in
theorem rmPutAt (l : Launch) (Z : State) (a0 : Array Value) (hw : ∀ d ∈ tables_1, d.before a0 Z = true) (b t x u : Addr) (kt ku : ClassId) (cs ds : List Int32) (N : Nat) (z : Int32) (h0 : Heap) (n0 : Nat) (gt : n0 ≤ t) (SC : Sta Z h0 "java/lang/String" "COMPACT_STRINGS" "Z" (.int z)) (hz : ¬ z = 0) (B : SbOf Z h0 b t kt cs N) (G : LstOf Z h0 x u ku ds) (hq : cs.length + ds.length ≤ N) :
    Ct l (⟨"java/lang/AbstractStringBuilder", "putStringAt", "(ILjava/lang/String;)V"⟩ : MethodName) jdk_68_method_73_code 3 none ({ frames := 2, cells := 0, slots := 0, locals := 33 } : Room) Z #[(.ref b), (.int (Int32.ofNat cs.length)), (.ref x)] h0 (fun v h L => v = none ∧ Fr n0 L ∧ Keep h0 h [t] ∧ Arv Z h t kt .byte (Int32.ofNat N) (padB (cs ++ ds) N) (.int 0)) := by
  refine ct_of (Q := fun v h L => v = none ∧ Fr n0 L ∧ Keep h0 h [t] ∧ Arv Z h t kt .byte (Int32.ofNat N) (padB (cs ++ ds) N) (.int 0)) (plainFor_of_name pn_1) ?_
  intro p e s m below meth c s₁ X0 hx hby hml hret hnm hlk hown hZ hs0 e0
  have N0 := Fr.nil n0
  rw [show entryFrame m #[(.ref b), (.int (Int32.ofNat cs.length)), (.ref x)] 3 = mkF m 0 #[.val (.ref b), .val (.int (Int32.ofNat cs.length)), .val (.ref x)] [] from by first | (simp [entryFrame, mkF, argsToLocals, Value.category]; done) | rfl]
  refine w_aloadN X0.here hx (hb hby d_jdk_68m_73_0) rfl rfl (pc' := 1) rfl ?_
  refine w_aloadN X0.here hx (hb hby d_jdk_68m_73_1) rfl rfl (pc' := 2) rfl ?_
  refine w_private X0 hx hZ (y := (⟨"java/lang/AbstractStringBuilder", "inflateIfNeededFor", "(Ljava/lang/String;)V"⟩ : MethodName)) hown (tw hw 290 rfl) (tw hw 291 rfl) (tw hw 292 rfl) (tw hw 293 rfl) (tw hw 294 rfl) (by decide) (backC (W := 0) (rmInfN l Z a0 hw b t x u kt ku cs ds N z h0 SC hz B G) hZ (tw hw 294 rfl) (tw hw 145 rfl) (by decide) (by decide)) e0 B.1 (by rw [hml]; rfl) (argsL := [(.ref x)]) (st := []) pd_3 rfl rfl rfl (Nat.le_of_ble_eq_true rfl) (hb hby d_jdk_68m_73_2) (by decide) (by decide) (pc' := 5) rfl ?_
  intro T24 v24 L24 X24 Q24
  obtain ⟨rfl, rfl, hh⟩ := Q24
  show Go _ _ _ _ T24 (mkF m 5 _ [])
  rw [List.append_nil] at X24
  refine w_aloadN X24.here hx (hb hby d_jdk_68m_73_5) rfl rfl (pc' := 6) rfl ?_
  refine w_aloadN X24.here hx (hb hby d_jdk_68m_73_6) rfl rfl (pc' := 7) rfl ?_
  refine w_getF X24 hx hZ hown (tw hw 149 rfl) Via.refl hh B.2.1 (hb hby d_jdk_68m_73_7) (pc' := 10) rfl ?_
  intro T25 X25 e25
  refine w_iloadN X25.here hx (hb hby d_jdk_68m_73_10) rfl (pc' := 11) rfl ?_
  refine w_aloadN X25.here hx (hb hby d_jdk_68m_73_11) rfl rfl (pc' := 12) rfl ?_
  refine w_getF X25 hx hZ hown (tw hw 151 rfl) Via.refl e25 B.2.2.1 (hb hby d_jdk_68m_73_12) (pc' := 15) rfl ?_
  intro T26 X26 e26
  refine w_virtual X26 hx hZ (y := yq29) (z := yq29) hown (tw hw 296 rfl) (tw hw 297 rfl) (notFace_of_selects (args := #[]) (mvT hZ (tw hw 299 rfl))) (tw hw 299 rfl) (tw hw 298 rfl) (by decide) (backC (W := 0) (rmGetB l Z a0 hw x u t ku kt ds (padB cs N) cs.length N z h0 n0 gt SC hz G B.2.2.2.2.1 B.2.2.2.2.2.2.1 (padB_len B.2.2.2.2.2.1) hq) hZ (tw hw 300 rfl) (tw hw 10 rfl) (by decide) (by decide)) e26 G.1 (by rw [hml]; rfl) (argsL := [(.ref t), (.int (Int32.ofNat cs.length)), (.int (0 : Int32))]) (st := []) pd_4 rfl rfl rfl (Nat.le_of_ble_eq_true rfl) (hb hby d_jdk_68m_73_15) (by decide) (by decide) (pc' := 18) rfl ?_
  intro T27 v27 L27 X27 Q27
  obtain ⟨rfl, N1, K1, V1⟩ := Q27
  show Go _ _ _ _ T27 (mkF m 18 _ [])
  rw [padB_put hq] at V1
  exact endV X27 hx hlk hret (hb hby d_jdk_68m_73_18) (by decide) (by decide) (⟨rfl, Fr.app N0 N1, K1, V1⟩)
theorem staKeep {Z : State} {h h' : Heap} {C n d : String} {v : Value} {ws : List Addr} (S : Sta Z h C n d v) (K : Keep h h' ws) (q : ∀ y ∈ ws, ∀ cell : Cell, h[y]? = some cell → cell.vm.isStatics = false) : Sta Z h' C n d v := by
  obtain ⟨cf, i, k, f, st, cell, h1, h2, h3, h4, h5, h6, h7⟩ := S
  exact ⟨cf, i, k, f, st, cell, h1, h2, h3, h4, K.2.1 _ _ h5 (fun hm => by have := q _ hm _ h5; rw [h6] at this; cases this), h6, h7⟩
theorem d_jdk_68m_22_0 : decode jdk_68_method_22_code 0 = .ok (.aload_n 1, 1) := by decide +kernel
theorem d_jdk_68m_22_1 : decode jdk_68_method_22_code 1 = .ok (.ifnonnull 8, 3) := by decide +kernel
theorem d_jdk_68m_22_9 : decode jdk_68_method_22_code 9 = .ok (.aload_n 1, 1) := by decide +kernel
theorem d_jdk_68m_22_10 : decode jdk_68_method_22_code 10 = .ok (.invokevirtual 32, 3) := by decide +kernel
theorem d_jdk_68m_22_13 : decode jdk_68_method_22_code 13 = .ok (.istore_n 2, 1) := by decide +kernel
theorem d_jdk_68m_22_14 : decode jdk_68_method_22_code 14 = .ok (.aload_n 0, 1) := by decide +kernel
theorem d_jdk_68m_22_15 : decode jdk_68_method_22_code 15 = .ok (.aload_n 0, 1) := by decide +kernel
theorem d_jdk_68m_22_16 : decode jdk_68_method_22_code 16 = .ok (.getfield 79, 3) := by decide +kernel
theorem d_jdk_68m_22_19 : decode jdk_68_method_22_code 19 = .ok (.iload_n 2, 1) := by decide +kernel
theorem d_jdk_68m_22_20 : decode jdk_68_method_22_code 20 = .ok (.iadd, 1) := by decide +kernel
theorem d_jdk_68m_22_21 : decode jdk_68_method_22_code 21 = .ok (.invokevirtual 100, 3) := by decide +kernel
theorem d_jdk_68m_22_24 : decode jdk_68_method_22_code 24 = .ok (.aload_n 0, 1) := by decide +kernel
theorem d_jdk_68m_22_25 : decode jdk_68_method_22_code 25 = .ok (.aload_n 0, 1) := by decide +kernel
theorem d_jdk_68m_22_26 : decode jdk_68_method_22_code 26 = .ok (.getfield 79, 3) := by decide +kernel
theorem d_jdk_68m_22_29 : decode jdk_68_method_22_code 29 = .ok (.aload_n 1, 1) := by decide +kernel
theorem pd_5 : parseMethodDescriptor "(ILjava/lang/String;)V" = some ⟨[.int, (.object "java/lang/String")], none⟩ := by decide +kernel
theorem d_jdk_68m_22_30 : decode jdk_68_method_22_code 30 = .ok (.invokevirtual 208, 3) := by decide +kernel
theorem d_jdk_68m_22_33 : decode jdk_68_method_22_code 33 = .ok (.aload_n 0, 1) := by decide +kernel
theorem d_jdk_68m_22_34 : decode jdk_68_method_22_code 34 = .ok (.dup, 1) := by decide +kernel
theorem d_jdk_68m_22_35 : decode jdk_68_method_22_code 35 = .ok (.getfield 79, 3) := by decide +kernel
theorem d_jdk_68m_22_38 : decode jdk_68_method_22_code 38 = .ok (.iload_n 2, 1) := by decide +kernel
theorem d_jdk_68m_22_39 : decode jdk_68_method_22_code 39 = .ok (.iadd, 1) := by decide +kernel
theorem d_jdk_68m_22_40 : decode jdk_68_method_22_code 40 = .ok (.putfield 79, 3) := by decide +kernel
theorem d_jdk_68m_22_43 : decode jdk_68_method_22_code 43 = .ok (.aload_n 0, 1) := by decide +kernel
theorem d_jdk_68m_22_44 : decode jdk_68_method_22_code 44 = .ok (.areturn, 1) := by decide +kernel
set_option maxRecDepth 65536 in
set_option maxHeartbeats 40000000 in
theorem rmApF (l : Launch) (Z : State) (a0 : Array Value) (hw : ∀ d ∈ tables_1, d.before a0 Z = true) (b t x u : Addr) (kt ku : ClassId) (cs ds : List Int32) (N : Nat) (z : Int32) (h0 : Heap) (n0 : Nat) (Z0 : n0 ≤ h0.size) (gb : n0 ≤ b) (gt : n0 ≤ t) (SC : Sta Z h0 "java/lang/String" "COMPACT_STRINGS" "Z" (.int z)) (hz : ¬ z = 0) (B : SbOf Z h0 b t kt cs N) (G : LstOf Z h0 x u ku ds) (hq : cs.length + ds.length ≤ N) :
    Ct l (⟨"java/lang/AbstractStringBuilder", "append", "(Ljava/lang/String;)Ljava/lang/AbstractStringBuilder;"⟩ : MethodName) jdk_68_method_22_code 3 (some (.object "java/lang/AbstractStringBuilder")) ({ frames := 3, cells := 0, slots := 0, locals := 47 } : Room) Z #[(.ref b), (.ref x)] h0 (fun v h L => v = some (.ref b) ∧ Fr n0 L ∧ Keep h0 h [b, t] ∧ SbOf Z h b t kt (cs ++ ds) N) := by
  refine ct_of (Q := fun v h L => v = some (.ref b) ∧ Fr n0 L ∧ Keep h0 h [b, t] ∧ SbOf Z h b t kt (cs ++ ds) N) (plainFor_of_name pn_1) ?_
  intro p e s m below meth c s₁ X0 hx hby hml hret hnm hlk hown hZ hs0 e0
  have N0 := Fr.nil n0
  rw [show entryFrame m #[(.ref b), (.ref x)] 3 = mkF m 0 #[.val (.ref b), .val (.ref x), .unset] [] from by first | (simp [entryFrame, mkF, argsToLocals, Value.category]; done) | rfl]
  refine w_aloadN X0.here hx (hb hby d_jdk_68m_22_0) rfl rfl (pc' := 1) rfl ?_
  refine w_ifnonnullYes X0.here hx (hb hby d_jdk_68m_22_1) (pc' := 9) (by decide) (by decide) ?_
  refine w_aloadN X0.here hx (hb hby d_jdk_68m_22_9) rfl rfl (pc' := 10) rfl ?_
  refine w_virtual X0 hx hZ (y := yq25) (z := yq25) hown (tw hw 270 rfl) (tw hw 271 rfl) (notFace_of_selects (args := #[]) (mvT hZ (tw hw 273 rfl))) (tw hw 273 rfl) (tw hw 272 rfl) (by decide) (k_len (W := 0) hZ (fun d hd => hw d (own_wLen d hd)) (tw hw 9 rfl) G.str SC hz (by decide) (by decide)) e0 G.1 (by rw [hml]; rfl) (argsL := []) (st := []) pd_0 rfl rfl rfl (Nat.le_of_ble_eq_true rfl) (hb hby d_jdk_68m_22_10) (by decide) (by decide) (pc' := 13) rfl ?_
  intro T28 v28 L28 X28 Q28
  obtain ⟨rfl, rfl, hh⟩ := Q28
  show Go _ _ _ _ T28 (mkF m 13 _ [(.int (Int32.ofNat ds.length))])
  rw [List.append_nil] at X28
  refine w_istoreN X28.here hx (hb hby d_jdk_68m_22_13) (l' := #[.val (.ref b), .val (.ref x), .val (.int (Int32.ofNat ds.length))]) rfl (pc' := 14) rfl ?_
  refine w_aloadN X28.here hx (hb hby d_jdk_68m_22_14) rfl rfl (pc' := 15) rfl ?_
  refine w_aloadN X28.here hx (hb hby d_jdk_68m_22_15) rfl rfl (pc' := 16) rfl ?_
  refine w_getF X28 hx hZ hown (tw hw 206 rfl) Via.refl hh B.2.2.2.1 (hb hby d_jdk_68m_22_16) (pc' := 19) rfl ?_
  intro T29 X29 e29
  refine w_iloadN X29.here hx (hb hby d_jdk_68m_22_19) rfl (pc' := 20) rfl ?_
  refine w_iadd X29.here hx (hb hby d_jdk_68m_22_20) (pc' := 21) rfl ?_
  rw [n_add]
  show Go _ _ _ _ T29 (mkF m 21 _ [(.int (Int32.ofNat (cs.length + ds.length))), (.ref b)])
  refine w_private X29 hx hZ (y := (⟨"java/lang/AbstractStringBuilder", "ensureCapacityInternal", "(I)V"⟩ : MethodName)) hown (tw hw 280 rfl) (tw hw 281 rfl) (tw hw 282 rfl) (tw hw 283 rfl) (tw hw 284 rfl) (by decide) (backC (W := 0) (rmEnsF l Z a0 hw b t kt cs N (cs.length + ds.length) h0 B hq) hZ (tw hw 284 rfl) (tw hw 145 rfl) (by decide) (by decide)) e29 B.1 (by rw [hml]; rfl) (argsL := [(.int (Int32.ofNat (cs.length + ds.length)))]) (st := []) pd_1 rfl rfl rfl (Nat.le_of_ble_eq_true rfl) (hb hby d_jdk_68m_22_21) (by decide) (by decide) (pc' := 24) rfl ?_
  intro T30 v30 L30 X30 Q30
  obtain ⟨rfl, rfl, hh2⟩ := Q30
  show Go _ _ _ _ T30 (mkF m 24 _ [])
  rw [List.append_nil] at X30
  have KA : Keep h0 h0 [b, t] := Keep.refl _ _
  refine w_aloadN X30.here hx (hb hby d_jdk_68m_22_24) rfl rfl (pc' := 25) rfl ?_
  refine w_aloadN X30.here hx (hb hby d_jdk_68m_22_25) rfl rfl (pc' := 26) rfl ?_
  refine w_getF X30 hx hZ hown (tw hw 206 rfl) Via.refl hh2 B.2.2.2.1 (hb hby d_jdk_68m_22_26) (pc' := 29) rfl ?_
  intro T31 X31 e31
  refine w_aloadN X31.here hx (hb hby d_jdk_68m_22_29) rfl rfl (pc' := 30) rfl ?_
  refine w_private X31 hx hZ (y := (⟨"java/lang/AbstractStringBuilder", "putStringAt", "(ILjava/lang/String;)V"⟩ : MethodName)) hown (tw hw 285 rfl) (tw hw 286 rfl) (tw hw 287 rfl) (tw hw 288 rfl) (tw hw 289 rfl) (by decide) (backC (W := 0) (rmPutAt l Z a0 hw b t x u kt ku cs ds N z h0 n0 gt SC hz B G (by omega)) hZ (tw hw 289 rfl) (tw hw 145 rfl) (by decide) (by decide)) e31 B.1 (by rw [hml]; rfl) (argsL := [(.int (Int32.ofNat cs.length)), (.ref x)]) (st := []) pd_5 rfl rfl rfl (Nat.le_of_ble_eq_true rfl) (hb hby d_jdk_68m_22_30) (by decide) (by decide) (pc' := 33) rfl ?_
  intro T32 v32 L32 X32 Q32
  obtain ⟨rfl, N3, K3, V3⟩ := Q32
  show Go _ _ _ _ T32 (mkF m 33 _ [])
  have N4 := Fr.app N0 N3
  have nbt : b ≠ t := B.1.neArv B.2.2.2.2.1 (tw hw 136 rfl)
  have FN3 := B.2.2.2.1.keep K3 (ninS nbt nin0)
  have EX3 := B.1.keep K3
  have FV3 := B.2.1.keep K3 (ninS nbt nin0)
  have FC3 := B.2.2.1.keep K3 (ninS nbt nin0)
  refine w_aloadN X32.here hx (hb hby d_jdk_68m_22_33) rfl rfl (pc' := 34) rfl ?_
  refine w_dup X32.here hx (hb hby d_jdk_68m_22_34) rfl (pc' := 35) rfl ?_
  refine w_getF X32 hx hZ hown (tw hw 206 rfl) Via.refl rfl FN3 (hb hby d_jdk_68m_22_35) (pc' := 38) rfl ?_
  intro T33 X33 e33
  refine w_iloadN X33.here hx (hb hby d_jdk_68m_22_38) rfl (pc' := 39) rfl ?_
  refine w_iadd X33.here hx (hb hby d_jdk_68m_22_39) (pc' := 40) rfl ?_
  rw [n_add]
  show Go _ _ _ _ T33 (mkF m 40 _ [(.int (Int32.ofNat (cs.length + ds.length))), (.ref b)])
  refine w_putF X33 hx hZ hown (tw hw 206 rfl) Via.refl e33 FN3 EX3 (Or.inl (tw hw 207 rfl)) (tw hw 136 rfl) (ty := .int) (by decide) rfl rfl (hb hby d_jdk_68m_22_40) (pc' := 43) rfl ?_
  intro T34 h34 X34 e34 W34
  have N5 := Fr.snoc X34 N4 gb
  refine w_aloadN X34.here hx (hb hby d_jdk_68m_22_43) rfl rfl (pc' := 44) rfl ?_
  exact endR X34 hx hlk rfl hret rfl (hb hby d_jdk_68m_22_44) (by decide) (by decide) (by rw [e34]; exact ⟨rfl, N5, (KA.trans K3 (fun y hy => by rcases List.mem_singleton.mp hy with rfl; exact Or.inl (List.mem_cons_of_mem _ (List.mem_cons_self ..)))).wr W34 (Or.inl (List.mem_cons_self ..)), EX3.wr W34, FV3.other W34 (Or.inr (slot_ne (Or.inl (tw hw 150 rfl)) (Or.inl (tw hw 207 rfl)) (by decide) (t := (.array .byte)) (t' := .int) (by decide) (by decide))), FC3.other W34 (Or.inr (slot_ne (Or.inl (tw hw 152 rfl)) (Or.inl (tw hw 207 rfl)) (by decide) (t := .byte) (t' := .int) (by decide) (by decide))), by rw [List.length_append]; exact Fld.same W34 FN3, V3.other W34 (Ne.symm nbt), by rw [List.length_append]; omega, B.2.2.2.2.2.2.1, B.2.2.2.2.2.2.2.app G.2.2.2.2.2⟩)
theorem d_jdk_67m_7_0 : decode jdk_67_method_7_code 0 = .ok (.aload_n 0, 1) := by decide +kernel
theorem d_jdk_67m_7_1 : decode jdk_67_method_7_code 1 = .ok (.aload_n 1, 1) := by decide +kernel
theorem pd_6 : parseMethodDescriptor "(Ljava/lang/String;)Ljava/lang/AbstractStringBuilder;" = some ⟨[(.object "java/lang/String")], some (.object "java/lang/AbstractStringBuilder")⟩ := by decide +kernel
theorem d_jdk_67m_7_2 : decode jdk_67_method_7_code 2 = .ok (.invokespecial 29, 3) := by decide +kernel
theorem d_jdk_67m_7_5 : decode jdk_67_method_7_code 5 = .ok (.pop, 1) := by decide +kernel
theorem d_jdk_67m_7_6 : decode jdk_67_method_7_code 6 = .ok (.aload_n 0, 1) := by decide +kernel
theorem d_jdk_67m_7_7 : decode jdk_67_method_7_code 7 = .ok (.areturn, 1) := by decide +kernel
set_option maxRecDepth 65536 in
set_option maxHeartbeats 40000000 in
theorem rmApFS (l : Launch) (Z : State) (a0 : Array Value) (hw : ∀ d ∈ tables_1, d.before a0 Z = true) (b t x u : Addr) (kt ku : ClassId) (cs ds : List Int32) (N : Nat) (z : Int32) (h0 : Heap) (n0 : Nat) (Z0 : n0 ≤ h0.size) (gb : n0 ≤ b) (gt : n0 ≤ t) (SC : Sta Z h0 "java/lang/String" "COMPACT_STRINGS" "Z" (.int z)) (hz : ¬ z = 0) (B : SbOf Z h0 b t kt cs N) (G : LstOf Z h0 x u ku ds) (hq : cs.length + ds.length ≤ N) :
    Ct l yq30 jdk_67_method_7_code 2 (some (.object "java/lang/StringBuilder")) ({ frames := 4, cells := 0, slots := 0, locals := 61 } : Room) Z #[(.ref b), (.ref x)] h0 (fun v h L => v = some (.ref b) ∧ Fr n0 L ∧ Keep h0 h [b, t] ∧ SbOf Z h b t kt (cs ++ ds) N) := by
  refine ct_of (Q := fun v h L => v = some (.ref b) ∧ Fr n0 L ∧ Keep h0 h [b, t] ∧ SbOf Z h b t kt (cs ++ ds) N) (plainFor_of_name pn_2) ?_
  intro p e s m below meth c s₁ X0 hx hby hml hret hnm hlk hown hZ hs0 e0
  have N0 := Fr.nil n0
  rw [show entryFrame m #[(.ref b), (.ref x)] 2 = mkF m 0 #[.val (.ref b), .val (.ref x)] [] from by first | (simp [entryFrame, mkF, argsToLocals, Value.category]; done) | rfl]
  refine w_aloadN X0.here hx (hb hby d_jdk_67m_7_0) rfl rfl (pc' := 1) rfl ?_
  refine w_aloadN X0.here hx (hb hby d_jdk_67m_7_1) rfl rfl (pc' := 2) rfl ?_
  refine w_super X0 hx hZ (y := (⟨"java/lang/AbstractStringBuilder", "append", "(Ljava/lang/String;)Ljava/lang/AbstractStringBuilder;"⟩ : MethodName)) hown (tw hw 266 rfl) (own_same (tw hw 267 rfl) (by decide) (tw hw 195 rfl) rfl) (tw hw 267 rfl) (tw hw 204 rfl) (tw hw 269 rfl) (by decide) (backC (W := 0) (rmApF l Z a0 hw b t x u kt ku cs ds N z h0 n0 Z0 gb gt SC hz B G hq) hZ (tw hw 269 rfl) (tw hw 145 rfl) (by decide) (by decide)) e0 (Ins.self B.1) (by rw [hml]; rfl) (argsL := [(.ref x)]) (st := []) pd_6 rfl rfl rfl (Nat.le_of_ble_eq_true rfl) (hb hby d_jdk_67m_7_2) (by decide) (by decide) (pc' := 5) rfl ?_
  intro T35 v35 L35 X35 Q35
  obtain ⟨rfl, N1, G1⟩ := Q35
  show Go _ _ _ _ T35 (mkF m 5 _ [(.ref b)])
  refine w_pop X35.here hx (hb hby d_jdk_67m_7_5) rfl (pc' := 6) rfl ?_
  refine w_aloadN X35.here hx (hb hby d_jdk_67m_7_6) rfl rfl (pc' := 7) rfl ?_
  exact endR X35 hx hlk rfl hret rfl (hb hby d_jdk_67m_7_7) (by decide) (by decide) (⟨rfl, Fr.app N0 N1, G1⟩)
theorem d_jdk_65m_131_0 : decode jdk_65_method_131_code 0 = .ok (.iload_n 1, 1) := by decide +kernel
theorem d_jdk_65m_131_1 : decode jdk_65_method_131_code 1 = .ok (.iload_n 0, 1) := by decide +kernel
theorem d_jdk_65m_131_2 : decode jdk_65_method_131_code 2 = .ok (.if_icmp .ge 35, 3) := by decide +kernel
theorem d_jdk_65m_131_37 : decode jdk_65_method_131_code 37 = .ok (.return_, 1) := by decide +kernel
theorem pn_3 : plainName "java/util/Arrays" = true := by first | (simp [plainName, overriddenIn]; done) | decide +kernel
set_option maxRecDepth 65536 in
set_option maxHeartbeats 40000000 in
theorem rmChk (l : Launch) (Z : State) (a0 : Array Value) (hw : ∀ d ∈ tables_1, d.before a0 Z = true) (n : Nat) (h0 : Heap) (hn : n < 2 ^ 31) :
    Ct l (⟨"java/util/Arrays", "checkLength", "(II)V"⟩ : MethodName) jdk_65_method_131_code 2 none ({ frames := 0, cells := 0, slots := 0, locals := 0 } : Room) Z #[(.int (0 : Int32)), (.int (Int32.ofNat n))] h0 (fun v h L => v = none ∧ L = [] ∧ h = h0) := by
  refine ct_of (Q := fun v h L => v = none ∧ L = [] ∧ h = h0) (plainFor_of_name pn_3) ?_
  intro p e s m below meth c s₁ X0 hx hby hml hret hnm hlk hown hZ hs0 e0
  rw [show entryFrame m #[(.int (0 : Int32)), (.int (Int32.ofNat n))] 2 = mkF m 0 #[.val (.int (0 : Int32)), .val (.int (Int32.ofNat n))] [] from by first | (simp [entryFrame, mkF, argsToLocals, Value.category]; done) | rfl]
  refine w_iloadN X0.here hx (hb hby d_jdk_65m_131_0) rfl (pc' := 1) rfl ?_
  refine w_iloadN X0.here hx (hb hby d_jdk_65m_131_1) rfl (pc' := 2) rfl ?_
  refine w_icmpYes X0.here hx (hb hby d_jdk_65m_131_2) (flt (show ¬ ((Int32.ofNat n) < (0 : Int32)) from n_nn hn)).2.1 (pc' := 37) (by decide) (by decide) ?_
  exact endV X0 hx hlk hret (hb hby d_jdk_65m_131_37) (by decide) (by decide) (by rw [e0]; exact ⟨rfl, rfl, rfl⟩)
theorem d_jdk_65m_133_0 : decode jdk_65_method_133_code 0 = .ok (.iload_n 1, 1) := by decide +kernel
theorem d_jdk_65m_133_1 : decode jdk_65_method_133_code 1 = .ok (.iload_n 2, 1) := by decide +kernel
theorem pd_7 : parseMethodDescriptor "(II)V" = some ⟨[.int, .int], none⟩ := by decide +kernel
theorem d_jdk_65m_133_2 : decode jdk_65_method_133_code 2 = .ok (.invokestatic 343, 3) := by decide +kernel
theorem d_jdk_65m_133_5 : decode jdk_65_method_133_code 5 = .ok (.iload_n 2, 1) := by decide +kernel
theorem d_jdk_65m_133_6 : decode jdk_65_method_133_code 6 = .ok (.iload_n 1, 1) := by decide +kernel
theorem d_jdk_65m_133_7 : decode jdk_65_method_133_code 7 = .ok (.isub, 1) := by decide +kernel
theorem d_jdk_65m_133_8 : decode jdk_65_method_133_code 8 = .ok (.istore_n 3, 1) := by decide +kernel
theorem d_jdk_65m_133_9 : decode jdk_65_method_133_code 9 = .ok (.iload_n 3, 1) := by decide +kernel
theorem d_jdk_65m_133_10 : decode jdk_65_method_133_code 10 = .ok (.newarray .byte, 2) := by decide +kernel
theorem d_jdk_65m_133_12 : decode jdk_65_method_133_code 12 = .ok (.astore 4, 2) := by decide +kernel
theorem d_jdk_65m_133_14 : decode jdk_65_method_133_code 14 = .ok (.aload_n 0, 1) := by decide +kernel
theorem d_jdk_65m_133_15 : decode jdk_65_method_133_code 15 = .ok (.iload_n 1, 1) := by decide +kernel
theorem d_jdk_65m_133_16 : decode jdk_65_method_133_code 16 = .ok (.aload 4, 2) := by decide +kernel
theorem d_jdk_65m_133_18 : decode jdk_65_method_133_code 18 = .ok (.iconst 0, 1) := by decide +kernel
theorem d_jdk_65m_133_19 : decode jdk_65_method_133_code 19 = .ok (.aload_n 0, 1) := by decide +kernel
theorem d_jdk_65m_133_20 : decode jdk_65_method_133_code 20 = .ok (.arraylength, 1) := by decide +kernel
theorem d_jdk_65m_133_21 : decode jdk_65_method_133_code 21 = .ok (.iload_n 1, 1) := by decide +kernel
theorem d_jdk_65m_133_22 : decode jdk_65_method_133_code 22 = .ok (.isub, 1) := by decide +kernel
theorem d_jdk_65m_133_23 : decode jdk_65_method_133_code 23 = .ok (.iload_n 3, 1) := by decide +kernel
theorem pd_8 : parseMethodDescriptor "(II)I" = some ⟨[.int, .int], some .int⟩ := by decide +kernel
theorem d_jdk_65m_133_24 : decode jdk_65_method_133_code 24 = .ok (.invokestatic 304, 3) := by decide +kernel
theorem d_jdk_65m_133_27 : decode jdk_65_method_133_code 27 = .ok (.invokestatic 150, 3) := by decide +kernel
theorem d_jdk_65m_133_30 : decode jdk_65_method_133_code 30 = .ok (.aload 4, 2) := by decide +kernel
theorem d_jdk_65m_133_32 : decode jdk_65_method_133_code 32 = .ok (.areturn, 1) := by decide +kernel
set_option maxRecDepth 65536 in
set_option maxHeartbeats 40000000 in
theorem rmRngB (l : Launch) (Z : State) (a0 : Array Value) (hw : ∀ d ∈ tables_1, d.before a0 Z = true) (t : Addr) (kt : ClassId) (cs : List Int32) (N : Nat) (h0 : Heap) (n0 : Nat) (Z0 : n0 ≤ h0.size) (V : Arv Z h0 t kt .byte (Int32.ofNat N) (padB cs N) (.int 0)) (hl : cs.length < N) (hN : N ≤ 4000) (hK : cs.length ≤ 4) :
    Ct l (⟨"java/util/Arrays", "copyOfRangeByte", "([BII)[B"⟩ : MethodName) jdk_65_method_133_code 5 (some (.array .byte)) ({ frames := 1, cells := 1, slots := 4, locals := 18 } : Room) Z #[(.ref t), (.int (0 : Int32)), (.int (Int32.ofNat cs.length))] h0 (fun v h L => ∃ u ku, v = some (.ref u) ∧ Fr n0 L ∧ Ext h0 h ∧ h0.size ≤ u ∧ Arv Z h u ku .byte (Int32.ofNat cs.length) (lobs cs) (.int 0)) := by
  refine ct_of (Q := fun v h L => ∃ u ku, v = some (.ref u) ∧ Fr n0 L ∧ Ext h0 h ∧ h0.size ≤ u ∧ Arv Z h u ku .byte (Int32.ofNat cs.length) (lobs cs) (.int 0)) (plainFor_of_name pn_3) ?_
  intro p e s m below meth c s₁ X0 hx hby hml hret hnm hlk hown hZ hs0 e0
  have N0 := Fr.nil n0
  rw [show entryFrame m #[(.ref t), (.int (0 : Int32)), (.int (Int32.ofNat cs.length))] 5 = mkF m 0 #[.val (.ref t), .val (.int (0 : Int32)), .val (.int (Int32.ofNat cs.length)), .unset, .unset] [] from by first | (simp [entryFrame, mkF, argsToLocals, Value.category]; done) | rfl]
  refine w_iloadN X0.here hx (hb hby d_jdk_65m_133_0) rfl (pc' := 1) rfl ?_
  refine w_iloadN X0.here hx (hb hby d_jdk_65m_133_1) rfl (pc' := 2) rfl ?_
  refine w_static X0 hx hZ (y := (⟨"java/util/Arrays", "checkLength", "(II)V"⟩ : MethodName)) hown (tw hw 220 rfl) (tw hw 221 rfl) (tw hw 215 rfl) (tw hw 222 rfl) (by decide) (backC (W := 0) (rmChk l Z a0 hw cs.length h0 (by omega)) hZ (tw hw 222 rfl) (tw hw 215 rfl) (by decide) (by decide)) e0 (by rw [hml]; rfl) (argsL := [(.int (0 : Int32)), (.int (Int32.ofNat cs.length))]) (st := []) pd_7 rfl rfl rfl (Nat.le_of_ble_eq_true rfl) (hb hby d_jdk_65m_133_2) (by decide) (by decide) (pc' := 5) rfl ?_
  intro T36 v36 L36 X36 Q36
  obtain ⟨rfl, rfl, hh⟩ := Q36
  show Go _ _ _ _ T36 (mkF m 5 _ [])
  rw [List.append_nil] at X36
  refine w_iloadN X36.here hx (hb hby d_jdk_65m_133_5) rfl (pc' := 6) rfl ?_
  refine w_iloadN X36.here hx (hb hby d_jdk_65m_133_6) rfl (pc' := 7) rfl ?_
  refine w_isub X36.here hx (hb hby d_jdk_65m_133_7) (pc' := 8) rfl ?_
  rw [Int32.sub_zero]
  show Go _ _ _ _ T36 (mkF m 8 _ [(.int (Int32.ofNat cs.length))])
  refine w_istoreN X36.here hx (hb hby d_jdk_65m_133_8) (l' := #[.val (.ref t), .val (.int (0 : Int32)), .val (.int (Int32.ofNat cs.length)), .val (.int (Int32.ofNat cs.length)), .unset]) rfl (pc' := 9) rfl ?_
  refine w_iloadN X36.here hx (hb hby d_jdk_65m_133_9) rfl (pc' := 10) rfl ?_
  refine w_newarray X36 hx hZ (ty := .byte) (dv := (.int 0)) rfl rfl (tw hw 26 rfl) hh (n := (Int32.ofNat cs.length)) (hb hby d_jdk_65m_133_10) (n_nn (by omega)) (cap := 4) (by rw [n_nat (by omega)]; omega) (by decide) (by decide) (by decide) (pc' := 12) rfl ?_
  intro T37 h37 u ku gu X37 e37 E37 U
  have ge_u_h0 : h0.size ≤ u := Nat.le_trans (Ext.rfl' : Ext h0 h0).1 (Nat.le_of_eq gu)
  have C38 : Ext h0 h37 := Ext.trs Ext.rfl' E37
  rw [n_nat (by omega)] at U
  have ge : n0 ≤ u := Nat.le_trans Z0 ge_u_h0
  refine w_astore X37.here hx (hb hby d_jdk_65m_133_12) rfl (l' := #[.val (.ref t), .val (.int (0 : Int32)), .val (.int (Int32.ofNat cs.length)), .val (.int (Int32.ofNat cs.length)), .val (.ref u)]) rfl (pc' := 14) rfl ?_
  refine w_aloadN X37.here hx (hb hby d_jdk_65m_133_14) rfl rfl (pc' := 15) rfl ?_
  refine w_iloadN X37.here hx (hb hby d_jdk_65m_133_15) rfl (pc' := 16) rfl ?_
  refine w_aload X37.here hx (hb hby d_jdk_65m_133_16) rfl rfl (pc' := 18) rfl ?_
  refine w_iconst X37.here hx (hb hby d_jdk_65m_133_18) (z := 0) rfl (pc' := 19) rfl ?_
  refine w_aloadN X37.here hx (hb hby d_jdk_65m_133_19) rfl rfl (pc' := 20) rfl ?_
  refine w_arraylength X37 hx hZ e37 (V.ext C38) (hb hby d_jdk_65m_133_20) (pc' := 21) rfl ?_
  refine w_iloadN X37.here hx (hb hby d_jdk_65m_133_21) rfl (pc' := 22) rfl ?_
  refine w_isub X37.here hx (hb hby d_jdk_65m_133_22) (pc' := 23) rfl ?_
  rw [Int32.sub_zero]
  show Go _ _ _ _ T37 (mkF m 23 _ [(.int (Int32.ofNat N)), (.int (0 : Int32)), (.ref u), (.int (0 : Int32)), (.ref t)])
  refine w_iloadN X37.here hx (hb hby d_jdk_65m_133_23) rfl (pc' := 24) rfl ?_
  refine w_static X37 hx hZ (y := yq11) hown (tw hw 223 rfl) (tw hw 224 rfl) (tw hw 91 rfl) (tw hw 225 rfl) (by decide) (backC (W := 4) (rmMinR l Z a0 hw (Int32.ofNat N) (Int32.ofNat cs.length) h37 (n_lt (by omega) (by omega))) hZ (tw hw 225 rfl) (tw hw 91 rfl) (by decide) (by decide)) e37 (by rw [hml]; rfl) (argsL := [(.int (Int32.ofNat N)), (.int (Int32.ofNat cs.length))]) (st := [(.int (0 : Int32)), (.ref u), (.int (0 : Int32)), (.ref t)]) pd_8 rfl rfl rfl (Nat.le_of_ble_eq_true rfl) (hb hby d_jdk_65m_133_24) (by decide) (by decide) (pc' := 27) rfl ?_
  intro T39 v39 L39 X39 Q39
  obtain ⟨rfl, rfl, hh2⟩ := Q39
  show Go _ _ _ _ T39 (mkF m 27 _ [(.int (Int32.ofNat cs.length)), (.int (0 : Int32)), (.ref u), (.int (0 : Int32)), (.ref t)])
  rw [List.append_nil] at X39
  refine w_cpA X39 hx hZ hown (tw hw 226 rfl) (tw hw 229 rfl) (tw hw 227 rfl) (tw hw 228 rfl) hh2 (n := cs.length) (d := 0) (us := (padB cs N).take cs.length) (V.ext C38) U (Or.inl ⟨rfl, rfl⟩) (by rw [n_nat (by omega)]; omega) (by rw [n_nat (by omega)]; omega) rfl (by rw [padB_len (by omega)]; omega) (by simp) (by omega) N0 ge (by rw [hml]; rfl) (hb hby d_jdk_65m_133_27) (by decide) (W := 0) (Nat.le_of_ble_eq_true rfl) (by decide) (pc' := 30) rfl ?_
  intro T40 h40 L40 X40 e40 N40 K40 V40
  refine w_aload X40.here hx (hb hby d_jdk_65m_133_30) rfl rfl (pc' := 32) rfl ?_
  rw [padB_take] at V40
  have V2 : Arv Z h40 u ku .byte (Int32.ofNat cs.length) (lobs cs) (.int 0) := by simpa using V40
  exact endR X40 hx hlk rfl hret rfl (hb hby d_jdk_65m_133_32) (by decide) (by decide) (by rw [e40]; exact ⟨u, ku, rfl, N40, Ext.kp C38 K40 (allS ge_u_h0 all0), ge_u_h0, V2⟩)
theorem d_jdk_65m_132_0 : decode jdk_65_method_132_code 0 = .ok (.iload_n 1, 1) := by decide +kernel
theorem d_jdk_65m_132_1 : decode jdk_65_method_132_code 1 = .ok (.ifCond .ne 9, 3) := by decide +kernel
theorem d_jdk_65m_132_4 : decode jdk_65_method_132_code 4 = .ok (.iload_n 2, 1) := by decide +kernel
theorem d_jdk_65m_132_5 : decode jdk_65_method_132_code 5 = .ok (.aload_n 0, 1) := by decide +kernel
theorem d_jdk_65m_132_6 : decode jdk_65_method_132_code 6 = .ok (.arraylength, 1) := by decide +kernel
theorem d_jdk_65m_132_7 : decode jdk_65_method_132_code 7 = .ok (.if_icmp .eq 10, 3) := by decide +kernel
theorem d_jdk_65m_132_10 : decode jdk_65_method_132_code 10 = .ok (.aload_n 0, 1) := by decide +kernel
theorem d_jdk_65m_132_11 : decode jdk_65_method_132_code 11 = .ok (.iload_n 1, 1) := by decide +kernel
theorem d_jdk_65m_132_12 : decode jdk_65_method_132_code 12 = .ok (.iload_n 2, 1) := by decide +kernel
theorem pd_9 : parseMethodDescriptor "([BII)[B" = some ⟨[(.array .byte), .int, .int], some (.array .byte)⟩ := by decide +kernel
theorem d_jdk_65m_132_13 : decode jdk_65_method_132_code 13 = .ok (.invokestatic 339, 3) := by decide +kernel
theorem d_jdk_65m_132_16 : decode jdk_65_method_132_code 16 = .ok (.areturn, 1) := by decide +kernel
set_option maxRecDepth 65536 in
set_option maxHeartbeats 40000000 in
theorem rmRng (l : Launch) (Z : State) (a0 : Array Value) (hw : ∀ d ∈ tables_1, d.before a0 Z = true) (t : Addr) (kt : ClassId) (cs : List Int32) (N : Nat) (h0 : Heap) (n0 : Nat) (Z0 : n0 ≤ h0.size) (V : Arv Z h0 t kt .byte (Int32.ofNat N) (padB cs N) (.int 0)) (hl : cs.length < N) (hN : N ≤ 4000) (hK : cs.length ≤ 4) :
    Ct l (⟨"java/util/Arrays", "copyOfRange", "([BII)[B"⟩ : MethodName) jdk_65_method_132_code 3 (some (.array .byte)) ({ frames := 2, cells := 1, slots := 4, locals := 34 } : Room) Z #[(.ref t), (.int (0 : Int32)), (.int (Int32.ofNat cs.length))] h0 (fun v h L => ∃ u ku, v = some (.ref u) ∧ Fr n0 L ∧ Ext h0 h ∧ h0.size ≤ u ∧ Arv Z h u ku .byte (Int32.ofNat cs.length) (lobs cs) (.int 0)) := by
  refine ct_of (Q := fun v h L => ∃ u ku, v = some (.ref u) ∧ Fr n0 L ∧ Ext h0 h ∧ h0.size ≤ u ∧ Arv Z h u ku .byte (Int32.ofNat cs.length) (lobs cs) (.int 0)) (plainFor_of_name pn_3) ?_
  intro p e s m below meth c s₁ X0 hx hby hml hret hnm hlk hown hZ hs0 e0
  have N0 := Fr.nil n0
  rw [show entryFrame m #[(.ref t), (.int (0 : Int32)), (.int (Int32.ofNat cs.length))] 3 = mkF m 0 #[.val (.ref t), .val (.int (0 : Int32)), .val (.int (Int32.ofNat cs.length))] [] from by first | (simp [entryFrame, mkF, argsToLocals, Value.category]; done) | rfl]
  refine w_iloadN X0.here hx (hb hby d_jdk_65m_132_0) rfl (pc' := 1) rfl ?_
  refine w_ifNo X0.here hx (hb hby d_jdk_65m_132_1) (teq (show (0 : Int32) = (0 : Int32) from rfl)).2 (pc' := 4) rfl ?_
  refine w_iloadN X0.here hx (hb hby d_jdk_65m_132_4) rfl (pc' := 5) rfl ?_
  refine w_aloadN X0.here hx (hb hby d_jdk_65m_132_5) rfl rfl (pc' := 6) rfl ?_
  refine w_arraylength X0 hx hZ e0 V (hb hby d_jdk_65m_132_6) (pc' := 7) rfl ?_
  refine w_icmpNo X0.here hx (hb hby d_jdk_65m_132_7) (feq (show ¬ ((Int32.ofNat cs.length) = (Int32.ofNat N)) from n_ne hl (by omega))).1 (pc' := 10) rfl ?_
  refine w_aloadN X0.here hx (hb hby d_jdk_65m_132_10) rfl rfl (pc' := 11) rfl ?_
  refine w_iloadN X0.here hx (hb hby d_jdk_65m_132_11) rfl (pc' := 12) rfl ?_
  refine w_iloadN X0.here hx (hb hby d_jdk_65m_132_12) rfl (pc' := 13) rfl ?_
  refine w_static X0 hx hZ (y := (⟨"java/util/Arrays", "copyOfRangeByte", "([BII)[B"⟩ : MethodName)) hown (tw hw 217 rfl) (tw hw 218 rfl) (tw hw 215 rfl) (tw hw 219 rfl) (by decide) (backC (W := 0) (rmRngB l Z a0 hw t kt cs N h0 n0 Z0 V hl hN hK) hZ (tw hw 219 rfl) (tw hw 215 rfl) (by decide) (by decide)) e0 (by rw [hml]; rfl) (argsL := [(.ref t), (.int (0 : Int32)), (.int (Int32.ofNat cs.length))]) (st := []) pd_9 rfl rfl rfl (Nat.le_of_ble_eq_true rfl) (hb hby d_jdk_65m_132_13) (by decide) (by decide) (pc' := 16) rfl ?_
  intro T41 v41 L41 X41 Q41
  obtain ⟨u, ku, rfl, N1, G1⟩ := Q41
  show Go _ _ _ _ T41 (mkF m 16 _ [(.ref u)])
  exact endR X41 hx hlk rfl hret rfl (hb hby d_jdk_65m_132_16) (by decide) (by decide) (⟨u, ku, rfl, Fr.app N0 N1, G1⟩)
theorem d_jdk_42m_150_0 : decode jdk_42_method_150_code 0 = .ok (.aload_n 0, 1) := by decide +kernel
theorem d_jdk_42m_150_1 : decode jdk_42_method_150_code 1 = .ok (.invokespecial 1, 3) := by decide +kernel
theorem d_jdk_42m_150_4 : decode jdk_42_method_150_code 4 = .ok (.aload_n 1, 1) := by decide +kernel
theorem pd_10 : parseMethodDescriptor "()[B" = some ⟨[], some (.array .byte)⟩ := by decide +kernel
theorem d_jdk_42m_150_5 : decode jdk_42_method_150_code 5 = .ok (.invokevirtual 552, 3) := by decide +kernel
theorem d_jdk_42m_150_8 : decode jdk_42_method_150_code 8 = .ok (.astore_n 3, 1) := by decide +kernel
theorem d_jdk_42m_150_9 : decode jdk_42_method_150_code 9 = .ok (.aload_n 1, 1) := by decide +kernel
theorem d_jdk_42m_150_10 : decode jdk_42_method_150_code 10 = .ok (.invokevirtual 549, 3) := by decide +kernel
theorem d_jdk_42m_150_13 : decode jdk_42_method_150_code 13 = .ok (.istore 4, 2) := by decide +kernel
theorem d_jdk_42m_150_15 : decode jdk_42_method_150_code 15 = .ok (.aload_n 1, 1) := by decide +kernel
theorem pd_11 : parseMethodDescriptor "()Z" = some ⟨[], some .boolean⟩ := by decide +kernel
theorem d_jdk_42m_150_16 : decode jdk_42_method_150_code 16 = .ok (.invokevirtual 1047, 3) := by decide +kernel
theorem d_jdk_42m_150_19 : decode jdk_42_method_150_code 19 = .ok (.ifCond .eq 22, 3) := by decide +kernel
theorem d_jdk_42m_150_22 : decode jdk_42_method_150_code 22 = .ok (.aload_n 0, 1) := by decide +kernel
theorem d_jdk_42m_150_23 : decode jdk_42_method_150_code 23 = .ok (.iconst 0, 1) := by decide +kernel
theorem d_jdk_42m_150_24 : decode jdk_42_method_150_code 24 = .ok (.putfield 15, 3) := by decide +kernel
theorem d_jdk_42m_150_27 : decode jdk_42_method_150_code 27 = .ok (.aload_n 0, 1) := by decide +kernel
theorem d_jdk_42m_150_28 : decode jdk_42_method_150_code 28 = .ok (.aload_n 3, 1) := by decide +kernel
theorem d_jdk_42m_150_29 : decode jdk_42_method_150_code 29 = .ok (.iconst 0, 1) := by decide +kernel
theorem d_jdk_42m_150_30 : decode jdk_42_method_150_code 30 = .ok (.iload 4, 2) := by decide +kernel
theorem d_jdk_42m_150_32 : decode jdk_42_method_150_code 32 = .ok (.invokestatic 54, 3) := by decide +kernel
theorem d_jdk_42m_150_35 : decode jdk_42_method_150_code 35 = .ok (.putfield 9, 3) := by decide +kernel
theorem d_jdk_42m_150_38 : decode jdk_42_method_150_code 38 = .ok (.goto 59, 3) := by decide +kernel
theorem d_jdk_42m_150_97 : decode jdk_42_method_150_code 97 = .ok (.return_, 1) := by decide +kernel
set_option maxRecDepth 65536 in
set_option maxHeartbeats 40000000 in
theorem rmS2 (l : Launch) (Z : State) (a0 : Array Value) (hw : ∀ d ∈ tables_1, d.before a0 Z = true) (x b t : Addr) (kt : ClassId) (cs : List Int32) (N : Nat) (z : Int32) (c0 v0 : Value) (h0 : Heap) (n0 : Nat) (Z0 : n0 ≤ h0.size) (gx : n0 ≤ x) (SC : Sta Z h0 "java/lang/String" "COMPACT_STRINGS" "Z" (.int z)) (hz : ¬ z = 0) (B : SbOf Z h0 b t kt cs N) (hl : cs.length < N) (hK : cs.length ≤ 4) (EX : Exa Z h0 x "java/lang/String") (FV : Fld Z h0 x "java/lang/String" "value" "[B" v0) (FC : Fld Z h0 x "java/lang/String" "coder" "B" c0) :
    Ct l (⟨"java/lang/String", "<init>", "(Ljava/lang/AbstractStringBuilder;Ljava/lang/Void;)V"⟩ : MethodName) jdk_42_method_150_code 5 none ({ frames := 3, cells := 1, slots := 4, locals := 49 } : Room) Z #[(.ref x), (.ref b), .null] h0 (fun v h L => v = none ∧ Fr n0 L ∧ Keep h0 h [x] ∧ ∃ u ku, h0.size ≤ u ∧ LstOf Z h x u ku cs) := by
  refine ct_of (Q := fun v h L => v = none ∧ Fr n0 L ∧ Keep h0 h [x] ∧ ∃ u ku, h0.size ≤ u ∧ LstOf Z h x u ku cs) (plainFor_of_name pn_0) ?_
  intro p e s m below meth c s₁ X0 hx hby hml hret hnm hlk hown hZ hs0 e0
  have N0 := Fr.nil n0
  rw [show entryFrame m #[(.ref x), (.ref b), .null] 5 = mkF m 0 #[.val (.ref x), .val (.ref b), .val .null, .unset, .unset] [] from by first | (simp [entryFrame, mkF, argsToLocals, Value.category]; done) | rfl]
  refine w_aloadN X0.here hx (hb hby d_jdk_42m_150_0) rfl rfl (pc' := 1) rfl ?_
  refine w_initO X0 hx hZ hown (tw hw 18 rfl) (tw hw 19 rfl) (tw hw 20 rfl) e0 (by rw [hml]; rfl) (hb hby d_jdk_42m_150_1) (by decide) (W := 0) (Nat.le_of_ble_eq_true rfl) (by decide) (pc' := 4) rfl ?_
  intro T42 X42 e42
  refine w_aloadN X42.here hx (hb hby d_jdk_42m_150_4) rfl rfl (pc' := 5) rfl ?_
  refine w_virtual X42 hx hZ (y := yq27) (z := yq27) hown (tw hw 192 rfl) (tw hw 193 rfl) (notFace_of_selects (args := #[]) (mvT hZ (tw hw 195 rfl))) (tw hw 195 rfl) (tw hw 194 rfl) (by decide) (backC (W := 0) (rmGetV l Z a0 hw b t kt cs N h0 B) hZ (tw hw 196 rfl) (tw hw 145 rfl) (by decide) (by decide)) e42 B.1 (by rw [hml]; rfl) (argsL := []) (st := []) pd_10 rfl rfl rfl (Nat.le_of_ble_eq_true rfl) (hb hby d_jdk_42m_150_5) (by decide) (by decide) (pc' := 8) rfl ?_
  intro T43 v43 L43 X43 Q43
  obtain ⟨rfl, rfl, hh⟩ := Q43
  show Go _ _ _ _ T43 (mkF m 8 _ [(.ref t)])
  rw [List.append_nil] at X43
  refine w_astoreN X43.here hx (hb hby d_jdk_42m_150_8) rfl (l' := #[.val (.ref x), .val (.ref b), .val .null, .val (.ref t), .unset]) rfl (pc' := 9) rfl ?_
  refine w_aloadN X43.here hx (hb hby d_jdk_42m_150_9) rfl rfl (pc' := 10) rfl ?_
  refine w_virtual X43 hx hZ (y := yq26) (z := yq18) hown (tw hw 197 rfl) (tw hw 198 rfl) (own_nf (a0 := #[]) (mvT hZ (tw hw 195 rfl)) rfl) (tw hw 200 rfl) (tw hw 201 rfl) (by decide) (backC (W := 0) (rmLenS l Z a0 hw b t kt cs N h0 B) hZ (tw hw 202 rfl) (tw hw 137 rfl) (by decide) (by decide)) hh B.1 (by rw [hml]; rfl) (argsL := []) (st := []) pd_0 rfl rfl rfl (Nat.le_of_ble_eq_true rfl) (hb hby d_jdk_42m_150_10) (by decide) (by decide) (pc' := 13) rfl ?_
  intro T44 v44 L44 X44 Q44
  obtain ⟨rfl, rfl, hh2⟩ := Q44
  show Go _ _ _ _ T44 (mkF m 13 _ [(.int (Int32.ofNat cs.length))])
  rw [List.append_nil] at X44
  refine w_istore X44.here hx (hb hby d_jdk_42m_150_13) (l' := #[.val (.ref x), .val (.ref b), .val .null, .val (.ref t), .val (.int (Int32.ofNat cs.length))]) rfl (pc' := 15) rfl ?_
  refine w_aloadN X44.here hx (hb hby d_jdk_42m_150_15) rfl rfl (pc' := 16) rfl ?_
  refine w_virtual X44 hx hZ (y := yq28) (z := yq28) hown (tw hw 208 rfl) (tw hw 209 rfl) (notFace_of_selects (args := #[]) (mvT hZ (tw hw 211 rfl))) (tw hw 211 rfl) (tw hw 210 rfl) (by decide) (backC (W := 0) (rmIsL l Z a0 hw b t kt cs N h0 B z SC hz) hZ (tw hw 212 rfl) (tw hw 145 rfl) (by decide) (by decide)) hh2 B.1 (by rw [hml]; rfl) (argsL := []) (st := []) pd_11 rfl rfl rfl (Nat.le_of_ble_eq_true rfl) (hb hby d_jdk_42m_150_16) (by decide) (by decide) (pc' := 19) rfl ?_
  intro T45 v45 L45 X45 Q45
  obtain ⟨rfl, rfl, hh3⟩ := Q45
  show Go _ _ _ _ T45 (mkF m 19 _ [(.int (1 : Int32))])
  rw [List.append_nil] at X45
  refine w_ifNo X45.here hx (hb hby d_jdk_42m_150_19) (feq (show ¬ ((1 : Int32) = (0 : Int32)) from by decide)).1 (pc' := 22) rfl ?_
  refine w_aloadN X45.here hx (hb hby d_jdk_42m_150_22) rfl rfl (pc' := 23) rfl ?_
  refine w_iconst X45.here hx (hb hby d_jdk_42m_150_23) (z := 0) rfl (pc' := 24) rfl ?_
  refine w_putF X45 hx hZ hown (tw hw 33 rfl) Via.refl hh3 FC EX (Or.inr ⟨(tw hw 34 rfl), rfl, hnm⟩) (tw hw 9 rfl) (ty := .byte) (by decide) rfl rfl (hb hby d_jdk_42m_150_24) (pc' := 27) rfl ?_
  intro T46 h46 X46 e46 W46
  have N1 := Fr.snoc X46 N0 gx
  have EX1 := EX.wr W46
  have FC1 := Fld.same W46 FC
  have FV1 := FV.other W46 (Or.inr (slot_ne (Or.inr (tw hw 36 rfl)) (Or.inr (tw hw 34 rfl)) (by decide) (t := (.array .byte)) (t' := .byte) (by decide) (by decide)))
  have V1 := B.2.2.2.2.1.other W46 (Ne.symm (EX.neArv B.2.2.2.2.1 (tw hw 9 rfl)))
  have K1 := Keep.of_wr W46
  refine w_aloadN X46.here hx (hb hby d_jdk_42m_150_27) rfl rfl (pc' := 28) rfl ?_
  refine w_aloadN X46.here hx (hb hby d_jdk_42m_150_28) rfl rfl (pc' := 29) rfl ?_
  refine w_iconst X46.here hx (hb hby d_jdk_42m_150_29) (z := 0) rfl (pc' := 30) rfl ?_
  refine w_iload X46.here hx (hb hby d_jdk_42m_150_30) rfl (pc' := 32) rfl ?_
  have es : h46.size = h0.size := W46.size
  refine w_static X46 hx hZ (y := (⟨"java/util/Arrays", "copyOfRange", "([BII)[B"⟩ : MethodName)) hown (tw hw 213 rfl) (tw hw 214 rfl) (tw hw 215 rfl) (tw hw 216 rfl) (by decide) (backC (W := 1) (rmRng l Z a0 hw t kt cs N h46 n0 (by rw [es]; exact Z0) V1 hl B.2.2.2.2.2.2.1 hK) hZ (tw hw 216 rfl) (tw hw 215 rfl) (by decide) (by decide)) e46 (by rw [hml]; rfl) (argsL := [(.ref t), (.int (0 : Int32)), (.int (Int32.ofNat cs.length))]) (st := [(.ref x)]) pd_9 rfl rfl rfl (Nat.le_of_ble_eq_true rfl) (hb hby d_jdk_42m_150_32) (by decide) (by decide) (pc' := 35) rfl ?_
  intro T47 v47 L47 X47 Q47
  obtain ⟨u, ku, rfl, N2, E2, gu, U⟩ := Q47
  show Go _ _ _ _ T47 (mkF m 35 _ [(.ref u), (.ref x)])
  have N3 := Fr.app N1 N2
  refine w_putF X47 hx hZ hown (tw hw 35 rfl) Via.refl rfl (FV1.ext E2) (EX1.ext E2) (Or.inr ⟨(tw hw 36 rfl), rfl, hnm⟩) (tw hw 9 rfl) (ty := (.array .byte)) (by decide) rfl rfl (hb hby d_jdk_42m_150_35) (pc' := 38) rfl ?_
  intro T48 h48 X48 e48 W48
  have N4 := Fr.snoc X48 N3 gx
  have nux : u ≠ x := Nat.ne_of_gt (Nat.lt_of_lt_of_le EX1.lt gu)
  refine w_goto X48.here hx (hb hby d_jdk_42m_150_38) (pc' := 97) (by decide) (by decide) ?_
  have LS : LstOf Z h48 x u ku cs := ⟨(EX1.ext E2).wr W48, Fld.same W48 (FV1.ext E2), (FC1.ext E2).other W48 (Or.inr (slot_ne (Or.inr (tw hw 34 rfl)) (Or.inr (tw hw 36 rfl)) (by decide) (t := .byte) (t' := (.array .byte)) (by decide) (by decide))), U.other W48 nux, by have := B.2.2.2.2.2.2.1; omega, B.2.2.2.2.2.2.2⟩
  exact endV X48 hx hlk hret (hb hby d_jdk_42m_150_97) (by decide) (by decide) (by rw [e48]; exact ⟨rfl, N4, (K1.ext E2).wr W48 (Or.inl (List.mem_cons_self ..)), u, ku, by rw [← es]; exact gu, LS⟩)
theorem d_jdk_42m_53_0 : decode jdk_42_method_53_code 0 = .ok (.aload_n 0, 1) := by decide +kernel
theorem d_jdk_42m_53_1 : decode jdk_42_method_53_code 1 = .ok (.aload_n 1, 1) := by decide +kernel
theorem d_jdk_42m_53_2 : decode jdk_42_method_53_code 2 = .ok (.aconst_null, 1) := by decide +kernel
theorem pd_12 : parseMethodDescriptor "(Ljava/lang/AbstractStringBuilder;Ljava/lang/Void;)V" = some ⟨[(.object "java/lang/AbstractStringBuilder"), (.object "java/lang/Void")], none⟩ := by decide +kernel
theorem d_jdk_42m_53_3 : decode jdk_42_method_53_code 3 = .ok (.invokespecial 489, 3) := by decide +kernel
theorem d_jdk_42m_53_6 : decode jdk_42_method_53_code 6 = .ok (.return_, 1) := by decide +kernel
set_option maxRecDepth 65536 in
set_option maxHeartbeats 40000000 in
theorem rmS1 (l : Launch) (Z : State) (a0 : Array Value) (hw : ∀ d ∈ tables_1, d.before a0 Z = true) (x b t : Addr) (kt : ClassId) (cs : List Int32) (N : Nat) (z : Int32) (c0 v0 : Value) (h0 : Heap) (n0 : Nat) (Z0 : n0 ≤ h0.size) (gx : n0 ≤ x) (SC : Sta Z h0 "java/lang/String" "COMPACT_STRINGS" "Z" (.int z)) (hz : ¬ z = 0) (B : SbOf Z h0 b t kt cs N) (hl : cs.length < N) (hK : cs.length ≤ 4) (EX : Exa Z h0 x "java/lang/String") (FV : Fld Z h0 x "java/lang/String" "value" "[B" v0) (FC : Fld Z h0 x "java/lang/String" "coder" "B" c0) :
    Ct l (⟨"java/lang/String", "<init>", "(Ljava/lang/StringBuilder;)V"⟩ : MethodName) jdk_42_method_53_code 2 none ({ frames := 4, cells := 1, slots := 4, locals := 65 } : Room) Z #[(.ref x), (.ref b)] h0 (fun v h L => v = none ∧ Fr n0 L ∧ Keep h0 h [x] ∧ ∃ u ku, h0.size ≤ u ∧ LstOf Z h x u ku cs) := by
  refine ct_of (Q := fun v h L => v = none ∧ Fr n0 L ∧ Keep h0 h [x] ∧ ∃ u ku, h0.size ≤ u ∧ LstOf Z h x u ku cs) (plainFor_of_name pn_0) ?_
  intro p e s m below meth c s₁ X0 hx hby hml hret hnm hlk hown hZ hs0 e0
  have N0 := Fr.nil n0
  rw [show entryFrame m #[(.ref x), (.ref b)] 2 = mkF m 0 #[.val (.ref x), .val (.ref b)] [] from by first | (simp [entryFrame, mkF, argsToLocals, Value.category]; done) | rfl]
  refine w_aloadN X0.here hx (hb hby d_jdk_42m_53_0) rfl rfl (pc' := 1) rfl ?_
  refine w_aloadN X0.here hx (hb hby d_jdk_42m_53_1) rfl rfl (pc' := 2) rfl ?_
  refine w_null X0.here hx (hb hby d_jdk_42m_53_2) (pc' := 3) rfl ?_
  refine w_special X0 hx hZ (y := (⟨"java/lang/String", "<init>", "(Ljava/lang/AbstractStringBuilder;Ljava/lang/Void;)V"⟩ : MethodName)) rfl hown (tw hw 189 rfl) (tw hw 190 rfl) (tw hw 191 rfl) (by decide) (backC (W := 0) (rmS2 l Z a0 hw x b t kt cs N z c0 v0 h0 n0 Z0 gx SC hz B hl hK EX FV FC) hZ (tw hw 191 rfl) (tw hw 10 rfl) (by decide) (by decide)) e0 (by rw [hml]; rfl) (argsL := [(.ref b), .null]) (st := []) pd_12 rfl rfl rfl (Nat.le_of_ble_eq_true rfl) (hb hby d_jdk_42m_53_3) (by decide) (by decide) (pc' := 6) rfl ?_
  intro T49 v49 L49 X49 Q49
  obtain ⟨rfl, N1, G1⟩ := Q49
  show Go _ _ _ _ T49 (mkF m 6 _ [])
  exact endV X49 hx hlk hret (hb hby d_jdk_42m_53_6) (by decide) (by decide) (⟨rfl, Fr.app N0 N1, G1⟩)
theorem d_jdk_67m_42_0 : decode jdk_67_method_42_code 0 = .ok (.new 18, 3) := by decide +kernel
theorem d_jdk_67m_42_3 : decode jdk_67_method_42_code 3 = .ok (.dup, 1) := by decide +kernel
theorem d_jdk_67m_42_4 : decode jdk_67_method_42_code 4 = .ok (.aload_n 0, 1) := by decide +kernel
theorem pd_13 : parseMethodDescriptor "(Ljava/lang/StringBuilder;)V" = some ⟨[(.object "java/lang/StringBuilder")], none⟩ := by decide +kernel
theorem d_jdk_67m_42_5 : decode jdk_67_method_42_code 5 = .ok (.invokespecial 137, 3) := by decide +kernel
theorem d_jdk_67m_42_8 : decode jdk_67_method_42_code 8 = .ok (.areturn, 1) := by decide +kernel
set_option maxRecDepth 65536 in
set_option maxHeartbeats 40000000 in
theorem rmToS (l : Launch) (Z : State) (a0 : Array Value) (hw : ∀ d ∈ tables_1, d.before a0 Z = true) (b t : Addr) (kt : ClassId) (cs : List Int32) (N : Nat) (z : Int32) (h0 : Heap) (n0 : Nat) (Z0 : n0 ≤ h0.size) (SC : Sta Z h0 "java/lang/String" "COMPACT_STRINGS" "Z" (.int z)) (hz : ¬ z = 0) (B : SbOf Z h0 b t kt cs N) (hl : cs.length < N) (hK : cs.length ≤ 4) :
    Ct l yq31 jdk_67_method_42_code 1 (some (.object "java/lang/String")) ({ frames := 5, cells := 2, slots := 8, locals := 79 } : Room) Z #[(.ref b)] h0 (fun v h L => ∃ x u ku, v = some (.ref x) ∧ Fr n0 L ∧ Ext h0 h ∧ h0.size ≤ x ∧ h0.size ≤ u ∧ LstOf Z h x u ku cs) := by
  refine ct_of (Q := fun v h L => ∃ x u ku, v = some (.ref x) ∧ Fr n0 L ∧ Ext h0 h ∧ h0.size ≤ x ∧ h0.size ≤ u ∧ LstOf Z h x u ku cs) (plainFor_of_name pn_2) ?_
  intro p e s m below meth c s₁ X0 hx hby hml hret hnm hlk hown hZ hs0 e0
  have N0 := Fr.nil n0
  rw [show entryFrame m #[(.ref b)] 1 = mkF m 0 #[.val (.ref b)] [] from by first | (simp [entryFrame, mkF, argsToLocals, Value.category]; done) | rfl]
  refine w_new X0 hx hZ hown (tw hw 185 rfl) (tw hw 9 rfl) (tw hw 10 rfl) e0 (hb hby d_jdk_67m_42_0) (by decide) (by decide) (pc' := 3) rfl ?_
  intro T50 h50 x gx X50 e50 E50 A50 D50 U50
  have ge_x_h0 : h0.size ≤ x := Nat.le_trans (Ext.rfl' : Ext h0 h0).1 (Nat.le_of_eq gx)
  have C51 : Ext h0 h50 := Ext.trs Ext.rfl' E50
  have gx0 : n0 ≤ x := Nat.le_trans Z0 ge_x_h0
  have FV : Fld Z h50 x "java/lang/String" "value" "[B" .null := D50 (Or.inr (tw hw 36 rfl)) (ty := (.array .byte)) (by decide)
  have FC : Fld Z h50 x "java/lang/String" "coder" "B" (.int (0 : Int32)) := D50 (Or.inr (tw hw 34 rfl)) (ty := .byte) (by decide)
  refine w_dup X50.here hx (hb hby d_jdk_67m_42_3) rfl (pc' := 4) rfl ?_
  refine w_aloadN X50.here hx (hb hby d_jdk_67m_42_4) rfl rfl (pc' := 5) rfl ?_
  refine w_special X50 hx hZ (y := (⟨"java/lang/String", "<init>", "(Ljava/lang/StringBuilder;)V"⟩ : MethodName)) rfl hown (tw hw 186 rfl) (tw hw 187 rfl) (tw hw 188 rfl) (by decide) (backC (W := 1) (rmS1 l Z a0 hw x b t kt cs N z _ _ h50 n0 (Nat.le_trans Z0 C51.1) gx0 (SC.ext C51) hz (B.ext C51) hl hK A50 FV FC) hZ (tw hw 188 rfl) (tw hw 10 rfl) (by decide) (by decide)) e50 (by rw [hml]; rfl) (argsL := [(.ref b)]) (st := [(.ref x)]) pd_13 rfl rfl rfl (Nat.le_of_ble_eq_true rfl) (hb hby d_jdk_67m_42_5) (by decide) (by decide) (pc' := 8) rfl ?_
  intro T52 v52 L52 X52 Q52
  obtain ⟨rfl, N1, K1, u, ku, gu, LS⟩ := Q52
  show Go _ _ _ _ T52 (mkF m 8 _ [(.ref x)])
  exact endR X52 hx hlk rfl hret rfl (hb hby d_jdk_67m_42_8) (by decide) (by decide) (⟨x, u, ku, rfl, Fr.app N0 N1, Ext.kp C51 K1 (allS ge_x_h0 all0), ge_x_h0, Nat.le_trans C51.1 gu, LS⟩)

def IntOf (Z : State) (h : Heap) (i : Addr) (x : Int32) : Prop := Exa Z h i "java/lang/Integer" ∧ Fld Z h i "java/lang/Integer" "value" "I" (.int x)
theorem IntOf.ext {Z : State} {h h' : Heap} {i : Addr} {x : Int32} (F : IntOf Z h i x) (E : Ext h h') : IntOf Z h' i x := ⟨F.1.ext E, F.2.ext E⟩
theorem IntOf.keep {Z : State} {h h' : Heap} {i : Addr} {x : Int32} {ws : List Addr} (F : IntOf Z h i x) (K : Keep h h' ws) (q : i ∉ ws) : IntOf Z h' i x := ⟨F.1.keep K, F.2.keep K q⟩
/-- the Integer cache, as the sets say -/
def IcOf (Z : State) (h : Heap) (ca : Addr) (cl : Cell) : Prop := Sta Z h "java/lang/Integer$IntegerCache" "high" "I" (.int 127) ∧ Sta Z h "java/lang/Integer$IntegerCache" "cache" "[Ljava/lang/Integer;" (.ref ca) ∧ Arr Z h ca cl (.object "java/lang/Integer") ∧ cl.slots.size = 256 ∧ ∀ j : Nat, j < 256 → ∃ i, cl.slots[j]? = some (.ref i) ∧ IntOf Z h i (Int32.ofNat j - 128)
theorem IcOf.ext {Z : State} {h h' : Heap} {ca : Addr} {cl : Cell} (F : IcOf Z h ca cl) (E : Ext h h') : IcOf Z h' ca cl := ⟨F.1.ext E, F.2.1.ext E, F.2.2.1.ext E, F.2.2.2.1, fun j hj => by obtain ⟨i, a, b⟩ := F.2.2.2.2 j hj; exact ⟨i, a, b.ext E⟩⟩
theorem ic_ix {x : Int32} (h1 : ¬ x < (-128 : Int32)) (h2 : ¬ (127 : Int32) < x) : ∃ j : Nat, j < 256 ∧ x + 128 = Int32.ofNat j := by
  rw [Int32.lt_iff_toInt_lt] at h1 h2
  have e1 : (-128 : Int32).toInt = -128 := rfl
  have e2 : (127 : Int32).toInt = 127 := rfl
  have e3 : (128 : Int32).toInt = 128 := rfl
  refine ⟨(x.toInt + 128).toNat, by omega, Int32.toInt_inj.mp ?_⟩
  rw [Int32.toInt_add, e3, n_toInt (by omega), Int.bmod_eq_of_le (by omega) (by omega)]
  omega
theorem ic_back (x : Int32) : x + 128 - 128 = x := Int32.add_sub_cancel x 128
/-- the empty array of ArrayList -/
def DeOf (Z : State) (h : Heap) (D : Addr) (kD : ClassId) : Prop := Sta Z h "java/util/ArrayList" "DEFAULTCAPACITY_EMPTY_ELEMENTDATA" "[Ljava/lang/Object;" (.ref D) ∧ Arv Z h D kD (.object "java/lang/Object") 0 [] .null ∧ Exa Z h D "[Ljava/lang/Object;"
theorem DeOf.ext {Z : State} {h h' : Heap} {D : Addr} {kD : ClassId} (F : DeOf Z h D kD) (E : Ext h h') : DeOf Z h' D kD := ⟨F.1.ext E, F.2.1.ext E, F.2.2.ext E⟩
/-- an ArrayList with nothing in it -/
def AlE (Z : State) (h : Heap) (l D : Addr) : Prop := Exa Z h l "java/util/ArrayList" ∧ Fld Z h l "java/util/ArrayList" "elementData" "[Ljava/lang/Object;" (.ref D) ∧ Fld Z h l "java/util/ArrayList" "size" "I" (.int 0) ∧ ∃ mc, Fld Z h l "java/util/AbstractList" "modCount" "I" (.int mc)
theorem AlE.ext {Z : State} {h h' : Heap} {l D : Addr} (F : AlE Z h l D) (E : Ext h h') : AlE Z h' l D := by obtain ⟨a, b, c, mc, d⟩ := F; exact ⟨a.ext E, b.ext E, c.ext E, mc, d.ext E⟩
theorem AlE.keep {Z : State} {h h' : Heap} {l D : Addr} {ws : List Addr} (F : AlE Z h l D) (K : Keep h h' ws) (q : l ∉ ws) : AlE Z h' l D := by obtain ⟨a, b, c, mc, d⟩ := F; exact ⟨a.keep K, b.keep K q, c.keep K q, mc, d.keep K q⟩
/-- an array of objects, its elements vs, of n places -/
def OaOf (Z : State) (h : Heap) (a : Addr) (ka : ClassId) (n : Int32) (vs : List Value) : Prop := Arv Z h a ka (.object "java/lang/Object") n vs .null ∧ Exa Z h a "[Ljava/lang/Object;" ∧ Ovr Z ka "java/lang/Object"
theorem OaOf.ext {Z : State} {h h' : Heap} {a : Addr} {ka : ClassId} {n : Int32} {vs : List Value} (F : OaOf Z h a ka n vs) (E : Ext h h') : OaOf Z h' a ka n vs := ⟨F.1.ext E, F.2.1.ext E, F.2.2⟩
theorem OaOf.keep {Z : State} {h h' : Heap} {a : Addr} {ka : ClassId} {n : Int32} {vs : List Value} {ws : List Addr} (F : OaOf Z h a ka n vs) (K : Keep h h' ws) (q : a ∉ ws) : OaOf Z h' a ka n vs := ⟨F.1.keep K q, F.2.1.keep K, F.2.2⟩
def one10 (i : Addr) : List Value := [.ref i, .null, .null, .null, .null, .null, .null, .null, .null, .null]
/-- an ArrayList with one element -/
def Al1 (Z : State) (h : Heap) (l a : Addr) (ka : ClassId) (i : Addr) : Prop := Exa Z h l "java/util/ArrayList" ∧ Fld Z h l "java/util/ArrayList" "elementData" "[Ljava/lang/Object;" (.ref a) ∧ Fld Z h l "java/util/ArrayList" "size" "I" (.int 1) ∧ OaOf Z h a ka 10 (one10 i)
theorem Al1.ext {Z : State} {h h' : Heap} {l a : Addr} {ka : ClassId} {i : Addr} (F : Al1 Z h l a ka i) (E : Ext h h') : Al1 Z h' l a ka i := ⟨F.1.ext E, F.2.1.ext E, F.2.2.1.ext E, F.2.2.2.ext E⟩
theorem Al1.keep {Z : State} {h h' : Heap} {l a : Addr} {ka : ClassId} {i : Addr} {ws : List Addr} (F : Al1 Z h l a ka i) (K : Keep h h' ws) (q : l ∉ ws) (r : a ∉ ws) : Al1 Z h' l a ka i := ⟨F.1.keep K, F.2.1.keep K q, F.2.2.1.keep K q, F.2.2.2.keep K r⟩

theorem d_jdk_18m_1_0 : decode jdk_18_method_1_code 0 = .ok (.aload_n 0, 1) := by decide +kernel
theorem d_jdk_18m_1_1 : decode jdk_18_method_1_code 1 = .ok (.invokespecial 1, 3) := by decide +kernel
theorem d_jdk_18m_1_4 : decode jdk_18_method_1_code 4 = .ok (.return_, 1) := by decide +kernel
theorem pn_4 : plainName "java/lang/Number" = true := by first | (simp [plainName, overriddenIn]; done) | decide +kernel
set_option maxRecDepth 65536 in
set_option maxHeartbeats 40000000 in
theorem rmNum (l : Launch) (Z : State) (a0 : Array Value) (hw : ∀ d ∈ tables_1, d.before a0 Z = true) (b : Addr) (h0 : Heap) :
    Ct l (⟨"java/lang/Number", "<init>", "()V"⟩ : MethodName) jdk_18_method_1_code 1 none ({ frames := 1, cells := 0, slots := 0, locals := 12 } : Room) Z #[(.ref b)] h0 (fun v h L => v = none ∧ L = [] ∧ h = h0) := by
  refine ct_of (Q := fun v h L => v = none ∧ L = [] ∧ h = h0) (plainFor_of_name pn_4) ?_
  intro p e s m below meth c s₁ X0 hx hby hml hret hnm hlk hown hZ hs0 e0
  rw [show entryFrame m #[(.ref b)] 1 = mkF m 0 #[.val (.ref b)] [] from by first | (simp [entryFrame, mkF, argsToLocals, Value.category]; done) | rfl]
  refine w_aloadN X0.here hx (hb hby d_jdk_18m_1_0) rfl rfl (pc' := 1) rfl ?_
  refine w_initO X0 hx hZ hown (tw hw 386 rfl) (tw hw 19 rfl) (tw hw 20 rfl) e0 (by rw [hml]; rfl) (hb hby d_jdk_18m_1_1) (by decide) (W := 0) (Nat.le_of_ble_eq_true rfl) (by decide) (pc' := 4) rfl ?_
  intro T53 X53 e53
  exact endV X53 hx hlk hret (hb hby d_jdk_18m_1_4) (by decide) (by decide) (by rw [e53]; exact ⟨rfl, rfl, rfl⟩)
theorem d_jdk_33m_23_0 : decode jdk_33_method_23_code 0 = .ok (.aload_n 0, 1) := by decide +kernel
theorem pd_14 : parseMethodDescriptor "()V" = some ⟨[], none⟩ := by decide +kernel
theorem d_jdk_33m_23_1 : decode jdk_33_method_23_code 1 = .ok (.invokespecial 202, 3) := by decide +kernel
theorem d_jdk_33m_23_4 : decode jdk_33_method_23_code 4 = .ok (.aload_n 0, 1) := by decide +kernel
theorem d_jdk_33m_23_5 : decode jdk_33_method_23_code 5 = .ok (.iload_n 1, 1) := by decide +kernel
theorem d_jdk_33m_23_6 : decode jdk_33_method_23_code 6 = .ok (.putfield 205, 3) := by decide +kernel
theorem d_jdk_33m_23_9 : decode jdk_33_method_23_code 9 = .ok (.return_, 1) := by decide +kernel
theorem pn_5 : plainName "java/lang/Integer" = true := by first | (simp [plainName, overriddenIn]; done) | decide +kernel
set_option maxRecDepth 65536 in
set_option maxHeartbeats 40000000 in
theorem rmIntI (l : Launch) (Z : State) (a0 : Array Value) (hw : ∀ d ∈ tables_1, d.before a0 Z = true) (i : Addr) (x : Int32) (h0 : Heap) (n0 : Nat) (gi : n0 ≤ i) (EX : Exa Z h0 i "java/lang/Integer") (F : Fld Z h0 i "java/lang/Integer" "value" "I" (.int 0)) :
    Ct l yq32 jdk_33_method_23_code 2 none ({ frames := 2, cells := 0, slots := 0, locals := 24 } : Room) Z #[(.ref i), (.int x)] h0 (fun v h L => v = none ∧ Fr n0 L ∧ Keep h0 h [i] ∧ IntOf Z h i x) := by
  refine ct_of (Q := fun v h L => v = none ∧ Fr n0 L ∧ Keep h0 h [i] ∧ IntOf Z h i x) (plainFor_of_name pn_5) ?_
  intro p e s m below meth c s₁ X0 hx hby hml hret hnm hlk hown hZ hs0 e0
  have N0 := Fr.nil n0
  rw [show entryFrame m #[(.ref i), (.int x)] 2 = mkF m 0 #[.val (.ref i), .val (.int x)] [] from by first | (simp [entryFrame, mkF, argsToLocals, Value.category]; done) | rfl]
  refine w_aloadN X0.here hx (hb hby d_jdk_33m_23_0) rfl rfl (pc' := 1) rfl ?_
  refine w_special X0 hx hZ (y := (⟨"java/lang/Number", "<init>", "()V"⟩ : MethodName)) rfl hown (tw hw 380 rfl) (tw hw 381 rfl) (tw hw 385 rfl) (by decide) (backC (W := 0) (rmNum l Z a0 hw i h0) hZ (tw hw 385 rfl) (tw hw 384 rfl) (by decide) (by decide)) e0 (by rw [hml]; rfl) (argsL := []) (st := []) pd_14 rfl rfl rfl (Nat.le_of_ble_eq_true rfl) (hb hby d_jdk_33m_23_1) (by decide) (by decide) (pc' := 4) rfl ?_
  intro T54 v54 L54 X54 Q54
  obtain ⟨rfl, rfl, hh⟩ := Q54
  show Go _ _ _ _ T54 (mkF m 4 _ [])
  rw [List.append_nil] at X54
  refine w_aloadN X54.here hx (hb hby d_jdk_33m_23_4) rfl rfl (pc' := 5) rfl ?_
  refine w_iloadN X54.here hx (hb hby d_jdk_33m_23_5) rfl (pc' := 6) rfl ?_
  refine w_putF X54 hx hZ hown (tw hw 373 rfl) Via.refl hh F EX (Or.inr ⟨(tw hw 374 rfl), rfl, hnm⟩) (tw hw 376 rfl) (ty := .int) (by decide) rfl rfl (hb hby d_jdk_33m_23_6) (pc' := 9) rfl ?_
  intro T55 h55 X55 e55 W55
  have N1 := Fr.snoc X55 N0 gi
  exact endV X55 hx hlk hret (hb hby d_jdk_33m_23_9) (by decide) (by decide) (by rw [e55]; exact ⟨rfl, N1, Keep.of_wr W55, EX.wr W55, Fld.same W55 F⟩)
theorem d_jdk_33m_22_0 : decode jdk_33_method_22_code 0 = .ok (.iload_n 0, 1) := by decide +kernel
theorem d_jdk_33m_22_1 : decode jdk_33_method_22_code 1 = .ok (.bipush (-128), 2) := by decide +kernel
theorem d_jdk_33m_22_3 : decode jdk_33_method_22_code 3 = .ok (.if_icmp .lt 20, 3) := by decide +kernel
theorem d_jdk_33m_22_23 : decode jdk_33_method_22_code 23 = .ok (.new 1, 3) := by decide +kernel
theorem d_jdk_33m_22_26 : decode jdk_33_method_22_code 26 = .ok (.dup, 1) := by decide +kernel
theorem d_jdk_33m_22_27 : decode jdk_33_method_22_code 27 = .ok (.iload_n 0, 1) := by decide +kernel
theorem d_jdk_33m_22_28 : decode jdk_33_method_22_code 28 = .ok (.invokespecial 199, 3) := by decide +kernel
theorem d_jdk_33m_22_31 : decode jdk_33_method_22_code 31 = .ok (.areturn, 1) := by decide +kernel
theorem d_jdk_33m_22_6 : decode jdk_33_method_22_code 6 = .ok (.iload_n 0, 1) := by decide +kernel
theorem d_jdk_33m_22_7 : decode jdk_33_method_22_code 7 = .ok (.getstatic 191, 3) := by decide +kernel
theorem d_jdk_33m_22_10 : decode jdk_33_method_22_code 10 = .ok (.if_icmp .gt 13, 3) := by decide +kernel
theorem d_jdk_33m_22_13 : decode jdk_33_method_22_code 13 = .ok (.getstatic 195, 3) := by decide +kernel
theorem d_jdk_33m_22_16 : decode jdk_33_method_22_code 16 = .ok (.iload_n 0, 1) := by decide +kernel
theorem d_jdk_33m_22_17 : decode jdk_33_method_22_code 17 = .ok (.sipush 128, 3) := by decide +kernel
theorem d_jdk_33m_22_20 : decode jdk_33_method_22_code 20 = .ok (.iadd, 1) := by decide +kernel
theorem d_jdk_33m_22_21 : decode jdk_33_method_22_code 21 = .ok (.aaload, 1) := by decide +kernel
theorem d_jdk_33m_22_22 : decode jdk_33_method_22_code 22 = .ok (.areturn, 1) := by decide +kernel
set_option maxRecDepth 65536 in
set_option maxHeartbeats 40000000 in
theorem rmVal (l : Launch) (Z : State) (a0 : Array Value) (hw : ∀ d ∈ tables_1, d.before a0 Z = true) (x : Int32) (ca : Addr) (cl : Cell) (h0 : Heap) (n0 : Nat) (Z0 : n0 ≤ h0.size) (IC : IcOf Z h0 ca cl) :
    Ct l yq7 jdk_33_method_22_code 1 (some (.object "java/lang/Integer")) ({ frames := 3, cells := 1, slots := 1, locals := 38 } : Room) Z #[(.int x)] h0 (fun v h L => ∃ i, v = some (.ref i) ∧ Fr n0 L ∧ Ext h0 h ∧ IntOf Z h i x) := by
  refine ct_of (Q := fun v h L => ∃ i, v = some (.ref i) ∧ Fr n0 L ∧ Ext h0 h ∧ IntOf Z h i x) (plainFor_of_name pn_5) ?_
  intro p e s m below meth c s₁ X0 hx hby hml hret hnm hlk hown hZ hs0 e0
  have N0 := Fr.nil n0
  rw [show entryFrame m #[(.int x)] 1 = mkF m 0 #[.val (.int x)] [] from by first | (simp [entryFrame, mkF, argsToLocals, Value.category]; done) | rfl]
  refine w_iloadN X0.here hx (hb hby d_jdk_33m_22_0) rfl (pc' := 1) rfl ?_
  refine w_bipush X0.here hx (hb hby d_jdk_33m_22_1) (z := (-128)) rfl (pc' := 3) rfl ?_
  by_cases q1 : x < (-128 : Int32)
  · refine w_icmpYes X0.here hx (hb hby d_jdk_33m_22_3) (tlt (show x < (-128 : Int32) from q1)).1 (pc' := 23) (by decide) (by decide) ?_
    refine w_new X0 hx hZ hown (tw hw 375 rfl) (tw hw 376 rfl) (tw hw 2 rfl) e0 (hb hby d_jdk_33m_22_23) (by decide) (by decide) (pc' := 26) rfl ?_
    intro T56 h56 i gi X56 e56 E56 A56 D56 U56
    have ge_i_h0 : h0.size ≤ i := Nat.le_trans (Ext.rfl' : Ext h0 h0).1 (Nat.le_of_eq gi)
    have C57 : Ext h0 h56 := Ext.trs Ext.rfl' E56
    have gi : n0 ≤ i := Nat.le_trans Z0 ge_i_h0
    have F : Fld Z h56 i "java/lang/Integer" "value" "I" (.int (0 : Int32)) := D56 (Or.inr (tw hw 374 rfl)) (ty := .int) (by decide)
    refine w_dup X56.here hx (hb hby d_jdk_33m_22_26) rfl (pc' := 27) rfl ?_
    refine w_iloadN X56.here hx (hb hby d_jdk_33m_22_27) rfl (pc' := 28) rfl ?_
    refine w_special X56 hx hZ (y := yq32) rfl hown (tw hw 377 rfl) (tw hw 378 rfl) (tw hw 379 rfl) (by decide) (backC (W := 1) (rmIntI l Z a0 hw i x h56 n0 gi A56 F) hZ (tw hw 379 rfl) (tw hw 2 rfl) (by decide) (by decide)) e56 (by rw [hml]; rfl) (argsL := [(.int x)]) (st := [(.ref i)]) pd_1 rfl rfl rfl (Nat.le_of_ble_eq_true rfl) (hb hby d_jdk_33m_22_28) (by decide) (by decide) (pc' := 31) rfl ?_
    intro T58 v58 L58 X58 Q58
    obtain ⟨rfl, N1, K1, G⟩ := Q58
    show Go _ _ _ _ T58 (mkF m 31 _ [(.ref i)])
    exact endR X58 hx hlk rfl hret rfl (hb hby d_jdk_33m_22_31) (by decide) (by decide) (⟨i, rfl, Fr.app N0 N1, Ext.kp C57 K1 (allS ge_i_h0 all0), G⟩)
  · refine w_icmpNo X0.here hx (hb hby d_jdk_33m_22_3) (flt (show ¬ (x < (-128 : Int32)) from q1)).1 (pc' := 6) rfl ?_
    refine w_iloadN X0.here hx (hb hby d_jdk_33m_22_6) rfl (pc' := 7) rfl ?_
    refine w_getS X0 hx hZ hown (tw hw 4 rfl) Via.refl e0 IC.1 (hb hby d_jdk_33m_22_7) (pc' := 10) rfl ?_
    intro T59 X59 e59
    by_cases q2 : (127 : Int32) < x
    · refine w_icmpYes X59.here hx (hb hby d_jdk_33m_22_10) (tlt (show (127 : Int32) < x from q2)).2.2.1 (pc' := 23) (by decide) (by decide) ?_
      refine w_new X59 hx hZ hown (tw hw 375 rfl) (tw hw 376 rfl) (tw hw 2 rfl) e59 (hb hby d_jdk_33m_22_23) (by decide) (by decide) (pc' := 26) rfl ?_
      intro T60 h60 i gi X60 e60 E60 A60 D60 U60
      have ge_i_h0 : h0.size ≤ i := Nat.le_trans (Ext.rfl' : Ext h0 h0).1 (Nat.le_of_eq gi)
      have C61 : Ext h0 h60 := Ext.trs Ext.rfl' E60
      have gi : n0 ≤ i := Nat.le_trans Z0 ge_i_h0
      have F : Fld Z h60 i "java/lang/Integer" "value" "I" (.int (0 : Int32)) := D60 (Or.inr (tw hw 374 rfl)) (ty := .int) (by decide)
      refine w_dup X60.here hx (hb hby d_jdk_33m_22_26) rfl (pc' := 27) rfl ?_
      refine w_iloadN X60.here hx (hb hby d_jdk_33m_22_27) rfl (pc' := 28) rfl ?_
      refine w_special X60 hx hZ (y := yq32) rfl hown (tw hw 377 rfl) (tw hw 378 rfl) (tw hw 379 rfl) (by decide) (backC (W := 1) (rmIntI l Z a0 hw i x h60 n0 gi A60 F) hZ (tw hw 379 rfl) (tw hw 2 rfl) (by decide) (by decide)) e60 (by rw [hml]; rfl) (argsL := [(.int x)]) (st := [(.ref i)]) pd_1 rfl rfl rfl (Nat.le_of_ble_eq_true rfl) (hb hby d_jdk_33m_22_28) (by decide) (by decide) (pc' := 31) rfl ?_
      intro T62 v62 L62 X62 Q62
      obtain ⟨rfl, N1, K1, G⟩ := Q62
      show Go _ _ _ _ T62 (mkF m 31 _ [(.ref i)])
      exact endR X62 hx hlk rfl hret rfl (hb hby d_jdk_33m_22_31) (by decide) (by decide) (⟨i, rfl, Fr.app N0 N1, Ext.kp C61 K1 (allS ge_i_h0 all0), G⟩)
    · refine w_icmpNo X59.here hx (hb hby d_jdk_33m_22_10) (flt (show ¬ ((127 : Int32) < x) from q2)).2.2.1 (pc' := 13) rfl ?_
      refine w_getS X59 hx hZ hown (tw hw 6 rfl) Via.refl e59 IC.2.1 (hb hby d_jdk_33m_22_13) (pc' := 16) rfl ?_
      intro T63 X63 e63
      refine w_iloadN X63.here hx (hb hby d_jdk_33m_22_16) rfl (pc' := 17) rfl ?_
      refine w_sipush X63.here hx (hb hby d_jdk_33m_22_17) (z := 128) rfl (pc' := 20) rfl ?_
      refine w_iadd X63.here hx (hb hby d_jdk_33m_22_20) (pc' := 21) rfl ?_
      obtain ⟨j, hj, ej⟩ := ic_ix q1 q2
      obtain ⟨i, hs, G⟩ := IC.2.2.2.2 j hj
      rw [ej]
      show Go _ _ _ _ T63 (mkF m 21 _ [(.int (Int32.ofNat j)), (.ref ca)])
      refine w_aaloadA X63 hx hZ e63 IC.2.2.1 rfl (fun q => q.elim (n_nn (by omega)) (fun q => by rw [n_nat (by omega), IC.2.2.2.1] at q; omega)) (by rw [n_nat (by omega)]; exact hs) (hb hby d_jdk_33m_22_21) (pc' := 22) rfl ?_
      rw [← ej, ic_back] at G
      exact endR X63 hx hlk rfl hret rfl (hb hby d_jdk_33m_22_22) (by decide) (by decide) (by rw [e63]; exact ⟨i, rfl, N0, Ext.rfl', G⟩)
theorem d_jdk_33m_27_0 : decode jdk_33_method_27_code 0 = .ok (.aload_n 0, 1) := by decide +kernel
theorem d_jdk_33m_27_1 : decode jdk_33_method_27_code 1 = .ok (.getfield 205, 3) := by decide +kernel
theorem d_jdk_33m_27_4 : decode jdk_33_method_27_code 4 = .ok (.ireturn, 1) := by decide +kernel
set_option maxRecDepth 65536 in
set_option maxHeartbeats 40000000 in
theorem rmIntV (l : Launch) (Z : State) (a0 : Array Value) (hw : ∀ d ∈ tables_1, d.before a0 Z = true) (i : Addr) (x : Int32) (h0 : Heap) (G : IntOf Z h0 i x) :
    Ct l yq12 jdk_33_method_27_code 1 (some .int) ({ frames := 0, cells := 0, slots := 0, locals := 0 } : Room) Z #[(.ref i)] h0 (fun v h L => v = some (.int x) ∧ L = [] ∧ h = h0) := by
  refine ct_of (Q := fun v h L => v = some (.int x) ∧ L = [] ∧ h = h0) (plainFor_of_name pn_5) ?_
  intro p e s m below meth c s₁ X0 hx hby hml hret hnm hlk hown hZ hs0 e0
  rw [show entryFrame m #[(.ref i)] 1 = mkF m 0 #[.val (.ref i)] [] from by first | (simp [entryFrame, mkF, argsToLocals, Value.category]; done) | rfl]
  refine w_aloadN X0.here hx (hb hby d_jdk_33m_27_0) rfl rfl (pc' := 1) rfl ?_
  refine w_getF X0 hx hZ hown (tw hw 373 rfl) Via.refl e0 G.2 (hb hby d_jdk_33m_27_1) (pc' := 4) rfl ?_
  intro T64 X64 e64
  exact endI X64 hx hlk hret (hb hby d_jdk_33m_27_4) (by decide) (by decide) (by rw [e64]; exact ⟨rfl, rfl, rfl⟩)
theorem d_jdk_22m_1_0 : decode jdk_22_method_1_code 0 = .ok (.aload_n 0, 1) := by decide +kernel
theorem d_jdk_22m_1_1 : decode jdk_22_method_1_code 1 = .ok (.invokespecial 1, 3) := by decide +kernel
theorem d_jdk_22m_1_4 : decode jdk_22_method_1_code 4 = .ok (.return_, 1) := by decide +kernel
theorem pn_6 : plainName "java/util/AbstractCollection" = true := by first | (simp [plainName, overriddenIn]; done) | decide +kernel
set_option maxRecDepth 65536 in
set_option maxHeartbeats 40000000 in
theorem rmAC (l : Launch) (Z : State) (a0 : Array Value) (hw : ∀ d ∈ tables_1, d.before a0 Z = true) (b : Addr) (h0 : Heap) :
    Ct l (⟨"java/util/AbstractCollection", "<init>", "()V"⟩ : MethodName) jdk_22_method_1_code 1 none ({ frames := 1, cells := 0, slots := 0, locals := 12 } : Room) Z #[(.ref b)] h0 (fun v h L => v = none ∧ L = [] ∧ h = h0) := by
  refine ct_of (Q := fun v h L => v = none ∧ L = [] ∧ h = h0) (plainFor_of_name pn_6) ?_
  intro p e s m below meth c s₁ X0 hx hby hml hret hnm hlk hown hZ hs0 e0
  rw [show entryFrame m #[(.ref b)] 1 = mkF m 0 #[.val (.ref b)] [] from by first | (simp [entryFrame, mkF, argsToLocals, Value.category]; done) | rfl]
  refine w_aloadN X0.here hx (hb hby d_jdk_22m_1_0) rfl rfl (pc' := 1) rfl ?_
  refine w_initO X0 hx hZ hown (tw hw 55 rfl) (tw hw 19 rfl) (tw hw 20 rfl) e0 (by rw [hml]; rfl) (hb hby d_jdk_22m_1_1) (by decide) (W := 0) (Nat.le_of_ble_eq_true rfl) (by decide) (pc' := 4) rfl ?_
  intro T65 X65 e65
  exact endV X65 hx hlk hret (hb hby d_jdk_22m_1_4) (by decide) (by decide) (by rw [e65]; exact ⟨rfl, rfl, rfl⟩)
theorem d_jdk_39m_1_0 : decode jdk_39_method_1_code 0 = .ok (.aload_n 0, 1) := by decide +kernel
theorem d_jdk_39m_1_1 : decode jdk_39_method_1_code 1 = .ok (.invokespecial 1, 3) := by decide +kernel
theorem d_jdk_39m_1_4 : decode jdk_39_method_1_code 4 = .ok (.aload_n 0, 1) := by decide +kernel
theorem d_jdk_39m_1_5 : decode jdk_39_method_1_code 5 = .ok (.iconst 0, 1) := by decide +kernel
theorem d_jdk_39m_1_6 : decode jdk_39_method_1_code 6 = .ok (.putfield 7, 3) := by decide +kernel
theorem d_jdk_39m_1_9 : decode jdk_39_method_1_code 9 = .ok (.return_, 1) := by decide +kernel
theorem pn_7 : plainName "java/util/AbstractList" = true := by first | (simp [plainName, overriddenIn]; done) | decide +kernel
set_option maxRecDepth 65536 in
set_option maxHeartbeats 40000000 in
theorem rmABL (l : Launch) (Z : State) (a0 : Array Value) (hw : ∀ d ∈ tables_1, d.before a0 Z = true) (l1 : Addr) (h0 : Heap) (n0 : Nat) (gl : n0 ≤ l1) (EX : Exa Z h0 l1 "java/util/ArrayList") (F : Fld Z h0 l1 "java/util/AbstractList" "modCount" "I" (.int 0)) :
    Ct l (⟨"java/util/AbstractList", "<init>", "()V"⟩ : MethodName) jdk_39_method_1_code 1 none ({ frames := 2, cells := 0, slots := 0, locals := 24 } : Room) Z #[(.ref l1)] h0 (fun v h L => v = none ∧ Fr n0 L ∧ Wr h0 h l1 (Jvm.RoadKit.slotOf Z "java/util/AbstractList" "modCount" "I") (.int 0)) := by
  refine ct_of (Q := fun v h L => v = none ∧ Fr n0 L ∧ Wr h0 h l1 (Jvm.RoadKit.slotOf Z "java/util/AbstractList" "modCount" "I") (.int 0)) (plainFor_of_name pn_7) ?_
  intro p e s m below meth c s₁ X0 hx hby hml hret hnm hlk hown hZ hs0 e0
  have N0 := Fr.nil n0
  rw [show entryFrame m #[(.ref l1)] 1 = mkF m 0 #[.val (.ref l1)] [] from by first | (simp [entryFrame, mkF, argsToLocals, Value.category]; done) | rfl]
  refine w_aloadN X0.here hx (hb hby d_jdk_39m_1_0) rfl rfl (pc' := 1) rfl ?_
  refine w_special X0 hx hZ (y := (⟨"java/util/AbstractCollection", "<init>", "()V"⟩ : MethodName)) rfl hown (tw hw 49 rfl) (tw hw 50 rfl) (tw hw 54 rfl) (by decide) (backC (W := 0) (rmAC l Z a0 hw l1 h0) hZ (tw hw 54 rfl) (tw hw 53 rfl) (by decide) (by decide)) e0 (by rw [hml]; rfl) (argsL := []) (st := []) pd_14 rfl rfl rfl (Nat.le_of_ble_eq_true rfl) (hb hby d_jdk_39m_1_1) (by decide) (by decide) (pc' := 4) rfl ?_
  intro T66 v66 L66 X66 Q66
  obtain ⟨rfl, rfl, hh⟩ := Q66
  show Go _ _ _ _ T66 (mkF m 4 _ [])
  rw [List.append_nil] at X66
  refine w_aloadN X66.here hx (hb hby d_jdk_39m_1_4) rfl rfl (pc' := 5) rfl ?_
  refine w_iconst X66.here hx (hb hby d_jdk_39m_1_5) (z := 0) rfl (pc' := 6) rfl ?_
  refine w_putF X66 hx hZ hown (tw hw 56 rfl) Via.refl hh F EX (Or.inl (tw hw 57 rfl)) (tw hw 38 rfl) (ty := .int) (by decide) rfl rfl (hb hby d_jdk_39m_1_6) (pc' := 9) rfl ?_
  intro T67 h67 X67 e67 W67
  have N1 := Fr.snoc X67 N0 gl
  exact endV X67 hx hlk hret (hb hby d_jdk_39m_1_9) (by decide) (by decide) (by rw [e67]; exact ⟨rfl, N1, W67⟩)
theorem d_jdk_38m_2_0 : decode jdk_38_method_2_code 0 = .ok (.aload_n 0, 1) := by decide +kernel
theorem d_jdk_38m_2_1 : decode jdk_38_method_2_code 1 = .ok (.invokespecial 1, 3) := by decide +kernel
theorem d_jdk_38m_2_4 : decode jdk_38_method_2_code 4 = .ok (.aload_n 0, 1) := by decide +kernel
theorem d_jdk_38m_2_5 : decode jdk_38_method_2_code 5 = .ok (.getstatic 39, 3) := by decide +kernel
theorem d_jdk_38m_2_8 : decode jdk_38_method_2_code 8 = .ok (.putfield 9, 3) := by decide +kernel
theorem d_jdk_38m_2_11 : decode jdk_38_method_2_code 11 = .ok (.return_, 1) := by decide +kernel
theorem pn_8 : plainName "java/util/ArrayList" = true := by first | (simp [plainName, overriddenIn]; done) | decide +kernel
set_option maxRecDepth 65536 in
set_option maxHeartbeats 40000000 in
theorem rmAL (l : Launch) (Z : State) (a0 : Array Value) (hw : ∀ d ∈ tables_1, d.before a0 Z = true) (l1 D : Addr) (kD : ClassId) (h0 : Heap) (n0 : Nat) (gl : n0 ≤ l1) (DE : DeOf Z h0 D kD) (EX : Exa Z h0 l1 "java/util/ArrayList") (FD : Fld Z h0 l1 "java/util/ArrayList" "elementData" "[Ljava/lang/Object;" .null) (FS : Fld Z h0 l1 "java/util/ArrayList" "size" "I" (.int 0)) (FM : Fld Z h0 l1 "java/util/AbstractList" "modCount" "I" (.int 0)) :
    Ct l yq2 jdk_38_method_2_code 1 none ({ frames := 3, cells := 0, slots := 0, locals := 36 } : Room) Z #[(.ref l1)] h0 (fun v h L => v = none ∧ Fr n0 L ∧ Keep h0 h [l1] ∧ AlE Z h l1 D) := by
  refine ct_of (Q := fun v h L => v = none ∧ Fr n0 L ∧ Keep h0 h [l1] ∧ AlE Z h l1 D) (plainFor_of_name pn_8) ?_
  intro p e s m below meth c s₁ X0 hx hby hml hret hnm hlk hown hZ hs0 e0
  have N0 := Fr.nil n0
  rw [show entryFrame m #[(.ref l1)] 1 = mkF m 0 #[.val (.ref l1)] [] from by first | (simp [entryFrame, mkF, argsToLocals, Value.category]; done) | rfl]
  refine w_aloadN X0.here hx (hb hby d_jdk_38m_2_0) rfl rfl (pc' := 1) rfl ?_
  refine w_special X0 hx hZ (y := (⟨"java/util/AbstractList", "<init>", "()V"⟩ : MethodName)) rfl hown (tw hw 43 rfl) (tw hw 44 rfl) (tw hw 48 rfl) (by decide) (backC (W := 0) (rmABL l Z a0 hw l1 h0 n0 gl EX FM) hZ (tw hw 48 rfl) (tw hw 47 rfl) (by decide) (by decide)) e0 (by rw [hml]; rfl) (argsL := []) (st := []) pd_14 rfl rfl rfl (Nat.le_of_ble_eq_true rfl) (hb hby d_jdk_38m_2_1) (by decide) (by decide) (pc' := 4) rfl ?_
  intro T68 v68 L68 X68 Q68
  obtain ⟨rfl, N1, W1⟩ := Q68
  show Go _ _ _ _ T68 (mkF m 4 _ [])
  have N2 := Fr.app N0 N1
  have EX1 := EX.wr W1
  have FD1 := FD.other W1 (Or.inr (slot_ne (Or.inl (tw hw 60 rfl)) (Or.inl (tw hw 57 rfl)) (by decide) (t := (.array (.object "java/lang/Object"))) (t' := .int) (by decide) (by decide)))
  have FS1 := FS.other W1 (Or.inr (slot_ne (Or.inl (tw hw 73 rfl)) (Or.inl (tw hw 57 rfl)) (by decide) (t := .int) (t' := .int) (by decide) (by decide)))
  have FM1 := Fld.same W1 FM
  refine w_aloadN X68.here hx (hb hby d_jdk_38m_2_4) rfl rfl (pc' := 5) rfl ?_
  refine w_getS X68 hx hZ hown (tw hw 58 rfl) Via.refl rfl (DE.1.wr W1) (hb hby d_jdk_38m_2_5) (pc' := 8) rfl ?_
  intro T69 X69 e69
  refine w_putF X69 hx hZ hown (tw hw 59 rfl) Via.refl e69 FD1 EX1 (Or.inl (tw hw 60 rfl)) (tw hw 38 rfl) (ty := (.array (.object "java/lang/Object"))) (by decide) rfl rfl (hb hby d_jdk_38m_2_8) (pc' := 11) rfl ?_
  intro T70 h70 X70 e70 W70
  have N3 := Fr.snoc X70 N2 gl
  exact endV X70 hx hlk hret (hb hby d_jdk_38m_2_11) (by decide) (by decide) (by rw [e70]; exact ⟨rfl, N3, (Keep.of_wr W1).wr W70 (Or.inl (List.mem_cons_self ..)), EX1.wr W70, Fld.same W70 FD1, FS1.other W70 (Or.inr (slot_ne (Or.inl (tw hw 73 rfl)) (Or.inl (tw hw 60 rfl)) (by decide) (t := .int) (t' := (.array (.object "java/lang/Object"))) (by decide) (by decide))), 0, FM1.other W70 (Or.inr (slot_ne (Or.inl (tw hw 57 rfl)) (Or.inl (tw hw 60 rfl)) (by decide) (t := .int) (t' := (.array (.object "java/lang/Object"))) (by decide) (by decide)))⟩)
theorem d_jdk_29m_65_0 : decode jdk_29_method_65_code 0 = .ok (.iload_n 0, 1) := by decide +kernel
theorem d_jdk_29m_65_1 : decode jdk_29_method_65_code 1 = .ok (.iload_n 1, 1) := by decide +kernel
theorem d_jdk_29m_65_2 : decode jdk_29_method_65_code 2 = .ok (.if_icmp .lt 7, 3) := by decide +kernel
theorem d_jdk_29m_65_5 : decode jdk_29_method_65_code 5 = .ok (.iload_n 0, 1) := by decide +kernel
theorem d_jdk_29m_65_6 : decode jdk_29_method_65_code 6 = .ok (.goto 4, 3) := by decide +kernel
theorem d_jdk_29m_65_10 : decode jdk_29_method_65_code 10 = .ok (.ireturn, 1) := by decide +kernel
set_option maxRecDepth 65536 in
set_option maxHeartbeats 40000000 in
theorem rmMax10 (l : Launch) (Z : State) (a0 : Array Value) (hw : ∀ d ∈ tables_1, d.before a0 Z = true) (h0 : Heap) :
    Ct l (⟨"java/lang/Math", "max", "(II)I"⟩ : MethodName) jdk_29_method_65_code 2 (some .int) ({ frames := 0, cells := 0, slots := 0, locals := 0 } : Room) Z #[(.int (10 : Int32)), (.int (1 : Int32))] h0 (fun v h L => v = some (.int 10) ∧ L = [] ∧ h = h0) := by
  refine ct_of (Q := fun v h L => v = some (.int 10) ∧ L = [] ∧ h = h0) (Jvm.Free.JP.mathPlain rfl (by decide +kernel)) ?_
  intro p e s m below meth c s₁ X0 hx hby hml hret hnm hlk hown hZ hs0 e0
  rw [show entryFrame m #[(.int (10 : Int32)), (.int (1 : Int32))] 2 = mkF m 0 #[.val (.int (10 : Int32)), .val (.int (1 : Int32))] [] from by first | (simp [entryFrame, mkF, argsToLocals, Value.category]; done) | rfl]
  refine w_iloadN X0.here hx (hb hby d_jdk_29m_65_0) rfl (pc' := 1) rfl ?_
  refine w_iloadN X0.here hx (hb hby d_jdk_29m_65_1) rfl (pc' := 2) rfl ?_
  refine w_icmpNo X0.here hx (hb hby d_jdk_29m_65_2) (flt (show ¬ ((10 : Int32) < (1 : Int32)) from by decide)).1 (pc' := 5) rfl ?_
  refine w_iloadN X0.here hx (hb hby d_jdk_29m_65_5) rfl (pc' := 6) rfl ?_
  refine w_goto X0.here hx (hb hby d_jdk_29m_65_6) (pc' := 10) (by decide) (by decide) ?_
  exact endI X0 hx hlk hret (hb hby d_jdk_29m_65_10) (by decide) (by decide) (by rw [e0]; exact ⟨rfl, rfl, rfl⟩)
theorem d_jdk_38m_6_0 : decode jdk_38_method_6_code 0 = .ok (.aload_n 0, 1) := by decide +kernel
theorem d_jdk_38m_6_1 : decode jdk_38_method_6_code 1 = .ok (.getfield 9, 3) := by decide +kernel
theorem d_jdk_38m_6_4 : decode jdk_38_method_6_code 4 = .ok (.arraylength, 1) := by decide +kernel
theorem d_jdk_38m_6_5 : decode jdk_38_method_6_code 5 = .ok (.istore_n 2, 1) := by decide +kernel
theorem d_jdk_38m_6_6 : decode jdk_38_method_6_code 6 = .ok (.iload_n 2, 1) := by decide +kernel
theorem d_jdk_38m_6_7 : decode jdk_38_method_6_code 7 = .ok (.ifCond .gt 13, 3) := by decide +kernel
theorem d_jdk_38m_6_10 : decode jdk_38_method_6_code 10 = .ok (.aload_n 0, 1) := by decide +kernel
theorem d_jdk_38m_6_11 : decode jdk_38_method_6_code 11 = .ok (.getfield 9, 3) := by decide +kernel
theorem d_jdk_38m_6_14 : decode jdk_38_method_6_code 14 = .ok (.getstatic 39, 3) := by decide +kernel
theorem d_jdk_38m_6_17 : decode jdk_38_method_6_code 17 = .ok (.if_acmp .eq 28, 3) := by decide +kernel
theorem d_jdk_38m_6_45 : decode jdk_38_method_6_code 45 = .ok (.aload_n 0, 1) := by decide +kernel
theorem d_jdk_38m_6_46 : decode jdk_38_method_6_code 46 = .ok (.bipush 10, 2) := by decide +kernel
theorem d_jdk_38m_6_48 : decode jdk_38_method_6_code 48 = .ok (.iload_n 1, 1) := by decide +kernel
theorem d_jdk_38m_6_49 : decode jdk_38_method_6_code 49 = .ok (.invokestatic 79, 3) := by decide +kernel
theorem d_jdk_38m_6_52 : decode jdk_38_method_6_code 52 = .ok (.anewarray 7, 3) := by decide +kernel
theorem d_jdk_38m_6_55 : decode jdk_38_method_6_code 55 = .ok (.dup_x1, 1) := by decide +kernel
theorem d_jdk_38m_6_56 : decode jdk_38_method_6_code 56 = .ok (.putfield 9, 3) := by decide +kernel
theorem d_jdk_38m_6_59 : decode jdk_38_method_6_code 59 = .ok (.areturn, 1) := by decide +kernel
set_option maxRecDepth 65536 in
set_option maxHeartbeats 40000000 in
theorem rmGrow1 (l : Launch) (Z : State) (a0 : Array Value) (hw : ∀ d ∈ tables_1, d.before a0 Z = true) (l1 D : Addr) (kD : ClassId) (mc : Int32) (h0 : Heap) (n0 : Nat) (Z0 : n0 ≤ h0.size) (gl : n0 ≤ l1) (DE : DeOf Z h0 D kD) (EX : Exa Z h0 l1 "java/util/ArrayList") (FD : Fld Z h0 l1 "java/util/ArrayList" "elementData" "[Ljava/lang/Object;" (.ref D)) (FS : Fld Z h0 l1 "java/util/ArrayList" "size" "I" (.int 0)) (FM : Fld Z h0 l1 "java/util/AbstractList" "modCount" "I" (.int mc)) :
    Ct l yq33 jdk_38_method_6_code 4 (some (.array (.object "java/lang/Object"))) ({ frames := 1, cells := 1, slots := 10, locals := 14 } : Room) Z #[(.ref l1), (.int (1 : Int32))] h0 (fun v h L => ∃ a ka, v = some (.ref a) ∧ Fr n0 L ∧ Keep h0 h [l1] ∧ h0.size ≤ a ∧ Exa Z h l1 "java/util/ArrayList" ∧ Fld Z h l1 "java/util/ArrayList" "elementData" "[Ljava/lang/Object;" (.ref a) ∧ Fld Z h l1 "java/util/ArrayList" "size" "I" (.int 0) ∧ Fld Z h l1 "java/util/AbstractList" "modCount" "I" (.int mc) ∧ OaOf Z h a ka 10 (List.replicate 10 .null)) := by
  refine ct_of (Q := fun v h L => ∃ a ka, v = some (.ref a) ∧ Fr n0 L ∧ Keep h0 h [l1] ∧ h0.size ≤ a ∧ Exa Z h l1 "java/util/ArrayList" ∧ Fld Z h l1 "java/util/ArrayList" "elementData" "[Ljava/lang/Object;" (.ref a) ∧ Fld Z h l1 "java/util/ArrayList" "size" "I" (.int 0) ∧ Fld Z h l1 "java/util/AbstractList" "modCount" "I" (.int mc) ∧ OaOf Z h a ka 10 (List.replicate 10 .null)) (plainFor_of_name pn_8) ?_
  intro p e s m below meth c s₁ X0 hx hby hml hret hnm hlk hown hZ hs0 e0
  have N0 := Fr.nil n0
  rw [show entryFrame m #[(.ref l1), (.int (1 : Int32))] 4 = mkF m 0 #[.val (.ref l1), .val (.int (1 : Int32)), .unset, .unset] [] from by first | (simp [entryFrame, mkF, argsToLocals, Value.category]; done) | rfl]
  refine w_aloadN X0.here hx (hb hby d_jdk_38m_6_0) rfl rfl (pc' := 1) rfl ?_
  refine w_getF X0 hx hZ hown (tw hw 59 rfl) Via.refl e0 FD (hb hby d_jdk_38m_6_1) (pc' := 4) rfl ?_
  intro T71 X71 e71
  refine w_arraylength X71 hx hZ e71 DE.2.1 (hb hby d_jdk_38m_6_4) (pc' := 5) rfl ?_
  refine w_istoreN X71.here hx (hb hby d_jdk_38m_6_5) (l' := #[.val (.ref l1), .val (.int (1 : Int32)), .val (.int (0 : Int32)), .unset]) rfl (pc' := 6) rfl ?_
  refine w_iloadN X71.here hx (hb hby d_jdk_38m_6_6) rfl (pc' := 7) rfl ?_
  refine w_ifNo X71.here hx (hb hby d_jdk_38m_6_7) (flt (show ¬ ((0 : Int32) < (0 : Int32)) from by decide)).2.2.1 (pc' := 10) rfl ?_
  refine w_aloadN X71.here hx (hb hby d_jdk_38m_6_10) rfl rfl (pc' := 11) rfl ?_
  refine w_getF X71 hx hZ hown (tw hw 59 rfl) Via.refl e71 FD (hb hby d_jdk_38m_6_11) (pc' := 14) rfl ?_
  intro T72 X72 e72
  refine w_getS X72 hx hZ hown (tw hw 58 rfl) Via.refl e72 DE.1 (hb hby d_jdk_38m_6_14) (pc' := 17) rfl ?_
  intro T73 X73 e73
  refine w_acmpYes X73.here hx (hb hby d_jdk_38m_6_17) rfl rfl (Jvm.Free.XT.aa_eq_t (show ((.ref D) : Value) = (.ref D) from rfl)) (pc' := 45) (by decide) (by decide) ?_
  refine w_aloadN X73.here hx (hb hby d_jdk_38m_6_45) rfl rfl (pc' := 46) rfl ?_
  refine w_bipush X73.here hx (hb hby d_jdk_38m_6_46) (z := 10) rfl (pc' := 48) rfl ?_
  refine w_iloadN X73.here hx (hb hby d_jdk_38m_6_48) rfl (pc' := 49) rfl ?_
  refine w_static X73 hx hZ (y := (⟨"java/lang/Math", "max", "(II)I"⟩ : MethodName)) hown (tw hw 89 rfl) (tw hw 90 rfl) (tw hw 91 rfl) (tw hw 92 rfl) (by decide) (backC (W := 1) (rmMax10 l Z a0 hw h0) hZ (tw hw 92 rfl) (tw hw 91 rfl) (by decide) (by decide)) e73 (by rw [hml]; rfl) (argsL := [(.int (10 : Int32)), (.int (1 : Int32))]) (st := [(.ref l1)]) pd_8 rfl rfl rfl (Nat.le_of_ble_eq_true rfl) (hb hby d_jdk_38m_6_49) (by decide) (by decide) (pc' := 52) rfl ?_
  intro T74 v74 L74 X74 Q74
  obtain ⟨rfl, rfl, hh⟩ := Q74
  show Go _ _ _ _ T74 (mkF m 52 _ [(.int (10 : Int32)), (.ref l1)])
  rw [List.append_nil] at X74
  refine w_anewarray X74 hx hZ hown (tw hw 93 rfl) (tw hw 94 rfl) (ad := "[Ljava/lang/Object;") (by decide) hh (n := (10 : Int32)) (hb hby d_jdk_38m_6_52) (by decide) (cap := 10) (by decide) (by decide) (by decide) (by decide) (pc' := 55) rfl ?_
  intro T75 h75 a ka ga X75 e75 E75 V EX_a OV_a
  have ge_a_h0 : h0.size ≤ a := Nat.le_trans (Ext.rfl' : Ext h0 h0).1 (Nat.le_of_eq ga)
  have C76 : Ext h0 h75 := Ext.trs Ext.rfl' E75
  have ne : a ≠ l1 := Nat.ne_of_gt (Nat.lt_of_lt_of_le EX.lt ge_a_h0)
  refine w_dupx1 X75.here hx (hb hby d_jdk_38m_6_55) rfl rfl (pc' := 56) rfl ?_
  refine w_putF X75 hx hZ hown (tw hw 59 rfl) Via.refl e75 (FD.ext C76) (EX.ext C76) (Or.inl (tw hw 60 rfl)) (tw hw 38 rfl) (ty := (.array (.object "java/lang/Object"))) (by decide) rfl rfl (hb hby d_jdk_38m_6_56) (pc' := 59) rfl ?_
  intro T77 h77 X77 e77 W77
  have N1 := Fr.snoc X77 N0 gl
  exact endR X77 hx hlk rfl hret rfl (hb hby d_jdk_38m_6_59) (by decide) (by decide) (by rw [e77]; exact ⟨a, ka, rfl, N1, ((Keep.refl h0 [l1]).ext C76).wr W77 (Or.inl (List.mem_cons_self ..)), ge_a_h0, (EX.ext C76).wr W77, Fld.same W77 (FD.ext C76), (FS.ext C76).other W77 (Or.inr (slot_ne (Or.inl (tw hw 73 rfl)) (Or.inl (tw hw 60 rfl)) (by decide) (t := .int) (t' := (.array (.object "java/lang/Object"))) (by decide) (by decide))), (FM.ext C76).other W77 (Or.inr (slot_ne (Or.inl (tw hw 57 rfl)) (Or.inl (tw hw 60 rfl)) (by decide) (t := .int) (t' := (.array (.object "java/lang/Object"))) (by decide) (by decide))), V.other W77 ne, EX_a.wr W77, OV_a⟩)
theorem d_jdk_38m_7_0 : decode jdk_38_method_7_code 0 = .ok (.aload_n 0, 1) := by decide +kernel
theorem d_jdk_38m_7_1 : decode jdk_38_method_7_code 1 = .ok (.aload_n 0, 1) := by decide +kernel
theorem d_jdk_38m_7_2 : decode jdk_38_method_7_code 2 = .ok (.getfield 48, 3) := by decide +kernel
theorem d_jdk_38m_7_5 : decode jdk_38_method_7_code 5 = .ok (.iconst 1, 1) := by decide +kernel
theorem d_jdk_38m_7_6 : decode jdk_38_method_7_code 6 = .ok (.iadd, 1) := by decide +kernel
theorem pd_15 : parseMethodDescriptor "(I)[Ljava/lang/Object;" = some ⟨[.int], some (.array (.object "java/lang/Object"))⟩ := by decide +kernel
theorem d_jdk_38m_7_7 : decode jdk_38_method_7_code 7 = .ok (.invokevirtual 69, 3) := by decide +kernel
theorem d_jdk_38m_7_10 : decode jdk_38_method_7_code 10 = .ok (.areturn, 1) := by decide +kernel
set_option maxRecDepth 65536 in
set_option maxHeartbeats 40000000 in
theorem rmGrow0 (l : Launch) (Z : State) (a0 : Array Value) (hw : ∀ d ∈ tables_1, d.before a0 Z = true) (l1 D : Addr) (kD : ClassId) (mc : Int32) (h0 : Heap) (n0 : Nat) (Z0 : n0 ≤ h0.size) (gl : n0 ≤ l1) (DE : DeOf Z h0 D kD) (EX : Exa Z h0 l1 "java/util/ArrayList") (FD : Fld Z h0 l1 "java/util/ArrayList" "elementData" "[Ljava/lang/Object;" (.ref D)) (FS : Fld Z h0 l1 "java/util/ArrayList" "size" "I" (.int 0)) (FM : Fld Z h0 l1 "java/util/AbstractList" "modCount" "I" (.int mc)) :
    Ct l (⟨"java/util/ArrayList", "grow", "()[Ljava/lang/Object;"⟩ : MethodName) jdk_38_method_7_code 1 (some (.array (.object "java/lang/Object"))) ({ frames := 2, cells := 1, slots := 10, locals := 29 } : Room) Z #[(.ref l1)] h0 (fun v h L => ∃ a ka, v = some (.ref a) ∧ Fr n0 L ∧ Keep h0 h [l1] ∧ h0.size ≤ a ∧ Exa Z h l1 "java/util/ArrayList" ∧ Fld Z h l1 "java/util/ArrayList" "elementData" "[Ljava/lang/Object;" (.ref a) ∧ Fld Z h l1 "java/util/ArrayList" "size" "I" (.int 0) ∧ Fld Z h l1 "java/util/AbstractList" "modCount" "I" (.int mc) ∧ OaOf Z h a ka 10 (List.replicate 10 .null)) := by
  refine ct_of (Q := fun v h L => ∃ a ka, v = some (.ref a) ∧ Fr n0 L ∧ Keep h0 h [l1] ∧ h0.size ≤ a ∧ Exa Z h l1 "java/util/ArrayList" ∧ Fld Z h l1 "java/util/ArrayList" "elementData" "[Ljava/lang/Object;" (.ref a) ∧ Fld Z h l1 "java/util/ArrayList" "size" "I" (.int 0) ∧ Fld Z h l1 "java/util/AbstractList" "modCount" "I" (.int mc) ∧ OaOf Z h a ka 10 (List.replicate 10 .null)) (plainFor_of_name pn_8) ?_
  intro p e s m below meth c s₁ X0 hx hby hml hret hnm hlk hown hZ hs0 e0
  have N0 := Fr.nil n0
  rw [show entryFrame m #[(.ref l1)] 1 = mkF m 0 #[.val (.ref l1)] [] from by first | (simp [entryFrame, mkF, argsToLocals, Value.category]; done) | rfl]
  refine w_aloadN X0.here hx (hb hby d_jdk_38m_7_0) rfl rfl (pc' := 1) rfl ?_
  refine w_aloadN X0.here hx (hb hby d_jdk_38m_7_1) rfl rfl (pc' := 2) rfl ?_
  refine w_getF X0 hx hZ hown (tw hw 72 rfl) Via.refl e0 FS (hb hby d_jdk_38m_7_2) (pc' := 5) rfl ?_
  intro T78 X78 e78
  refine w_iconst X78.here hx (hb hby d_jdk_38m_7_5) (z := 1) rfl (pc' := 6) rfl ?_
  refine w_iadd X78.here hx (hb hby d_jdk_38m_7_6) (pc' := 7) rfl ?_
  show Go _ _ _ _ T78 (mkF m 7 _ [(.int (1 : Int32)), (.ref l1)])
  refine w_private X78 hx hZ (y := yq33) hown (tw hw 84 rfl) (tw hw 85 rfl) (tw hw 86 rfl) (tw hw 87 rfl) (tw hw 88 rfl) (by decide) (backC (W := 0) (rmGrow1 l Z a0 hw l1 D kD mc h0 n0 Z0 gl DE EX FD FS FM) hZ (tw hw 88 rfl) (tw hw 39 rfl) (by decide) (by decide)) e78 EX (by rw [hml]; rfl) (argsL := [(.int (1 : Int32))]) (st := []) pd_15 rfl rfl rfl (Nat.le_of_ble_eq_true rfl) (hb hby d_jdk_38m_7_7) (by decide) (by decide) (pc' := 10) rfl ?_
  intro T79 v79 L79 X79 Q79
  obtain ⟨a, ka, rfl, N1, G⟩ := Q79
  show Go _ _ _ _ T79 (mkF m 10 _ [(.ref a)])
  exact endR X79 hx hlk rfl hret rfl (hb hby d_jdk_38m_7_10) (by decide) (by decide) (⟨a, ka, rfl, Fr.app N0 N1, G⟩)
theorem d_jdk_38m_24_0 : decode jdk_38_method_24_code 0 = .ok (.iload_n 3, 1) := by decide +kernel
theorem d_jdk_38m_24_1 : decode jdk_38_method_24_code 1 = .ok (.aload_n 2, 1) := by decide +kernel
theorem d_jdk_38m_24_2 : decode jdk_38_method_24_code 2 = .ok (.arraylength, 1) := by decide +kernel
theorem d_jdk_38m_24_3 : decode jdk_38_method_24_code 3 = .ok (.if_icmp .ne 8, 3) := by decide +kernel
theorem d_jdk_38m_24_6 : decode jdk_38_method_24_code 6 = .ok (.aload_n 0, 1) := by decide +kernel
theorem pd_16 : parseMethodDescriptor "()[Ljava/lang/Object;" = some ⟨[], some (.array (.object "java/lang/Object"))⟩ := by decide +kernel
theorem d_jdk_38m_24_7 : decode jdk_38_method_24_code 7 = .ok (.invokevirtual 129, 3) := by decide +kernel
theorem d_jdk_38m_24_10 : decode jdk_38_method_24_code 10 = .ok (.astore_n 2, 1) := by decide +kernel
theorem d_jdk_38m_24_11 : decode jdk_38_method_24_code 11 = .ok (.aload_n 2, 1) := by decide +kernel
theorem d_jdk_38m_24_12 : decode jdk_38_method_24_code 12 = .ok (.iload_n 3, 1) := by decide +kernel
theorem d_jdk_38m_24_13 : decode jdk_38_method_24_code 13 = .ok (.aload_n 1, 1) := by decide +kernel
theorem d_jdk_38m_24_14 : decode jdk_38_method_24_code 14 = .ok (.aastore, 1) := by decide +kernel
theorem d_jdk_38m_24_15 : decode jdk_38_method_24_code 15 = .ok (.aload_n 0, 1) := by decide +kernel
theorem d_jdk_38m_24_16 : decode jdk_38_method_24_code 16 = .ok (.iload_n 3, 1) := by decide +kernel
theorem d_jdk_38m_24_17 : decode jdk_38_method_24_code 17 = .ok (.iconst 1, 1) := by decide +kernel
theorem d_jdk_38m_24_18 : decode jdk_38_method_24_code 18 = .ok (.iadd, 1) := by decide +kernel
theorem d_jdk_38m_24_19 : decode jdk_38_method_24_code 19 = .ok (.putfield 48, 3) := by decide +kernel
theorem d_jdk_38m_24_22 : decode jdk_38_method_24_code 22 = .ok (.return_, 1) := by decide +kernel
set_option maxRecDepth 65536 in
set_option maxHeartbeats 40000000 in
theorem rmAdd3 (l : Launch) (Z : State) (a0 : Array Value) (hw : ∀ d ∈ tables_1, d.before a0 Z = true) (l1 D : Addr) (kD : ClassId) (mc : Int32) (h0 : Heap) (n0 : Nat) (Z0 : n0 ≤ h0.size) (gl : n0 ≤ l1) (DE : DeOf Z h0 D kD) (EX : Exa Z h0 l1 "java/util/ArrayList") (FD : Fld Z h0 l1 "java/util/ArrayList" "elementData" "[Ljava/lang/Object;" (.ref D)) (FS : Fld Z h0 l1 "java/util/ArrayList" "size" "I" (.int 0)) (FM : Fld Z h0 l1 "java/util/AbstractList" "modCount" "I" (.int mc)) (i : Addr) (x : Int32) (G : IntOf Z h0 i x) (nil : i ≠ l1) :
    Ct l (⟨"java/util/ArrayList", "add", "(Ljava/lang/Object;[Ljava/lang/Object;I)V"⟩ : MethodName) jdk_38_method_24_code 4 none ({ frames := 3, cells := 1, slots := 10, locals := 41 } : Room) Z #[(.ref l1), (.ref i), (.ref D), (.int (0 : Int32))] h0 (fun v h L => v = none ∧ Fr n0 L ∧ Keep h0 h [l1] ∧ ∃ a ka, h0.size ≤ a ∧ Al1 Z h l1 a ka i) := by
  refine ct_of (Q := fun v h L => v = none ∧ Fr n0 L ∧ Keep h0 h [l1] ∧ ∃ a ka, h0.size ≤ a ∧ Al1 Z h l1 a ka i) (plainFor_of_name pn_8) ?_
  intro p e s m below meth c s₁ X0 hx hby hml hret hnm hlk hown hZ hs0 e0
  have N0 := Fr.nil n0
  rw [show entryFrame m #[(.ref l1), (.ref i), (.ref D), (.int (0 : Int32))] 4 = mkF m 0 #[.val (.ref l1), .val (.ref i), .val (.ref D), .val (.int (0 : Int32))] [] from by first | (simp [entryFrame, mkF, argsToLocals, Value.category]; done) | rfl]
  refine w_iloadN X0.here hx (hb hby d_jdk_38m_24_0) rfl (pc' := 1) rfl ?_
  refine w_aloadN X0.here hx (hb hby d_jdk_38m_24_1) rfl rfl (pc' := 2) rfl ?_
  refine w_arraylength X0 hx hZ e0 DE.2.1 (hb hby d_jdk_38m_24_2) (pc' := 3) rfl ?_
  refine w_icmpNo X0.here hx (hb hby d_jdk_38m_24_3) (teq (show (0 : Int32) = (0 : Int32) from rfl)).2 (pc' := 6) rfl ?_
  refine w_aloadN X0.here hx (hb hby d_jdk_38m_24_6) rfl rfl (pc' := 7) rfl ?_
  refine w_private X0 hx hZ (y := (⟨"java/util/ArrayList", "grow", "()[Ljava/lang/Object;"⟩ : MethodName)) hown (tw hw 79 rfl) (tw hw 80 rfl) (tw hw 81 rfl) (tw hw 82 rfl) (tw hw 83 rfl) (by decide) (backC (W := 0) (rmGrow0 l Z a0 hw l1 D kD mc h0 n0 Z0 gl DE EX FD FS FM) hZ (tw hw 83 rfl) (tw hw 39 rfl) (by decide) (by decide)) e0 EX (by rw [hml]; rfl) (argsL := []) (st := []) pd_16 rfl rfl rfl (Nat.le_of_ble_eq_true rfl) (hb hby d_jdk_38m_24_7) (by decide) (by decide) (pc' := 10) rfl ?_
  intro T80 v80 L80 X80 Q80
  obtain ⟨a, ka, rfl, N1, K1, ga, EX1, FD1, FS1, FM1, O1, EXa, OV⟩ := Q80
  show Go _ _ _ _ T80 (mkF m 10 _ [(.ref a)])
  have N2 := Fr.app N0 N1
  have ga0 : n0 ≤ a := Nat.le_trans Z0 ga
  have nla : l1 ≠ a := Nat.ne_of_lt (Nat.lt_of_lt_of_le EX.lt ga)
  have Gi := G.keep K1 (ninS nil nin0)
  refine w_astoreN X80.here hx (hb hby d_jdk_38m_24_10) rfl (l' := #[.val (.ref l1), .val (.ref i), .val (.ref a), .val (.int (0 : Int32))]) rfl (pc' := 11) rfl ?_
  refine w_aloadN X80.here hx (hb hby d_jdk_38m_24_11) rfl rfl (pc' := 12) rfl ?_
  refine w_iloadN X80.here hx (hb hby d_jdk_38m_24_12) rfl (pc' := 13) rfl ?_
  refine w_aloadN X80.here hx (hb hby d_jdk_38m_24_13) rfl rfl (pc' := 14) rfl ?_
  refine w_aastore X80 hx hZ rfl O1 OV (Ins.of_exa Gi.1 (tw hw 95 rfl)) ⟨by decide, by decide⟩ 0 rfl (Nat.le_of_ble_eq_true rfl) (hb hby d_jdk_38m_24_14) (pc' := 15) rfl ?_
  intro T81 h81 X81 e81 W81 O1
  have N81 := Fr.snoc X81 N2 ga0
  have EX2 := EX1.wr W81
  have FS2 := FS1.other W81 (Or.inl nla)
  have FD2 := FD1.other W81 (Or.inl nla)
  have EXa2 := EXa.wr W81
  refine w_aloadN X81.here hx (hb hby d_jdk_38m_24_15) rfl rfl (pc' := 16) rfl ?_
  refine w_iloadN X81.here hx (hb hby d_jdk_38m_24_16) rfl (pc' := 17) rfl ?_
  refine w_iconst X81.here hx (hb hby d_jdk_38m_24_17) (z := 1) rfl (pc' := 18) rfl ?_
  refine w_iadd X81.here hx (hb hby d_jdk_38m_24_18) (pc' := 19) rfl ?_
  show Go _ _ _ _ T81 (mkF m 19 _ [(.int (1 : Int32)), (.ref l1)])
  refine w_putF X81 hx hZ hown (tw hw 72 rfl) Via.refl e81 FS2 EX2 (Or.inl (tw hw 73 rfl)) (tw hw 38 rfl) (ty := .int) (by decide) rfl rfl (hb hby d_jdk_38m_24_19) (pc' := 22) rfl ?_
  intro T82 h82 X82 e82 W82
  have N3 := Fr.snoc X82 N81 gl
  exact endV X82 hx hlk hret (hb hby d_jdk_38m_24_22) (by decide) (by decide) (by rw [e82]; exact ⟨rfl, N3, (K1.wr W81 (Or.inr ga)).wr W82 (Or.inl (List.mem_cons_self ..)), a, ka, ga, EX2.wr W82, FD2.other W82 (Or.inr (slot_ne (Or.inl (tw hw 60 rfl)) (Or.inl (tw hw 73 rfl)) (by decide) (t := (.array (.object "java/lang/Object"))) (t' := .int) (by decide) (by decide))), Fld.same W82 FS2, O1.other W82 (Ne.symm nla), EXa2.wr W82, OV⟩)
theorem d_jdk_38m_25_0 : decode jdk_38_method_25_code 0 = .ok (.aload_n 0, 1) := by decide +kernel
theorem d_jdk_38m_25_1 : decode jdk_38_method_25_code 1 = .ok (.dup, 1) := by decide +kernel
theorem d_jdk_38m_25_2 : decode jdk_38_method_25_code 2 = .ok (.getfield 63, 3) := by decide +kernel
theorem d_jdk_38m_25_5 : decode jdk_38_method_25_code 5 = .ok (.iconst 1, 1) := by decide +kernel
theorem d_jdk_38m_25_6 : decode jdk_38_method_25_code 6 = .ok (.iadd, 1) := by decide +kernel
theorem d_jdk_38m_25_7 : decode jdk_38_method_25_code 7 = .ok (.putfield 63, 3) := by decide +kernel
theorem d_jdk_38m_25_10 : decode jdk_38_method_25_code 10 = .ok (.aload_n 0, 1) := by decide +kernel
theorem d_jdk_38m_25_11 : decode jdk_38_method_25_code 11 = .ok (.aload_n 1, 1) := by decide +kernel
theorem d_jdk_38m_25_12 : decode jdk_38_method_25_code 12 = .ok (.aload_n 0, 1) := by decide +kernel
theorem d_jdk_38m_25_13 : decode jdk_38_method_25_code 13 = .ok (.getfield 9, 3) := by decide +kernel
theorem d_jdk_38m_25_16 : decode jdk_38_method_25_code 16 = .ok (.aload_n 0, 1) := by decide +kernel
theorem d_jdk_38m_25_17 : decode jdk_38_method_25_code 17 = .ok (.getfield 48, 3) := by decide +kernel
theorem pd_17 : parseMethodDescriptor "(Ljava/lang/Object;[Ljava/lang/Object;I)V" = some ⟨[(.object "java/lang/Object"), (.array (.object "java/lang/Object")), .int], none⟩ := by decide +kernel
theorem d_jdk_38m_25_20 : decode jdk_38_method_25_code 20 = .ok (.invokevirtual 131, 3) := by decide +kernel
theorem d_jdk_38m_25_23 : decode jdk_38_method_25_code 23 = .ok (.iconst 1, 1) := by decide +kernel
theorem d_jdk_38m_25_24 : decode jdk_38_method_25_code 24 = .ok (.ireturn, 1) := by decide +kernel
set_option maxRecDepth 65536 in
set_option maxHeartbeats 40000000 in
theorem rmAdd (l : Launch) (Z : State) (a0 : Array Value) (hw : ∀ d ∈ tables_1, d.before a0 Z = true) (l1 D : Addr) (kD : ClassId) (mc : Int32) (h0 : Heap) (n0 : Nat) (Z0 : n0 ≤ h0.size) (gl : n0 ≤ l1) (DE : DeOf Z h0 D kD) (EX : Exa Z h0 l1 "java/util/ArrayList") (FD : Fld Z h0 l1 "java/util/ArrayList" "elementData" "[Ljava/lang/Object;" (.ref D)) (FS : Fld Z h0 l1 "java/util/ArrayList" "size" "I" (.int 0)) (FM : Fld Z h0 l1 "java/util/AbstractList" "modCount" "I" (.int mc)) (i : Addr) (x : Int32) (G : IntOf Z h0 i x) (nil : i ≠ l1) :
    Ct l yq13 jdk_38_method_25_code 2 (some .boolean) ({ frames := 4, cells := 1, slots := 10, locals := 56 } : Room) Z #[(.ref l1), (.ref i)] h0 (fun v h L => v = some (.int 1) ∧ Fr n0 L ∧ Keep h0 h [l1] ∧ ∃ a ka, h0.size ≤ a ∧ Al1 Z h l1 a ka i) := by
  refine ct_of (Q := fun v h L => v = some (.int 1) ∧ Fr n0 L ∧ Keep h0 h [l1] ∧ ∃ a ka, h0.size ≤ a ∧ Al1 Z h l1 a ka i) (plainFor_of_name pn_8) ?_
  intro p e s m below meth c s₁ X0 hx hby hml hret hnm hlk hown hZ hs0 e0
  have N0 := Fr.nil n0
  rw [show entryFrame m #[(.ref l1), (.ref i)] 2 = mkF m 0 #[.val (.ref l1), .val (.ref i)] [] from by first | (simp [entryFrame, mkF, argsToLocals, Value.category]; done) | rfl]
  refine w_aloadN X0.here hx (hb hby d_jdk_38m_25_0) rfl rfl (pc' := 1) rfl ?_
  refine w_dup X0.here hx (hb hby d_jdk_38m_25_1) rfl (pc' := 2) rfl ?_
  refine w_getF X0 hx hZ hown (tw hw 70 rfl) (Via.of (tw hw 71 rfl)) e0 FM (hb hby d_jdk_38m_25_2) (pc' := 5) rfl ?_
  intro T83 X83 e83
  refine w_iconst X83.here hx (hb hby d_jdk_38m_25_5) (z := 1) rfl (pc' := 6) rfl ?_
  refine w_iadd X83.here hx (hb hby d_jdk_38m_25_6) (pc' := 7) rfl ?_
  refine w_putF X83 hx hZ hown (tw hw 70 rfl) (Via.of (tw hw 71 rfl)) e83 FM EX (Or.inl (tw hw 57 rfl)) (tw hw 38 rfl) (ty := .int) (by decide) rfl rfl (hb hby d_jdk_38m_25_7) (pc' := 10) rfl ?_
  intro T84 h84 X84 e84 W84
  have N1 := Fr.snoc X84 N0 gl
  have FD1 := FD.other W84 (Or.inr (slot_ne (Or.inl (tw hw 60 rfl)) (Or.inl (tw hw 57 rfl)) (by decide) (t := (.array (.object "java/lang/Object"))) (t' := .int) (by decide) (by decide)))
  have FS1 := FS.other W84 (Or.inr (slot_ne (Or.inl (tw hw 73 rfl)) (Or.inl (tw hw 57 rfl)) (by decide) (t := .int) (t' := .int) (by decide) (by decide)))
  have FM1 := Fld.same W84 FM
  have EX1 := EX.wr W84
  have nlD : D ≠ l1 := fun q => EX.neArv DE.2.1 (tw hw 38 rfl) q.symm
  have DE1 : DeOf Z h84 D kD := ⟨DE.1.wr W84, DE.2.1.other W84 nlD, DE.2.2.wr W84⟩
  have G1 : IntOf Z h84 i x := ⟨G.1.wr W84, G.2.other W84 (Or.inl nil)⟩
  have es : h84.size = h0.size := W84.size
  refine w_aloadN X84.here hx (hb hby d_jdk_38m_25_10) rfl rfl (pc' := 11) rfl ?_
  refine w_aloadN X84.here hx (hb hby d_jdk_38m_25_11) rfl rfl (pc' := 12) rfl ?_
  refine w_aloadN X84.here hx (hb hby d_jdk_38m_25_12) rfl rfl (pc' := 13) rfl ?_
  refine w_getF X84 hx hZ hown (tw hw 59 rfl) Via.refl e84 FD1 (hb hby d_jdk_38m_25_13) (pc' := 16) rfl ?_
  intro T85 X85 e85
  refine w_aloadN X85.here hx (hb hby d_jdk_38m_25_16) rfl rfl (pc' := 17) rfl ?_
  refine w_getF X85 hx hZ hown (tw hw 72 rfl) Via.refl e85 FS1 (hb hby d_jdk_38m_25_17) (pc' := 20) rfl ?_
  intro T86 X86 e86
  refine w_private X86 hx hZ (y := (⟨"java/util/ArrayList", "add", "(Ljava/lang/Object;[Ljava/lang/Object;I)V"⟩ : MethodName)) hown (tw hw 74 rfl) (tw hw 75 rfl) (tw hw 76 rfl) (tw hw 77 rfl) (tw hw 78 rfl) (by decide) (backC (W := 0) (rmAdd3 l Z a0 hw l1 D kD (mc + 1) h84 n0 (by rw [es]; exact Z0) gl DE1 EX1 FD1 FS1 FM1 i x G1 nil) hZ (tw hw 78 rfl) (tw hw 39 rfl) (by decide) (by decide)) e86 EX1 (by rw [hml]; rfl) (argsL := [(.ref i), (.ref D), (.int (0 : Int32))]) (st := []) pd_17 rfl rfl rfl (Nat.le_of_ble_eq_true rfl) (hb hby d_jdk_38m_25_20) (by decide) (by decide) (pc' := 23) rfl ?_
  intro T87 v87 L87 X87 Q87
  obtain ⟨rfl, N2, K2, a, ka, ga, GA⟩ := Q87
  show Go _ _ _ _ T87 (mkF m 23 _ [])
  refine w_iconst X87.here hx (hb hby d_jdk_38m_25_23) (z := 1) rfl (pc' := 24) rfl ?_
  exact endZ X87 hx hlk hret (by simp) (hb hby d_jdk_38m_25_24) (show nar .boolean (1 : Int32) = (1 : Int32) from rfl) (by decide) (by decide) (⟨rfl, Fr.app N1 N2, (Keep.of_wr W84).trans K2 (fun y hy => Or.inl hy), a, ka, by rw [← es]; exact ga, GA⟩)
theorem d_jdk_29m_69_5 : decode jdk_29_method_69_code 5 = .ok (.iload_n 0, 1) := by decide +kernel
theorem d_jdk_29m_69_6 : decode jdk_29_method_69_code 6 = .ok (.goto 4, 3) := by decide +kernel
set_option maxRecDepth 65536 in
set_option maxHeartbeats 40000000 in
theorem rmMin00 (l : Launch) (Z : State) (a0 : Array Value) (hw : ∀ d ∈ tables_1, d.before a0 Z = true) (h0 : Heap) :
    Ct l yq11 jdk_29_method_69_code 2 (some .int) ({ frames := 0, cells := 0, slots := 0, locals := 0 } : Room) Z #[(.int (0 : Int32)), (.int (0 : Int32))] h0 (fun v h L => v = some (.int 0) ∧ L = [] ∧ h = h0) := by
  refine ct_of (Q := fun v h L => v = some (.int 0) ∧ L = [] ∧ h = h0) (Jvm.Free.JP.mathPlain rfl (by decide +kernel)) ?_
  intro p e s m below meth c s₁ X0 hx hby hml hret hnm hlk hown hZ hs0 e0
  rw [show entryFrame m #[(.int (0 : Int32)), (.int (0 : Int32))] 2 = mkF m 0 #[.val (.int (0 : Int32)), .val (.int (0 : Int32))] [] from by first | (simp [entryFrame, mkF, argsToLocals, Value.category]; done) | rfl]
  refine w_iloadN X0.here hx (hb hby d_jdk_29m_69_0) rfl (pc' := 1) rfl ?_
  refine w_iloadN X0.here hx (hb hby d_jdk_29m_69_1) rfl (pc' := 2) rfl ?_
  refine w_icmpNo X0.here hx (hb hby d_jdk_29m_69_2) (flt (show ¬ ((0 : Int32) < (0 : Int32)) from by decide)).2.2.1 (pc' := 5) rfl ?_
  refine w_iloadN X0.here hx (hb hby d_jdk_29m_69_5) rfl (pc' := 6) rfl ?_
  refine w_goto X0.here hx (hb hby d_jdk_29m_69_6) (pc' := 10) (by decide) (by decide) ?_
  exact endI X0 hx hlk hret (hb hby d_jdk_29m_69_10) (by decide) (by decide) (by rw [e0]; exact ⟨rfl, rfl, rfl⟩)
theorem StoL.one {Z : State} {h : Heap} {a i : Addr} {k : ClassId} {n : Int32} {vs : List Value} {dv : Value} {C : String} (A : Arv Z h a k (.object C) n vs dv) (O : Ovr Z k C) (I : Ins Z h i C true) : StoL Z h a [.ref i] := by
  obtain ⟨cl, Ar, q1, -⟩ := A
  exact ⟨Sto.ofV Ar q1 O I, trivial⟩
theorem d_jdk_65m_120_0 : decode jdk_65_method_120_code 0 = .ok (.aload_n 2, 1) := by decide +kernel
theorem d_jdk_65m_120_1 : decode jdk_65_method_120_code 1 = .ok (.ldc 110, 2) := by decide +kernel
theorem d_jdk_65m_120_3 : decode jdk_65_method_120_code 3 = .ok (.if_acmp .ne 10, 3) := by decide +kernel
theorem d_jdk_65m_120_6 : decode jdk_65_method_120_code 6 = .ok (.iload_n 1, 1) := by decide +kernel
theorem d_jdk_65m_120_7 : decode jdk_65_method_120_code 7 = .ok (.anewarray 2, 3) := by decide +kernel
theorem d_jdk_65m_120_10 : decode jdk_65_method_120_code 10 = .ok (.goto 14, 3) := by decide +kernel
theorem d_jdk_65m_120_24 : decode jdk_65_method_120_code 24 = .ok (.astore_n 3, 1) := by decide +kernel
theorem d_jdk_65m_120_25 : decode jdk_65_method_120_code 25 = .ok (.aload_n 0, 1) := by decide +kernel
theorem d_jdk_65m_120_26 : decode jdk_65_method_120_code 26 = .ok (.iconst 0, 1) := by decide +kernel
theorem d_jdk_65m_120_27 : decode jdk_65_method_120_code 27 = .ok (.aload_n 3, 1) := by decide +kernel
theorem d_jdk_65m_120_28 : decode jdk_65_method_120_code 28 = .ok (.iconst 0, 1) := by decide +kernel
theorem d_jdk_65m_120_29 : decode jdk_65_method_120_code 29 = .ok (.aload_n 0, 1) := by decide +kernel
theorem d_jdk_65m_120_30 : decode jdk_65_method_120_code 30 = .ok (.arraylength, 1) := by decide +kernel
theorem d_jdk_65m_120_31 : decode jdk_65_method_120_code 31 = .ok (.iload_n 1, 1) := by decide +kernel
theorem d_jdk_65m_120_32 : decode jdk_65_method_120_code 32 = .ok (.invokestatic 304, 3) := by decide +kernel
theorem d_jdk_65m_120_35 : decode jdk_65_method_120_code 35 = .ok (.invokestatic 150, 3) := by decide +kernel
theorem d_jdk_65m_120_38 : decode jdk_65_method_120_code 38 = .ok (.aload_n 3, 1) := by decide +kernel
theorem d_jdk_65m_120_39 : decode jdk_65_method_120_code 39 = .ok (.areturn, 1) := by decide +kernel
set_option maxRecDepth 65536 in
set_option maxHeartbeats 40000000 in
theorem rmCp3_0 (l : Launch) (Z : State) (a0 : Array Value) (hw : ∀ d ∈ tables_1, d.before a0 Z = true) (s0 mr : Addr) (ks : ClassId) (h0 : Heap) (n0 : Nat) (Z0 : n0 ≤ h0.size) (M : MirO Z "[Ljava/lang/Object;" mr) (V : Arv Z h0 s0 ks (.object "java/lang/Object") 0 [] .null) :
    Ct l yq19 jdk_65_method_120_code 4 (some (.array (.object "java/lang/Object"))) ({ frames := 1, cells := 1, slots := 0, locals := 18 } : Room) Z #[(.ref s0), (.int (0 : Int32)), (.ref mr)] h0 (fun v h L => ∃ u ku, v = some (.ref u) ∧ Fr n0 L ∧ Ext h0 h ∧ h0.size ≤ u ∧ OaOf Z h u ku 0 []) := by
  refine ct_of (Q := fun v h L => ∃ u ku, v = some (.ref u) ∧ Fr n0 L ∧ Ext h0 h ∧ h0.size ≤ u ∧ OaOf Z h u ku 0 []) (plainFor_of_name pn_3) ?_
  intro p e s m below meth c s₁ X0 hx hby hml hret hnm hlk hown hZ hs0 e0
  have N0 := Fr.nil n0
  rw [show entryFrame m #[(.ref s0), (.int (0 : Int32)), (.ref mr)] 4 = mkF m 0 #[.val (.ref s0), .val (.int (0 : Int32)), .val (.ref mr), .unset] [] from by first | (simp [entryFrame, mkF, argsToLocals, Value.category]; done) | rfl]
  refine w_aloadN X0.here hx (hb hby d_jdk_65m_120_0) rfl rfl (pc' := 1) rfl ?_
  refine w_ldcM X0 hx hZ hown (tw hw 331 rfl) e0 M (hb hby d_jdk_65m_120_1) (pc' := 3) rfl ?_
  intro T88 X88 e88
  refine w_acmpNo X88.here hx (hb hby d_jdk_65m_120_3) rfl rfl (Jvm.Free.XT.aa_ne_f (show ((.ref mr) : Value) = (.ref mr) from rfl)) (pc' := 6) rfl ?_
  refine w_iloadN X88.here hx (hb hby d_jdk_65m_120_6) rfl (pc' := 7) rfl ?_
  refine w_anewarray X88 hx hZ hown (tw hw 332 rfl) (tw hw 94 rfl) (ad := "[Ljava/lang/Object;") (by decide) e88 (n := (0 : Int32)) (hb hby d_jdk_65m_120_7) (by decide) (cap := 0) (by decide) (by decide) (by decide) (by decide) (pc' := 10) rfl ?_
  intro T89 h89 u ku gu X89 e89 E89 U EX_u OV_u
  have ge_u_h0 : h0.size ≤ u := Nat.le_trans (Ext.rfl' : Ext h0 h0).1 (Nat.le_of_eq gu)
  have C90 : Ext h0 h89 := Ext.trs Ext.rfl' E89
  have gu : n0 ≤ u := Nat.le_trans Z0 ge_u_h0
  refine w_goto X89.here hx (hb hby d_jdk_65m_120_10) (pc' := 24) (by decide) (by decide) ?_
  refine w_astoreN X89.here hx (hb hby d_jdk_65m_120_24) rfl (l' := #[.val (.ref s0), .val (.int (0 : Int32)), .val (.ref mr), .val (.ref u)]) rfl (pc' := 25) rfl ?_
  refine w_aloadN X89.here hx (hb hby d_jdk_65m_120_25) rfl rfl (pc' := 26) rfl ?_
  refine w_iconst X89.here hx (hb hby d_jdk_65m_120_26) (z := 0) rfl (pc' := 27) rfl ?_
  refine w_aloadN X89.here hx (hb hby d_jdk_65m_120_27) rfl rfl (pc' := 28) rfl ?_
  refine w_iconst X89.here hx (hb hby d_jdk_65m_120_28) (z := 0) rfl (pc' := 29) rfl ?_
  refine w_aloadN X89.here hx (hb hby d_jdk_65m_120_29) rfl rfl (pc' := 30) rfl ?_
  refine w_arraylength X89 hx hZ e89 (V.ext C90) (hb hby d_jdk_65m_120_30) (pc' := 31) rfl ?_
  refine w_iloadN X89.here hx (hb hby d_jdk_65m_120_31) rfl (pc' := 32) rfl ?_
  refine w_static X89 hx hZ (y := yq11) hown (tw hw 223 rfl) (tw hw 224 rfl) (tw hw 91 rfl) (tw hw 225 rfl) (by decide) (backC (W := 4) (rmMin00 l Z a0 hw h89) hZ (tw hw 225 rfl) (tw hw 91 rfl) (by decide) (by decide)) e89 (by rw [hml]; rfl) (argsL := [(.int (0 : Int32)), (.int (0 : Int32))]) (st := [(.int (0 : Int32)), (.ref u), (.int (0 : Int32)), (.ref s0)]) pd_8 rfl rfl rfl (Nat.le_of_ble_eq_true rfl) (hb hby d_jdk_65m_120_32) (by decide) (by decide) (pc' := 35) rfl ?_
  intro T91 v91 L91 X91 Q91
  obtain ⟨rfl, rfl, hh⟩ := Q91
  show Go _ _ _ _ T91 (mkF m 35 _ [(.int (0 : Int32)), (.int (0 : Int32)), (.ref u), (.int (0 : Int32)), (.ref s0)])
  rw [List.append_nil] at X91
  refine w_cpA X91 hx hZ hown (tw hw 226 rfl) (tw hw 229 rfl) (tw hw 227 rfl) (tw hw 228 rfl) hh (n := 0) (d := 0) (us := []) (V.ext C90) U (Or.inr ⟨rfl, rfl, trivial⟩) (by decide) (by decide) rfl (Nat.le_of_ble_eq_true rfl) (by decide) (by omega) N0 gu (by rw [hml]; rfl) (hb hby d_jdk_65m_120_35) (by decide) (W := 0) (Nat.le_of_ble_eq_true rfl) (by decide) (pc' := 38) rfl ?_
  intro T92 h92 L92 X92 e92 N92 K92 V92
  refine w_aloadN X92.here hx (hb hby d_jdk_65m_120_38) rfl rfl (pc' := 39) rfl ?_
  exact endR X92 hx hlk rfl hret rfl (hb hby d_jdk_65m_120_39) (by decide) (by decide) (by rw [e92]; exact ⟨u, ku, rfl, N92, Ext.kp C90 K92 (allS ge_u_h0 all0), ge_u_h0, V92, EX_u.keep K92, OV_u⟩)
theorem d_jdk_65m_119_0 : decode jdk_65_method_119_code 0 = .ok (.aload_n 0, 1) := by decide +kernel
theorem d_jdk_65m_119_1 : decode jdk_65_method_119_code 1 = .ok (.iload_n 1, 1) := by decide +kernel
theorem d_jdk_65m_119_2 : decode jdk_65_method_119_code 2 = .ok (.aload_n 0, 1) := by decide +kernel
theorem d_jdk_65m_119_3 : decode jdk_65_method_119_code 3 = .ok (.invokevirtual 86, 3) := by decide +kernel
theorem pd_18 : parseMethodDescriptor "([Ljava/lang/Object;ILjava/lang/Class;)[Ljava/lang/Object;" = some ⟨[(.array (.object "java/lang/Object")), .int, (.object "java/lang/Class")], some (.array (.object "java/lang/Object"))⟩ := by decide +kernel
theorem d_jdk_65m_119_6 : decode jdk_65_method_119_code 6 = .ok (.invokestatic 300, 3) := by decide +kernel
theorem d_jdk_65m_119_9 : decode jdk_65_method_119_code 9 = .ok (.areturn, 1) := by decide +kernel
set_option maxRecDepth 65536 in
set_option maxHeartbeats 40000000 in
theorem rmCp2_0 (l : Launch) (Z : State) (a0 : Array Value) (hw : ∀ d ∈ tables_1, d.before a0 Z = true) (s0 mr : Addr) (ks : ClassId) (h0 : Heap) (n0 : Nat) (Z0 : n0 ≤ h0.size) (M : MirO Z "[Ljava/lang/Object;" mr) (V : Arv Z h0 s0 ks (.object "java/lang/Object") 0 [] .null) (EX : Exa Z h0 s0 "[Ljava/lang/Object;") :
    Ct l yq20 jdk_65_method_119_code 2 (some (.array (.object "java/lang/Object"))) ({ frames := 2, cells := 1, slots := 0, locals := 33 } : Room) Z #[(.ref s0), (.int (0 : Int32))] h0 (fun v h L => ∃ u ku, v = some (.ref u) ∧ Fr n0 L ∧ Ext h0 h ∧ h0.size ≤ u ∧ OaOf Z h u ku 0 []) := by
  refine ct_of (Q := fun v h L => ∃ u ku, v = some (.ref u) ∧ Fr n0 L ∧ Ext h0 h ∧ h0.size ≤ u ∧ OaOf Z h u ku 0 []) (plainFor_of_name pn_3) ?_
  intro p e s m below meth c s₁ X0 hx hby hml hret hnm hlk hown hZ hs0 e0
  have N0 := Fr.nil n0
  rw [show entryFrame m #[(.ref s0), (.int (0 : Int32))] 2 = mkF m 0 #[.val (.ref s0), .val (.int (0 : Int32))] [] from by first | (simp [entryFrame, mkF, argsToLocals, Value.category]; done) | rfl]
  refine w_aloadN X0.here hx (hb hby d_jdk_65m_119_0) rfl rfl (pc' := 1) rfl ?_
  refine w_iloadN X0.here hx (hb hby d_jdk_65m_119_1) rfl (pc' := 2) rfl ?_
  refine w_aloadN X0.here hx (hb hby d_jdk_65m_119_2) rfl rfl (pc' := 3) rfl ?_
  refine w_getClass X0 hx hZ hown (tw hw 322 rfl) (tw hw 323 rfl) (tw hw 325 rfl) (tw hw 324 rfl) (tw hw 326 rfl) e0 EX M (by rw [hml]; rfl) (hb hby d_jdk_65m_119_3) (by decide) (W := 2) (Nat.le_of_ble_eq_true rfl) (by decide) (pc' := 6) rfl ?_
  intro T93 X93 e93
  refine w_static X93 hx hZ (y := yq19) hown (tw hw 328 rfl) (tw hw 329 rfl) (tw hw 215 rfl) (tw hw 330 rfl) (by decide) (backC (W := 0) (rmCp3_0 l Z a0 hw s0 mr ks h0 n0 Z0 M V) hZ (tw hw 330 rfl) (tw hw 215 rfl) (by decide) (by decide)) e93 (by rw [hml]; rfl) (argsL := [(.ref s0), (.int (0 : Int32)), (.ref mr)]) (st := []) pd_18 rfl rfl rfl (Nat.le_of_ble_eq_true rfl) (hb hby d_jdk_65m_119_6) (by decide) (by decide) (pc' := 9) rfl ?_
  intro T94 v94 L94 X94 Q94
  obtain ⟨u, ku, rfl, N1, G1⟩ := Q94
  show Go _ _ _ _ T94 (mkF m 9 _ [(.ref u)])
  exact endR X94 hx hlk rfl hret rfl (hb hby d_jdk_65m_119_9) (by decide) (by decide) (⟨u, ku, rfl, Fr.app N0 N1, G1⟩)
theorem d_jdk_38m_16_0 : decode jdk_38_method_16_code 0 = .ok (.aload_n 0, 1) := by decide +kernel
theorem d_jdk_38m_16_1 : decode jdk_38_method_16_code 1 = .ok (.getfield 9, 3) := by decide +kernel
theorem d_jdk_38m_16_4 : decode jdk_38_method_16_code 4 = .ok (.aload_n 0, 1) := by decide +kernel
theorem d_jdk_38m_16_5 : decode jdk_38_method_16_code 5 = .ok (.getfield 48, 3) := by decide +kernel
theorem pd_19 : parseMethodDescriptor "([Ljava/lang/Object;I)[Ljava/lang/Object;" = some ⟨[(.array (.object "java/lang/Object")), .int], some (.array (.object "java/lang/Object"))⟩ := by decide +kernel
theorem d_jdk_38m_16_8 : decode jdk_38_method_16_code 8 = .ok (.invokestatic 66, 3) := by decide +kernel
theorem d_jdk_38m_16_11 : decode jdk_38_method_16_code 11 = .ok (.areturn, 1) := by decide +kernel
set_option maxRecDepth 65536 in
set_option maxHeartbeats 40000000 in
theorem rmToA0 (l : Launch) (Z : State) (a0 : Array Value) (hw : ∀ d ∈ tables_1, d.before a0 Z = true) (l1 D mr : Addr) (kD : ClassId) (h0 : Heap) (n0 : Nat) (Z0 : n0 ≤ h0.size) (M : MirO Z "[Ljava/lang/Object;" mr) (DE : DeOf Z h0 D kD) (GL : AlE Z h0 l1 D) :
    Ct l yq21 jdk_38_method_16_code 1 (some (.array (.object "java/lang/Object"))) ({ frames := 3, cells := 1, slots := 0, locals := 46 } : Room) Z #[(.ref l1)] h0 (fun v h L => ∃ u ku, v = some (.ref u) ∧ Fr n0 L ∧ Ext h0 h ∧ h0.size ≤ u ∧ OaOf Z h u ku 0 []) := by
  refine ct_of (Q := fun v h L => ∃ u ku, v = some (.ref u) ∧ Fr n0 L ∧ Ext h0 h ∧ h0.size ≤ u ∧ OaOf Z h u ku 0 []) (plainFor_of_name pn_8) ?_
  intro p e s m below meth c s₁ X0 hx hby hml hret hnm hlk hown hZ hs0 e0
  have N0 := Fr.nil n0
  rw [show entryFrame m #[(.ref l1)] 1 = mkF m 0 #[.val (.ref l1)] [] from by first | (simp [entryFrame, mkF, argsToLocals, Value.category]; done) | rfl]
  refine w_aloadN X0.here hx (hb hby d_jdk_38m_16_0) rfl rfl (pc' := 1) rfl ?_
  refine w_getF X0 hx hZ hown (tw hw 59 rfl) Via.refl e0 GL.2.1 (hb hby d_jdk_38m_16_1) (pc' := 4) rfl ?_
  intro T95 X95 e95
  refine w_aloadN X95.here hx (hb hby d_jdk_38m_16_4) rfl rfl (pc' := 5) rfl ?_
  refine w_getF X95 hx hZ hown (tw hw 72 rfl) Via.refl e95 GL.2.2.1 (hb hby d_jdk_38m_16_5) (pc' := 8) rfl ?_
  intro T96 X96 e96
  refine w_static X96 hx hZ (y := yq20) hown (tw hw 319 rfl) (tw hw 320 rfl) (tw hw 215 rfl) (tw hw 321 rfl) (by decide) (backC (W := 0) (rmCp2_0 l Z a0 hw D mr kD h0 n0 Z0 M DE.2.1 DE.2.2) hZ (tw hw 321 rfl) (tw hw 215 rfl) (by decide) (by decide)) e96 (by rw [hml]; rfl) (argsL := [(.ref D), (.int (0 : Int32))]) (st := []) pd_19 rfl rfl rfl (Nat.le_of_ble_eq_true rfl) (hb hby d_jdk_38m_16_8) (by decide) (by decide) (pc' := 11) rfl ?_
  intro T97 v97 L97 X97 Q97
  obtain ⟨u, ku, rfl, N1, G1⟩ := Q97
  show Go _ _ _ _ T97 (mkF m 11 _ [(.ref u)])
  exact endR X97 hx hlk rfl hret rfl (hb hby d_jdk_38m_16_11) (by decide) (by decide) (⟨u, ku, rfl, Fr.app N0 N1, G1⟩)
set_option maxRecDepth 65536 in
set_option maxHeartbeats 40000000 in
theorem rmCp3_1 (l : Launch) (Z : State) (a0 : Array Value) (hw : ∀ d ∈ tables_1, d.before a0 Z = true) (s0 mr : Addr) (ks : ClassId) (i : Addr) (x : Int32) (h0 : Heap) (n0 : Nat) (Z0 : n0 ≤ h0.size) (M : MirO Z "[Ljava/lang/Object;" mr) (V : Arv Z h0 s0 ks (.object "java/lang/Object") 10 (one10 i) .null) (G : IntOf Z h0 i x) :
    Ct l yq19 jdk_65_method_120_code 4 (some (.array (.object "java/lang/Object"))) ({ frames := 1, cells := 1, slots := 1, locals := 18 } : Room) Z #[(.ref s0), (.int (1 : Int32)), (.ref mr)] h0 (fun v h L => ∃ u ku, v = some (.ref u) ∧ Fr n0 L ∧ Ext h0 h ∧ h0.size ≤ u ∧ OaOf Z h u ku 1 [.ref i]) := by
  refine ct_of (Q := fun v h L => ∃ u ku, v = some (.ref u) ∧ Fr n0 L ∧ Ext h0 h ∧ h0.size ≤ u ∧ OaOf Z h u ku 1 [.ref i]) (plainFor_of_name pn_3) ?_
  intro p e s m below meth c s₁ X0 hx hby hml hret hnm hlk hown hZ hs0 e0
  have N0 := Fr.nil n0
  rw [show entryFrame m #[(.ref s0), (.int (1 : Int32)), (.ref mr)] 4 = mkF m 0 #[.val (.ref s0), .val (.int (1 : Int32)), .val (.ref mr), .unset] [] from by first | (simp [entryFrame, mkF, argsToLocals, Value.category]; done) | rfl]
  refine w_aloadN X0.here hx (hb hby d_jdk_65m_120_0) rfl rfl (pc' := 1) rfl ?_
  refine w_ldcM X0 hx hZ hown (tw hw 331 rfl) e0 M (hb hby d_jdk_65m_120_1) (pc' := 3) rfl ?_
  intro T98 X98 e98
  refine w_acmpNo X98.here hx (hb hby d_jdk_65m_120_3) rfl rfl (Jvm.Free.XT.aa_ne_f (show ((.ref mr) : Value) = (.ref mr) from rfl)) (pc' := 6) rfl ?_
  refine w_iloadN X98.here hx (hb hby d_jdk_65m_120_6) rfl (pc' := 7) rfl ?_
  refine w_anewarray X98 hx hZ hown (tw hw 332 rfl) (tw hw 94 rfl) (ad := "[Ljava/lang/Object;") (by decide) e98 (n := (1 : Int32)) (hb hby d_jdk_65m_120_7) (by decide) (cap := 1) (by decide) (by decide) (by decide) (by decide) (pc' := 10) rfl ?_
  intro T99 h99 u ku gu X99 e99 E99 U EX_u OV_u
  have ge_u_h0 : h0.size ≤ u := Nat.le_trans (Ext.rfl' : Ext h0 h0).1 (Nat.le_of_eq gu)
  have C100 : Ext h0 h99 := Ext.trs Ext.rfl' E99
  have gu : n0 ≤ u := Nat.le_trans Z0 ge_u_h0
  refine w_goto X99.here hx (hb hby d_jdk_65m_120_10) (pc' := 24) (by decide) (by decide) ?_
  refine w_astoreN X99.here hx (hb hby d_jdk_65m_120_24) rfl (l' := #[.val (.ref s0), .val (.int (1 : Int32)), .val (.ref mr), .val (.ref u)]) rfl (pc' := 25) rfl ?_
  refine w_aloadN X99.here hx (hb hby d_jdk_65m_120_25) rfl rfl (pc' := 26) rfl ?_
  refine w_iconst X99.here hx (hb hby d_jdk_65m_120_26) (z := 0) rfl (pc' := 27) rfl ?_
  refine w_aloadN X99.here hx (hb hby d_jdk_65m_120_27) rfl rfl (pc' := 28) rfl ?_
  refine w_iconst X99.here hx (hb hby d_jdk_65m_120_28) (z := 0) rfl (pc' := 29) rfl ?_
  refine w_aloadN X99.here hx (hb hby d_jdk_65m_120_29) rfl rfl (pc' := 30) rfl ?_
  refine w_arraylength X99 hx hZ e99 (V.ext C100) (hb hby d_jdk_65m_120_30) (pc' := 31) rfl ?_
  refine w_iloadN X99.here hx (hb hby d_jdk_65m_120_31) rfl (pc' := 32) rfl ?_
  refine w_static X99 hx hZ (y := yq11) hown (tw hw 223 rfl) (tw hw 224 rfl) (tw hw 91 rfl) (tw hw 225 rfl) (by decide) (backC (W := 4) (rmMinR l Z a0 hw 10 1 h99 (by decide)) hZ (tw hw 225 rfl) (tw hw 91 rfl) (by decide) (by decide)) e99 (by rw [hml]; rfl) (argsL := [(.int (10 : Int32)), (.int (1 : Int32))]) (st := [(.int (0 : Int32)), (.ref u), (.int (0 : Int32)), (.ref s0)]) pd_8 rfl rfl rfl (Nat.le_of_ble_eq_true rfl) (hb hby d_jdk_65m_120_32) (by decide) (by decide) (pc' := 35) rfl ?_
  intro T101 v101 L101 X101 Q101
  obtain ⟨rfl, rfl, hh⟩ := Q101
  show Go _ _ _ _ T101 (mkF m 35 _ [(.int (1 : Int32)), (.int (0 : Int32)), (.ref u), (.int (0 : Int32)), (.ref s0)])
  rw [List.append_nil] at X101
  refine w_cpA X101 hx hZ hown (tw hw 226 rfl) (tw hw 229 rfl) (tw hw 227 rfl) (tw hw 228 rfl) hh (n := 1) (d := 0) (us := [.ref i]) (V.ext C100) U (Or.inr ⟨rfl, rfl, StoL.one U OV_u (Ins.of_exa (G.ext C100).1 (tw hw 95 rfl))⟩) (by decide) (by decide) rfl (Nat.le_of_ble_eq_true rfl) (by decide) (by omega) N0 gu (by rw [hml]; rfl) (hb hby d_jdk_65m_120_35) (by decide) (W := 0) (Nat.le_of_ble_eq_true rfl) (by decide) (pc' := 38) rfl ?_
  intro T102 h102 L102 X102 e102 N102 K102 V102
  refine w_aloadN X102.here hx (hb hby d_jdk_65m_120_38) rfl rfl (pc' := 39) rfl ?_
  exact endR X102 hx hlk rfl hret rfl (hb hby d_jdk_65m_120_39) (by decide) (by decide) (by rw [e102]; exact ⟨u, ku, rfl, N102, Ext.kp C100 K102 (allS ge_u_h0 all0), ge_u_h0, V102, EX_u.keep K102, OV_u⟩)
set_option maxRecDepth 65536 in
set_option maxHeartbeats 40000000 in
theorem rmCp2_1 (l : Launch) (Z : State) (a0 : Array Value) (hw : ∀ d ∈ tables_1, d.before a0 Z = true) (s0 mr : Addr) (ks : ClassId) (i : Addr) (x : Int32) (h0 : Heap) (n0 : Nat) (Z0 : n0 ≤ h0.size) (M : MirO Z "[Ljava/lang/Object;" mr) (V : Arv Z h0 s0 ks (.object "java/lang/Object") 10 (one10 i) .null) (G : IntOf Z h0 i x) (EX : Exa Z h0 s0 "[Ljava/lang/Object;") :
    Ct l yq20 jdk_65_method_119_code 2 (some (.array (.object "java/lang/Object"))) ({ frames := 2, cells := 1, slots := 1, locals := 33 } : Room) Z #[(.ref s0), (.int (1 : Int32))] h0 (fun v h L => ∃ u ku, v = some (.ref u) ∧ Fr n0 L ∧ Ext h0 h ∧ h0.size ≤ u ∧ OaOf Z h u ku 1 [.ref i]) := by
  refine ct_of (Q := fun v h L => ∃ u ku, v = some (.ref u) ∧ Fr n0 L ∧ Ext h0 h ∧ h0.size ≤ u ∧ OaOf Z h u ku 1 [.ref i]) (plainFor_of_name pn_3) ?_
  intro p e s m below meth c s₁ X0 hx hby hml hret hnm hlk hown hZ hs0 e0
  have N0 := Fr.nil n0
  rw [show entryFrame m #[(.ref s0), (.int (1 : Int32))] 2 = mkF m 0 #[.val (.ref s0), .val (.int (1 : Int32))] [] from by first | (simp [entryFrame, mkF, argsToLocals, Value.category]; done) | rfl]
  refine w_aloadN X0.here hx (hb hby d_jdk_65m_119_0) rfl rfl (pc' := 1) rfl ?_
  refine w_iloadN X0.here hx (hb hby d_jdk_65m_119_1) rfl (pc' := 2) rfl ?_
  refine w_aloadN X0.here hx (hb hby d_jdk_65m_119_2) rfl rfl (pc' := 3) rfl ?_
  refine w_getClass X0 hx hZ hown (tw hw 322 rfl) (tw hw 323 rfl) (tw hw 325 rfl) (tw hw 324 rfl) (tw hw 326 rfl) e0 EX M (by rw [hml]; rfl) (hb hby d_jdk_65m_119_3) (by decide) (W := 2) (Nat.le_of_ble_eq_true rfl) (by decide) (pc' := 6) rfl ?_
  intro T103 X103 e103
  refine w_static X103 hx hZ (y := yq19) hown (tw hw 328 rfl) (tw hw 329 rfl) (tw hw 215 rfl) (tw hw 330 rfl) (by decide) (backC (W := 0) (rmCp3_1 l Z a0 hw s0 mr ks i x h0 n0 Z0 M V G) hZ (tw hw 330 rfl) (tw hw 215 rfl) (by decide) (by decide)) e103 (by rw [hml]; rfl) (argsL := [(.ref s0), (.int (1 : Int32)), (.ref mr)]) (st := []) pd_18 rfl rfl rfl (Nat.le_of_ble_eq_true rfl) (hb hby d_jdk_65m_119_6) (by decide) (by decide) (pc' := 9) rfl ?_
  intro T104 v104 L104 X104 Q104
  obtain ⟨u, ku, rfl, N1, G1⟩ := Q104
  show Go _ _ _ _ T104 (mkF m 9 _ [(.ref u)])
  exact endR X104 hx hlk rfl hret rfl (hb hby d_jdk_65m_119_9) (by decide) (by decide) (⟨u, ku, rfl, Fr.app N0 N1, G1⟩)
set_option maxRecDepth 65536 in
set_option maxHeartbeats 40000000 in
theorem rmToA1 (l : Launch) (Z : State) (a0 : Array Value) (hw : ∀ d ∈ tables_1, d.before a0 Z = true) (l1 a mr i : Addr) (ka : ClassId) (x : Int32) (h0 : Heap) (n0 : Nat) (Z0 : n0 ≤ h0.size) (M : MirO Z "[Ljava/lang/Object;" mr) (GL : Al1 Z h0 l1 a ka i) (G : IntOf Z h0 i x) :
    Ct l yq21 jdk_38_method_16_code 1 (some (.array (.object "java/lang/Object"))) ({ frames := 3, cells := 1, slots := 1, locals := 46 } : Room) Z #[(.ref l1)] h0 (fun v h L => ∃ u ku, v = some (.ref u) ∧ Fr n0 L ∧ Ext h0 h ∧ h0.size ≤ u ∧ OaOf Z h u ku 1 [.ref i]) := by
  refine ct_of (Q := fun v h L => ∃ u ku, v = some (.ref u) ∧ Fr n0 L ∧ Ext h0 h ∧ h0.size ≤ u ∧ OaOf Z h u ku 1 [.ref i]) (plainFor_of_name pn_8) ?_
  intro p e s m below meth c s₁ X0 hx hby hml hret hnm hlk hown hZ hs0 e0
  have N0 := Fr.nil n0
  rw [show entryFrame m #[(.ref l1)] 1 = mkF m 0 #[.val (.ref l1)] [] from by first | (simp [entryFrame, mkF, argsToLocals, Value.category]; done) | rfl]
  refine w_aloadN X0.here hx (hb hby d_jdk_38m_16_0) rfl rfl (pc' := 1) rfl ?_
  refine w_getF X0 hx hZ hown (tw hw 59 rfl) Via.refl e0 GL.2.1 (hb hby d_jdk_38m_16_1) (pc' := 4) rfl ?_
  intro T105 X105 e105
  refine w_aloadN X105.here hx (hb hby d_jdk_38m_16_4) rfl rfl (pc' := 5) rfl ?_
  refine w_getF X105 hx hZ hown (tw hw 72 rfl) Via.refl e105 GL.2.2.1 (hb hby d_jdk_38m_16_5) (pc' := 8) rfl ?_
  intro T106 X106 e106
  refine w_static X106 hx hZ (y := yq20) hown (tw hw 319 rfl) (tw hw 320 rfl) (tw hw 215 rfl) (tw hw 321 rfl) (by decide) (backC (W := 0) (rmCp2_1 l Z a0 hw a mr ka i x h0 n0 Z0 M GL.2.2.2.1 G GL.2.2.2.2.1) hZ (tw hw 321 rfl) (tw hw 215 rfl) (by decide) (by decide)) e106 (by rw [hml]; rfl) (argsL := [(.ref a), (.int (1 : Int32))]) (st := []) pd_19 rfl rfl rfl (Nat.le_of_ble_eq_true rfl) (hb hby d_jdk_38m_16_8) (by decide) (by decide) (pc' := 11) rfl ?_
  intro T107 v107 L107 X107 Q107
  obtain ⟨u, ku, rfl, N1, G1⟩ := Q107
  show Go _ _ _ _ T107 (mkF m 11 _ [(.ref u)])
  exact endR X107 hx hlk rfl hret rfl (hb hby d_jdk_38m_16_11) (by decide) (by decide) (⟨u, ku, rfl, Fr.app N0 N1, G1⟩)
theorem d_jdk_38m_41_0 : decode jdk_38_method_41_code 0 = .ok (.aload_n 1, 1) := by decide +kernel
theorem d_jdk_38m_41_1 : decode jdk_38_method_41_code 1 = .ok (.invokeinterface 42 1, 5) := by decide +kernel
theorem d_jdk_38m_41_6 : decode jdk_38_method_41_code 6 = .ok (.astore_n 2, 1) := by decide +kernel
theorem d_jdk_38m_41_7 : decode jdk_38_method_41_code 7 = .ok (.aload_n 0, 1) := by decide +kernel
theorem d_jdk_38m_41_8 : decode jdk_38_method_41_code 8 = .ok (.dup, 1) := by decide +kernel
theorem d_jdk_38m_41_9 : decode jdk_38_method_41_code 9 = .ok (.getfield 63, 3) := by decide +kernel
theorem d_jdk_38m_41_12 : decode jdk_38_method_41_code 12 = .ok (.iconst 1, 1) := by decide +kernel
theorem d_jdk_38m_41_13 : decode jdk_38_method_41_code 13 = .ok (.iadd, 1) := by decide +kernel
theorem d_jdk_38m_41_14 : decode jdk_38_method_41_code 14 = .ok (.putfield 63, 3) := by decide +kernel
theorem d_jdk_38m_41_17 : decode jdk_38_method_41_code 17 = .ok (.aload_n 2, 1) := by decide +kernel
theorem d_jdk_38m_41_18 : decode jdk_38_method_41_code 18 = .ok (.arraylength, 1) := by decide +kernel
theorem d_jdk_38m_41_19 : decode jdk_38_method_41_code 19 = .ok (.istore_n 3, 1) := by decide +kernel
theorem d_jdk_38m_41_20 : decode jdk_38_method_41_code 20 = .ok (.iload_n 3, 1) := by decide +kernel
theorem d_jdk_38m_41_21 : decode jdk_38_method_41_code 21 = .ok (.ifCond .ne 5, 3) := by decide +kernel
theorem d_jdk_38m_41_24 : decode jdk_38_method_41_code 24 = .ok (.iconst 0, 1) := by decide +kernel
theorem d_jdk_38m_41_25 : decode jdk_38_method_41_code 25 = .ok (.ireturn, 1) := by decide +kernel
set_option maxRecDepth 65536 in
set_option maxHeartbeats 40000000 in
theorem rmAll0 (l : Launch) (Z : State) (a0 : Array Value) (hw : ∀ d ∈ tables_1, d.before a0 Z = true) (l1 lc D mr : Addr) (kD : ClassId) (mc : Int32) (h0 : Heap) (n0 : Nat) (Z0 : n0 ≤ h0.size) (gl : n0 ≤ l1) (M : MirO Z "[Ljava/lang/Object;" mr) (DE : DeOf Z h0 D kD) (EX : Exa Z h0 l1 "java/util/ArrayList") (FD : Fld Z h0 l1 "java/util/ArrayList" "elementData" "[Ljava/lang/Object;" (.ref D)) (FS : Fld Z h0 l1 "java/util/ArrayList" "size" "I" (.int 0)) (FM : Fld Z h0 l1 "java/util/AbstractList" "modCount" "I" (.int mc)) (GL : AlE Z h0 lc D) :
    Ct l yq22 jdk_38_method_41_code 6 (some .boolean) ({ frames := 4, cells := 1, slots := 0, locals := 58 } : Room) Z #[(.ref l1), (.ref lc)] h0 (fun v h L => v = some (.int 0) ∧ Fr n0 L ∧ Keep h0 h [l1] ∧ AlE Z h l1 D) := by
  refine ct_of (Q := fun v h L => v = some (.int 0) ∧ Fr n0 L ∧ Keep h0 h [l1] ∧ AlE Z h l1 D) (plainFor_of_name pn_8) ?_
  intro p e s m below meth c s₁ X0 hx hby hml hret hnm hlk hown hZ hs0 e0
  have N0 := Fr.nil n0
  rw [show entryFrame m #[(.ref l1), (.ref lc)] 6 = mkF m 0 #[.val (.ref l1), .val (.ref lc), .unset, .unset, .unset, .unset] [] from by first | (simp [entryFrame, mkF, argsToLocals, Value.category]; done) | rfl]
  refine w_aloadN X0.here hx (hb hby d_jdk_38m_41_0) rfl rfl (pc' := 1) rfl ?_
  refine w_interface X0 hx hZ (y := (⟨"java/util/Collection", "toArray", "()[Ljava/lang/Object;"⟩ : MethodName)) (z := yq21) hown (tw hw 310 rfl) (tw hw 311 rfl) (mvT hZ (tw hw 312 rfl)) (tw hw 313 rfl) (tw hw 314 rfl) (tw hw 315 rfl) (tw hw 316 rfl) (tw hw 317 rfl) (by decide) (backC5 (W := 0) (rmToA0 l Z a0 hw lc D mr kD h0 n0 Z0 M DE GL) hZ (tw hw 318 rfl) (tw hw 39 rfl) (by decide) (by decide)) e0 GL.1 (by rw [hml]; rfl) (argsL := []) (st := []) pd_16 rfl rfl rfl (Nat.le_of_ble_eq_true rfl) (hb hby d_jdk_38m_41_1) (by decide) (by decide) (pc' := 6) rfl ?_
  intro T108 v108 L108 X108 Q108
  obtain ⟨u, ku, rfl, N1, E1, gu, OU⟩ := Q108
  show Go _ _ _ _ T108 (mkF m 6 _ [(.ref u)])
  have N2 := Fr.app N0 N1
  have EX1 := EX.ext E1
  have FD1 := FD.ext E1
  have FS1 := FS.ext E1
  have FM1 := FM.ext E1
  have DE1 := DE.ext E1
  have nul : u ≠ l1 := Nat.ne_of_gt (Nat.lt_of_lt_of_le EX.lt gu)
  refine w_astoreN X108.here hx (hb hby d_jdk_38m_41_6) rfl (l' := #[.val (.ref l1), .val (.ref lc), .val (.ref u), .unset, .unset, .unset]) rfl (pc' := 7) rfl ?_
  refine w_aloadN X108.here hx (hb hby d_jdk_38m_41_7) rfl rfl (pc' := 8) rfl ?_
  refine w_dup X108.here hx (hb hby d_jdk_38m_41_8) rfl (pc' := 9) rfl ?_
  refine w_getF X108 hx hZ hown (tw hw 70 rfl) (Via.of (tw hw 71 rfl)) rfl FM1 (hb hby d_jdk_38m_41_9) (pc' := 12) rfl ?_
  intro T109 X109 e109
  refine w_iconst X109.here hx (hb hby d_jdk_38m_41_12) (z := 1) rfl (pc' := 13) rfl ?_
  refine w_iadd X109.here hx (hb hby d_jdk_38m_41_13) (pc' := 14) rfl ?_
  refine w_putF X109 hx hZ hown (tw hw 70 rfl) (Via.of (tw hw 71 rfl)) e109 FM1 EX1 (Or.inl (tw hw 57 rfl)) (tw hw 38 rfl) (ty := .int) (by decide) rfl rfl (hb hby d_jdk_38m_41_14) (pc' := 17) rfl ?_
  intro T110 h110 X110 e110 W110
  have N3 := Fr.snoc X110 N2 gl
  have FD2 := FD1.other W110 (Or.inr (slot_ne (Or.inl (tw hw 60 rfl)) (Or.inl (tw hw 57 rfl)) (by decide) (t := (.array (.object "java/lang/Object"))) (t' := .int) (by decide) (by decide)))
  have FS2 := FS1.other W110 (Or.inr (slot_ne (Or.inl (tw hw 73 rfl)) (Or.inl (tw hw 57 rfl)) (by decide) (t := .int) (t' := .int) (by decide) (by decide)))
  have FM2 := Fld.same W110 FM1
  have EX2 := EX1.wr W110
  have OU2 := OU.1.other W110 nul
  have K2 := ((Keep.refl h0 [l1]).ext E1).wr W110 (Or.inl (List.mem_cons_self ..))
  refine w_aloadN X110.here hx (hb hby d_jdk_38m_41_17) rfl rfl (pc' := 18) rfl ?_
  refine w_arraylength X110 hx hZ e110 OU2 (hb hby d_jdk_38m_41_18) (pc' := 19) rfl ?_
  refine w_istoreN X110.here hx (hb hby d_jdk_38m_41_19) (l' := #[.val (.ref l1), .val (.ref lc), .val (.ref u), .val (.int (0 : Int32)), .unset, .unset]) rfl (pc' := 20) rfl ?_
  refine w_iloadN X110.here hx (hb hby d_jdk_38m_41_20) rfl (pc' := 21) rfl ?_
  refine w_ifNo X110.here hx (hb hby d_jdk_38m_41_21) (teq (show (0 : Int32) = (0 : Int32) from rfl)).2 (pc' := 24) rfl ?_
  refine w_iconst X110.here hx (hb hby d_jdk_38m_41_24) (z := 0) rfl (pc' := 25) rfl ?_
  exact endZ X110 hx hlk hret (by simp) (hb hby d_jdk_38m_41_25) (show nar .boolean (0 : Int32) = (0 : Int32) from rfl) (by decide) (by decide) (by rw [e110]; exact ⟨rfl, N3, K2, EX2, FD2, FS2, _, FM2⟩)
theorem d_jdk_38m_41_26 : decode jdk_38_method_41_code 26 = .ok (.iload_n 3, 1) := by decide +kernel
theorem d_jdk_38m_41_27 : decode jdk_38_method_41_code 27 = .ok (.aload_n 0, 1) := by decide +kernel
theorem d_jdk_38m_41_28 : decode jdk_38_method_41_code 28 = .ok (.getfield 9, 3) := by decide +kernel
theorem d_jdk_38m_41_31 : decode jdk_38_method_41_code 31 = .ok (.dup, 1) := by decide +kernel
theorem d_jdk_38m_41_32 : decode jdk_38_method_41_code 32 = .ok (.astore 4, 2) := by decide +kernel
theorem d_jdk_38m_41_34 : decode jdk_38_method_41_code 34 = .ok (.arraylength, 1) := by decide +kernel
theorem d_jdk_38m_41_35 : decode jdk_38_method_41_code 35 = .ok (.aload_n 0, 1) := by decide +kernel
theorem d_jdk_38m_41_36 : decode jdk_38_method_41_code 36 = .ok (.getfield 48, 3) := by decide +kernel
theorem d_jdk_38m_41_39 : decode jdk_38_method_41_code 39 = .ok (.dup, 1) := by decide +kernel
theorem d_jdk_38m_41_40 : decode jdk_38_method_41_code 40 = .ok (.istore 5, 2) := by decide +kernel
theorem d_jdk_38m_41_42 : decode jdk_38_method_41_code 42 = .ok (.isub, 1) := by decide +kernel
theorem d_jdk_38m_41_43 : decode jdk_38_method_41_code 43 = .ok (.if_icmp .le 13, 3) := by decide +kernel
theorem d_jdk_38m_41_46 : decode jdk_38_method_41_code 46 = .ok (.aload_n 0, 1) := by decide +kernel
theorem d_jdk_38m_41_47 : decode jdk_38_method_41_code 47 = .ok (.iload 5, 2) := by decide +kernel
theorem d_jdk_38m_41_49 : decode jdk_38_method_41_code 49 = .ok (.iload_n 3, 1) := by decide +kernel
theorem d_jdk_38m_41_50 : decode jdk_38_method_41_code 50 = .ok (.iadd, 1) := by decide +kernel
theorem d_jdk_38m_41_51 : decode jdk_38_method_41_code 51 = .ok (.invokevirtual 69, 3) := by decide +kernel
theorem d_jdk_38m_41_54 : decode jdk_38_method_41_code 54 = .ok (.astore 4, 2) := by decide +kernel
theorem d_jdk_38m_41_56 : decode jdk_38_method_41_code 56 = .ok (.aload_n 2, 1) := by decide +kernel
theorem d_jdk_38m_41_57 : decode jdk_38_method_41_code 57 = .ok (.iconst 0, 1) := by decide +kernel
theorem d_jdk_38m_41_58 : decode jdk_38_method_41_code 58 = .ok (.aload 4, 2) := by decide +kernel
theorem d_jdk_38m_41_60 : decode jdk_38_method_41_code 60 = .ok (.iload 5, 2) := by decide +kernel
theorem d_jdk_38m_41_62 : decode jdk_38_method_41_code 62 = .ok (.iload_n 3, 1) := by decide +kernel
theorem d_jdk_38m_41_63 : decode jdk_38_method_41_code 63 = .ok (.invokestatic 112, 3) := by decide +kernel
theorem d_jdk_38m_41_66 : decode jdk_38_method_41_code 66 = .ok (.aload_n 0, 1) := by decide +kernel
theorem d_jdk_38m_41_67 : decode jdk_38_method_41_code 67 = .ok (.iload 5, 2) := by decide +kernel
theorem d_jdk_38m_41_69 : decode jdk_38_method_41_code 69 = .ok (.iload_n 3, 1) := by decide +kernel
theorem d_jdk_38m_41_70 : decode jdk_38_method_41_code 70 = .ok (.iadd, 1) := by decide +kernel
theorem d_jdk_38m_41_71 : decode jdk_38_method_41_code 71 = .ok (.putfield 48, 3) := by decide +kernel
theorem d_jdk_38m_41_74 : decode jdk_38_method_41_code 74 = .ok (.iconst 1, 1) := by decide +kernel
theorem d_jdk_38m_41_75 : decode jdk_38_method_41_code 75 = .ok (.ireturn, 1) := by decide +kernel
set_option maxRecDepth 65536 in
set_option maxHeartbeats 40000000 in
theorem rmAll1 (l : Launch) (Z : State) (a0 : Array Value) (hw : ∀ d ∈ tables_1, d.before a0 Z = true) (l1 lc D mr : Addr) (kD : ClassId) (mc : Int32) (a i : Addr) (ka : ClassId) (x : Int32) (h0 : Heap) (n0 : Nat) (Z0 : n0 ≤ h0.size) (gl : n0 ≤ l1) (M : MirO Z "[Ljava/lang/Object;" mr) (DE : DeOf Z h0 D kD) (EX : Exa Z h0 l1 "java/util/ArrayList") (FD : Fld Z h0 l1 "java/util/ArrayList" "elementData" "[Ljava/lang/Object;" (.ref D)) (FS : Fld Z h0 l1 "java/util/ArrayList" "size" "I" (.int 0)) (FM : Fld Z h0 l1 "java/util/AbstractList" "modCount" "I" (.int mc)) (GL : Al1 Z h0 lc a ka i) (G : IntOf Z h0 i x) (nil : i ≠ l1) :
    Ct l yq22 jdk_38_method_41_code 6 (some .boolean) ({ frames := 4, cells := 2, slots := 11, locals := 58 } : Room) Z #[(.ref l1), (.ref lc)] h0 (fun v h L => v = some (.int 1) ∧ Fr n0 L ∧ Keep h0 h [l1] ∧ ∃ b kb, h0.size ≤ b ∧ Al1 Z h l1 b kb i) := by
  refine ct_of (Q := fun v h L => v = some (.int 1) ∧ Fr n0 L ∧ Keep h0 h [l1] ∧ ∃ b kb, h0.size ≤ b ∧ Al1 Z h l1 b kb i) (plainFor_of_name pn_8) ?_
  intro p e s m below meth c s₁ X0 hx hby hml hret hnm hlk hown hZ hs0 e0
  have N0 := Fr.nil n0
  rw [show entryFrame m #[(.ref l1), (.ref lc)] 6 = mkF m 0 #[.val (.ref l1), .val (.ref lc), .unset, .unset, .unset, .unset] [] from by first | (simp [entryFrame, mkF, argsToLocals, Value.category]; done) | rfl]
  refine w_aloadN X0.here hx (hb hby d_jdk_38m_41_0) rfl rfl (pc' := 1) rfl ?_
  refine w_interface X0 hx hZ (y := (⟨"java/util/Collection", "toArray", "()[Ljava/lang/Object;"⟩ : MethodName)) (z := yq21) hown (tw hw 310 rfl) (tw hw 311 rfl) (mvT hZ (tw hw 312 rfl)) (tw hw 313 rfl) (tw hw 314 rfl) (tw hw 315 rfl) (tw hw 316 rfl) (tw hw 317 rfl) (by decide) (backC5 (W := 0) (rmToA1 l Z a0 hw lc a mr i ka x h0 n0 Z0 M GL G) hZ (tw hw 318 rfl) (tw hw 39 rfl) (by decide) (by decide)) e0 GL.1 (by rw [hml]; rfl) (argsL := []) (st := []) pd_16 rfl rfl rfl (Nat.le_of_ble_eq_true rfl) (hb hby d_jdk_38m_41_1) (by decide) (by decide) (pc' := 6) rfl ?_
  intro T111 v111 L111 X111 Q111
  obtain ⟨u, ku, rfl, N1, E1, gu, OU⟩ := Q111
  show Go _ _ _ _ T111 (mkF m 6 _ [(.ref u)])
  have N2 := Fr.app N0 N1
  have EX1 := EX.ext E1
  have FD1 := FD.ext E1
  have FS1 := FS.ext E1
  have FM1 := FM.ext E1
  have DE1 := DE.ext E1
  have nul : u ≠ l1 := Nat.ne_of_gt (Nat.lt_of_lt_of_le EX.lt gu)
  refine w_astoreN X111.here hx (hb hby d_jdk_38m_41_6) rfl (l' := #[.val (.ref l1), .val (.ref lc), .val (.ref u), .unset, .unset, .unset]) rfl (pc' := 7) rfl ?_
  refine w_aloadN X111.here hx (hb hby d_jdk_38m_41_7) rfl rfl (pc' := 8) rfl ?_
  refine w_dup X111.here hx (hb hby d_jdk_38m_41_8) rfl (pc' := 9) rfl ?_
  refine w_getF X111 hx hZ hown (tw hw 70 rfl) (Via.of (tw hw 71 rfl)) rfl FM1 (hb hby d_jdk_38m_41_9) (pc' := 12) rfl ?_
  intro T112 X112 e112
  refine w_iconst X112.here hx (hb hby d_jdk_38m_41_12) (z := 1) rfl (pc' := 13) rfl ?_
  refine w_iadd X112.here hx (hb hby d_jdk_38m_41_13) (pc' := 14) rfl ?_
  refine w_putF X112 hx hZ hown (tw hw 70 rfl) (Via.of (tw hw 71 rfl)) e112 FM1 EX1 (Or.inl (tw hw 57 rfl)) (tw hw 38 rfl) (ty := .int) (by decide) rfl rfl (hb hby d_jdk_38m_41_14) (pc' := 17) rfl ?_
  intro T113 h113 X113 e113 W113
  have N3 := Fr.snoc X113 N2 gl
  have FD2 := FD1.other W113 (Or.inr (slot_ne (Or.inl (tw hw 60 rfl)) (Or.inl (tw hw 57 rfl)) (by decide) (t := (.array (.object "java/lang/Object"))) (t' := .int) (by decide) (by decide)))
  have FS2 := FS1.other W113 (Or.inr (slot_ne (Or.inl (tw hw 73 rfl)) (Or.inl (tw hw 57 rfl)) (by decide) (t := .int) (t' := .int) (by decide) (by decide)))
  have FM2 := Fld.same W113 FM1
  have EX2 := EX1.wr W113
  have OU2 := OU.1.other W113 nul
  have K2 := ((Keep.refl h0 [l1]).ext E1).wr W113 (Or.inl (List.mem_cons_self ..))
  refine w_aloadN X113.here hx (hb hby d_jdk_38m_41_17) rfl rfl (pc' := 18) rfl ?_
  refine w_arraylength X113 hx hZ e113 OU2 (hb hby d_jdk_38m_41_18) (pc' := 19) rfl ?_
  refine w_istoreN X113.here hx (hb hby d_jdk_38m_41_19) (l' := #[.val (.ref l1), .val (.ref lc), .val (.ref u), .val (.int (1 : Int32)), .unset, .unset]) rfl (pc' := 20) rfl ?_
  refine w_iloadN X113.here hx (hb hby d_jdk_38m_41_20) rfl (pc' := 21) rfl ?_
  refine w_ifYes X113.here hx (hb hby d_jdk_38m_41_21) (feq (show ¬ ((1 : Int32) = (0 : Int32)) from by decide)).2 (pc' := 26) (by decide) (by decide) ?_
  have nlD : D ≠ l1 := fun q => EX.neArv DE.2.1 (tw hw 38 rfl) q.symm
  have DE2 : DeOf Z h113 D kD := ⟨DE1.1.wr W113, DE1.2.1.other W113 nlD, DE1.2.2.wr W113⟩
  have es : h113.size = T111.heap.size := W113.size
  have Z2 : n0 ≤ h113.size := by rw [es]; exact Nat.le_trans Z0 E1.1
  have G2 : IntOf Z h113 i x := ⟨(G.ext E1).1.wr W113, (G.ext E1).2.other W113 (Or.inl nil)⟩
  refine w_iloadN X113.here hx (hb hby d_jdk_38m_41_26) rfl (pc' := 27) rfl ?_
  refine w_aloadN X113.here hx (hb hby d_jdk_38m_41_27) rfl rfl (pc' := 28) rfl ?_
  refine w_getF X113 hx hZ hown (tw hw 59 rfl) Via.refl e113 FD2 (hb hby d_jdk_38m_41_28) (pc' := 31) rfl ?_
  intro T114 X114 e114
  refine w_dup X114.here hx (hb hby d_jdk_38m_41_31) rfl (pc' := 32) rfl ?_
  refine w_astore X114.here hx (hb hby d_jdk_38m_41_32) rfl (l' := #[.val (.ref l1), .val (.ref lc), .val (.ref u), .val (.int (1 : Int32)), .val (.ref D), .unset]) rfl (pc' := 34) rfl ?_
  refine w_arraylength X114 hx hZ e114 DE2.2.1 (hb hby d_jdk_38m_41_34) (pc' := 35) rfl ?_
  refine w_aloadN X114.here hx (hb hby d_jdk_38m_41_35) rfl rfl (pc' := 36) rfl ?_
  refine w_getF X114 hx hZ hown (tw hw 72 rfl) Via.refl e114 FS2 (hb hby d_jdk_38m_41_36) (pc' := 39) rfl ?_
  intro T115 X115 e115
  refine w_dup X115.here hx (hb hby d_jdk_38m_41_39) rfl (pc' := 40) rfl ?_
  refine w_istore X115.here hx (hb hby d_jdk_38m_41_40) (l' := #[.val (.ref l1), .val (.ref lc), .val (.ref u), .val (.int (1 : Int32)), .val (.ref D), .val (.int (0 : Int32))]) rfl (pc' := 42) rfl ?_
  refine w_isub X115.here hx (hb hby d_jdk_38m_41_42) (pc' := 43) rfl ?_
  show Go _ _ _ _ T115 (mkF m 43 _ [(.int (0 : Int32)), (.int (1 : Int32))])
  refine w_icmpNo X115.here hx (hb hby d_jdk_38m_41_43) (tlt (show (0 : Int32) < (1 : Int32) from by decide)).2.2.2 (pc' := 46) rfl ?_
  refine w_aloadN X115.here hx (hb hby d_jdk_38m_41_46) rfl rfl (pc' := 47) rfl ?_
  refine w_iload X115.here hx (hb hby d_jdk_38m_41_47) rfl (pc' := 49) rfl ?_
  refine w_iloadN X115.here hx (hb hby d_jdk_38m_41_49) rfl (pc' := 50) rfl ?_
  refine w_iadd X115.here hx (hb hby d_jdk_38m_41_50) (pc' := 51) rfl ?_
  show Go _ _ _ _ T115 (mkF m 51 _ [(.int (1 : Int32)), (.ref l1)])
  refine w_private X115 hx hZ (y := yq33) hown (tw hw 84 rfl) (tw hw 85 rfl) (tw hw 86 rfl) (tw hw 87 rfl) (tw hw 88 rfl) (by decide) (backC (W := 0) (rmGrow1 l Z a0 hw l1 D kD (mc + 1) h113 n0 Z2 gl DE2 EX2 FD2 FS2 FM2) hZ (tw hw 88 rfl) (tw hw 39 rfl) (by decide) (by decide)) e115 EX2 (by rw [hml]; rfl) (argsL := [(.int (1 : Int32))]) (st := []) pd_15 rfl rfl rfl (Nat.le_of_ble_eq_true rfl) (hb hby d_jdk_38m_41_51) (by decide) (by decide) (pc' := 54) rfl ?_
  intro T116 v116 L116 X116 Q116
  obtain ⟨b, kb, rfl, N4, K4, gb, EX4, FD4, FS4, FM4, OB, EXb, OV⟩ := Q116
  show Go _ _ _ _ T116 (mkF m 54 _ [(.ref b)])
  have N5 := Fr.app N3 N4
  have gb0 : n0 ≤ b := Nat.le_trans Z2 gb
  have OU4 := OU2.keep K4 (ninS nul nin0)
  have G4 := G2.keep K4 (ninS nil nin0)
  have nlb : l1 ≠ b := Nat.ne_of_lt (Nat.lt_of_lt_of_le EX2.lt gb)
  refine w_astore X116.here hx (hb hby d_jdk_38m_41_54) rfl (l' := #[.val (.ref l1), .val (.ref lc), .val (.ref u), .val (.int (1 : Int32)), .val (.ref b), .val (.int (0 : Int32))]) rfl (pc' := 56) rfl ?_
  refine w_aloadN X116.here hx (hb hby d_jdk_38m_41_56) rfl rfl (pc' := 57) rfl ?_
  refine w_iconst X116.here hx (hb hby d_jdk_38m_41_57) (z := 0) rfl (pc' := 58) rfl ?_
  refine w_aload X116.here hx (hb hby d_jdk_38m_41_58) rfl rfl (pc' := 60) rfl ?_
  refine w_iload X116.here hx (hb hby d_jdk_38m_41_60) rfl (pc' := 62) rfl ?_
  refine w_iloadN X116.here hx (hb hby d_jdk_38m_41_62) rfl (pc' := 63) rfl ?_
  refine w_cpA X116 hx hZ hown (tw hw 333 rfl) (tw hw 229 rfl) (tw hw 227 rfl) (tw hw 228 rfl) rfl (n := 1) (d := 0) (us := [.ref i]) OU4 OB (Or.inr ⟨rfl, rfl, StoL.one OB OV (Ins.of_exa G4.1 (tw hw 95 rfl))⟩) (by decide) (by decide) rfl (Nat.le_of_ble_eq_true rfl) (by decide) (by omega) N5 gb0 (by rw [hml]; rfl) (hb hby d_jdk_38m_41_63) (by decide) (W := 0) (Nat.le_of_ble_eq_true rfl) (by decide) (pc' := 66) rfl ?_
  intro T117 h117 L117 X117 e117 N117 K117 V117
  have EX5 := EX4.keep K117
  have FS5 := FS4.keep K117 (ninS nlb nin0)
  have FD5 := FD4.keep K117 (ninS nlb nin0)
  have EXb5 := EXb.keep K117
  refine w_aloadN X117.here hx (hb hby d_jdk_38m_41_66) rfl rfl (pc' := 67) rfl ?_
  refine w_iload X117.here hx (hb hby d_jdk_38m_41_67) rfl (pc' := 69) rfl ?_
  refine w_iloadN X117.here hx (hb hby d_jdk_38m_41_69) rfl (pc' := 70) rfl ?_
  refine w_iadd X117.here hx (hb hby d_jdk_38m_41_70) (pc' := 71) rfl ?_
  show Go _ _ _ _ T117 (mkF m 71 _ [(.int (1 : Int32)), (.ref l1)])
  refine w_putF X117 hx hZ hown (tw hw 72 rfl) Via.refl e117 FS5 EX5 (Or.inl (tw hw 73 rfl)) (tw hw 38 rfl) (ty := .int) (by decide) rfl rfl (hb hby d_jdk_38m_41_71) (pc' := 74) rfl ?_
  intro T118 h118 X118 e118 W118
  have N6 := Fr.snoc X118 N117 gl
  refine w_iconst X118.here hx (hb hby d_jdk_38m_41_74) (z := 1) rfl (pc' := 75) rfl ?_
  have hb0 : h0.size ≤ b := Nat.le_trans (by rw [es]; exact E1.1) gb
  exact endZ X118 hx hlk hret (by simp) (hb hby d_jdk_38m_41_75) (show nar .boolean (1 : Int32) = (1 : Int32) from rfl) (by decide) (by decide) (by rw [e118]; exact ⟨rfl, N6, ((K2.trans K4 (fun y hy => Or.inl hy)).trans K117 (fun y hy => by rw [List.mem_singleton.mp hy]; exact Or.inr hb0)).wr W118 (Or.inl (List.mem_cons_self ..)), b, kb, hb0, EX5.wr W118, FD5.other W118 (Or.inr (slot_ne (Or.inl (tw hw 60 rfl)) (Or.inl (tw hw 73 rfl)) (by decide) (t := (.array (.object "java/lang/Object"))) (t' := .int) (by decide) (by decide))), Fld.same W118 FS5, V117.other W118 (Ne.symm nlb), EXb5.wr W118, OV⟩)
theorem d_jdk_38m_8_0 : decode jdk_38_method_8_code 0 = .ok (.aload_n 0, 1) := by decide +kernel
theorem d_jdk_38m_8_1 : decode jdk_38_method_8_code 1 = .ok (.getfield 48, 3) := by decide +kernel
theorem d_jdk_38m_8_4 : decode jdk_38_method_8_code 4 = .ok (.ireturn, 1) := by decide +kernel
set_option maxRecDepth 65536 in
set_option maxHeartbeats 40000000 in
theorem rmSize (l : Launch) (Z : State) (a0 : Array Value) (hw : ∀ d ∈ tables_1, d.before a0 Z = true) (l1 : Addr) (n : Int32) (h0 : Heap) (F : Fld Z h0 l1 "java/util/ArrayList" "size" "I" (.int n)) :
    Ct l yq4 jdk_38_method_8_code 1 (some .int) ({ frames := 0, cells := 0, slots := 0, locals := 0 } : Room) Z #[(.ref l1)] h0 (fun v h L => v = some (.int n) ∧ L = [] ∧ h = h0) := by
  refine ct_of (Q := fun v h L => v = some (.int n) ∧ L = [] ∧ h = h0) (plainFor_of_name pn_8) ?_
  intro p e s m below meth c s₁ X0 hx hby hml hret hnm hlk hown hZ hs0 e0
  rw [show entryFrame m #[(.ref l1)] 1 = mkF m 0 #[.val (.ref l1)] [] from by first | (simp [entryFrame, mkF, argsToLocals, Value.category]; done) | rfl]
  refine w_aloadN X0.here hx (hb hby d_jdk_38m_8_0) rfl rfl (pc' := 1) rfl ?_
  refine w_getF X0 hx hZ hown (tw hw 72 rfl) Via.refl e0 F (hb hby d_jdk_38m_8_1) (pc' := 4) rfl ?_
  intro T119 X119 e119
  exact endI X119 hx hlk hret (hb hby d_jdk_38m_8_4) (by decide) (by decide) (by rw [e119]; exact ⟨rfl, rfl, rfl⟩)
theorem d_jdk_41m_11_0 : decode jdk_41_method_11_code 0 = .ok (.iload_n 0, 1) := by decide +kernel
theorem d_jdk_41m_11_1 : decode jdk_41_method_11_code 1 = .ok (.ifCond .lt 8, 3) := by decide +kernel
theorem d_jdk_41m_11_4 : decode jdk_41_method_11_code 4 = .ok (.iload_n 0, 1) := by decide +kernel
theorem d_jdk_41m_11_5 : decode jdk_41_method_11_code 5 = .ok (.iload_n 1, 1) := by decide +kernel
theorem d_jdk_41m_11_6 : decode jdk_41_method_11_code 6 = .ok (.if_icmp .lt 10, 3) := by decide +kernel
theorem d_jdk_41m_11_16 : decode jdk_41_method_11_code 16 = .ok (.iload_n 0, 1) := by decide +kernel
theorem d_jdk_41m_11_17 : decode jdk_41_method_11_code 17 = .ok (.ireturn, 1) := by decide +kernel
theorem pn_9 : plainName "jdk/internal/util/Preconditions" = true := by first | (simp [plainName, overriddenIn]; done) | decide +kernel
set_option maxRecDepth 65536 in
set_option maxHeartbeats 40000000 in
theorem rmPci (l : Launch) (Z : State) (a0 : Array Value) (hw : ∀ d ∈ tables_1, d.before a0 Z = true) (h0 : Heap) :
    Ct l (⟨"jdk/internal/util/Preconditions", "checkIndex", "(IILjava/util/function/BiFunction;)I"⟩ : MethodName) jdk_41_method_11_code 3 (some .int) ({ frames := 0, cells := 0, slots := 0, locals := 0 } : Room) Z #[(.int (0 : Int32)), (.int (1 : Int32)), .null] h0 (fun v h L => v = some (.int 0) ∧ L = [] ∧ h = h0) := by
  refine ct_of (Q := fun v h L => v = some (.int 0) ∧ L = [] ∧ h = h0) (plainFor_of_name pn_9) ?_
  intro p e s m below meth c s₁ X0 hx hby hml hret hnm hlk hown hZ hs0 e0
  rw [show entryFrame m #[(.int (0 : Int32)), (.int (1 : Int32)), .null] 3 = mkF m 0 #[.val (.int (0 : Int32)), .val (.int (1 : Int32)), .val .null] [] from by first | (simp [entryFrame, mkF, argsToLocals, Value.category]; done) | rfl]
  refine w_iloadN X0.here hx (hb hby d_jdk_41m_11_0) rfl (pc' := 1) rfl ?_
  refine w_ifNo X0.here hx (hb hby d_jdk_41m_11_1) (flt (show ¬ ((0 : Int32) < (0 : Int32)) from by decide)).1 (pc' := 4) rfl ?_
  refine w_iloadN X0.here hx (hb hby d_jdk_41m_11_4) rfl (pc' := 5) rfl ?_
  refine w_iloadN X0.here hx (hb hby d_jdk_41m_11_5) rfl (pc' := 6) rfl ?_
  refine w_icmpYes X0.here hx (hb hby d_jdk_41m_11_6) (tlt (show (0 : Int32) < (1 : Int32) from by decide)).1 (pc' := 16) (by decide) (by decide) ?_
  refine w_iloadN X0.here hx (hb hby d_jdk_41m_11_16) rfl (pc' := 17) rfl ?_
  exact endI X0 hx hlk hret (hb hby d_jdk_41m_11_17) (by decide) (by decide) (by rw [e0]; exact ⟨rfl, rfl, rfl⟩)
theorem d_jdk_31m_17_0 : decode jdk_31_method_17_code 0 = .ok (.iload_n 0, 1) := by decide +kernel
theorem d_jdk_31m_17_1 : decode jdk_31_method_17_code 1 = .ok (.iload_n 1, 1) := by decide +kernel
theorem d_jdk_31m_17_2 : decode jdk_31_method_17_code 2 = .ok (.aconst_null, 1) := by decide +kernel
theorem pd_20 : parseMethodDescriptor "(IILjava/util/function/BiFunction;)I" = some ⟨[.int, .int, (.object "java/util/function/BiFunction")], some .int⟩ := by decide +kernel
theorem d_jdk_31m_17_3 : decode jdk_31_method_17_code 3 = .ok (.invokestatic 105, 3) := by decide +kernel
theorem d_jdk_31m_17_6 : decode jdk_31_method_17_code 6 = .ok (.ireturn, 1) := by decide +kernel
theorem pn_10 : plainName "java/util/Objects" = true := by first | (simp [plainName, overriddenIn]; done) | decide +kernel
set_option maxRecDepth 65536 in
set_option maxHeartbeats 40000000 in
theorem rmOci (l : Launch) (Z : State) (a0 : Array Value) (hw : ∀ d ∈ tables_1, d.before a0 Z = true) (h0 : Heap) :
    Ct l (⟨"java/util/Objects", "checkIndex", "(II)I"⟩ : MethodName) jdk_31_method_17_code 2 (some .int) ({ frames := 1, cells := 0, slots := 0, locals := 14 } : Room) Z #[(.int (0 : Int32)), (.int (1 : Int32))] h0 (fun v h L => v = some (.int 0) ∧ L = [] ∧ h = h0) := by
  refine ct_of (Q := fun v h L => v = some (.int 0) ∧ L = [] ∧ h = h0) (plainFor_of_name pn_10) ?_
  intro p e s m below meth c s₁ X0 hx hby hml hret hnm hlk hown hZ hs0 e0
  rw [show entryFrame m #[(.int (0 : Int32)), (.int (1 : Int32))] 2 = mkF m 0 #[.val (.int (0 : Int32)), .val (.int (1 : Int32))] [] from by first | (simp [entryFrame, mkF, argsToLocals, Value.category]; done) | rfl]
  refine w_iloadN X0.here hx (hb hby d_jdk_31m_17_0) rfl (pc' := 1) rfl ?_
  refine w_iloadN X0.here hx (hb hby d_jdk_31m_17_1) rfl (pc' := 2) rfl ?_
  refine w_null X0.here hx (hb hby d_jdk_31m_17_2) (pc' := 3) rfl ?_
  refine w_static X0 hx hZ (y := (⟨"jdk/internal/util/Preconditions", "checkIndex", "(IILjava/util/function/BiFunction;)I"⟩ : MethodName)) hown (tw hw 357 rfl) (tw hw 358 rfl) (tw hw 359 rfl) (tw hw 360 rfl) (by decide) (backC (W := 0) (rmPci l Z a0 hw h0) hZ (tw hw 360 rfl) (tw hw 359 rfl) (by decide) (by decide)) e0 (by rw [hml]; rfl) (argsL := [(.int (0 : Int32)), (.int (1 : Int32)), .null]) (st := []) pd_20 rfl rfl rfl (Nat.le_of_ble_eq_true rfl) (hb hby d_jdk_31m_17_3) (by decide) (by decide) (pc' := 6) rfl ?_
  intro T120 v120 L120 X120 Q120
  obtain ⟨rfl, rfl, hh⟩ := Q120
  show Go _ _ _ _ T120 (mkF m 6 _ [(.int (0 : Int32))])
  rw [List.append_nil] at X120
  exact endI X120 hx hlk hret (hb hby d_jdk_31m_17_6) (by decide) (by decide) (by rw [hh]; exact ⟨rfl, rfl, rfl⟩)
theorem d_jdk_38m_18_0 : decode jdk_38_method_18_code 0 = .ok (.aload_n 0, 1) := by decide +kernel
theorem d_jdk_38m_18_1 : decode jdk_38_method_18_code 1 = .ok (.getfield 9, 3) := by decide +kernel
theorem d_jdk_38m_18_4 : decode jdk_38_method_18_code 4 = .ok (.iload_n 1, 1) := by decide +kernel
theorem d_jdk_38m_18_5 : decode jdk_38_method_18_code 5 = .ok (.aaload, 1) := by decide +kernel
theorem d_jdk_38m_18_6 : decode jdk_38_method_18_code 6 = .ok (.areturn, 1) := by decide +kernel
set_option maxRecDepth 65536 in
set_option maxHeartbeats 40000000 in
theorem rmEld (l : Launch) (Z : State) (a0 : Array Value) (hw : ∀ d ∈ tables_1, d.before a0 Z = true) (l1 a i : Addr) (ka : ClassId) (h0 : Heap) (GL : Al1 Z h0 l1 a ka i) :
    Ct l yq34 jdk_38_method_18_code 2 (some (.object "java/lang/Object")) ({ frames := 0, cells := 0, slots := 0, locals := 0 } : Room) Z #[(.ref l1), (.int (0 : Int32))] h0 (fun v h L => v = some (.ref i) ∧ L = [] ∧ h = h0) := by
  refine ct_of (Q := fun v h L => v = some (.ref i) ∧ L = [] ∧ h = h0) (plainFor_of_name pn_8) ?_
  intro p e s m below meth c s₁ X0 hx hby hml hret hnm hlk hown hZ hs0 e0
  rw [show entryFrame m #[(.ref l1), (.int (0 : Int32))] 2 = mkF m 0 #[.val (.ref l1), .val (.int (0 : Int32))] [] from by first | (simp [entryFrame, mkF, argsToLocals, Value.category]; done) | rfl]
  refine w_aloadN X0.here hx (hb hby d_jdk_38m_18_0) rfl rfl (pc' := 1) rfl ?_
  refine w_getF X0 hx hZ hown (tw hw 59 rfl) Via.refl e0 GL.2.1 (hb hby d_jdk_38m_18_1) (pc' := 4) rfl ?_
  intro T121 X121 e121
  refine w_iloadN X121.here hx (hb hby d_jdk_38m_18_4) rfl (pc' := 5) rfl ?_
  refine w_aaload X121 hx hZ e121 GL.2.2.2.1 rfl ⟨by decide, by decide⟩ (v := (.ref i)) rfl (hb hby d_jdk_38m_18_5) (pc' := 6) rfl ?_
  exact endR X121 hx hlk rfl hret rfl (hb hby d_jdk_38m_18_6) (by decide) (by decide) (by rw [e121]; exact ⟨rfl, rfl, rfl⟩)
theorem d_jdk_38m_20_0 : decode jdk_38_method_20_code 0 = .ok (.iload_n 1, 1) := by decide +kernel
theorem d_jdk_38m_20_1 : decode jdk_38_method_20_code 1 = .ok (.aload_n 0, 1) := by decide +kernel
theorem d_jdk_38m_20_2 : decode jdk_38_method_20_code 2 = .ok (.getfield 48, 3) := by decide +kernel
theorem d_jdk_38m_20_5 : decode jdk_38_method_20_code 5 = .ok (.invokestatic 118, 3) := by decide +kernel
theorem d_jdk_38m_20_8 : decode jdk_38_method_20_code 8 = .ok (.pop, 1) := by decide +kernel
theorem d_jdk_38m_20_9 : decode jdk_38_method_20_code 9 = .ok (.aload_n 0, 1) := by decide +kernel
theorem d_jdk_38m_20_10 : decode jdk_38_method_20_code 10 = .ok (.iload_n 1, 1) := by decide +kernel
theorem pd_21 : parseMethodDescriptor "(I)Ljava/lang/Object;" = some ⟨[.int], some (.object "java/lang/Object")⟩ := by decide +kernel
theorem d_jdk_38m_20_11 : decode jdk_38_method_20_code 11 = .ok (.invokevirtual 123, 3) := by decide +kernel
theorem d_jdk_38m_20_14 : decode jdk_38_method_20_code 14 = .ok (.areturn, 1) := by decide +kernel
set_option maxRecDepth 65536 in
set_option maxHeartbeats 40000000 in
theorem rmGt (l : Launch) (Z : State) (a0 : Array Value) (hw : ∀ d ∈ tables_1, d.before a0 Z = true) (l1 a i : Addr) (ka : ClassId) (h0 : Heap) (GL : Al1 Z h0 l1 a ka i) :
    Ct l yq35 jdk_38_method_20_code 2 (some (.object "java/lang/Object")) ({ frames := 2, cells := 0, slots := 0, locals := 27 } : Room) Z #[(.ref l1), (.int (0 : Int32))] h0 (fun v h L => v = some (.ref i) ∧ L = [] ∧ h = h0) := by
  refine ct_of (Q := fun v h L => v = some (.ref i) ∧ L = [] ∧ h = h0) (plainFor_of_name pn_8) ?_
  intro p e s m below meth c s₁ X0 hx hby hml hret hnm hlk hown hZ hs0 e0
  rw [show entryFrame m #[(.ref l1), (.int (0 : Int32))] 2 = mkF m 0 #[.val (.ref l1), .val (.int (0 : Int32))] [] from by first | (simp [entryFrame, mkF, argsToLocals, Value.category]; done) | rfl]
  refine w_iloadN X0.here hx (hb hby d_jdk_38m_20_0) rfl (pc' := 1) rfl ?_
  refine w_aloadN X0.here hx (hb hby d_jdk_38m_20_1) rfl rfl (pc' := 2) rfl ?_
  refine w_getF X0 hx hZ hown (tw hw 72 rfl) Via.refl e0 GL.2.2.1 (hb hby d_jdk_38m_20_2) (pc' := 5) rfl ?_
  intro T122 X122 e122
  refine w_static X122 hx hZ (y := (⟨"java/util/Objects", "checkIndex", "(II)I"⟩ : MethodName)) hown (tw hw 353 rfl) (tw hw 354 rfl) (tw hw 355 rfl) (tw hw 356 rfl) (by decide) (backC (W := 0) (rmOci l Z a0 hw h0) hZ (tw hw 356 rfl) (tw hw 355 rfl) (by decide) (by decide)) e122 (by rw [hml]; rfl) (argsL := [(.int (0 : Int32)), (.int (1 : Int32))]) (st := []) pd_8 rfl rfl rfl (Nat.le_of_ble_eq_true rfl) (hb hby d_jdk_38m_20_5) (by decide) (by decide) (pc' := 8) rfl ?_
  intro T123 v123 L123 X123 Q123
  obtain ⟨rfl, rfl, hh⟩ := Q123
  show Go _ _ _ _ T123 (mkF m 8 _ [(.int (0 : Int32))])
  rw [List.append_nil] at X123
  refine w_pop X123.here hx (hb hby d_jdk_38m_20_8) rfl (pc' := 9) rfl ?_
  refine w_aloadN X123.here hx (hb hby d_jdk_38m_20_9) rfl rfl (pc' := 10) rfl ?_
  refine w_iloadN X123.here hx (hb hby d_jdk_38m_20_10) rfl (pc' := 11) rfl ?_
  refine w_virtual X123 hx hZ (y := yq34) (z := yq34) hown (tw hw 361 rfl) (tw hw 362 rfl) (notFace_of_selects (args := #[]) (mvT hZ (tw hw 364 rfl))) (tw hw 364 rfl) (tw hw 363 rfl) (by decide) (backC (W := 0) (rmEld l Z a0 hw l1 a i ka h0 GL) hZ (tw hw 365 rfl) (tw hw 39 rfl) (by decide) (by decide)) hh GL.1 (by rw [hml]; rfl) (argsL := [(.int (0 : Int32))]) (st := []) pd_21 rfl rfl rfl (Nat.le_of_ble_eq_true rfl) (hb hby d_jdk_38m_20_11) (by decide) (by decide) (pc' := 14) rfl ?_
  intro T124 v124 L124 X124 Q124
  obtain ⟨rfl, rfl, hh2⟩ := Q124
  show Go _ _ _ _ T124 (mkF m 14 _ [(.ref i)])
  rw [List.append_nil] at X124
  exact endR X124 hx hlk rfl hret rfl (hb hby d_jdk_38m_20_14) (by decide) (by decide) (by rw [hh2]; exact ⟨rfl, rfl, rfl⟩)
theorem two_lat (x : Int32) : LatC (two x) := fun c hc => by
  simp only [two, List.mem_cons, List.not_mem_nil, or_false] at hc
  rcases hc with rfl | rfl
  · exact m255 _
  · exact m255 _
theorem SbOf.wr {Z : State} {h h' : Heap} {b t o : Addr} {kt : ClassId} {cs : List Int32} {N sl : Nat} {v : Value} (F : SbOf Z h b t kt cs N) (W : Wr h h' o sl v) (q1 : b ≠ o) (q2 : t ≠ o) : SbOf Z h' b t kt cs N := F.keep (Keep.of_wr W) (ninS q1 nin0) (ninS q2 nin0)
theorem AlE.wr {Z : State} {h h' : Heap} {l D o : Addr} {sl : Nat} {v : Value} (F : AlE Z h l D) (W : Wr h h' o sl v) (q : l ≠ o) : AlE Z h' l D := F.keep (Keep.of_wr W) (ninS q nin0)
theorem DeOf.keep {Z : State} {h h' : Heap} {D : Addr} {kD : ClassId} {ws : List Addr} (F : DeOf Z h D kD) (K : Keep h h' ws) (q : D ∉ ws) (qs : ∀ y ∈ ws, ∀ cell : Cell, h[y]? = some cell → cell.vm.isStatics = false) : DeOf Z h' D kD := ⟨staKeep F.1 K qs, F.2.1.keep K q, F.2.2.keep K⟩
theorem d_jdk_71m_1_0 : decode jdk_71_method_1_code 0 = .ok (.aload_n 0, 1) := by decide +kernel
theorem d_jdk_71m_1_1 : decode jdk_71_method_1_code 1 = .ok (.invokespecial 1, 3) := by decide +kernel
theorem d_jdk_71m_1_4 : decode jdk_71_method_1_code 4 = .ok (.return_, 1) := by decide +kernel
theorem pn_11 : plainName "java/util/AbstractMap" = true := by first | (simp [plainName, overriddenIn]; done) | decide +kernel
set_option maxRecDepth 65536 in
set_option maxHeartbeats 40000000 in
theorem rmAM (l : Launch) (Z : State) (a0 : Array Value) (hw : ∀ d ∈ tables_1, d.before a0 Z = true) (b : Addr) (h0 : Heap) :
    Ct l (⟨"java/util/AbstractMap", "<init>", "()V"⟩ : MethodName) jdk_71_method_1_code 1 none ({ frames := 1, cells := 0, slots := 0, locals := 12 } : Room) Z #[(.ref b)] h0 (fun v h L => v = none ∧ L = [] ∧ h = h0) := by
  refine ct_of (Q := fun v h L => v = none ∧ L = [] ∧ h = h0) (plainFor_of_name pn_11) ?_
  intro p e s m below meth c s₁ X0 hx hby hml hret hnm hlk hown hZ hs0 e0
  rw [show entryFrame m #[(.ref b)] 1 = mkF m 0 #[.val (.ref b)] [] from by first | (simp [entryFrame, mkF, argsToLocals, Value.category]; done) | rfl]
  refine w_aloadN X0.here hx (hb hby d_jdk_71m_1_0) rfl rfl (pc' := 1) rfl ?_
  refine w_initO X0 hx hZ hown (tw hw 118 rfl) (tw hw 19 rfl) (tw hw 20 rfl) e0 (by rw [hml]; rfl) (hb hby d_jdk_71m_1_1) (by decide) (W := 0) (Nat.le_of_ble_eq_true rfl) (by decide) (pc' := 4) rfl ?_
  intro T125 X125 e125
  exact endV X125 hx hlk hret (hb hby d_jdk_71m_1_4) (by decide) (by decide) (by rw [e125]; exact ⟨rfl, rfl, rfl⟩)
theorem d_jdk_69m_7_0 : decode jdk_69_method_7_code 0 = .ok (.aload_n 0, 1) := by decide +kernel
theorem d_jdk_69m_7_1 : decode jdk_69_method_7_code 1 = .ok (.invokespecial 43, 3) := by decide +kernel
theorem d_jdk_69m_7_4 : decode jdk_69_method_7_code 4 = .ok (.aload_n 0, 1) := by decide +kernel
theorem d_jdk_69m_7_5 : decode jdk_69_method_7_code 5 = .ok (.ldc 92, 2) := by decide +kernel
theorem d_jdk_69m_7_7 : decode jdk_69_method_7_code 7 = .ok (.putfield 81, 3) := by decide +kernel
theorem d_jdk_69m_7_10 : decode jdk_69_method_7_code 10 = .ok (.return_, 1) := by decide +kernel
theorem pn_12 : plainName "java/util/HashMap" = true := by first | (simp [plainName, overriddenIn]; done) | decide +kernel
set_option maxRecDepth 65536 in
set_option maxHeartbeats 40000000 in
theorem rmHM (l : Launch) (Z : State) (a0 : Array Value) (hw : ∀ d ∈ tables_1, d.before a0 Z = true) (b : Addr) (h0 : Heap) (n0 : Nat) (gb : n0 ≤ b) (EX : Exa Z h0 b "java/util/HashMap") (F : Fld Z h0 b "java/util/HashMap" "loadFactor" "F" (.float 0)) :
    Ct l yq36 jdk_69_method_7_code 1 none ({ frames := 2, cells := 0, slots := 0, locals := 24 } : Room) Z #[(.ref b)] h0 (fun v h L => v = none ∧ Fr n0 L ∧ Keep h0 h [b]) := by
  refine ct_of (Q := fun v h L => v = none ∧ Fr n0 L ∧ Keep h0 h [b]) (plainFor_of_name pn_12) ?_
  intro p e s m below meth c s₁ X0 hx hby hml hret hnm hlk hown hZ hs0 e0
  have N0 := Fr.nil n0
  rw [show entryFrame m #[(.ref b)] 1 = mkF m 0 #[.val (.ref b)] [] from by first | (simp [entryFrame, mkF, argsToLocals, Value.category]; done) | rfl]
  refine w_aloadN X0.here hx (hb hby d_jdk_69m_7_0) rfl rfl (pc' := 1) rfl ?_
  refine w_special X0 hx hZ (y := (⟨"java/util/AbstractMap", "<init>", "()V"⟩ : MethodName)) rfl hown (tw hw 112 rfl) (tw hw 113 rfl) (tw hw 117 rfl) (by decide) (backC (W := 0) (rmAM l Z a0 hw b h0) hZ (tw hw 117 rfl) (tw hw 116 rfl) (by decide) (by decide)) e0 (by rw [hml]; rfl) (argsL := []) (st := []) pd_14 rfl rfl rfl (Nat.le_of_ble_eq_true rfl) (hb hby d_jdk_69m_7_1) (by decide) (by decide) (pc' := 4) rfl ?_
  intro T126 v126 L126 X126 Q126
  obtain ⟨rfl, rfl, hh⟩ := Q126
  show Go _ _ _ _ T126 (mkF m 4 _ [])
  rw [List.append_nil] at X126
  refine w_aloadN X126.here hx (hb hby d_jdk_69m_7_4) rfl rfl (pc' := 5) rfl ?_
  refine w_ldcF X126 hx hZ hown (tw hw 119 rfl) (hb hby d_jdk_69m_7_5) (pc' := 7) rfl ?_
  refine w_putF X126 hx hZ hown (tw hw 120 rfl) Via.refl hh F EX (Or.inr ⟨(tw hw 121 rfl), rfl, hnm⟩) (tw hw 107 rfl) (ty := .float) (by decide) rfl rfl (hb hby d_jdk_69m_7_7) (pc' := 10) rfl ?_
  intro T127 h127 X127 e127 W127
  have N1 := Fr.snoc X127 N0 gb
  exact endV X127 hx hlk hret (hb hby d_jdk_69m_7_10) (by decide) (by decide) (by rw [e127]; exact ⟨rfl, N1, Keep.of_wr W127⟩)
theorem d_prog_40m_1_0 : decode prog_40_method_1_code 0 = .ok (.aload_n 0, 1) := by decide +kernel
theorem d_prog_40m_1_1 : decode prog_40_method_1_code 1 = .ok (.invokespecial 1, 3) := by decide +kernel
theorem d_prog_40m_1_4 : decode prog_40_method_1_code 4 = .ok (.aload_n 0, 1) := by decide +kernel
theorem d_prog_40m_1_5 : decode prog_40_method_1_code 5 = .ok (.new 7, 3) := by decide +kernel
theorem d_prog_40m_1_8 : decode prog_40_method_1_code 8 = .ok (.dup, 1) := by decide +kernel
theorem d_prog_40m_1_9 : decode prog_40_method_1_code 9 = .ok (.invokespecial 9, 3) := by decide +kernel
theorem d_prog_40m_1_12 : decode prog_40_method_1_code 12 = .ok (.putfield 10, 3) := by decide +kernel
theorem d_prog_40m_1_15 : decode prog_40_method_1_code 15 = .ok (.aload_n 0, 1) := by decide +kernel
theorem d_prog_40m_1_16 : decode prog_40_method_1_code 16 = .ok (.aload_n 1, 1) := by decide +kernel
theorem d_prog_40m_1_17 : decode prog_40_method_1_code 17 = .ok (.putfield 16, 3) := by decide +kernel
theorem d_prog_40m_1_20 : decode prog_40_method_1_code 20 = .ok (.aload_n 0, 1) := by decide +kernel
theorem d_prog_40m_1_21 : decode prog_40_method_1_code 21 = .ok (.aload_n 2, 1) := by decide +kernel
theorem d_prog_40m_1_22 : decode prog_40_method_1_code 22 = .ok (.putfield 20, 3) := by decide +kernel
theorem d_prog_40m_1_25 : decode prog_40_method_1_code 25 = .ok (.return_, 1) := by decide +kernel
theorem pn_13 : plainName "com/example/crud4/crud4/StatementParameter" = true := by first | (simp [plainName, overriddenIn]; done) | decide +kernel
set_option maxRecDepth 65536 in
set_option maxHeartbeats 40000000 in
theorem rmSPn (l : Launch) (Z : State) (a0 : Array Value) (hw : ∀ d ∈ tables_1, d.before a0 Z = true) (q x : Addr) (h0 : Heap) (n0 : Nat) (Z0 : n0 ≤ h0.size) (gq : n0 ≤ q) (EX : Exa Z h0 q "com/example/crud4/crud4/StatementParameter") (F0 : Fld Z h0 q "com/example/crud4/crud4/StatementParameter" "bindings" "Ljava/util/Map;" .null) (F1 : Fld Z h0 q "com/example/crud4/crud4/StatementParameter" "statementId" "Ljava/lang/String;" .null) (F2 : Fld Z h0 q "com/example/crud4/crud4/StatementParameter" "parameter" "Ljava/lang/Object;" .null) :
    Ct l yq14 prog_40_method_1_code 3 none ({ frames := 3, cells := 1, slots := 8, locals := 38 } : Room) Z #[(.ref q), (.ref x), .null] h0 (fun v h L => v = none ∧ Fr n0 L ∧ Keep h0 h [q]) := by
  refine ct_of (Q := fun v h L => v = none ∧ Fr n0 L ∧ Keep h0 h [q]) (plainFor_of_name pn_13) ?_
  intro p e s m below meth c s₁ X0 hx hby hml hret hnm hlk hown hZ hs0 e0
  have N0 := Fr.nil n0
  rw [show entryFrame m #[(.ref q), (.ref x), .null] 3 = mkF m 0 #[.val (.ref q), .val (.ref x), .val .null] [] from by first | (simp [entryFrame, mkF, argsToLocals, Value.category]; done) | rfl]
  refine w_aloadN X0.here hx (hb hby d_prog_40m_1_0) rfl rfl (pc' := 1) rfl ?_
  refine w_initO X0 hx hZ hown (tw hw 105 rfl) (tw hw 19 rfl) (tw hw 20 rfl) e0 (by rw [hml]; rfl) (hb hby d_prog_40m_1_1) (by decide) (W := 0) (Nat.le_of_ble_eq_true rfl) (by decide) (pc' := 4) rfl ?_
  intro T128 X128 e128
  refine w_aloadN X128.here hx (hb hby d_prog_40m_1_4) rfl rfl (pc' := 5) rfl ?_
  refine w_new X128 hx hZ hown (tw hw 106 rfl) (tw hw 107 rfl) (tw hw 108 rfl) e128 (hb hby d_prog_40m_1_5) (by decide) (by decide) (pc' := 8) rfl ?_
  intro T129 h129 m1 gm1 X129 e129 E129 A129 D129 U129
  have ge_m1_h0 : h0.size ≤ m1 := Nat.le_trans (Ext.rfl' : Ext h0 h0).1 (Nat.le_of_eq gm1)
  have C130 : Ext h0 h129 := Ext.trs Ext.rfl' E129
  have gm : n0 ≤ m1 := Nat.le_trans Z0 ge_m1_h0
  have FL : Fld Z h129 m1 "java/util/HashMap" "loadFactor" "F" (.float 0) := D129 (Or.inr (tw hw 121 rfl)) (ty := .float) (by decide)
  refine w_dup X129.here hx (hb hby d_prog_40m_1_8) rfl (pc' := 9) rfl ?_
  refine w_special X129 hx hZ (y := yq36) rfl hown (tw hw 109 rfl) (tw hw 110 rfl) (tw hw 111 rfl) (by decide) (backC (W := 2) (rmHM l Z a0 hw m1 h129 n0 gm A129 FL) hZ (tw hw 111 rfl) (tw hw 108 rfl) (by decide) (by decide)) e129 (by rw [hml]; rfl) (argsL := []) (st := [(.ref m1), (.ref q)]) pd_14 rfl rfl rfl (Nat.le_of_ble_eq_true rfl) (hb hby d_prog_40m_1_9) (by decide) (by decide) (pc' := 12) rfl ?_
  intro T131 v131 L131 X131 Q131
  obtain ⟨rfl, N1, K1⟩ := Q131
  show Go _ _ _ _ T131 (mkF m 12 _ [(.ref m1), (.ref q)])
  have N2 := Fr.app N0 N1
  have E2 : Ext h0 T131.heap := Ext.kp C130 K1 (allS ge_m1_h0 all0)
  have EX1 := EX.ext E2
  have F01 := F0.ext E2
  have F11 := F1.ext E2
  have F21 := F2.ext E2
  refine w_putF X131 hx hZ hown (tw hw 122 rfl) Via.refl rfl F01 EX1 (Or.inr ⟨(tw hw 123 rfl), rfl, hnm⟩) (tw hw 97 rfl) (ty := (.object "java/util/Map")) (by decide) rfl rfl (hb hby d_prog_40m_1_12) (pc' := 15) rfl ?_
  intro T132 h132 X132 e132 W132
  have N132 := Fr.snoc X132 N2 gq
  have EX1 := EX1.wr W132
  have F11 := F11.other W132 (Or.inr (slot_ne (Or.inr (tw hw 125 rfl)) (Or.inr (tw hw 123 rfl)) (by decide) (t := (.object "java/lang/String")) (t' := (.object "java/util/Map")) (by decide) (by decide)))
  have F21 := F21.other W132 (Or.inr (slot_ne (Or.inr (tw hw 127 rfl)) (Or.inr (tw hw 123 rfl)) (by decide) (t := (.object "java/lang/Object")) (t' := (.object "java/util/Map")) (by decide) (by decide)))
  refine w_aloadN X132.here hx (hb hby d_prog_40m_1_15) rfl rfl (pc' := 16) rfl ?_
  refine w_aloadN X132.here hx (hb hby d_prog_40m_1_16) rfl rfl (pc' := 17) rfl ?_
  refine w_putF X132 hx hZ hown (tw hw 124 rfl) Via.refl e132 F11 EX1 (Or.inr ⟨(tw hw 125 rfl), rfl, hnm⟩) (tw hw 97 rfl) (ty := (.object "java/lang/String")) (by decide) rfl rfl (hb hby d_prog_40m_1_17) (pc' := 20) rfl ?_
  intro T133 h133 X133 e133 W133
  have N133 := Fr.snoc X133 N132 gq
  have EX1 := EX1.wr W133
  have F21 := F21.other W133 (Or.inr (slot_ne (Or.inr (tw hw 127 rfl)) (Or.inr (tw hw 125 rfl)) (by decide) (t := (.object "java/lang/Object")) (t' := (.object "java/lang/String")) (by decide) (by decide)))
  refine w_aloadN X133.here hx (hb hby d_prog_40m_1_20) rfl rfl (pc' := 21) rfl ?_
  refine w_aloadN X133.here hx (hb hby d_prog_40m_1_21) rfl rfl (pc' := 22) rfl ?_
  refine w_putF X133 hx hZ hown (tw hw 126 rfl) Via.refl e133 F21 EX1 (Or.inr ⟨(tw hw 127 rfl), rfl, hnm⟩) (tw hw 97 rfl) (ty := (.object "java/lang/Object")) (by decide) rfl rfl (hb hby d_prog_40m_1_22) (pc' := 25) rfl ?_
  intro T134 h134 X134 e134 W134
  have N134 := Fr.snoc X134 N133 gq
  have EX1 := EX1.wr W134
  exact endV X134 hx hlk hret (hb hby d_prog_40m_1_25) (by decide) (by decide) (by rw [e134]; exact ⟨rfl, N134, (((((Keep.refl h0 [q]).ext E2).wr W132 (Or.inl (List.mem_cons_self ..))).wr W133 (Or.inl (List.mem_cons_self ..))).wr W134 (Or.inl (List.mem_cons_self ..)))⟩)
set_option maxRecDepth 65536 in
set_option maxHeartbeats 40000000 in
theorem rmSPi (l : Launch) (Z : State) (a0 : Array Value) (hw : ∀ d ∈ tables_1, d.before a0 Z = true) (q x i : Addr) (h0 : Heap) (n0 : Nat) (Z0 : n0 ≤ h0.size) (gq : n0 ≤ q) (EX : Exa Z h0 q "com/example/crud4/crud4/StatementParameter") (F0 : Fld Z h0 q "com/example/crud4/crud4/StatementParameter" "bindings" "Ljava/util/Map;" .null) (F1 : Fld Z h0 q "com/example/crud4/crud4/StatementParameter" "statementId" "Ljava/lang/String;" .null) (F2 : Fld Z h0 q "com/example/crud4/crud4/StatementParameter" "parameter" "Ljava/lang/Object;" .null) :
    Ct l yq14 prog_40_method_1_code 3 none ({ frames := 3, cells := 1, slots := 8, locals := 38 } : Room) Z #[(.ref q), (.ref x), (.ref i)] h0 (fun v h L => v = none ∧ Fr n0 L ∧ Keep h0 h [q]) := by
  refine ct_of (Q := fun v h L => v = none ∧ Fr n0 L ∧ Keep h0 h [q]) (plainFor_of_name pn_13) ?_
  intro p e s m below meth c s₁ X0 hx hby hml hret hnm hlk hown hZ hs0 e0
  have N0 := Fr.nil n0
  rw [show entryFrame m #[(.ref q), (.ref x), (.ref i)] 3 = mkF m 0 #[.val (.ref q), .val (.ref x), .val (.ref i)] [] from by first | (simp [entryFrame, mkF, argsToLocals, Value.category]; done) | rfl]
  refine w_aloadN X0.here hx (hb hby d_prog_40m_1_0) rfl rfl (pc' := 1) rfl ?_
  refine w_initO X0 hx hZ hown (tw hw 105 rfl) (tw hw 19 rfl) (tw hw 20 rfl) e0 (by rw [hml]; rfl) (hb hby d_prog_40m_1_1) (by decide) (W := 0) (Nat.le_of_ble_eq_true rfl) (by decide) (pc' := 4) rfl ?_
  intro T135 X135 e135
  refine w_aloadN X135.here hx (hb hby d_prog_40m_1_4) rfl rfl (pc' := 5) rfl ?_
  refine w_new X135 hx hZ hown (tw hw 106 rfl) (tw hw 107 rfl) (tw hw 108 rfl) e135 (hb hby d_prog_40m_1_5) (by decide) (by decide) (pc' := 8) rfl ?_
  intro T136 h136 m1 gm1 X136 e136 E136 A136 D136 U136
  have ge_m1_h0 : h0.size ≤ m1 := Nat.le_trans (Ext.rfl' : Ext h0 h0).1 (Nat.le_of_eq gm1)
  have C137 : Ext h0 h136 := Ext.trs Ext.rfl' E136
  have gm : n0 ≤ m1 := Nat.le_trans Z0 ge_m1_h0
  have FL : Fld Z h136 m1 "java/util/HashMap" "loadFactor" "F" (.float 0) := D136 (Or.inr (tw hw 121 rfl)) (ty := .float) (by decide)
  refine w_dup X136.here hx (hb hby d_prog_40m_1_8) rfl (pc' := 9) rfl ?_
  refine w_special X136 hx hZ (y := yq36) rfl hown (tw hw 109 rfl) (tw hw 110 rfl) (tw hw 111 rfl) (by decide) (backC (W := 2) (rmHM l Z a0 hw m1 h136 n0 gm A136 FL) hZ (tw hw 111 rfl) (tw hw 108 rfl) (by decide) (by decide)) e136 (by rw [hml]; rfl) (argsL := []) (st := [(.ref m1), (.ref q)]) pd_14 rfl rfl rfl (Nat.le_of_ble_eq_true rfl) (hb hby d_prog_40m_1_9) (by decide) (by decide) (pc' := 12) rfl ?_
  intro T138 v138 L138 X138 Q138
  obtain ⟨rfl, N1, K1⟩ := Q138
  show Go _ _ _ _ T138 (mkF m 12 _ [(.ref m1), (.ref q)])
  have N2 := Fr.app N0 N1
  have E2 : Ext h0 T138.heap := Ext.kp C137 K1 (allS ge_m1_h0 all0)
  have EX1 := EX.ext E2
  have F01 := F0.ext E2
  have F11 := F1.ext E2
  have F21 := F2.ext E2
  refine w_putF X138 hx hZ hown (tw hw 122 rfl) Via.refl rfl F01 EX1 (Or.inr ⟨(tw hw 123 rfl), rfl, hnm⟩) (tw hw 97 rfl) (ty := (.object "java/util/Map")) (by decide) rfl rfl (hb hby d_prog_40m_1_12) (pc' := 15) rfl ?_
  intro T139 h139 X139 e139 W139
  have N139 := Fr.snoc X139 N2 gq
  have EX1 := EX1.wr W139
  have F11 := F11.other W139 (Or.inr (slot_ne (Or.inr (tw hw 125 rfl)) (Or.inr (tw hw 123 rfl)) (by decide) (t := (.object "java/lang/String")) (t' := (.object "java/util/Map")) (by decide) (by decide)))
  have F21 := F21.other W139 (Or.inr (slot_ne (Or.inr (tw hw 127 rfl)) (Or.inr (tw hw 123 rfl)) (by decide) (t := (.object "java/lang/Object")) (t' := (.object "java/util/Map")) (by decide) (by decide)))
  refine w_aloadN X139.here hx (hb hby d_prog_40m_1_15) rfl rfl (pc' := 16) rfl ?_
  refine w_aloadN X139.here hx (hb hby d_prog_40m_1_16) rfl rfl (pc' := 17) rfl ?_
  refine w_putF X139 hx hZ hown (tw hw 124 rfl) Via.refl e139 F11 EX1 (Or.inr ⟨(tw hw 125 rfl), rfl, hnm⟩) (tw hw 97 rfl) (ty := (.object "java/lang/String")) (by decide) rfl rfl (hb hby d_prog_40m_1_17) (pc' := 20) rfl ?_
  intro T140 h140 X140 e140 W140
  have N140 := Fr.snoc X140 N139 gq
  have EX1 := EX1.wr W140
  have F21 := F21.other W140 (Or.inr (slot_ne (Or.inr (tw hw 127 rfl)) (Or.inr (tw hw 125 rfl)) (by decide) (t := (.object "java/lang/Object")) (t' := (.object "java/lang/String")) (by decide) (by decide)))
  refine w_aloadN X140.here hx (hb hby d_prog_40m_1_20) rfl rfl (pc' := 21) rfl ?_
  refine w_aloadN X140.here hx (hb hby d_prog_40m_1_21) rfl rfl (pc' := 22) rfl ?_
  refine w_putF X140 hx hZ hown (tw hw 126 rfl) Via.refl e140 F21 EX1 (Or.inr ⟨(tw hw 127 rfl), rfl, hnm⟩) (tw hw 97 rfl) (ty := (.object "java/lang/Object")) (by decide) rfl rfl (hb hby d_prog_40m_1_22) (pc' := 25) rfl ?_
  intro T141 h141 X141 e141 W141
  have N141 := Fr.snoc X141 N140 gq
  have EX1 := EX1.wr W141
  exact endV X141 hx hlk hret (hb hby d_prog_40m_1_25) (by decide) (by decide) (by rw [e141]; exact ⟨rfl, N141, (((((Keep.refl h0 [q]).ext E2).wr W139 (Or.inl (List.mem_cons_self ..))).wr W140 (Or.inl (List.mem_cons_self ..))).wr W141 (Or.inl (List.mem_cons_self ..)))⟩)
theorem d_prog_24m_1_0 : decode prog_24_method_1_code 0 = .ok (.aload_n 0, 1) := by decide +kernel
theorem d_prog_24m_1_1 : decode prog_24_method_1_code 1 = .ok (.invokespecial 1, 3) := by decide +kernel
theorem d_prog_24m_1_4 : decode prog_24_method_1_code 4 = .ok (.aload_n 0, 1) := by decide +kernel
theorem d_prog_24m_1_5 : decode prog_24_method_1_code 5 = .ok (.new 7, 3) := by decide +kernel
theorem d_prog_24m_1_8 : decode prog_24_method_1_code 8 = .ok (.dup, 1) := by decide +kernel
theorem d_prog_24m_1_9 : decode prog_24_method_1_code 9 = .ok (.invokespecial 9, 3) := by decide +kernel
theorem d_prog_24m_1_12 : decode prog_24_method_1_code 12 = .ok (.putfield 10, 3) := by decide +kernel
theorem d_prog_24m_1_15 : decode prog_24_method_1_code 15 = .ok (.aload_n 0, 1) := by decide +kernel
theorem d_prog_24m_1_16 : decode prog_24_method_1_code 16 = .ok (.new 16, 3) := by decide +kernel
theorem d_prog_24m_1_19 : decode prog_24_method_1_code 19 = .ok (.dup, 1) := by decide +kernel
theorem d_prog_24m_1_20 : decode prog_24_method_1_code 20 = .ok (.invokespecial 18, 3) := by decide +kernel
theorem d_prog_24m_1_23 : decode prog_24_method_1_code 23 = .ok (.putfield 19, 3) := by decide +kernel
theorem d_prog_24m_1_26 : decode prog_24_method_1_code 26 = .ok (.aload_n 0, 1) := by decide +kernel
theorem d_prog_24m_1_27 : decode prog_24_method_1_code 27 = .ok (.new 16, 3) := by decide +kernel
theorem d_prog_24m_1_30 : decode prog_24_method_1_code 30 = .ok (.dup, 1) := by decide +kernel
theorem d_prog_24m_1_31 : decode prog_24_method_1_code 31 = .ok (.invokespecial 18, 3) := by decide +kernel
theorem d_prog_24m_1_34 : decode prog_24_method_1_code 34 = .ok (.putfield 23, 3) := by decide +kernel
theorem d_prog_24m_1_37 : decode prog_24_method_1_code 37 = .ok (.aload_n 0, 1) := by decide +kernel
theorem d_prog_24m_1_38 : decode prog_24_method_1_code 38 = .ok (.aload_n 1, 1) := by decide +kernel
theorem d_prog_24m_1_39 : decode prog_24_method_1_code 39 = .ok (.putfield 26, 3) := by decide +kernel
theorem d_prog_24m_1_42 : decode prog_24_method_1_code 42 = .ok (.return_, 1) := by decide +kernel
theorem pn_14 : plainName "com/example/crud4/crud4/SqlBuilder" = true := by first | (simp [plainName, overriddenIn]; done) | decide +kernel
set_option maxRecDepth 65536 in
set_option maxHeartbeats 40000000 in
theorem rmSqI (l : Launch) (Z : State) (a0 : Array Value) (hw : ∀ d ∈ tables_1, d.before a0 Z = true) (o p1 D : Addr) (kD : ClassId) (z : Int32) (h0 : Heap) (n0 : Nat) (Z0 : n0 ≤ h0.size) (go : n0 ≤ o) (SC : Sta Z h0 "java/lang/String" "COMPACT_STRINGS" "Z" (.int z)) (hz : ¬ z = 0) (DE : DeOf Z h0 D kD) (EX : Exa Z h0 o "com/example/crud4/crud4/SqlBuilder") (F0 : Fld Z h0 o "com/example/crud4/crud4/SqlBuilder" "text" "Ljava/lang/StringBuilder;" .null) (F1 : Fld Z h0 o "com/example/crud4/crud4/SqlBuilder" "placeholders" "Ljava/util/List;" .null) (F2 : Fld Z h0 o "com/example/crud4/crud4/SqlBuilder" "values" "Ljava/util/List;" .null) (F3 : Fld Z h0 o "com/example/crud4/crud4/SqlBuilder" "parameter" "Lcom/example/crud4/crud4/StatementParameter;" .null) :
    Ct l yq23 prog_24_method_1_code 2 none ({ frames := 4, cells := 4, slots := 26, locals := 50 } : Room) Z #[(.ref o), (.ref p1)] h0 (fun v h L => v = none ∧ Fr n0 L ∧ Keep h0 h [o] ∧ ∃ b t kt pl vl, h0.size ≤ b ∧ h0.size ≤ t ∧ h0.size ≤ pl ∧ h0.size ≤ vl ∧ b ≠ t ∧ b ≠ pl ∧ b ≠ vl ∧ t ≠ pl ∧ t ≠ vl ∧ pl ≠ vl ∧ SqOf Z h o p1 b pl vl ∧ SbOf Z h b t kt [] 16 ∧ AlE Z h pl D ∧ AlE Z h vl D) := by
  refine ct_of (Q := fun v h L => v = none ∧ Fr n0 L ∧ Keep h0 h [o] ∧ ∃ b t kt pl vl, h0.size ≤ b ∧ h0.size ≤ t ∧ h0.size ≤ pl ∧ h0.size ≤ vl ∧ b ≠ t ∧ b ≠ pl ∧ b ≠ vl ∧ t ≠ pl ∧ t ≠ vl ∧ pl ≠ vl ∧ SqOf Z h o p1 b pl vl ∧ SbOf Z h b t kt [] 16 ∧ AlE Z h pl D ∧ AlE Z h vl D) (plainFor_of_name pn_14) ?_
  intro p e s m below meth c s₁ X0 hx hby hml hret hnm hlk hown hZ hs0 e0
  have N0 := Fr.nil n0
  rw [show entryFrame m #[(.ref o), (.ref p1)] 2 = mkF m 0 #[.val (.ref o), .val (.ref p1)] [] from by first | (simp [entryFrame, mkF, argsToLocals, Value.category]; done) | rfl]
  refine w_aloadN X0.here hx (hb hby d_prog_24m_1_0) rfl rfl (pc' := 1) rfl ?_
  refine w_initO X0 hx hZ hown (tw hw 134 rfl) (tw hw 19 rfl) (tw hw 20 rfl) e0 (by rw [hml]; rfl) (hb hby d_prog_24m_1_1) (by decide) (W := 0) (Nat.le_of_ble_eq_true rfl) (by decide) (pc' := 4) rfl ?_
  intro T142 X142 e142
  have En : Ext h0 h0 := Ext.rfl'
  have KK := Keep.refl h0 [o]
  have noD : D ≠ o := fun q => EX.neArv DE.2.1 (tw hw 129 rfl) q.symm
  refine w_aloadN X142.here hx (hb hby d_prog_24m_1_4) rfl rfl (pc' := 5) rfl ?_
  refine w_new X142 hx hZ hown (tw hw 135 rfl) (tw hw 136 rfl) (tw hw 137 rfl) e142 (hb hby d_prog_24m_1_5) (by decide) (by decide) (pc' := 8) rfl ?_
  intro T143 h143 b gb X143 e143 E143 A143 D143 U143
  have ge_b : h0.size ≤ b := Nat.le_trans KK.1 (Nat.le_of_eq gb)
  have g0_b : n0 ≤ b := Nat.le_trans Z0 ge_b
  have ne_o_b : o ≠ b := Nat.ne_of_lt (Nat.lt_of_lt_of_le EX.lt (Nat.le_of_eq gb))
  replace EX := EX.ext E143
  replace F0 := F0.ext E143
  replace F1 := F1.ext E143
  replace F2 := F2.ext E143
  replace F3 := F3.ext E143
  have KK := KK.ext E143
  have SC := SC.ext E143
  have DE := DE.ext E143
  have A_b := A143
  have FV : Fld Z h143 b "java/lang/AbstractStringBuilder" "value" "[B" .null := D143 (Or.inl (tw hw 150 rfl)) (ty := (.array .byte)) (by decide)
  have FC : Fld Z h143 b "java/lang/AbstractStringBuilder" "coder" "B" (.int (0 : Int32)) := D143 (Or.inl (tw hw 152 rfl)) (ty := .byte) (by decide)
  have FN : Fld Z h143 b "java/lang/AbstractStringBuilder" "count" "I" (.int (0 : Int32)) := D143 (Or.inl (tw hw 207 rfl)) (ty := .int) (by decide)
  refine w_dup X143.here hx (hb hby d_prog_24m_1_8) rfl (pc' := 9) rfl ?_
  refine w_special X143 hx hZ (y := (⟨"java/lang/StringBuilder", "<init>", "()V"⟩ : MethodName)) rfl hown (tw hw 138 rfl) (tw hw 139 rfl) (tw hw 140 rfl) (by decide) (backC (W := 2) (rmSbI l Z a0 hw b z h143 n0 g0_b SC hz A_b FV FC FN) hZ (tw hw 140 rfl) (tw hw 137 rfl) (by decide) (by decide)) e143 (by rw [hml]; rfl) (argsL := []) (st := [(.ref b), (.ref o)]) pd_14 rfl rfl rfl (Nat.le_of_ble_eq_true rfl) (hb hby d_prog_24m_1_9) (by decide) (by decide) (pc' := 12) rfl ?_
  intro T144 v144 L144 X144 Q144
  obtain ⟨rfl, N1, K1, t, kt, gt, B⟩ := Q144
  show Go _ _ _ _ T144 (mkF m 12 _ [(.ref b), (.ref o)])
  have N2 := Fr.app N0 N1
  have ge_t : h0.size ≤ t := Nat.le_trans KK.1 gt
  have ne_o_t : o ≠ t := Nat.ne_of_lt (Nat.lt_of_lt_of_le EX.lt gt)
  have ne_b_t : b ≠ t := Nat.ne_of_lt (Nat.lt_of_lt_of_le A_b.lt gt)
  have SC := staKeep SC K1 (allS A_b.nostat all0)
  have nDb : D ≠ b := fun q => A_b.neArv DE.2.1 (tw hw 136 rfl) q.symm
  have DE := DE.keep K1 (ninS nDb nin0) (allS A_b.nostat all0)
  replace EX := EX.keep K1
  replace F0 := F0.keep K1 (ninS ne_o_b nin0)
  replace F1 := F1.keep K1 (ninS ne_o_b nin0)
  replace F2 := F2.keep K1 (ninS ne_o_b nin0)
  replace F3 := F3.keep K1 (ninS ne_o_b nin0)
  have KK := KK.trans K1 (allS (Or.inr ge_b) all0)
  refine w_putF X144 hx hZ hown (tw hw 153 rfl) Via.refl rfl F0 EX (Or.inr ⟨(tw hw 154 rfl), rfl, hnm⟩) (tw hw 129 rfl) (ty := (.object "java/lang/StringBuilder")) (by decide) rfl rfl (hb hby d_prog_24m_1_12) (pc' := 15) rfl ?_
  intro T145 h145 X145 e145 W145
  have N145 := Fr.snoc X145 N2 go
  have KW145 := Keep.of_wr W145
  have KK := KK.wr W145 (Or.inl (List.mem_cons_self ..))
  have SC := SC.wr W145
  have DE : DeOf Z h145 D kD := ⟨DE.1.wr W145, DE.2.1.other W145 noD, DE.2.2.wr W145⟩
  have EX := EX.wr W145
  have F0 := Fld.same W145 F0
  have F1 := F1.other W145 (Or.inr (slot_ne (Or.inr (tw hw 158 rfl)) (Or.inr (tw hw 154 rfl)) (by decide) (t := (.object "java/util/List")) (t' := (.object "java/lang/StringBuilder")) (by decide) (by decide)))
  have F2 := F2.other W145 (Or.inr (slot_ne (Or.inr (tw hw 160 rfl)) (Or.inr (tw hw 154 rfl)) (by decide) (t := (.object "java/util/List")) (t' := (.object "java/lang/StringBuilder")) (by decide) (by decide)))
  have F3 := F3.other W145 (Or.inr (slot_ne (Or.inr (tw hw 162 rfl)) (Or.inr (tw hw 154 rfl)) (by decide) (t := (.object "com/example/crud4/crud4/StatementParameter")) (t' := (.object "java/lang/StringBuilder")) (by decide) (by decide)))
  have B := B.keep KW145 (ninS (Ne.symm ne_o_b) nin0) (ninS (Ne.symm ne_o_t) nin0)
  refine w_aloadN X145.here hx (hb hby d_prog_24m_1_15) rfl rfl (pc' := 16) rfl ?_
  refine w_new X145 hx hZ hown (tw hw 155 rfl) (tw hw 38 rfl) (tw hw 39 rfl) e145 (hb hby d_prog_24m_1_16) (by decide) (by decide) (pc' := 19) rfl ?_
  intro T146 h146 pl gpl X146 e146 E146 A146 D146 U146
  have ge_pl : h0.size ≤ pl := Nat.le_trans KK.1 (Nat.le_of_eq gpl)
  have g0_pl : n0 ≤ pl := Nat.le_trans Z0 ge_pl
  have ne_o_pl : o ≠ pl := Nat.ne_of_lt (Nat.lt_of_lt_of_le EX.lt (Nat.le_of_eq gpl))
  have ne_b_pl : b ≠ pl := Nat.ne_of_lt (Nat.lt_of_lt_of_le B.1.lt (Nat.le_of_eq gpl))
  have ne_t_pl : t ≠ pl := Nat.ne_of_lt (Nat.lt_of_lt_of_le B.2.2.2.2.1.lt (Nat.le_of_eq gpl))
  replace EX := EX.ext E146
  replace F0 := F0.ext E146
  replace F1 := F1.ext E146
  replace F2 := F2.ext E146
  replace F3 := F3.ext E146
  replace B := B.ext E146
  have KK := KK.ext E146
  have SC := SC.ext E146
  have DE := DE.ext E146
  have A_pl := A146
  have FD : Fld Z h146 pl "java/util/ArrayList" "elementData" "[Ljava/lang/Object;" .null := D146 (Or.inl (tw hw 60 rfl)) (ty := (.array (.object "java/lang/Object"))) (by decide)
  have FS : Fld Z h146 pl "java/util/ArrayList" "size" "I" (.int (0 : Int32)) := D146 (Or.inl (tw hw 73 rfl)) (ty := .int) (by decide)
  have FM : Fld Z h146 pl "java/util/AbstractList" "modCount" "I" (.int (0 : Int32)) := D146 (Or.inl (tw hw 57 rfl)) (ty := .int) (by decide)
  refine w_dup X146.here hx (hb hby d_prog_24m_1_19) rfl (pc' := 20) rfl ?_
  refine w_special X146 hx hZ (y := yq2) rfl hown (tw hw 156 rfl) (tw hw 41 rfl) (tw hw 42 rfl) (by decide) (backC (W := 2) (rmAL l Z a0 hw pl D kD h146 n0 g0_pl DE A_pl FD FS FM) hZ (tw hw 42 rfl) (tw hw 39 rfl) (by decide) (by decide)) e146 (by rw [hml]; rfl) (argsL := []) (st := [(.ref pl), (.ref o)]) pd_14 rfl rfl rfl (Nat.le_of_ble_eq_true rfl) (hb hby d_prog_24m_1_20) (by decide) (by decide) (pc' := 23) rfl ?_
  intro T147 v147 L147 X147 Q147
  obtain ⟨rfl, N1, K1, P⟩ := Q147
  show Go _ _ _ _ T147 (mkF m 23 _ [(.ref pl), (.ref o)])
  have N148 := Fr.app N145 N1
  have SC := staKeep SC K1 (allS A_pl.nostat all0)
  have nDb : D ≠ pl := fun q => A_pl.neArv DE.2.1 (tw hw 38 rfl) q.symm
  have DE := DE.keep K1 (ninS nDb nin0) (allS A_pl.nostat all0)
  replace EX := EX.keep K1
  replace F0 := F0.keep K1 (ninS ne_o_pl nin0)
  replace F1 := F1.keep K1 (ninS ne_o_pl nin0)
  replace F2 := F2.keep K1 (ninS ne_o_pl nin0)
  replace F3 := F3.keep K1 (ninS ne_o_pl nin0)
  replace B := B.keep K1 (ninS ne_b_pl nin0) (ninS ne_t_pl nin0)
  have KK := KK.trans K1 (allS (Or.inr ge_pl) all0)
  refine w_putF X147 hx hZ hown (tw hw 157 rfl) Via.refl rfl F1 EX (Or.inr ⟨(tw hw 158 rfl), rfl, hnm⟩) (tw hw 129 rfl) (ty := (.object "java/util/List")) (by decide) rfl rfl (hb hby d_prog_24m_1_23) (pc' := 26) rfl ?_
  intro T149 h149 X149 e149 W149
  have N149 := Fr.snoc X149 N148 go
  have KW149 := Keep.of_wr W149
  have KK := KK.wr W149 (Or.inl (List.mem_cons_self ..))
  have SC := SC.wr W149
  have DE : DeOf Z h149 D kD := ⟨DE.1.wr W149, DE.2.1.other W149 noD, DE.2.2.wr W149⟩
  have EX := EX.wr W149
  have F0 := F0.other W149 (Or.inr (slot_ne (Or.inr (tw hw 154 rfl)) (Or.inr (tw hw 158 rfl)) (by decide) (t := (.object "java/lang/StringBuilder")) (t' := (.object "java/util/List")) (by decide) (by decide)))
  have F1 := Fld.same W149 F1
  have F2 := F2.other W149 (Or.inr (slot_ne (Or.inr (tw hw 160 rfl)) (Or.inr (tw hw 158 rfl)) (by decide) (t := (.object "java/util/List")) (t' := (.object "java/util/List")) (by decide) (by decide)))
  have F3 := F3.other W149 (Or.inr (slot_ne (Or.inr (tw hw 162 rfl)) (Or.inr (tw hw 158 rfl)) (by decide) (t := (.object "com/example/crud4/crud4/StatementParameter")) (t' := (.object "java/util/List")) (by decide) (by decide)))
  have B := B.keep KW149 (ninS (Ne.symm ne_o_b) nin0) (ninS (Ne.symm ne_o_t) nin0)
  have P := P.keep KW149 (ninS (Ne.symm ne_o_pl) nin0)
  refine w_aloadN X149.here hx (hb hby d_prog_24m_1_26) rfl rfl (pc' := 27) rfl ?_
  refine w_new X149 hx hZ hown (tw hw 155 rfl) (tw hw 38 rfl) (tw hw 39 rfl) e149 (hb hby d_prog_24m_1_27) (by decide) (by decide) (pc' := 30) rfl ?_
  intro T150 h150 vl gvl X150 e150 E150 A150 D150 U150
  have ge_vl : h0.size ≤ vl := Nat.le_trans KK.1 (Nat.le_of_eq gvl)
  have g0_vl : n0 ≤ vl := Nat.le_trans Z0 ge_vl
  have ne_o_vl : o ≠ vl := Nat.ne_of_lt (Nat.lt_of_lt_of_le EX.lt (Nat.le_of_eq gvl))
  have ne_b_vl : b ≠ vl := Nat.ne_of_lt (Nat.lt_of_lt_of_le B.1.lt (Nat.le_of_eq gvl))
  have ne_t_vl : t ≠ vl := Nat.ne_of_lt (Nat.lt_of_lt_of_le B.2.2.2.2.1.lt (Nat.le_of_eq gvl))
  have ne_pl_vl : pl ≠ vl := Nat.ne_of_lt (Nat.lt_of_lt_of_le P.1.lt (Nat.le_of_eq gvl))
  replace EX := EX.ext E150
  replace F0 := F0.ext E150
  replace F1 := F1.ext E150
  replace F2 := F2.ext E150
  replace F3 := F3.ext E150
  replace B := B.ext E150
  replace P := P.ext E150
  have KK := KK.ext E150
  have SC := SC.ext E150
  have DE := DE.ext E150
  have A_vl := A150
  have FD : Fld Z h150 vl "java/util/ArrayList" "elementData" "[Ljava/lang/Object;" .null := D150 (Or.inl (tw hw 60 rfl)) (ty := (.array (.object "java/lang/Object"))) (by decide)
  have FS : Fld Z h150 vl "java/util/ArrayList" "size" "I" (.int (0 : Int32)) := D150 (Or.inl (tw hw 73 rfl)) (ty := .int) (by decide)
  have FM : Fld Z h150 vl "java/util/AbstractList" "modCount" "I" (.int (0 : Int32)) := D150 (Or.inl (tw hw 57 rfl)) (ty := .int) (by decide)
  refine w_dup X150.here hx (hb hby d_prog_24m_1_30) rfl (pc' := 31) rfl ?_
  refine w_special X150 hx hZ (y := yq2) rfl hown (tw hw 156 rfl) (tw hw 41 rfl) (tw hw 42 rfl) (by decide) (backC (W := 2) (rmAL l Z a0 hw vl D kD h150 n0 g0_vl DE A_vl FD FS FM) hZ (tw hw 42 rfl) (tw hw 39 rfl) (by decide) (by decide)) e150 (by rw [hml]; rfl) (argsL := []) (st := [(.ref vl), (.ref o)]) pd_14 rfl rfl rfl (Nat.le_of_ble_eq_true rfl) (hb hby d_prog_24m_1_31) (by decide) (by decide) (pc' := 34) rfl ?_
  intro T151 v151 L151 X151 Q151
  obtain ⟨rfl, N1, K1, V⟩ := Q151
  show Go _ _ _ _ T151 (mkF m 34 _ [(.ref vl), (.ref o)])
  have N152 := Fr.app N149 N1
  have SC := staKeep SC K1 (allS A_vl.nostat all0)
  have nDb : D ≠ vl := fun q => A_vl.neArv DE.2.1 (tw hw 38 rfl) q.symm
  have DE := DE.keep K1 (ninS nDb nin0) (allS A_vl.nostat all0)
  replace EX := EX.keep K1
  replace F0 := F0.keep K1 (ninS ne_o_vl nin0)
  replace F1 := F1.keep K1 (ninS ne_o_vl nin0)
  replace F2 := F2.keep K1 (ninS ne_o_vl nin0)
  replace F3 := F3.keep K1 (ninS ne_o_vl nin0)
  replace B := B.keep K1 (ninS ne_b_vl nin0) (ninS ne_t_vl nin0)
  replace P := P.keep K1 (ninS ne_pl_vl nin0)
  have KK := KK.trans K1 (allS (Or.inr ge_vl) all0)
  refine w_putF X151 hx hZ hown (tw hw 159 rfl) Via.refl rfl F2 EX (Or.inr ⟨(tw hw 160 rfl), rfl, hnm⟩) (tw hw 129 rfl) (ty := (.object "java/util/List")) (by decide) rfl rfl (hb hby d_prog_24m_1_34) (pc' := 37) rfl ?_
  intro T153 h153 X153 e153 W153
  have N153 := Fr.snoc X153 N152 go
  have KW153 := Keep.of_wr W153
  have KK := KK.wr W153 (Or.inl (List.mem_cons_self ..))
  have SC := SC.wr W153
  have DE : DeOf Z h153 D kD := ⟨DE.1.wr W153, DE.2.1.other W153 noD, DE.2.2.wr W153⟩
  have EX := EX.wr W153
  have F0 := F0.other W153 (Or.inr (slot_ne (Or.inr (tw hw 154 rfl)) (Or.inr (tw hw 160 rfl)) (by decide) (t := (.object "java/lang/StringBuilder")) (t' := (.object "java/util/List")) (by decide) (by decide)))
  have F1 := F1.other W153 (Or.inr (slot_ne (Or.inr (tw hw 158 rfl)) (Or.inr (tw hw 160 rfl)) (by decide) (t := (.object "java/util/List")) (t' := (.object "java/util/List")) (by decide) (by decide)))
  have F2 := Fld.same W153 F2
  have F3 := F3.other W153 (Or.inr (slot_ne (Or.inr (tw hw 162 rfl)) (Or.inr (tw hw 160 rfl)) (by decide) (t := (.object "com/example/crud4/crud4/StatementParameter")) (t' := (.object "java/util/List")) (by decide) (by decide)))
  have B := B.keep KW153 (ninS (Ne.symm ne_o_b) nin0) (ninS (Ne.symm ne_o_t) nin0)
  have P := P.keep KW153 (ninS (Ne.symm ne_o_pl) nin0)
  have V := V.keep KW153 (ninS (Ne.symm ne_o_vl) nin0)
  refine w_aloadN X153.here hx (hb hby d_prog_24m_1_37) rfl rfl (pc' := 38) rfl ?_
  refine w_aloadN X153.here hx (hb hby d_prog_24m_1_38) rfl rfl (pc' := 39) rfl ?_
  refine w_putF X153 hx hZ hown (tw hw 161 rfl) Via.refl e153 F3 EX (Or.inr ⟨(tw hw 162 rfl), rfl, hnm⟩) (tw hw 129 rfl) (ty := (.object "com/example/crud4/crud4/StatementParameter")) (by decide) rfl rfl (hb hby d_prog_24m_1_39) (pc' := 42) rfl ?_
  intro T154 h154 X154 e154 W154
  have N154 := Fr.snoc X154 N153 go
  have KW154 := Keep.of_wr W154
  have KK := KK.wr W154 (Or.inl (List.mem_cons_self ..))
  have SC := SC.wr W154
  have DE : DeOf Z h154 D kD := ⟨DE.1.wr W154, DE.2.1.other W154 noD, DE.2.2.wr W154⟩
  have EX := EX.wr W154
  have F0 := F0.other W154 (Or.inr (slot_ne (Or.inr (tw hw 154 rfl)) (Or.inr (tw hw 162 rfl)) (by decide) (t := (.object "java/lang/StringBuilder")) (t' := (.object "com/example/crud4/crud4/StatementParameter")) (by decide) (by decide)))
  have F1 := F1.other W154 (Or.inr (slot_ne (Or.inr (tw hw 158 rfl)) (Or.inr (tw hw 162 rfl)) (by decide) (t := (.object "java/util/List")) (t' := (.object "com/example/crud4/crud4/StatementParameter")) (by decide) (by decide)))
  have F2 := F2.other W154 (Or.inr (slot_ne (Or.inr (tw hw 160 rfl)) (Or.inr (tw hw 162 rfl)) (by decide) (t := (.object "java/util/List")) (t' := (.object "com/example/crud4/crud4/StatementParameter")) (by decide) (by decide)))
  have F3 := Fld.same W154 F3
  have B := B.keep KW154 (ninS (Ne.symm ne_o_b) nin0) (ninS (Ne.symm ne_o_t) nin0)
  have P := P.keep KW154 (ninS (Ne.symm ne_o_pl) nin0)
  have V := V.keep KW154 (ninS (Ne.symm ne_o_vl) nin0)
  exact endV X154 hx hlk hret (hb hby d_prog_24m_1_42) (by decide) (by decide) (by rw [e154]; exact ⟨rfl, N154, KK, b, t, kt, pl, vl, ge_b, ge_t, ge_pl, ge_vl, ne_b_t, ne_b_pl, ne_b_vl, ne_t_pl, ne_t_vl, ne_pl_vl, ⟨EX, F0, F1, F2, F3⟩, B, P, V⟩)
theorem d_prog_24m_3_0 : decode prog_24_method_3_code 0 = .ok (.new 11, 3) := by decide +kernel
theorem d_prog_24m_3_3 : decode prog_24_method_3_code 3 = .ok (.dup, 1) := by decide +kernel
theorem d_prog_24m_3_4 : decode prog_24_method_3_code 4 = .ok (.aload_n 0, 1) := by decide +kernel
theorem d_prog_24m_3_5 : decode prog_24_method_3_code 5 = .ok (.getfield 26, 3) := by decide +kernel
theorem pd_22 : parseMethodDescriptor "(Lcom/example/crud4/crud4/StatementParameter;)V" = some ⟨[(.object "com/example/crud4/crud4/StatementParameter")], none⟩ := by decide +kernel
theorem d_prog_24m_3_8 : decode prog_24_method_3_code 8 = .ok (.invokespecial 30, 3) := by decide +kernel
theorem d_prog_24m_3_11 : decode prog_24_method_3_code 11 = .ok (.areturn, 1) := by decide +kernel
set_option maxRecDepth 65536 in
set_option maxHeartbeats 40000000 in
theorem rmNest (l : Launch) (Z : State) (a0 : Array Value) (hw : ∀ d ∈ tables_1, d.before a0 Z = true) (o p1 b0 pl0 vl0 D : Addr) (kD : ClassId) (z : Int32) (h0 : Heap) (n0 : Nat) (Z0 : n0 ≤ h0.size) (SC : Sta Z h0 "java/lang/String" "COMPACT_STRINGS" "Z" (.int z)) (hz : ¬ z = 0) (DE : DeOf Z h0 D kD) (S : SqOf Z h0 o p1 b0 pl0 vl0) :
    Ct l yq15 prog_24_method_3_code 1 (some (.object "com/example/crud4/crud4/SqlBuilder")) ({ frames := 5, cells := 5, slots := 30, locals := 64 } : Room) Z #[(.ref o)] h0 (fun v h L => ∃ o2, v = some (.ref o2) ∧ Fr n0 L ∧ Ext h0 h ∧ h0.size ≤ o2 ∧ ∃ b t kt pl vl, h0.size ≤ b ∧ h0.size ≤ t ∧ h0.size ≤ pl ∧ h0.size ≤ vl ∧ b ≠ t ∧ b ≠ pl ∧ b ≠ vl ∧ t ≠ pl ∧ t ≠ vl ∧ pl ≠ vl ∧ o2 ≠ b ∧ o2 ≠ t ∧ o2 ≠ pl ∧ o2 ≠ vl ∧ SqOf Z h o2 p1 b pl vl ∧ SbOf Z h b t kt [] 16 ∧ AlE Z h pl D ∧ AlE Z h vl D) := by
  refine ct_of (Q := fun v h L => ∃ o2, v = some (.ref o2) ∧ Fr n0 L ∧ Ext h0 h ∧ h0.size ≤ o2 ∧ ∃ b t kt pl vl, h0.size ≤ b ∧ h0.size ≤ t ∧ h0.size ≤ pl ∧ h0.size ≤ vl ∧ b ≠ t ∧ b ≠ pl ∧ b ≠ vl ∧ t ≠ pl ∧ t ≠ vl ∧ pl ≠ vl ∧ o2 ≠ b ∧ o2 ≠ t ∧ o2 ≠ pl ∧ o2 ≠ vl ∧ SqOf Z h o2 p1 b pl vl ∧ SbOf Z h b t kt [] 16 ∧ AlE Z h pl D ∧ AlE Z h vl D) (plainFor_of_name pn_14) ?_
  intro p e s m below meth c s₁ X0 hx hby hml hret hnm hlk hown hZ hs0 e0
  have N0 := Fr.nil n0
  rw [show entryFrame m #[(.ref o)] 1 = mkF m 0 #[.val (.ref o)] [] from by first | (simp [entryFrame, mkF, argsToLocals, Value.category]; done) | rfl]
  refine w_new X0 hx hZ hown (tw hw 168 rfl) (tw hw 129 rfl) (tw hw 130 rfl) e0 (hb hby d_prog_24m_3_0) (by decide) (by decide) (pc' := 3) rfl ?_
  intro T155 h155 o2 go2 X155 e155 E155 A155 D155 U155
  have ge_o2_h0 : h0.size ≤ o2 := Nat.le_trans (Ext.rfl' : Ext h0 h0).1 (Nat.le_of_eq go2)
  have C156 : Ext h0 h155 := Ext.trs Ext.rfl' E155
  have go2 : n0 ≤ o2 := Nat.le_trans Z0 ge_o2_h0
  have F0 : Fld Z h155 o2 "com/example/crud4/crud4/SqlBuilder" "text" "Ljava/lang/StringBuilder;" .null := D155 (Or.inr (tw hw 154 rfl)) (ty := (.object "java/lang/StringBuilder")) (by decide)
  have F1 : Fld Z h155 o2 "com/example/crud4/crud4/SqlBuilder" "placeholders" "Ljava/util/List;" .null := D155 (Or.inr (tw hw 158 rfl)) (ty := (.object "java/util/List")) (by decide)
  have F2 : Fld Z h155 o2 "com/example/crud4/crud4/SqlBuilder" "values" "Ljava/util/List;" .null := D155 (Or.inr (tw hw 160 rfl)) (ty := (.object "java/util/List")) (by decide)
  have F3 : Fld Z h155 o2 "com/example/crud4/crud4/SqlBuilder" "parameter" "Lcom/example/crud4/crud4/StatementParameter;" .null := D155 (Or.inr (tw hw 162 rfl)) (ty := (.object "com/example/crud4/crud4/StatementParameter")) (by decide)
  refine w_dup X155.here hx (hb hby d_prog_24m_3_3) rfl (pc' := 4) rfl ?_
  refine w_aloadN X155.here hx (hb hby d_prog_24m_3_4) rfl rfl (pc' := 5) rfl ?_
  refine w_getF X155 hx hZ hown (tw hw 161 rfl) Via.refl e155 (S.2.2.2.2.ext C156) (hb hby d_prog_24m_3_5) (pc' := 8) rfl ?_
  intro T157 X157 e157
  refine w_special X157 hx hZ (y := yq23) rfl hown (tw hw 169 rfl) (tw hw 132 rfl) (tw hw 133 rfl) (by decide) (backC (W := 1) (rmSqI l Z a0 hw o2 p1 D kD z h155 n0 (Nat.le_trans Z0 C156.1) go2 (SC.ext C156) hz (DE.ext C156) A155 F0 F1 F2 F3) hZ (tw hw 133 rfl) (tw hw 130 rfl) (by decide) (by decide)) e157 (by rw [hml]; rfl) (argsL := [(.ref p1)]) (st := [(.ref o2)]) pd_22 rfl rfl rfl (Nat.le_of_ble_eq_true rfl) (hb hby d_prog_24m_3_8) (by decide) (by decide) (pc' := 11) rfl ?_
  intro T158 v158 L158 X158 Q158
  obtain ⟨rfl, N1, K1, b, t, kt, pl, vl, gb, gt, gp, gv, n1, n2, n3, n4, n5, n6, S2, B, P, V⟩ := Q158
  show Go _ _ _ _ T158 (mkF m 11 _ [(.ref o2)])
  have lo : o2 < h155.size := A155.lt
  exact endR X158 hx hlk rfl hret rfl (hb hby d_prog_24m_3_11) (by decide) (by decide) (⟨o2, rfl, Fr.app N0 N1, Ext.kp C156 K1 (allS ge_o2_h0 all0), ge_o2_h0, b, t, kt, pl, vl, Nat.le_trans C156.1 gb, Nat.le_trans C156.1 gt, Nat.le_trans C156.1 gp, Nat.le_trans C156.1 gv, n1, n2, n3, n4, n5, n6, Nat.ne_of_lt (Nat.lt_of_lt_of_le lo gb), Nat.ne_of_lt (Nat.lt_of_lt_of_le lo gt), Nat.ne_of_lt (Nat.lt_of_lt_of_le lo gp), Nat.ne_of_lt (Nat.lt_of_lt_of_le lo gv), S2, B, P, V⟩)
theorem d_prog_24m_2_0 : decode prog_24_method_2_code 0 = .ok (.aload_n 0, 1) := by decide +kernel
theorem d_prog_24m_2_1 : decode prog_24_method_2_code 1 = .ok (.getfield 26, 3) := by decide +kernel
theorem d_prog_24m_2_4 : decode prog_24_method_2_code 4 = .ok (.areturn, 1) := by decide +kernel
set_option maxRecDepth 65536 in
set_option maxHeartbeats 40000000 in
theorem rmGp (l : Launch) (Z : State) (a0 : Array Value) (hw : ∀ d ∈ tables_1, d.before a0 Z = true) (o p1 b pl vl : Addr) (h0 : Heap) (S : SqOf Z h0 o p1 b pl vl) :
    Ct l yq16 prog_24_method_2_code 1 (some (.object "com/example/crud4/crud4/StatementParameter")) ({ frames := 0, cells := 0, slots := 0, locals := 0 } : Room) Z #[(.ref o)] h0 (fun v h L => v = some (.ref p1) ∧ L = [] ∧ h = h0) := by
  refine ct_of (Q := fun v h L => v = some (.ref p1) ∧ L = [] ∧ h = h0) (plainFor_of_name pn_14) ?_
  intro p e s m below meth c s₁ X0 hx hby hml hret hnm hlk hown hZ hs0 e0
  rw [show entryFrame m #[(.ref o)] 1 = mkF m 0 #[.val (.ref o)] [] from by first | (simp [entryFrame, mkF, argsToLocals, Value.category]; done) | rfl]
  refine w_aloadN X0.here hx (hb hby d_prog_24m_2_0) rfl rfl (pc' := 1) rfl ?_
  refine w_getF X0 hx hZ hown (tw hw 161 rfl) Via.refl e0 S.2.2.2.2 (hb hby d_prog_24m_2_1) (pc' := 4) rfl ?_
  intro T159 X159 e159
  exact endR X159 hx hlk rfl hret rfl (hb hby d_prog_24m_2_4) (by decide) (by decide) (by rw [e159]; exact ⟨rfl, rfl, rfl⟩)
theorem d_prog_24m_8_0 : decode prog_24_method_8_code 0 = .ok (.aload_n 0, 1) := by decide +kernel
theorem d_prog_24m_8_1 : decode prog_24_method_8_code 1 = .ok (.getfield 19, 3) := by decide +kernel
theorem d_prog_24m_8_4 : decode prog_24_method_8_code 4 = .ok (.areturn, 1) := by decide +kernel
set_option maxRecDepth 65536 in
set_option maxHeartbeats 40000000 in
theorem rmGl (l : Launch) (Z : State) (a0 : Array Value) (hw : ∀ d ∈ tables_1, d.before a0 Z = true) (o p1 b pl vl : Addr) (h0 : Heap) (S : SqOf Z h0 o p1 b pl vl) :
    Ct l yq17 prog_24_method_8_code 1 (some (.object "java/util/List")) ({ frames := 0, cells := 0, slots := 0, locals := 0 } : Room) Z #[(.ref o)] h0 (fun v h L => v = some (.ref pl) ∧ L = [] ∧ h = h0) := by
  refine ct_of (Q := fun v h L => v = some (.ref pl) ∧ L = [] ∧ h = h0) (plainFor_of_name pn_14) ?_
  intro p e s m below meth c s₁ X0 hx hby hml hret hnm hlk hown hZ hs0 e0
  rw [show entryFrame m #[(.ref o)] 1 = mkF m 0 #[.val (.ref o)] [] from by first | (simp [entryFrame, mkF, argsToLocals, Value.category]; done) | rfl]
  refine w_aloadN X0.here hx (hb hby d_prog_24m_8_0) rfl rfl (pc' := 1) rfl ?_
  refine w_getF X0 hx hZ hown (tw hw 157 rfl) Via.refl e0 S.2.2.1 (hb hby d_prog_24m_8_1) (pc' := 4) rfl ?_
  intro T160 X160 e160
  exact endR X160 hx hlk rfl hret rfl (hb hby d_prog_24m_8_4) (by decide) (by decide) (by rw [e160]; exact ⟨rfl, rfl, rfl⟩)
theorem d_prog_24m_9_0 : decode prog_24_method_9_code 0 = .ok (.aload_n 0, 1) := by decide +kernel
theorem d_prog_24m_9_1 : decode prog_24_method_9_code 1 = .ok (.getfield 23, 3) := by decide +kernel
theorem d_prog_24m_9_4 : decode prog_24_method_9_code 4 = .ok (.areturn, 1) := by decide +kernel
set_option maxRecDepth 65536 in
set_option maxHeartbeats 40000000 in
theorem rmGv (l : Launch) (Z : State) (a0 : Array Value) (hw : ∀ d ∈ tables_1, d.before a0 Z = true) (o p1 b pl vl : Addr) (h0 : Heap) (S : SqOf Z h0 o p1 b pl vl) :
    Ct l yq0 prog_24_method_9_code 1 (some (.object "java/util/List")) ({ frames := 0, cells := 0, slots := 0, locals := 0 } : Room) Z #[(.ref o)] h0 (fun v h L => v = some (.ref vl) ∧ L = [] ∧ h = h0) := by
  refine ct_of (Q := fun v h L => v = some (.ref vl) ∧ L = [] ∧ h = h0) (plainFor_of_name pn_14) ?_
  intro p e s m below meth c s₁ X0 hx hby hml hret hnm hlk hown hZ hs0 e0
  rw [show entryFrame m #[(.ref o)] 1 = mkF m 0 #[.val (.ref o)] [] from by first | (simp [entryFrame, mkF, argsToLocals, Value.category]; done) | rfl]
  refine w_aloadN X0.here hx (hb hby d_prog_24m_9_0) rfl rfl (pc' := 1) rfl ?_
  refine w_getF X0 hx hZ hown (tw hw 159 rfl) Via.refl e0 S.2.2.2.1 (hb hby d_prog_24m_9_1) (pc' := 4) rfl ?_
  intro T161 X161 e161
  exact endR X161 hx hlk rfl hret rfl (hb hby d_prog_24m_9_4) (by decide) (by decide) (by rw [e161]; exact ⟨rfl, rfl, rfl⟩)
theorem d_prog_24m_7_0 : decode prog_24_method_7_code 0 = .ok (.aload_n 0, 1) := by decide +kernel
theorem d_prog_24m_7_1 : decode prog_24_method_7_code 1 = .ok (.getfield 10, 3) := by decide +kernel
theorem pd_23 : parseMethodDescriptor "()Ljava/lang/String;" = some ⟨[], some (.object "java/lang/String")⟩ := by decide +kernel
theorem d_prog_24m_7_4 : decode prog_24_method_7_code 4 = .ok (.invokevirtual 95, 3) := by decide +kernel
theorem d_prog_24m_7_7 : decode prog_24_method_7_code 7 = .ok (.areturn, 1) := by decide +kernel
set_option maxRecDepth 65536 in
set_option maxHeartbeats 40000000 in
theorem rmTx (l : Launch) (Z : State) (a0 : Array Value) (hw : ∀ d ∈ tables_1, d.before a0 Z = true) (o p1 b pl vl t : Addr) (kt : ClassId) (cs : List Int32) (z : Int32) (h0 : Heap) (n0 : Nat) (Z0 : n0 ≤ h0.size) (SC : Sta Z h0 "java/lang/String" "COMPACT_STRINGS" "Z" (.int z)) (hz : ¬ z = 0) (S : SqOf Z h0 o p1 b pl vl) (B : SbOf Z h0 b t kt cs 16) (hl : cs.length ≤ 4) :
    Ct l yq1 prog_24_method_7_code 1 (some (.object "java/lang/String")) ({ frames := 6, cells := 2, slots := 8, locals := 91 } : Room) Z #[(.ref o)] h0 (fun v h L => ∃ x u ku, v = some (.ref x) ∧ Fr n0 L ∧ Ext h0 h ∧ h0.size ≤ x ∧ h0.size ≤ u ∧ LstOf Z h x u ku cs) := by
  refine ct_of (Q := fun v h L => ∃ x u ku, v = some (.ref x) ∧ Fr n0 L ∧ Ext h0 h ∧ h0.size ≤ x ∧ h0.size ≤ u ∧ LstOf Z h x u ku cs) (plainFor_of_name pn_14) ?_
  intro p e s m below meth c s₁ X0 hx hby hml hret hnm hlk hown hZ hs0 e0
  have N0 := Fr.nil n0
  rw [show entryFrame m #[(.ref o)] 1 = mkF m 0 #[.val (.ref o)] [] from by first | (simp [entryFrame, mkF, argsToLocals, Value.category]; done) | rfl]
  refine w_aloadN X0.here hx (hb hby d_prog_24m_7_0) rfl rfl (pc' := 1) rfl ?_
  refine w_getF X0 hx hZ hown (tw hw 153 rfl) Via.refl e0 S.2.1 (hb hby d_prog_24m_7_1) (pc' := 4) rfl ?_
  intro T162 X162 e162
  refine w_virtual X162 hx hZ (y := yq31) (z := yq31) hown (tw hw 180 rfl) (tw hw 181 rfl) (notFace_of_selects (args := #[]) (mvT hZ (tw hw 183 rfl))) (tw hw 183 rfl) (tw hw 182 rfl) (by decide) (backC (W := 0) (rmToS l Z a0 hw b t kt cs 16 z h0 n0 Z0 SC hz B (by omega) hl) hZ (tw hw 184 rfl) (tw hw 137 rfl) (by decide) (by decide)) e162 B.1 (by rw [hml]; rfl) (argsL := []) (st := []) pd_23 rfl rfl rfl (Nat.le_of_ble_eq_true rfl) (hb hby d_prog_24m_7_4) (by decide) (by decide) (pc' := 7) rfl ?_
  intro T163 v163 L163 X163 Q163
  obtain ⟨x, u, ku, rfl, N1, G⟩ := Q163
  show Go _ _ _ _ T163 (mkF m 7 _ [(.ref x)])
  exact endR X163 hx hlk rfl hret rfl (hb hby d_prog_24m_7_7) (by decide) (by decide) (⟨x, u, ku, rfl, Fr.app N0 N1, G⟩)
theorem d_prog_24m_6_0 : decode prog_24_method_6_code 0 = .ok (.aload_n 0, 1) := by decide +kernel
theorem d_prog_24m_6_1 : decode prog_24_method_6_code 1 = .ok (.getfield 10, 3) := by decide +kernel
theorem d_prog_24m_6_4 : decode prog_24_method_6_code 4 = .ok (.invokevirtual 64, 3) := by decide +kernel
theorem d_prog_24m_6_7 : decode prog_24_method_6_code 7 = .ok (.ifCond .le 47, 3) := by decide +kernel
theorem d_prog_24m_6_54 : decode prog_24_method_6_code 54 = .ok (.iconst 0, 1) := by decide +kernel
theorem d_prog_24m_6_55 : decode prog_24_method_6_code 55 = .ok (.istore 4, 2) := by decide +kernel
theorem d_prog_24m_6_57 : decode prog_24_method_6_code 57 = .ok (.iload 4, 2) := by decide +kernel
theorem d_prog_24m_6_59 : decode prog_24_method_6_code 59 = .ok (.ifCond .eq 13, 3) := by decide +kernel
theorem d_prog_24m_6_72 : decode prog_24_method_6_code 72 = .ok (.aload_n 0, 1) := by decide +kernel
theorem d_prog_24m_6_73 : decode prog_24_method_6_code 73 = .ok (.getfield 10, 3) := by decide +kernel
theorem d_prog_24m_6_76 : decode prog_24_method_6_code 76 = .ok (.aload_n 1, 1) := by decide +kernel
theorem pd_24 : parseMethodDescriptor "(Ljava/lang/String;)Ljava/lang/StringBuilder;" = some ⟨[(.object "java/lang/String")], some (.object "java/lang/StringBuilder")⟩ := by decide +kernel
theorem d_prog_24m_6_77 : decode prog_24_method_6_code 77 = .ok (.invokevirtual 88, 3) := by decide +kernel
theorem d_prog_24m_6_80 : decode prog_24_method_6_code 80 = .ok (.pop, 1) := by decide +kernel
theorem d_prog_24m_6_81 : decode prog_24_method_6_code 81 = .ok (.aload_n 0, 1) := by decide +kernel
theorem d_prog_24m_6_82 : decode prog_24_method_6_code 82 = .ok (.getfield 19, 3) := by decide +kernel
theorem d_prog_24m_6_85 : decode prog_24_method_6_code 85 = .ok (.aload_n 2, 1) := by decide +kernel
theorem pd_25 : parseMethodDescriptor "(Ljava/util/Collection;)Z" = some ⟨[(.object "java/util/Collection")], some .boolean⟩ := by decide +kernel
theorem d_prog_24m_6_86 : decode prog_24_method_6_code 86 = .ok (.invokeinterface 91 2, 5) := by decide +kernel
theorem d_prog_24m_6_91 : decode prog_24_method_6_code 91 = .ok (.pop, 1) := by decide +kernel
theorem d_prog_24m_6_92 : decode prog_24_method_6_code 92 = .ok (.aload_n 0, 1) := by decide +kernel
theorem d_prog_24m_6_93 : decode prog_24_method_6_code 93 = .ok (.getfield 23, 3) := by decide +kernel
theorem d_prog_24m_6_96 : decode prog_24_method_6_code 96 = .ok (.aload_n 3, 1) := by decide +kernel
theorem d_prog_24m_6_97 : decode prog_24_method_6_code 97 = .ok (.invokeinterface 91 2, 5) := by decide +kernel
theorem d_prog_24m_6_102 : decode prog_24_method_6_code 102 = .ok (.pop, 1) := by decide +kernel
theorem d_prog_24m_6_103 : decode prog_24_method_6_code 103 = .ok (.return_, 1) := by decide +kernel
theorem keepMore {h h' : Heap} {b t pl vl : Addr} (K : Keep h h' [b, t]) : Keep h h' [b, t, pl, vl] := ⟨K.1, fun x c q r => K.2.1 x c q (fun hm => r (by simp only [List.mem_cons, List.not_mem_nil, or_false] at hm ⊢; rcases hm with h | h <;> simp [h])), K.2.2⟩
set_option maxRecDepth 65536 in
set_option maxHeartbeats 40000000 in
theorem rmSqA (l : Launch) (Z : State) (a0 : Array Value) (hw : ∀ d ∈ tables_1, d.before a0 Z = true) (o p1 b pl vl t x u el vc av i D mr : Addr) (kt ku ka kD : ClassId) (ds : List Int32) (xv z : Int32) (h0 : Heap) (n0 : Nat) (Z0 : n0 ≤ h0.size) (gb : n0 ≤ b) (gt : n0 ≤ t) (gp : n0 ≤ pl) (gv : n0 ≤ vl) (SC : Sta Z h0 "java/lang/String" "COMPACT_STRINGS" "Z" (.int z)) (hz : ¬ z = 0) (M : MirO Z "[Ljava/lang/Object;" mr) (DE : DeOf Z h0 D kD) (S : SqOf Z h0 o p1 b pl vl) (B : SbOf Z h0 b t kt [] 16) (PL : AlE Z h0 pl D) (VL : AlE Z h0 vl D) (G : LstOf Z h0 x u ku ds) (hds : ds.length ≤ 4) (EL : AlE Z h0 el D) (VC : Al1 Z h0 vc av ka i) (I1 : IntOf Z h0 i xv) (dDt : D ≠ t) (d_t_b : t ≠ b) (d_pl_b : pl ≠ b) (d_pl_t : pl ≠ t) (d_vl_b : vl ≠ b) (d_vl_t : vl ≠ t) (d_vl_pl : vl ≠ pl) (d_o_b : o ≠ b) (d_o_t : o ≠ t) (d_o_pl : o ≠ pl) (d_o_vl : o ≠ vl) (d_el_b : el ≠ b) (d_el_t : el ≠ t) (d_el_pl : el ≠ pl) (d_el_vl : el ≠ vl) (d_vc_b : vc ≠ b) (d_vc_t : vc ≠ t) (d_vc_pl : vc ≠ pl) (d_vc_vl : vc ≠ vl) (d_av_b : av ≠ b) (d_av_t : av ≠ t) (d_av_pl : av ≠ pl) (d_av_vl : av ≠ vl) (d_x_b : x ≠ b) (d_x_t : x ≠ t) (d_x_pl : x ≠ pl) (d_x_vl : x ≠ vl) (d_u_b : u ≠ b) (d_u_t : u ≠ t) (d_u_pl : u ≠ pl) (d_u_vl : u ≠ vl) (d_i_b : i ≠ b) (d_i_t : i ≠ t) (d_i_pl : i ≠ pl) (d_i_vl : i ≠ vl) :
    Ct l yq6 prog_24_method_6_code 5 none ({ frames := 5, cells := 3, slots := 11, locals := 75 } : Room) Z #[(.ref o), (.ref x), (.ref el), (.ref vc)] h0 (fun v h L => v = none ∧ Fr n0 L ∧ Keep h0 h [b, t, pl, vl] ∧ SbOf Z h b t kt ds 16 ∧ AlE Z h pl D ∧ ∃ a5 k5, h0.size ≤ a5 ∧ Al1 Z h vl a5 k5 i) := by
  refine ct_of (Q := fun v h L => v = none ∧ Fr n0 L ∧ Keep h0 h [b, t, pl, vl] ∧ SbOf Z h b t kt ds 16 ∧ AlE Z h pl D ∧ ∃ a5 k5, h0.size ≤ a5 ∧ Al1 Z h vl a5 k5 i) (plainFor_of_name pn_14) ?_
  intro p e s m below meth c s₁ X0 hx hby hml hret hnm hlk hown hZ hs0 e0
  have N0 := Fr.nil n0
  rw [show entryFrame m #[(.ref o), (.ref x), (.ref el), (.ref vc)] 5 = mkF m 0 #[.val (.ref o), .val (.ref x), .val (.ref el), .val (.ref vc), .unset] [] from by first | (simp [entryFrame, mkF, argsToLocals, Value.category]; done) | rfl]
  refine w_aloadN X0.here hx (hb hby d_prog_24m_6_0) rfl rfl (pc' := 1) rfl ?_
  refine w_getF X0 hx hZ hown (tw hw 153 rfl) Via.refl e0 S.2.1 (hb hby d_prog_24m_6_1) (pc' := 4) rfl ?_
  intro T164 X164 e164
  refine w_virtual X164 hx hZ (y := yq18) (z := yq18) hown (tw hw 258 rfl) (tw hw 259 rfl) (notFace_of_selects (args := #[]) (mvT hZ (tw hw 260 rfl))) (tw hw 260 rfl) (tw hw 201 rfl) (by decide) (backC (W := 0) (rmLenS l Z a0 hw b t kt [] 16 h0 B) hZ (tw hw 202 rfl) (tw hw 137 rfl) (by decide) (by decide)) e164 B.1 (by rw [hml]; rfl) (argsL := []) (st := []) pd_0 rfl rfl rfl (Nat.le_of_ble_eq_true rfl) (hb hby d_prog_24m_6_4) (by decide) (by decide) (pc' := 7) rfl ?_
  intro T165 v165 L165 X165 Q165
  obtain ⟨rfl, rfl, hh⟩ := Q165
  show Go _ _ _ _ T165 (mkF m 7 _ [(.int (0 : Int32))])
  rw [List.append_nil] at X165
  refine w_ifYes X165.here hx (hb hby d_prog_24m_6_7) (flt (show ¬ ((0 : Int32) < (0 : Int32)) from by decide)).2.2.2 (pc' := 54) (by decide) (by decide) ?_
  refine w_iconst X165.here hx (hb hby d_prog_24m_6_54) (z := 0) rfl (pc' := 55) rfl ?_
  refine w_istore X165.here hx (hb hby d_prog_24m_6_55) (l' := #[.val (.ref o), .val (.ref x), .val (.ref el), .val (.ref vc), .val (.int (0 : Int32))]) rfl (pc' := 57) rfl ?_
  refine w_iload X165.here hx (hb hby d_prog_24m_6_57) rfl (pc' := 59) rfl ?_
  refine w_ifYes X165.here hx (hb hby d_prog_24m_6_59) (teq (show (0 : Int32) = (0 : Int32) from rfl)).1 (pc' := 72) (by decide) (by decide) ?_
  refine w_aloadN X165.here hx (hb hby d_prog_24m_6_72) rfl rfl (pc' := 73) rfl ?_
  refine w_getF X165 hx hZ hown (tw hw 153 rfl) Via.refl hh S.2.1 (hb hby d_prog_24m_6_73) (pc' := 76) rfl ?_
  intro T166 X166 e166
  refine w_aloadN X166.here hx (hb hby d_prog_24m_6_76) rfl rfl (pc' := 77) rfl ?_
  refine w_virtual X166 hx hZ (y := yq30) (z := yq30) hown (tw hw 261 rfl) (tw hw 262 rfl) (notFace_of_selects (args := #[]) (mvT hZ (tw hw 264 rfl))) (tw hw 264 rfl) (tw hw 263 rfl) (by decide) (backC (W := 0) (rmApFS l Z a0 hw b t x u kt ku [] ds 16 z h0 n0 Z0 gb gt SC hz B G (by have := hds; simp; omega)) hZ (tw hw 265 rfl) (tw hw 137 rfl) (by decide) (by decide)) e166 B.1 (by rw [hml]; rfl) (argsL := [(.ref x)]) (st := []) pd_24 rfl rfl rfl (Nat.le_of_ble_eq_true rfl) (hb hby d_prog_24m_6_77) (by decide) (by decide) (pc' := 80) rfl ?_
  intro T167 v167 L167 X167 Q167
  obtain ⟨rfl, N1, K1, B1⟩ := Q167
  show Go _ _ _ _ T167 (mkF m 80 _ [(.ref b)])
  have N2 := Fr.app N0 N1
  have DEb : DeOf Z T167.heap D kD := DE.keep K1 (ninS (fun q => B.1.neArv DE.2.1 (tw hw 136 rfl) q.symm) (ninS dDt nin0)) (allS B.1.nostat (allS B.2.2.2.2.1.nostat all0))
  replace S := S.keep K1 (ninS d_o_b (ninS d_o_t nin0))
  replace PL := PL.keep K1 (ninS d_pl_b (ninS d_pl_t nin0))
  replace VL := VL.keep K1 (ninS d_vl_b (ninS d_vl_t nin0))
  replace EL := EL.keep K1 (ninS d_el_b (ninS d_el_t nin0))
  replace VC := VC.keep K1 (ninS d_vc_b (ninS d_vc_t nin0)) (ninS d_av_b (ninS d_av_t nin0))
  replace G := G.keep K1 (ninS d_x_b (ninS d_x_t nin0)) (ninS d_u_b (ninS d_u_t nin0))
  replace I1 := I1.keep K1 (ninS d_i_b (ninS d_i_t nin0))
  have Z1 : n0 ≤ T167.heap.size := Nat.le_trans Z0 K1.1
  refine w_pop X167.here hx (hb hby d_prog_24m_6_80) rfl (pc' := 81) rfl ?_
  refine w_aloadN X167.here hx (hb hby d_prog_24m_6_81) rfl rfl (pc' := 82) rfl ?_
  refine w_getF X167 hx hZ hown (tw hw 157 rfl) Via.refl rfl S.2.2.1 (hb hby d_prog_24m_6_82) (pc' := 85) rfl ?_
  intro T168 X168 e168
  refine w_aloadN X168.here hx (hb hby d_prog_24m_6_85) rfl rfl (pc' := 86) rfl ?_
  obtain ⟨PX, PD, PS, mp, PM⟩ := PL
  refine w_interface X168 hx hZ (y := (⟨"java/util/List", "addAll", "(Ljava/util/Collection;)Z"⟩ : MethodName)) (z := yq22) hown (tw hw 302 rfl) (tw hw 303 rfl) (mvT hZ (tw hw 304 rfl)) (tw hw 305 rfl) (tw hw 306 rfl) (tw hw 307 rfl) (tw hw 308 rfl) (tw hw 68 rfl) (by decide) (backC5 (W := 0) (rmAll0 l Z a0 hw pl el D mr kD mp T167.heap n0 Z1 gp M DEb PX PD PS PM EL) hZ (tw hw 309 rfl) (tw hw 39 rfl) (by decide) (by decide)) e168 PX (by rw [hml]; rfl) (argsL := [(.ref el)]) (st := []) pd_25 rfl rfl rfl (Nat.le_of_ble_eq_true rfl) (hb hby d_prog_24m_6_86) (by decide) (by decide) (pc' := 91) rfl ?_
  intro T169 v169 L169 X169 Q169
  obtain ⟨rfl, N3, K2, PL⟩ := Q169
  show Go _ _ _ _ T169 (mkF m 91 _ [(.int (0 : Int32))])
  have N4 := Fr.app N2 N3
  have DEc : DeOf Z T169.heap D kD := DEb.keep K2 (ninS (fun q => PX.neArv DEb.2.1 (tw hw 38 rfl) q.symm) nin0) (allS PX.nostat all0)
  replace S := S.keep K2 (ninS d_o_pl nin0)
  replace VL := VL.keep K2 (ninS d_vl_pl nin0)
  replace EL := EL.keep K2 (ninS d_el_pl nin0)
  replace VC := VC.keep K2 (ninS d_vc_pl nin0) (ninS d_av_pl nin0)
  replace G := G.keep K2 (ninS d_x_pl nin0) (ninS d_u_pl nin0)
  replace I1 := I1.keep K2 (ninS d_i_pl nin0)
  have B2 := B1.keep K2 (ninS (Ne.symm d_pl_b) nin0) (ninS (Ne.symm d_pl_t) nin0)
  have Z2 : n0 ≤ T169.heap.size := Nat.le_trans Z1 K2.1
  refine w_pop X169.here hx (hb hby d_prog_24m_6_91) rfl (pc' := 92) rfl ?_
  refine w_aloadN X169.here hx (hb hby d_prog_24m_6_92) rfl rfl (pc' := 93) rfl ?_
  refine w_getF X169 hx hZ hown (tw hw 159 rfl) Via.refl rfl S.2.2.2.1 (hb hby d_prog_24m_6_93) (pc' := 96) rfl ?_
  intro T170 X170 e170
  refine w_aloadN X170.here hx (hb hby d_prog_24m_6_96) rfl rfl (pc' := 97) rfl ?_
  obtain ⟨VX, VD, VS, mv, VM⟩ := VL
  refine w_interface X170 hx hZ (y := (⟨"java/util/List", "addAll", "(Ljava/util/Collection;)Z"⟩ : MethodName)) (z := yq22) hown (tw hw 302 rfl) (tw hw 303 rfl) (mvT hZ (tw hw 304 rfl)) (tw hw 305 rfl) (tw hw 306 rfl) (tw hw 307 rfl) (tw hw 308 rfl) (tw hw 68 rfl) (by decide) (backC5 (W := 0) (rmAll1 l Z a0 hw vl vc D mr kD mv av i ka xv T169.heap n0 Z2 gv M DEc VX VD VS VM VC I1 d_i_vl) hZ (tw hw 309 rfl) (tw hw 39 rfl) (by decide) (by decide)) e170 VX (by rw [hml]; rfl) (argsL := [(.ref vc)]) (st := []) pd_25 rfl rfl rfl (Nat.le_of_ble_eq_true rfl) (hb hby d_prog_24m_6_97) (by decide) (by decide) (pc' := 102) rfl ?_
  intro T171 v171 L171 X171 Q171
  obtain ⟨rfl, N5, K3, b5, kb5, gb5, V5⟩ := Q171
  show Go _ _ _ _ T171 (mkF m 102 _ [(.int (1 : Int32))])
  have PL3 := PL.keep K3 (ninS (Ne.symm d_vl_pl) nin0)
  replace S := S.keep K3 (ninS d_o_vl nin0)
  replace EL := EL.keep K3 (ninS d_el_vl nin0)
  replace VC := VC.keep K3 (ninS d_vc_vl nin0) (ninS d_av_vl nin0)
  replace G := G.keep K3 (ninS d_x_vl nin0) (ninS d_u_vl nin0)
  replace I1 := I1.keep K3 (ninS d_i_vl nin0)
  have B3 := B2.keep K3 (ninS (Ne.symm d_vl_b) nin0) (ninS (Ne.symm d_vl_t) nin0)
  refine w_pop X171.here hx (hb hby d_prog_24m_6_102) rfl (pc' := 103) rfl ?_
  have KA : Keep h0 T171.heap [b, t, pl, vl] := ((keepMore K1).trans K2 (allS (Or.inl (by simp)) all0)).trans K3 (allS (Or.inl (by simp)) all0)
  exact endV X171 hx hlk hret (hb hby d_prog_24m_6_103) (by decide) (by decide) (⟨rfl, Fr.app N4 N5, KA, B3, PL3, b5, kb5, Nat.le_trans K1.1 (Nat.le_trans K2.1 gb5), V5⟩)
theorem rmSP (l : Launch) (Z : State) (a0 : Array Value) (hw : ∀ d ∈ tables_1, d.before a0 Z = true) (q x : Addr) (av : Value) (hav : av.isRef = true) (h0 : Heap) (n0 : Nat) (Z0 : n0 ≤ h0.size) (gq : n0 ≤ q) (EX : Exa Z h0 q "com/example/crud4/crud4/StatementParameter") (F0 : Fld Z h0 q "com/example/crud4/crud4/StatementParameter" "bindings" "Ljava/util/Map;" .null) (F1 : Fld Z h0 q "com/example/crud4/crud4/StatementParameter" "statementId" "Ljava/lang/String;" .null) (F2 : Fld Z h0 q "com/example/crud4/crud4/StatementParameter" "parameter" "Ljava/lang/Object;" .null) :
    Ct l yq14 prog_40_method_1_code 3 none ({ frames := 3, cells := 1, slots := 8, locals := 38 } : Room) Z #[.ref q, .ref x, av] h0 (fun v h L => v = none ∧ Fr n0 L ∧ Keep h0 h [q]) := by
  rcases ref_cases hav with rfl | ⟨i, rfl⟩
  · exact rmSPn l Z a0 hw q x h0 n0 Z0 gq EX F0 F1 F2
  · exact rmSPi l Z a0 hw q x i h0 n0 Z0 gq EX F0 F1 F2
theorem pd_26 : parseMethodDescriptor "([C)V" = some ⟨[(.array .char)], none⟩ := by decide +kernel
theorem pd_27 : parseMethodDescriptor "(I)Ljava/lang/Integer;" = some ⟨[.int], some (.object "java/lang/Integer")⟩ := by decide +kernel
theorem pd_28 : parseMethodDescriptor "(Ljava/lang/Object;)Z" = some ⟨[(.object "java/lang/Object")], some .boolean⟩ := by decide +kernel
theorem pd_29 : parseMethodDescriptor "(Ljava/lang/String;Ljava/lang/Object;)V" = some ⟨[(.object "java/lang/String"), (.object "java/lang/Object")], none⟩ := by decide +kernel
theorem pd_30 : parseMethodDescriptor "()Lcom/example/crud4/crud4/SqlBuilder;" = some ⟨[], some (.object "com/example/crud4/crud4/SqlBuilder")⟩ := by decide +kernel
theorem pd_31 : parseMethodDescriptor "()Lcom/example/crud4/crud4/StatementParameter;" = some ⟨[], some (.object "com/example/crud4/crud4/StatementParameter")⟩ := by decide +kernel
theorem pd_32 : parseMethodDescriptor "()Ljava/util/List;" = some ⟨[], some (.object "java/util/List")⟩ := by decide +kernel
theorem pd_33 : parseMethodDescriptor "(Ljava/lang/String;Ljava/util/List;Ljava/util/List;)V" = some ⟨[(.object "java/lang/String"), (.object "java/util/List"), (.object "java/util/List")], none⟩ := by decide +kernel
set_option maxRecDepth 65536 in
set_option maxHeartbeats 40000000 in
theorem lawRest {p : Program} {l : Launch} {e : Env} {R : Room} {s : State} {m : MethodId} {args : Array Value} {below : List Frame} {meth : Method} {c : Code} {cells slots : Nat} {P : State → Prop} (Z : State) (a0 : Array Value) (hw : ∀ d ∈ tables_1, d.before a0 Z = true) (hx : p.tables.exec = Jvm.exec) (hby : c.code = code) (hml : c.maxLocals = 19) {vm0 : Vm} {T : State} {locs : List Loc} (hEL : EW Z a0 EL0) (hret : meth.sig.returnType = some .boolean) (hlk : meth.locks = false) (p1 p2 p3 p4 z : Int32) (ca D1 mr : Addr) (cl : Cell) (kD : ClassId) (av : Value) (hav : av.isRef = true) (h0 h : Heap) (n0 : Nat) (Z0 : n0 ≤ h0.size) (X0 : Stand p l e room_1 (s.setVm vm0) m args below meth c T locs 1 1) (e0 : T.heap = h) (N0 : Fr n0 locs) (D0 : Wd Z a0 EL0 s "com/example/crud4/crud4/SqlBuilderNestedPinLaw" m.cls vm0 h) (En : Ext h0 h) (SC : Sta Z h0 "java/lang/String" "COMPACT_STRINGS" "Z" (.int z)) (hz : ¬ z = 0) (IC : IcOf Z h0 ca cl) (DE : DeOf Z h0 D1 kD) (M : MirO Z "[Ljava/lang/Object;" mr) :
    Go p.tables e below (EndW Z EL0 s below (fun v h L => v = some (.int 1) ∧ Fr n0 L) room_1.cells room_1.slots) T (mkF m 15 #[.val (.int p1), .val (.int p2), .val (.int p3), .val (.int p4), .val av, .unset, .unset, .unset, .unset, .unset, .unset, .unset, .unset, .unset, .unset, .unset, .unset, .unset, .unset] []) := by
  have D := D0
  refine w_iloadN X0.here hx (hb hby at_15) rfl (pc' := 16) rfl ?_
  refine w_iconst X0.here hx (hb hby at_16) (z := 2) rfl (pc' := 17) rfl ?_
  refine w_iand X0.here hx (hb hby at_17) (pc' := 18) rfl ?_
  by_cases c2 : (p4 &&& (2 : Int32)) = (0 : Int32)
  · refine w_ifYes X0.here hx (hb hby at_18) (teq (show (p4 &&& (2 : Int32)) = (0 : Int32) from c2)).1 (pc' := 25) (by decide) (by decide) ?_
    refine w_iconst X0.here hx (hb hby at_25) (z := 0) rfl (pc' := 26) rfl ?_
    refine w_istore X0.here hx (hb hby at_26) (l' := #[.val (.int p1), .val (.int p2), .val (.int p3), .val (.int p4), .val av, .val (.int (0 : Int32)), .unset, .unset, .unset, .unset, .unset, .unset, .unset, .unset, .unset, .unset, .unset, .unset, .unset]) rfl (pc' := 28) rfl ?_
    refine w_iconst X0.here hx (hb hby at_28) (z := 2) rfl (pc' := 29) rfl ?_
    refine w_newarray X0 hx D.zw (ty := .char) (dv := (.int 0)) rfl rfl (tw hw 7 rfl) e0 (n := (2 : Int32)) (hb hby at_29) (by decide) (cap := 2) (by decide) (by decide) (by decide) (by decide) (pc' := 31) rfl ?_
    intro T172 h172 c1 kc1 gc1 X172 e172 E172 V
    clear X0
    clear e0
    have ge_c1 : h0.size ≤ c1 := Nat.le_trans En.1 (Nat.le_of_eq gc1)
    have g0_c1 : n0 ≤ c1 := Nat.le_trans Z0 ge_c1
    replace D := D.ext E172
    replace En := Ext.trs En E172
    refine w_dup X172.here hx (hb hby at_31) rfl (pc' := 32) rfl ?_
    refine w_iconst X172.here hx (hb hby at_32) (z := 0) rfl (pc' := 33) rfl ?_
    refine w_iloadN X172.here hx (hb hby at_33) rfl (pc' := 34) rfl ?_
    refine w_sipush X172.here hx (hb hby at_34) (z := 255) rfl (pc' := 37) rfl ?_
    refine w_iand X172.here hx (hb hby at_37) (pc' := 38) rfl ?_
    refine w_i2c X172.here hx (hb hby at_38) (pc' := 39) rfl ?_
    have SVc := Safe.arv (EL := EL0) D.2.1.alike V (by decide)
    refine w_castore X172 hx D.zw e172 V ⟨by decide, by decide⟩ 0 rfl (Nat.le_of_ble_eq_true rfl) (hb hby at_39) (pc' := 40) rfl ?_
    intro T173 h173 X173 e173 W173 V
    clear X172
    clear e172
    have N173 := Fr.snoc X173 N0 g0_c1
    have KW := Keep.of_wr W173
    replace D := D.wr W173 SVc
    replace En := Ext.wr En W173 ge_c1
    refine w_dup X173.here hx (hb hby at_40) rfl (pc' := 41) rfl ?_
    refine w_iconst X173.here hx (hb hby at_41) (z := 1) rfl (pc' := 42) rfl ?_
    refine w_iloadN X173.here hx (hb hby at_42) rfl (pc' := 43) rfl ?_
    refine w_bipush X173.here hx (hb hby at_43) (z := 8) rfl (pc' := 45) rfl ?_
    refine w_iushr X173.here hx (hb hby at_45) (pc' := 46) rfl ?_
    refine w_sipush X173.here hx (hb hby at_46) (z := 255) rfl (pc' := 49) rfl ?_
    refine w_iand X173.here hx (hb hby at_49) (pc' := 50) rfl ?_
    refine w_i2c X173.here hx (hb hby at_50) (pc' := 51) rfl ?_
    have SVc := Safe.arv (EL := EL0) D.2.1.alike V (by decide)
    refine w_castore X173 hx D.zw e173 V ⟨by decide, by decide⟩ 1 rfl (Nat.le_of_ble_eq_true rfl) (hb hby at_51) (pc' := 52) rfl ?_
    intro T174 h174 X174 e174 W174 V
    clear X173
    clear e173
    have N174 := Fr.snoc X174 N173 g0_c1
    have KW := Keep.of_wr W174
    replace D := D.wr W174 SVc
    replace En := Ext.wr En W174 ge_c1
    have V : Arv Z h174 c1 kc1 .char 2 ((two p2).map Value.int) (.int 0) := by have q := V; rw [m255c, m255c] at q; exact q
    refine w_astore X174.here hx (hb hby at_52) rfl (l' := #[.val (.int p1), .val (.int p2), .val (.int p3), .val (.int p4), .val av, .val (.int (0 : Int32)), .val (.ref c1), .unset, .unset, .unset, .unset, .unset, .unset, .unset, .unset, .unset, .unset, .unset, .unset]) rfl (pc' := 54) rfl ?_
    refine w_new X174 hx D.zw D.ow (tw hw 8 rfl) (tw hw 9 rfl) (tw hw 10 rfl) e174 (hb hby at_54) (by decide) (by decide) (pc' := 57) rfl ?_
    intro T175 h175 s1 gs1 X175 e175 E175 A175 D175 U175
    clear X174
    clear e174
    have ge_s1 : h0.size ≤ s1 := Nat.le_trans En.1 (Nat.le_of_eq gs1)
    have g0_s1 : n0 ≤ s1 := Nat.le_trans Z0 ge_s1
    replace V := V.ext E175
    replace D := D.ext E175
    replace En := Ext.trs En E175
    have FV : Fld Z h175 s1 "java/lang/String" "value" "[B" .null := D175 (Or.inr (tw hw 36 rfl)) (ty := (.array .byte)) (by decide)
    have FC : Fld Z h175 s1 "java/lang/String" "coder" "B" (.int (0 : Int32)) := D175 (Or.inr (tw hw 34 rfl)) (ty := .byte) (by decide)
    have SX := Safe.null (EL := EL0) D.2.1.alike A175 FV
    refine w_dup X175.here hx (hb hby at_57) rfl (pc' := 58) rfl ?_
    refine w_aload X175.here hx (hb hby at_58) rfl rfl (pc' := 60) rfl ?_
    refine w_special X175 hx D.zw (y := yq8) rfl D.ow (tw hw 11 rfl) (tw hw 12 rfl) (tw hw 13 rfl) (by decide) (k_newL (n := 2) (W := 6) D.zw (fun d hd => hw d (own_wNew d hd)) (tw hw 9 rfl) g0_s1 (Nat.le_trans Z0 En.1) A175 FV FC V (SC.ext En) hz rfl rfl (by decide) (by decide) (two_lat p2) (by decide) (by decide)) e175 (by rw [hml]; rfl) (argsL := [(.ref c1)]) (st := [(.ref s1)]) pd_26 rfl rfl rfl (Nat.le_of_ble_eq_true rfl) (hb hby at_60) (by decide) (by decide) (pc' := 63) rfl ?_
    intro T176 v176 L176 X176 Q176
    obtain ⟨rfl, Nn, Kn, GX⟩ := Q176
    clear X175
    clear e175
    show Go _ _ _ _ T176 (mkF m 63 _ [(.ref s1)])
    have N177 := Fr.app N174 Nn
    replace D := D.keep Kn (sfS SX sf0)
    replace En := Ext.kp En Kn (allS ge_s1 all0)
    obtain ⟨u_s1, ku_s1, L_s1⟩ := LstOf.of GX (two_lat p2)
    refine w_astore X176.here hx (hb hby at_63) rfl (l' := #[.val (.int p1), .val (.int p2), .val (.int p3), .val (.int p4), .val av, .val (.int (0 : Int32)), .val (.ref c1), .val (.ref s1), .unset, .unset, .unset, .unset, .unset, .unset, .unset, .unset, .unset, .unset, .unset]) rfl (pc' := 65) rfl ?_
    refine w_iconst X176.here hx (hb hby at_65) (z := 2) rfl (pc' := 66) rfl ?_
    refine w_newarray X176 hx D.zw (ty := .char) (dv := (.int 0)) rfl rfl (tw hw 7 rfl) rfl (n := (2 : Int32)) (hb hby at_66) (by decide) (cap := 2) (by decide) (by decide) (by decide) (by decide) (pc' := 68) rfl ?_
    intro T178 h178 c2 kc2 gc2 X178 e178 E178 V
    clear X176
    have ge_c2 : h0.size ≤ c2 := Nat.le_trans En.1 (Nat.le_of_eq gc2)
    have g0_c2 : n0 ≤ c2 := Nat.le_trans Z0 ge_c2
    have ne_s1_c2 : s1 ≠ c2 := Nat.ne_of_lt (Nat.lt_of_lt_of_le L_s1.1.lt (Nat.le_of_eq gc2))
    have ne_u_s1_c2 : u_s1 ≠ c2 := Nat.ne_of_lt (Nat.lt_of_lt_of_le L_s1.2.2.2.1.lt (Nat.le_of_eq gc2))
    replace L_s1 := L_s1.ext E178
    replace D := D.ext E178
    replace En := Ext.trs En E178
    refine w_dup X178.here hx (hb hby at_68) rfl (pc' := 69) rfl ?_
    refine w_iconst X178.here hx (hb hby at_69) (z := 0) rfl (pc' := 70) rfl ?_
    refine w_iloadN X178.here hx (hb hby at_70) rfl (pc' := 71) rfl ?_
    refine w_sipush X178.here hx (hb hby at_71) (z := 255) rfl (pc' := 74) rfl ?_
    refine w_iand X178.here hx (hb hby at_74) (pc' := 75) rfl ?_
    refine w_i2c X178.here hx (hb hby at_75) (pc' := 76) rfl ?_
    have SVc := Safe.arv (EL := EL0) D.2.1.alike V (by decide)
    refine w_castore X178 hx D.zw e178 V ⟨by decide, by decide⟩ 0 rfl (Nat.le_of_ble_eq_true rfl) (hb hby at_76) (pc' := 77) rfl ?_
    intro T179 h179 X179 e179 W179 V
    clear X178
    clear e178
    have N179 := Fr.snoc X179 N177 g0_c2
    have KW := Keep.of_wr W179
    replace L_s1 := L_s1.keep KW (ninS ne_s1_c2 nin0) (ninS ne_u_s1_c2 nin0)
    replace D := D.wr W179 SVc
    replace En := Ext.wr En W179 ge_c2
    refine w_dup X179.here hx (hb hby at_77) rfl (pc' := 78) rfl ?_
    refine w_iconst X179.here hx (hb hby at_78) (z := 1) rfl (pc' := 79) rfl ?_
    refine w_iloadN X179.here hx (hb hby at_79) rfl (pc' := 80) rfl ?_
    refine w_bipush X179.here hx (hb hby at_80) (z := 8) rfl (pc' := 82) rfl ?_
    refine w_iushr X179.here hx (hb hby at_82) (pc' := 83) rfl ?_
    refine w_sipush X179.here hx (hb hby at_83) (z := 255) rfl (pc' := 86) rfl ?_
    refine w_iand X179.here hx (hb hby at_86) (pc' := 87) rfl ?_
    refine w_i2c X179.here hx (hb hby at_87) (pc' := 88) rfl ?_
    have SVc := Safe.arv (EL := EL0) D.2.1.alike V (by decide)
    refine w_castore X179 hx D.zw e179 V ⟨by decide, by decide⟩ 1 rfl (Nat.le_of_ble_eq_true rfl) (hb hby at_88) (pc' := 89) rfl ?_
    intro T180 h180 X180 e180 W180 V
    clear X179
    clear e179
    have N180 := Fr.snoc X180 N179 g0_c2
    have KW := Keep.of_wr W180
    replace L_s1 := L_s1.keep KW (ninS ne_s1_c2 nin0) (ninS ne_u_s1_c2 nin0)
    replace D := D.wr W180 SVc
    replace En := Ext.wr En W180 ge_c2
    have V : Arv Z h180 c2 kc2 .char 2 ((two p3).map Value.int) (.int 0) := by have q := V; rw [m255c, m255c] at q; exact q
    refine w_astore X180.here hx (hb hby at_89) rfl (l' := #[.val (.int p1), .val (.int p2), .val (.int p3), .val (.int p4), .val av, .val (.int (0 : Int32)), .val (.ref c1), .val (.ref s1), .val (.ref c2), .unset, .unset, .unset, .unset, .unset, .unset, .unset, .unset, .unset, .unset]) rfl (pc' := 91) rfl ?_
    refine w_new X180 hx D.zw D.ow (tw hw 8 rfl) (tw hw 9 rfl) (tw hw 10 rfl) e180 (hb hby at_91) (by decide) (by decide) (pc' := 94) rfl ?_
    intro T181 h181 s2 gs2 X181 e181 E181 A181 D181 U181
    clear X180
    clear e180
    have ge_s2 : h0.size ≤ s2 := Nat.le_trans En.1 (Nat.le_of_eq gs2)
    have g0_s2 : n0 ≤ s2 := Nat.le_trans Z0 ge_s2
    have ne_s1_s2 : s1 ≠ s2 := Nat.ne_of_lt (Nat.lt_of_lt_of_le L_s1.1.lt (Nat.le_of_eq gs2))
    have ne_u_s1_s2 : u_s1 ≠ s2 := Nat.ne_of_lt (Nat.lt_of_lt_of_le L_s1.2.2.2.1.lt (Nat.le_of_eq gs2))
    replace V := V.ext E181
    replace L_s1 := L_s1.ext E181
    replace D := D.ext E181
    replace En := Ext.trs En E181
    have FV : Fld Z h181 s2 "java/lang/String" "value" "[B" .null := D181 (Or.inr (tw hw 36 rfl)) (ty := (.array .byte)) (by decide)
    have FC : Fld Z h181 s2 "java/lang/String" "coder" "B" (.int (0 : Int32)) := D181 (Or.inr (tw hw 34 rfl)) (ty := .byte) (by decide)
    have SX := Safe.null (EL := EL0) D.2.1.alike A181 FV
    refine w_dup X181.here hx (hb hby at_94) rfl (pc' := 95) rfl ?_
    refine w_aload X181.here hx (hb hby at_95) rfl rfl (pc' := 97) rfl ?_
    refine w_special X181 hx D.zw (y := yq8) rfl D.ow (tw hw 11 rfl) (tw hw 12 rfl) (tw hw 13 rfl) (by decide) (k_newL (n := 2) (W := 6) D.zw (fun d hd => hw d (own_wNew d hd)) (tw hw 9 rfl) g0_s2 (Nat.le_trans Z0 En.1) A181 FV FC V (SC.ext En) hz rfl rfl (by decide) (by decide) (two_lat p3) (by decide) (by decide)) e181 (by rw [hml]; rfl) (argsL := [(.ref c2)]) (st := [(.ref s2)]) pd_26 rfl rfl rfl (Nat.le_of_ble_eq_true rfl) (hb hby at_97) (by decide) (by decide) (pc' := 100) rfl ?_
    intro T182 v182 L182 X182 Q182
    obtain ⟨rfl, Nn, Kn, GX⟩ := Q182
    clear X181
    clear e181
    show Go _ _ _ _ T182 (mkF m 100 _ [(.ref s2)])
    have N183 := Fr.app N180 Nn
    replace L_s1 := L_s1.keep Kn (ninS ne_s1_s2 nin0) (ninS ne_u_s1_s2 nin0)
    replace D := D.keep Kn (sfS SX sf0)
    replace En := Ext.kp En Kn (allS ge_s2 all0)
    obtain ⟨u_s2, ku_s2, L_s2⟩ := LstOf.of GX (two_lat p3)
    refine w_astore X182.here hx (hb hby at_100) rfl (l' := #[.val (.int p1), .val (.int p2), .val (.int p3), .val (.int p4), .val av, .val (.int (0 : Int32)), .val (.ref c1), .val (.ref s1), .val (.ref c2), .val (.ref s2), .unset, .unset, .unset, .unset, .unset, .unset, .unset, .unset, .unset]) rfl (pc' := 102) rfl ?_
    refine w_new X182 hx D.zw D.ow (tw hw 37 rfl) (tw hw 38 rfl) (tw hw 39 rfl) rfl (hb hby at_102) (by decide) (by decide) (pc' := 105) rfl ?_
    intro T184 h184 l1 gl1 X184 e184 E184 A184 D184 U184
    clear X182
    have ge_l1 : h0.size ≤ l1 := Nat.le_trans En.1 (Nat.le_of_eq gl1)
    have g0_l1 : n0 ≤ l1 := Nat.le_trans Z0 ge_l1
    have ne_s1_l1 : s1 ≠ l1 := Nat.ne_of_lt (Nat.lt_of_lt_of_le L_s1.1.lt (Nat.le_of_eq gl1))
    have ne_u_s1_l1 : u_s1 ≠ l1 := Nat.ne_of_lt (Nat.lt_of_lt_of_le L_s1.2.2.2.1.lt (Nat.le_of_eq gl1))
    have ne_s2_l1 : s2 ≠ l1 := Nat.ne_of_lt (Nat.lt_of_lt_of_le L_s2.1.lt (Nat.le_of_eq gl1))
    have ne_u_s2_l1 : u_s2 ≠ l1 := Nat.ne_of_lt (Nat.lt_of_lt_of_le L_s2.2.2.2.1.lt (Nat.le_of_eq gl1))
    replace L_s1 := L_s1.ext E184
    replace L_s2 := L_s2.ext E184
    replace D := D.ext E184
    replace En := Ext.trs En E184
    have A_l1 := A184
    have FD : Fld Z h184 l1 "java/util/ArrayList" "elementData" "[Ljava/lang/Object;" .null := D184 (Or.inl (tw hw 60 rfl)) (ty := (.array (.object "java/lang/Object"))) (by decide)
    have FS : Fld Z h184 l1 "java/util/ArrayList" "size" "I" (.int (0 : Int32)) := D184 (Or.inl (tw hw 73 rfl)) (ty := .int) (by decide)
    have FM : Fld Z h184 l1 "java/util/AbstractList" "modCount" "I" (.int (0 : Int32)) := D184 (Or.inl (tw hw 57 rfl)) (ty := .int) (by decide)
    refine w_dup X184.here hx (hb hby at_105) rfl (pc' := 106) rfl ?_
    refine w_special X184 hx D.zw (y := yq2) rfl D.ow (tw hw 40 rfl) (tw hw 41 rfl) (tw hw 42 rfl) (by decide) (backC (W := 6) (rmAL l Z a0 hw l1 D1 kD h184 n0 g0_l1 (DE.ext En) A_l1 FD FS FM) D.zw (tw hw 42 rfl) (tw hw 39 rfl) (by decide) (by decide)) e184 (by rw [hml]; rfl) (argsL := []) (st := [(.ref l1)]) pd_14 rfl rfl rfl (Nat.le_of_ble_eq_true rfl) (hb hby at_106) (by decide) (by decide) (pc' := 109) rfl ?_
    intro T185 v185 L185 X185 Q185
    obtain ⟨rfl, N1, K1, E_l1⟩ := Q185
    clear X184
    clear e184
    show Go _ _ _ _ T185 (mkF m 109 _ [(.ref l1)])
    have N186 := Fr.app N183 N1
    have D' := D.keep K1 (sfS (Safe.exa D.2.1.alike A_l1 (by decide) (by decide)) sf0)
    replace L_s1 := L_s1.keep K1 (ninS ne_s1_l1 nin0) (ninS ne_u_s1_l1 nin0)
    replace L_s2 := L_s2.keep K1 (ninS ne_s2_l1 nin0) (ninS ne_u_s2_l1 nin0)
    replace D := D'
    replace En := Ext.kp En K1 (allS ge_l1 all0)
    refine w_astore X185.here hx (hb hby at_109) rfl (l' := #[.val (.int p1), .val (.int p2), .val (.int p3), .val (.int p4), .val av, .val (.int (0 : Int32)), .val (.ref c1), .val (.ref s1), .val (.ref c2), .val (.ref s2), .val (.ref l1), .unset, .unset, .unset, .unset, .unset, .unset, .unset, .unset]) rfl (pc' := 111) rfl ?_
    refine w_aload X185.here hx (hb hby at_111) rfl rfl (pc' := 113) rfl ?_
    refine w_iloadN X185.here hx (hb hby at_113) rfl (pc' := 114) rfl ?_
    refine w_static X185 hx D.zw (y := yq7) D.ow (tw hw 0 rfl) (tw hw 1 rfl) (tw hw 2 rfl) (tw hw 3 rfl) (by decide) (backC (W := 6) (rmVal l Z a0 hw p2 ca cl T185.heap n0 (Nat.le_trans Z0 En.1) (IC.ext En)) D.zw (tw hw 3 rfl) (tw hw 2 rfl) (by decide) (by decide)) rfl (by rw [hml]; rfl) (argsL := [(.int p2)]) (st := [(.ref l1)]) pd_27 rfl rfl rfl (Nat.le_of_ble_eq_true rfl) (hb hby at_114) (by decide) (by decide) (pc' := 117) rfl ?_
    intro T187 v187 L187 X187 Q187
    obtain ⟨i1, rfl, Nv, Ev, G_i1⟩ := Q187
    clear X185
    show Go _ _ _ _ T187 (mkF m 117 _ [(.ref i1), (.ref l1)])
    have N188 := Fr.app N186 Nv
    replace L_s1 := L_s1.ext Ev
    replace L_s2 := L_s2.ext Ev
    replace E_l1 := E_l1.ext Ev
    replace D := D.ext Ev
    replace En := Ext.trs En Ev
    obtain ⟨LX, LD, LS, lm, LM⟩ := E_l1
    have ni : i1 ≠ l1 := G_i1.1.ne LX (by decide)
    have ni_i1 := ni
    refine w_interface X187 hx D.zw (y := yq24) (z := yq13) D.ow (tw hw 61 rfl) (tw hw 62 rfl) (mvT D.zw (tw hw 63 rfl)) (tw hw 64 rfl) (tw hw 65 rfl) (tw hw 66 rfl) (tw hw 67 rfl) (tw hw 68 rfl) (by decide) (backC5 (W := 6) (rmAdd l Z a0 hw l1 D1 kD lm T187.heap n0 (Nat.le_trans Z0 En.1) g0_l1 (DE.ext En) LX LD LS LM i1 p2 G_i1 ni) D.zw (tw hw 69 rfl) (tw hw 39 rfl) (by decide) (by decide)) rfl LX (by rw [hml]; rfl) (argsL := [(.ref i1)]) (st := []) pd_28 rfl rfl rfl (Nat.le_of_ble_eq_true rfl) (hb hby at_117) (by decide) (by decide) (pc' := 122) rfl ?_
    intro T189 v189 L189 X189 Q189
    obtain ⟨rfl, N1, K1, a_l1, ka_l1, ga, O_l1⟩ := Q189
    clear X187
    show Go _ _ _ _ T189 (mkF m 122 _ [(.int (1 : Int32))])
    have N190 := Fr.app N188 N1
    have ne_s1_a_l1 : s1 ≠ a_l1 := Nat.ne_of_lt (Nat.lt_of_lt_of_le L_s1.1.lt ga)
    have ne_u_s1_a_l1 : u_s1 ≠ a_l1 := Nat.ne_of_lt (Nat.lt_of_lt_of_le L_s1.2.2.2.1.lt ga)
    have ne_s2_a_l1 : s2 ≠ a_l1 := Nat.ne_of_lt (Nat.lt_of_lt_of_le L_s2.1.lt ga)
    have ne_u_s2_a_l1 : u_s2 ≠ a_l1 := Nat.ne_of_lt (Nat.lt_of_lt_of_le L_s2.2.2.2.1.lt ga)
    have ne_i1_a_l1 : i1 ≠ a_l1 := Nat.ne_of_lt (Nat.lt_of_lt_of_le G_i1.1.lt ga)
    have D' := D.keep K1 (sfS (Safe.exa D.2.1.alike LX (by decide) (by decide)) sf0)
    replace L_s1 := L_s1.keep K1 (ninS ne_s1_l1 nin0) (ninS ne_u_s1_l1 nin0)
    replace L_s2 := L_s2.keep K1 (ninS ne_s2_l1 nin0) (ninS ne_u_s2_l1 nin0)
    replace G_i1 := G_i1.keep K1 (ninS ni_i1 nin0)
    replace D := D'
    replace En := Ext.kp En K1 (allS ge_l1 all0)
    have ne_l1_a_l1 : l1 ≠ a_l1 := Nat.ne_of_lt (Nat.lt_of_lt_of_le LX.lt ga)
    refine w_pop X189.here hx (hb hby at_122) rfl (pc' := 123) rfl ?_
    refine w_new X189 hx D.zw D.ow (tw hw 37 rfl) (tw hw 38 rfl) (tw hw 39 rfl) rfl (hb hby at_123) (by decide) (by decide) (pc' := 126) rfl ?_
    intro T191 h191 l2 gl2 X191 e191 E191 A191 D191 U191
    clear X189
    have ge_l2 : h0.size ≤ l2 := Nat.le_trans En.1 (Nat.le_of_eq gl2)
    have g0_l2 : n0 ≤ l2 := Nat.le_trans Z0 ge_l2
    have ne_s1_l2 : s1 ≠ l2 := Nat.ne_of_lt (Nat.lt_of_lt_of_le L_s1.1.lt (Nat.le_of_eq gl2))
    have ne_u_s1_l2 : u_s1 ≠ l2 := Nat.ne_of_lt (Nat.lt_of_lt_of_le L_s1.2.2.2.1.lt (Nat.le_of_eq gl2))
    have ne_s2_l2 : s2 ≠ l2 := Nat.ne_of_lt (Nat.lt_of_lt_of_le L_s2.1.lt (Nat.le_of_eq gl2))
    have ne_u_s2_l2 : u_s2 ≠ l2 := Nat.ne_of_lt (Nat.lt_of_lt_of_le L_s2.2.2.2.1.lt (Nat.le_of_eq gl2))
    have ne_i1_l2 : i1 ≠ l2 := Nat.ne_of_lt (Nat.lt_of_lt_of_le G_i1.1.lt (Nat.le_of_eq gl2))
    have ne_l1_l2 : l1 ≠ l2 := Nat.ne_of_lt (Nat.lt_of_lt_of_le O_l1.1.lt (Nat.le_of_eq gl2))
    have ne_a_l1_l2 : a_l1 ≠ l2 := Nat.ne_of_lt (Nat.lt_of_lt_of_le O_l1.2.2.2.1.lt (Nat.le_of_eq gl2))
    replace L_s1 := L_s1.ext E191
    replace L_s2 := L_s2.ext E191
    replace G_i1 := G_i1.ext E191
    replace O_l1 := O_l1.ext E191
    replace D := D.ext E191
    replace En := Ext.trs En E191
    have A_l2 := A191
    have FD : Fld Z h191 l2 "java/util/ArrayList" "elementData" "[Ljava/lang/Object;" .null := D191 (Or.inl (tw hw 60 rfl)) (ty := (.array (.object "java/lang/Object"))) (by decide)
    have FS : Fld Z h191 l2 "java/util/ArrayList" "size" "I" (.int (0 : Int32)) := D191 (Or.inl (tw hw 73 rfl)) (ty := .int) (by decide)
    have FM : Fld Z h191 l2 "java/util/AbstractList" "modCount" "I" (.int (0 : Int32)) := D191 (Or.inl (tw hw 57 rfl)) (ty := .int) (by decide)
    refine w_dup X191.here hx (hb hby at_126) rfl (pc' := 127) rfl ?_
    refine w_special X191 hx D.zw (y := yq2) rfl D.ow (tw hw 40 rfl) (tw hw 41 rfl) (tw hw 42 rfl) (by decide) (backC (W := 6) (rmAL l Z a0 hw l2 D1 kD h191 n0 g0_l2 (DE.ext En) A_l2 FD FS FM) D.zw (tw hw 42 rfl) (tw hw 39 rfl) (by decide) (by decide)) e191 (by rw [hml]; rfl) (argsL := []) (st := [(.ref l2)]) pd_14 rfl rfl rfl (Nat.le_of_ble_eq_true rfl) (hb hby at_127) (by decide) (by decide) (pc' := 130) rfl ?_
    intro T192 v192 L192 X192 Q192
    obtain ⟨rfl, N1, K1, E_l2⟩ := Q192
    clear X191
    clear e191
    show Go _ _ _ _ T192 (mkF m 130 _ [(.ref l2)])
    have N193 := Fr.app N190 N1
    have D' := D.keep K1 (sfS (Safe.exa D.2.1.alike A_l2 (by decide) (by decide)) sf0)
    replace L_s1 := L_s1.keep K1 (ninS ne_s1_l2 nin0) (ninS ne_u_s1_l2 nin0)
    replace L_s2 := L_s2.keep K1 (ninS ne_s2_l2 nin0) (ninS ne_u_s2_l2 nin0)
    replace G_i1 := G_i1.keep K1 (ninS ne_i1_l2 nin0)
    replace O_l1 := O_l1.keep K1 (ninS ne_l1_l2 nin0) (ninS ne_a_l1_l2 nin0)
    replace D := D'
    replace En := Ext.kp En K1 (allS ge_l2 all0)
    refine w_astore X192.here hx (hb hby at_130) rfl (l' := #[.val (.int p1), .val (.int p2), .val (.int p3), .val (.int p4), .val av, .val (.int (0 : Int32)), .val (.ref c1), .val (.ref s1), .val (.ref c2), .val (.ref s2), .val (.ref l1), .val (.ref l2), .unset, .unset, .unset, .unset, .unset, .unset, .unset]) rfl (pc' := 132) rfl ?_
    refine w_aload X192.here hx (hb hby at_132) rfl rfl (pc' := 134) rfl ?_
    refine w_iloadN X192.here hx (hb hby at_134) rfl (pc' := 135) rfl ?_
    refine w_static X192 hx D.zw (y := yq7) D.ow (tw hw 0 rfl) (tw hw 1 rfl) (tw hw 2 rfl) (tw hw 3 rfl) (by decide) (backC (W := 6) (rmVal l Z a0 hw p3 ca cl T192.heap n0 (Nat.le_trans Z0 En.1) (IC.ext En)) D.zw (tw hw 3 rfl) (tw hw 2 rfl) (by decide) (by decide)) rfl (by rw [hml]; rfl) (argsL := [(.int p3)]) (st := [(.ref l2)]) pd_27 rfl rfl rfl (Nat.le_of_ble_eq_true rfl) (hb hby at_135) (by decide) (by decide) (pc' := 138) rfl ?_
    intro T194 v194 L194 X194 Q194
    obtain ⟨i2, rfl, Nv, Ev, G_i2⟩ := Q194
    clear X192
    show Go _ _ _ _ T194 (mkF m 138 _ [(.ref i2), (.ref l2)])
    have N195 := Fr.app N193 Nv
    replace L_s1 := L_s1.ext Ev
    replace L_s2 := L_s2.ext Ev
    replace G_i1 := G_i1.ext Ev
    replace O_l1 := O_l1.ext Ev
    replace E_l2 := E_l2.ext Ev
    replace D := D.ext Ev
    replace En := Ext.trs En Ev
    obtain ⟨LX, LD, LS, lm, LM⟩ := E_l2
    have ni : i2 ≠ l2 := G_i2.1.ne LX (by decide)
    have ni_i2 := ni
    refine w_interface X194 hx D.zw (y := yq24) (z := yq13) D.ow (tw hw 61 rfl) (tw hw 62 rfl) (mvT D.zw (tw hw 63 rfl)) (tw hw 64 rfl) (tw hw 65 rfl) (tw hw 66 rfl) (tw hw 67 rfl) (tw hw 68 rfl) (by decide) (backC5 (W := 6) (rmAdd l Z a0 hw l2 D1 kD lm T194.heap n0 (Nat.le_trans Z0 En.1) g0_l2 (DE.ext En) LX LD LS LM i2 p3 G_i2 ni) D.zw (tw hw 69 rfl) (tw hw 39 rfl) (by decide) (by decide)) rfl LX (by rw [hml]; rfl) (argsL := [(.ref i2)]) (st := []) pd_28 rfl rfl rfl (Nat.le_of_ble_eq_true rfl) (hb hby at_138) (by decide) (by decide) (pc' := 143) rfl ?_
    intro T196 v196 L196 X196 Q196
    obtain ⟨rfl, N1, K1, a_l2, ka_l2, ga, O_l2⟩ := Q196
    clear X194
    show Go _ _ _ _ T196 (mkF m 143 _ [(.int (1 : Int32))])
    have N197 := Fr.app N195 N1
    have ne_s1_a_l2 : s1 ≠ a_l2 := Nat.ne_of_lt (Nat.lt_of_lt_of_le L_s1.1.lt ga)
    have ne_u_s1_a_l2 : u_s1 ≠ a_l2 := Nat.ne_of_lt (Nat.lt_of_lt_of_le L_s1.2.2.2.1.lt ga)
    have ne_s2_a_l2 : s2 ≠ a_l2 := Nat.ne_of_lt (Nat.lt_of_lt_of_le L_s2.1.lt ga)
    have ne_u_s2_a_l2 : u_s2 ≠ a_l2 := Nat.ne_of_lt (Nat.lt_of_lt_of_le L_s2.2.2.2.1.lt ga)
    have ne_i1_a_l2 : i1 ≠ a_l2 := Nat.ne_of_lt (Nat.lt_of_lt_of_le G_i1.1.lt ga)
    have ne_l1_a_l2 : l1 ≠ a_l2 := Nat.ne_of_lt (Nat.lt_of_lt_of_le O_l1.1.lt ga)
    have ne_a_l1_a_l2 : a_l1 ≠ a_l2 := Nat.ne_of_lt (Nat.lt_of_lt_of_le O_l1.2.2.2.1.lt ga)
    have ne_i2_a_l2 : i2 ≠ a_l2 := Nat.ne_of_lt (Nat.lt_of_lt_of_le G_i2.1.lt ga)
    have D' := D.keep K1 (sfS (Safe.exa D.2.1.alike LX (by decide) (by decide)) sf0)
    replace L_s1 := L_s1.keep K1 (ninS ne_s1_l2 nin0) (ninS ne_u_s1_l2 nin0)
    replace L_s2 := L_s2.keep K1 (ninS ne_s2_l2 nin0) (ninS ne_u_s2_l2 nin0)
    replace G_i1 := G_i1.keep K1 (ninS ne_i1_l2 nin0)
    replace O_l1 := O_l1.keep K1 (ninS ne_l1_l2 nin0) (ninS ne_a_l1_l2 nin0)
    replace G_i2 := G_i2.keep K1 (ninS ni_i2 nin0)
    replace D := D'
    replace En := Ext.kp En K1 (allS ge_l2 all0)
    have ne_l2_a_l2 : l2 ≠ a_l2 := Nat.ne_of_lt (Nat.lt_of_lt_of_le LX.lt ga)
    refine w_pop X196.here hx (hb hby at_143) rfl (pc' := 144) rfl ?_
    refine w_new X196 hx D.zw D.ow (tw hw 96 rfl) (tw hw 97 rfl) (tw hw 98 rfl) rfl (hb hby at_144) (by decide) (by decide) (pc' := 147) rfl ?_
    intro T198 h198 q1 gq1 X198 e198 E198 A198 D198 U198
    clear X196
    have ge_q1 : h0.size ≤ q1 := Nat.le_trans En.1 (Nat.le_of_eq gq1)
    have g0_q1 : n0 ≤ q1 := Nat.le_trans Z0 ge_q1
    have ne_s1_q1 : s1 ≠ q1 := Nat.ne_of_lt (Nat.lt_of_lt_of_le L_s1.1.lt (Nat.le_of_eq gq1))
    have ne_u_s1_q1 : u_s1 ≠ q1 := Nat.ne_of_lt (Nat.lt_of_lt_of_le L_s1.2.2.2.1.lt (Nat.le_of_eq gq1))
    have ne_s2_q1 : s2 ≠ q1 := Nat.ne_of_lt (Nat.lt_of_lt_of_le L_s2.1.lt (Nat.le_of_eq gq1))
    have ne_u_s2_q1 : u_s2 ≠ q1 := Nat.ne_of_lt (Nat.lt_of_lt_of_le L_s2.2.2.2.1.lt (Nat.le_of_eq gq1))
    have ne_i1_q1 : i1 ≠ q1 := Nat.ne_of_lt (Nat.lt_of_lt_of_le G_i1.1.lt (Nat.le_of_eq gq1))
    have ne_l1_q1 : l1 ≠ q1 := Nat.ne_of_lt (Nat.lt_of_lt_of_le O_l1.1.lt (Nat.le_of_eq gq1))
    have ne_a_l1_q1 : a_l1 ≠ q1 := Nat.ne_of_lt (Nat.lt_of_lt_of_le O_l1.2.2.2.1.lt (Nat.le_of_eq gq1))
    have ne_i2_q1 : i2 ≠ q1 := Nat.ne_of_lt (Nat.lt_of_lt_of_le G_i2.1.lt (Nat.le_of_eq gq1))
    have ne_l2_q1 : l2 ≠ q1 := Nat.ne_of_lt (Nat.lt_of_lt_of_le O_l2.1.lt (Nat.le_of_eq gq1))
    have ne_a_l2_q1 : a_l2 ≠ q1 := Nat.ne_of_lt (Nat.lt_of_lt_of_le O_l2.2.2.2.1.lt (Nat.le_of_eq gq1))
    replace L_s1 := L_s1.ext E198
    replace L_s2 := L_s2.ext E198
    replace G_i1 := G_i1.ext E198
    replace O_l1 := O_l1.ext E198
    replace G_i2 := G_i2.ext E198
    replace O_l2 := O_l2.ext E198
    replace D := D.ext E198
    replace En := Ext.trs En E198
    have A_q1 := A198
    have F0 : Fld Z h198 q1 "com/example/crud4/crud4/StatementParameter" "bindings" "Ljava/util/Map;" .null := D198 (Or.inr (tw hw 123 rfl)) (ty := (.object "java/util/Map")) (by decide)
    have F1 : Fld Z h198 q1 "com/example/crud4/crud4/StatementParameter" "statementId" "Ljava/lang/String;" .null := D198 (Or.inr (tw hw 125 rfl)) (ty := (.object "java/lang/String")) (by decide)
    have F2 : Fld Z h198 q1 "com/example/crud4/crud4/StatementParameter" "parameter" "Ljava/lang/Object;" .null := D198 (Or.inr (tw hw 127 rfl)) (ty := (.object "java/lang/Object")) (by decide)
    refine w_dup X198.here hx (hb hby at_147) rfl (pc' := 148) rfl ?_
    refine w_ldcS X198 hx D (tw hw 99 rfl) (fun d hd => hw d (own_wStr d hd)) e198 (EL := EL0) (by decide) (vs := [(.int 115)]) (z := 1) ⟨by decide, by decide⟩ (by decide) (by decide) (hb hby at_148) (n := 4) (by decide) (by decide) (by decide) (by decide) (pc' := 150) rfl ?_
    intro sc T199 h199 b_sc k_sc X199 e199 E199 D199 EX_sc FC_sc FV_sc V_sc CH_sc LT_sc NE_sc
    clear X198
    clear e198
    replace En := Ext.trs En E199
    replace L_s1 := L_s1.ext E199
    replace L_s2 := L_s2.ext E199
    replace G_i1 := G_i1.ext E199
    replace O_l1 := O_l1.ext E199
    replace G_i2 := G_i2.ext E199
    replace O_l2 := O_l2.ext E199
    replace A_q1 := A_q1.ext E199
    replace F0 := F0.ext E199
    replace F1 := F1.ext E199
    replace F2 := F2.ext E199
    replace D := D199
    refine w_aload X199.here hx (hb hby at_150) rfl hav (pc' := 152) rfl ?_
    refine w_special X199 hx D.zw (y := yq14) rfl D.ow (tw hw 102 rfl) (tw hw 103 rfl) (tw hw 104 rfl) (by decide) (backC (W := 6) (rmSP l Z a0 hw q1 sc av hav h199 n0 (Nat.le_trans Z0 En.1) g0_q1 A_q1 F0 F1 F2) D.zw (tw hw 104 rfl) (tw hw 98 rfl) (by decide) (by decide)) e199 (by rw [hml]; rfl) (argsL := [(.ref sc), av]) (st := [(.ref q1)]) pd_29 rfl rfl rfl (Nat.le_of_ble_eq_true rfl) (hb hby at_152) (by decide) (by decide) (pc' := 155) rfl ?_
    intro T200 v200 L200 X200 Q200
    obtain ⟨rfl, N1, K1⟩ := Q200
    clear X199
    clear e199
    show Go _ _ _ _ T200 (mkF m 155 _ [(.ref q1)])
    have N201 := Fr.app N197 N1
    have D' := D.keep K1 (sfS (Safe.exa D.2.1.alike A_q1 (by decide) (by decide)) sf0)
    replace L_s1 := L_s1.keep K1 (ninS ne_s1_q1 nin0) (ninS ne_u_s1_q1 nin0)
    replace L_s2 := L_s2.keep K1 (ninS ne_s2_q1 nin0) (ninS ne_u_s2_q1 nin0)
    replace G_i1 := G_i1.keep K1 (ninS ne_i1_q1 nin0)
    replace O_l1 := O_l1.keep K1 (ninS ne_l1_q1 nin0) (ninS ne_a_l1_q1 nin0)
    replace G_i2 := G_i2.keep K1 (ninS ne_i2_q1 nin0)
    replace O_l2 := O_l2.keep K1 (ninS ne_l2_q1 nin0) (ninS ne_a_l2_q1 nin0)
    replace A_q1 := A_q1.keep K1
    replace D := D'
    replace En := Ext.kp En K1 (allS ge_q1 all0)
    refine w_astore X200.here hx (hb hby at_155) rfl (l' := #[.val (.int p1), .val (.int p2), .val (.int p3), .val (.int p4), .val av, .val (.int (0 : Int32)), .val (.ref c1), .val (.ref s1), .val (.ref c2), .val (.ref s2), .val (.ref l1), .val (.ref l2), .val (.ref q1), .unset, .unset, .unset, .unset, .unset, .unset]) rfl (pc' := 157) rfl ?_
    refine w_new X200 hx D.zw D.ow (tw hw 128 rfl) (tw hw 129 rfl) (tw hw 130 rfl) rfl (hb hby at_157) (by decide) (by decide) (pc' := 160) rfl ?_
    intro T202 h202 o1 go1 X202 e202 E202 A202 D202 U202
    clear X200
    have ge_o1 : h0.size ≤ o1 := Nat.le_trans En.1 (Nat.le_of_eq go1)
    have g0_o1 : n0 ≤ o1 := Nat.le_trans Z0 ge_o1
    have ne_s1_o1 : s1 ≠ o1 := Nat.ne_of_lt (Nat.lt_of_lt_of_le L_s1.1.lt (Nat.le_of_eq go1))
    have ne_u_s1_o1 : u_s1 ≠ o1 := Nat.ne_of_lt (Nat.lt_of_lt_of_le L_s1.2.2.2.1.lt (Nat.le_of_eq go1))
    have ne_s2_o1 : s2 ≠ o1 := Nat.ne_of_lt (Nat.lt_of_lt_of_le L_s2.1.lt (Nat.le_of_eq go1))
    have ne_u_s2_o1 : u_s2 ≠ o1 := Nat.ne_of_lt (Nat.lt_of_lt_of_le L_s2.2.2.2.1.lt (Nat.le_of_eq go1))
    have ne_i1_o1 : i1 ≠ o1 := Nat.ne_of_lt (Nat.lt_of_lt_of_le G_i1.1.lt (Nat.le_of_eq go1))
    have ne_l1_o1 : l1 ≠ o1 := Nat.ne_of_lt (Nat.lt_of_lt_of_le O_l1.1.lt (Nat.le_of_eq go1))
    have ne_a_l1_o1 : a_l1 ≠ o1 := Nat.ne_of_lt (Nat.lt_of_lt_of_le O_l1.2.2.2.1.lt (Nat.le_of_eq go1))
    have ne_i2_o1 : i2 ≠ o1 := Nat.ne_of_lt (Nat.lt_of_lt_of_le G_i2.1.lt (Nat.le_of_eq go1))
    have ne_l2_o1 : l2 ≠ o1 := Nat.ne_of_lt (Nat.lt_of_lt_of_le O_l2.1.lt (Nat.le_of_eq go1))
    have ne_a_l2_o1 : a_l2 ≠ o1 := Nat.ne_of_lt (Nat.lt_of_lt_of_le O_l2.2.2.2.1.lt (Nat.le_of_eq go1))
    have ne_q1_o1 : q1 ≠ o1 := Nat.ne_of_lt (Nat.lt_of_lt_of_le A_q1.lt (Nat.le_of_eq go1))
    replace L_s1 := L_s1.ext E202
    replace L_s2 := L_s2.ext E202
    replace G_i1 := G_i1.ext E202
    replace O_l1 := O_l1.ext E202
    replace G_i2 := G_i2.ext E202
    replace O_l2 := O_l2.ext E202
    replace A_q1 := A_q1.ext E202
    replace D := D.ext E202
    replace En := Ext.trs En E202
    have A_o1 := A202
    have F0 : Fld Z h202 o1 "com/example/crud4/crud4/SqlBuilder" "text" "Ljava/lang/StringBuilder;" .null := D202 (Or.inr (tw hw 154 rfl)) (ty := (.object "java/lang/StringBuilder")) (by decide)
    have F1 : Fld Z h202 o1 "com/example/crud4/crud4/SqlBuilder" "placeholders" "Ljava/util/List;" .null := D202 (Or.inr (tw hw 158 rfl)) (ty := (.object "java/util/List")) (by decide)
    have F2 : Fld Z h202 o1 "com/example/crud4/crud4/SqlBuilder" "values" "Ljava/util/List;" .null := D202 (Or.inr (tw hw 160 rfl)) (ty := (.object "java/util/List")) (by decide)
    have F3 : Fld Z h202 o1 "com/example/crud4/crud4/SqlBuilder" "parameter" "Lcom/example/crud4/crud4/StatementParameter;" .null := D202 (Or.inr (tw hw 162 rfl)) (ty := (.object "com/example/crud4/crud4/StatementParameter")) (by decide)
    refine w_dup X202.here hx (hb hby at_160) rfl (pc' := 161) rfl ?_
    refine w_aload X202.here hx (hb hby at_161) rfl rfl (pc' := 163) rfl ?_
    refine w_special X202 hx D.zw (y := yq23) rfl D.ow (tw hw 131 rfl) (tw hw 132 rfl) (tw hw 133 rfl) (by decide) (backC (W := 6) (rmSqI l Z a0 hw o1 q1 D1 kD z h202 n0 (Nat.le_trans Z0 En.1) g0_o1 (SC.ext En) hz (DE.ext En) A_o1 F0 F1 F2 F3) D.zw (tw hw 133 rfl) (tw hw 130 rfl) (by decide) (by decide)) e202 (by rw [hml]; rfl) (argsL := [(.ref q1)]) (st := [(.ref o1)]) pd_22 rfl rfl rfl (Nat.le_of_ble_eq_true rfl) (hb hby at_163) (by decide) (by decide) (pc' := 166) rfl ?_
    intro T203 v203 L203 X203 Q203
    obtain ⟨rfl, N1, K1, b1, t1, kt1, pl1, vl1, gb, gt, gp, gv, n1, n2, n3, n4, n5, n6, QN, BN, PN, VN⟩ := Q203
    clear X202
    clear e202
    show Go _ _ _ _ T203 (mkF m 166 _ [(.ref o1)])
    have N204 := Fr.app N201 N1
    have ne_s1_b1 : s1 ≠ b1 := Nat.ne_of_lt (Nat.lt_of_lt_of_le L_s1.1.lt gb)
    have ne_u_s1_b1 : u_s1 ≠ b1 := Nat.ne_of_lt (Nat.lt_of_lt_of_le L_s1.2.2.2.1.lt gb)
    have ne_s2_b1 : s2 ≠ b1 := Nat.ne_of_lt (Nat.lt_of_lt_of_le L_s2.1.lt gb)
    have ne_u_s2_b1 : u_s2 ≠ b1 := Nat.ne_of_lt (Nat.lt_of_lt_of_le L_s2.2.2.2.1.lt gb)
    have ne_i1_b1 : i1 ≠ b1 := Nat.ne_of_lt (Nat.lt_of_lt_of_le G_i1.1.lt gb)
    have ne_l1_b1 : l1 ≠ b1 := Nat.ne_of_lt (Nat.lt_of_lt_of_le O_l1.1.lt gb)
    have ne_a_l1_b1 : a_l1 ≠ b1 := Nat.ne_of_lt (Nat.lt_of_lt_of_le O_l1.2.2.2.1.lt gb)
    have ne_i2_b1 : i2 ≠ b1 := Nat.ne_of_lt (Nat.lt_of_lt_of_le G_i2.1.lt gb)
    have ne_l2_b1 : l2 ≠ b1 := Nat.ne_of_lt (Nat.lt_of_lt_of_le O_l2.1.lt gb)
    have ne_a_l2_b1 : a_l2 ≠ b1 := Nat.ne_of_lt (Nat.lt_of_lt_of_le O_l2.2.2.2.1.lt gb)
    have ne_q1_b1 : q1 ≠ b1 := Nat.ne_of_lt (Nat.lt_of_lt_of_le A_q1.lt gb)
    have ne_o1_b1 : o1 ≠ b1 := Nat.ne_of_lt (Nat.lt_of_lt_of_le A_o1.lt gb)
    have ge_b1 : h0.size ≤ b1 := Nat.le_trans En.1 gb
    have g0_b1 : n0 ≤ b1 := Nat.le_trans Z0 ge_b1
    have ne_s1_t1 : s1 ≠ t1 := Nat.ne_of_lt (Nat.lt_of_lt_of_le L_s1.1.lt gt)
    have ne_u_s1_t1 : u_s1 ≠ t1 := Nat.ne_of_lt (Nat.lt_of_lt_of_le L_s1.2.2.2.1.lt gt)
    have ne_s2_t1 : s2 ≠ t1 := Nat.ne_of_lt (Nat.lt_of_lt_of_le L_s2.1.lt gt)
    have ne_u_s2_t1 : u_s2 ≠ t1 := Nat.ne_of_lt (Nat.lt_of_lt_of_le L_s2.2.2.2.1.lt gt)
    have ne_i1_t1 : i1 ≠ t1 := Nat.ne_of_lt (Nat.lt_of_lt_of_le G_i1.1.lt gt)
    have ne_l1_t1 : l1 ≠ t1 := Nat.ne_of_lt (Nat.lt_of_lt_of_le O_l1.1.lt gt)
    have ne_a_l1_t1 : a_l1 ≠ t1 := Nat.ne_of_lt (Nat.lt_of_lt_of_le O_l1.2.2.2.1.lt gt)
    have ne_i2_t1 : i2 ≠ t1 := Nat.ne_of_lt (Nat.lt_of_lt_of_le G_i2.1.lt gt)
    have ne_l2_t1 : l2 ≠ t1 := Nat.ne_of_lt (Nat.lt_of_lt_of_le O_l2.1.lt gt)
    have ne_a_l2_t1 : a_l2 ≠ t1 := Nat.ne_of_lt (Nat.lt_of_lt_of_le O_l2.2.2.2.1.lt gt)
    have ne_q1_t1 : q1 ≠ t1 := Nat.ne_of_lt (Nat.lt_of_lt_of_le A_q1.lt gt)
    have ne_o1_t1 : o1 ≠ t1 := Nat.ne_of_lt (Nat.lt_of_lt_of_le A_o1.lt gt)
    have ge_t1 : h0.size ≤ t1 := Nat.le_trans En.1 gt
    have g0_t1 : n0 ≤ t1 := Nat.le_trans Z0 ge_t1
    have ne_s1_pl1 : s1 ≠ pl1 := Nat.ne_of_lt (Nat.lt_of_lt_of_le L_s1.1.lt gp)
    have ne_u_s1_pl1 : u_s1 ≠ pl1 := Nat.ne_of_lt (Nat.lt_of_lt_of_le L_s1.2.2.2.1.lt gp)
    have ne_s2_pl1 : s2 ≠ pl1 := Nat.ne_of_lt (Nat.lt_of_lt_of_le L_s2.1.lt gp)
    have ne_u_s2_pl1 : u_s2 ≠ pl1 := Nat.ne_of_lt (Nat.lt_of_lt_of_le L_s2.2.2.2.1.lt gp)
    have ne_i1_pl1 : i1 ≠ pl1 := Nat.ne_of_lt (Nat.lt_of_lt_of_le G_i1.1.lt gp)
    have ne_l1_pl1 : l1 ≠ pl1 := Nat.ne_of_lt (Nat.lt_of_lt_of_le O_l1.1.lt gp)
    have ne_a_l1_pl1 : a_l1 ≠ pl1 := Nat.ne_of_lt (Nat.lt_of_lt_of_le O_l1.2.2.2.1.lt gp)
    have ne_i2_pl1 : i2 ≠ pl1 := Nat.ne_of_lt (Nat.lt_of_lt_of_le G_i2.1.lt gp)
    have ne_l2_pl1 : l2 ≠ pl1 := Nat.ne_of_lt (Nat.lt_of_lt_of_le O_l2.1.lt gp)
    have ne_a_l2_pl1 : a_l2 ≠ pl1 := Nat.ne_of_lt (Nat.lt_of_lt_of_le O_l2.2.2.2.1.lt gp)
    have ne_q1_pl1 : q1 ≠ pl1 := Nat.ne_of_lt (Nat.lt_of_lt_of_le A_q1.lt gp)
    have ne_o1_pl1 : o1 ≠ pl1 := Nat.ne_of_lt (Nat.lt_of_lt_of_le A_o1.lt gp)
    have ge_pl1 : h0.size ≤ pl1 := Nat.le_trans En.1 gp
    have g0_pl1 : n0 ≤ pl1 := Nat.le_trans Z0 ge_pl1
    have ne_s1_vl1 : s1 ≠ vl1 := Nat.ne_of_lt (Nat.lt_of_lt_of_le L_s1.1.lt gv)
    have ne_u_s1_vl1 : u_s1 ≠ vl1 := Nat.ne_of_lt (Nat.lt_of_lt_of_le L_s1.2.2.2.1.lt gv)
    have ne_s2_vl1 : s2 ≠ vl1 := Nat.ne_of_lt (Nat.lt_of_lt_of_le L_s2.1.lt gv)
    have ne_u_s2_vl1 : u_s2 ≠ vl1 := Nat.ne_of_lt (Nat.lt_of_lt_of_le L_s2.2.2.2.1.lt gv)
    have ne_i1_vl1 : i1 ≠ vl1 := Nat.ne_of_lt (Nat.lt_of_lt_of_le G_i1.1.lt gv)
    have ne_l1_vl1 : l1 ≠ vl1 := Nat.ne_of_lt (Nat.lt_of_lt_of_le O_l1.1.lt gv)
    have ne_a_l1_vl1 : a_l1 ≠ vl1 := Nat.ne_of_lt (Nat.lt_of_lt_of_le O_l1.2.2.2.1.lt gv)
    have ne_i2_vl1 : i2 ≠ vl1 := Nat.ne_of_lt (Nat.lt_of_lt_of_le G_i2.1.lt gv)
    have ne_l2_vl1 : l2 ≠ vl1 := Nat.ne_of_lt (Nat.lt_of_lt_of_le O_l2.1.lt gv)
    have ne_a_l2_vl1 : a_l2 ≠ vl1 := Nat.ne_of_lt (Nat.lt_of_lt_of_le O_l2.2.2.2.1.lt gv)
    have ne_q1_vl1 : q1 ≠ vl1 := Nat.ne_of_lt (Nat.lt_of_lt_of_le A_q1.lt gv)
    have ne_o1_vl1 : o1 ≠ vl1 := Nat.ne_of_lt (Nat.lt_of_lt_of_le A_o1.lt gv)
    have ge_vl1 : h0.size ≤ vl1 := Nat.le_trans En.1 gv
    have g0_vl1 : n0 ≤ vl1 := Nat.le_trans Z0 ge_vl1
    have m1_1 := n1
    have m2_1 := n2
    have m3_1 := n3
    have m4_1 := n4
    have m5_1 := n5
    have m6_1 := n6
    have SF1 := Safe.keep (EL := EL0) K1 (sfS (Safe.exa D.2.1.alike A_o1 (by decide) (by decide)) sf0) D.2.2.2.1.1 (Safe.new gt)
    have D' := D.keep K1 (sfS (Safe.exa D.2.1.alike A_o1 (by decide) (by decide)) sf0)
    replace L_s1 := L_s1.keep K1 (ninS ne_s1_o1 nin0) (ninS ne_u_s1_o1 nin0)
    replace L_s2 := L_s2.keep K1 (ninS ne_s2_o1 nin0) (ninS ne_u_s2_o1 nin0)
    replace G_i1 := G_i1.keep K1 (ninS ne_i1_o1 nin0)
    replace O_l1 := O_l1.keep K1 (ninS ne_l1_o1 nin0) (ninS ne_a_l1_o1 nin0)
    replace G_i2 := G_i2.keep K1 (ninS ne_i2_o1 nin0)
    replace O_l2 := O_l2.keep K1 (ninS ne_l2_o1 nin0) (ninS ne_a_l2_o1 nin0)
    replace A_q1 := A_q1.keep K1
    replace D := D'
    replace En := Ext.kp En K1 (allS ge_o1 all0)
    have Q1 := QN
    have B1 := BN
    have P1 := PN
    have V1 := VN
    refine w_astore X203.here hx (hb hby at_166) rfl (l' := #[.val (.int p1), .val (.int p2), .val (.int p3), .val (.int p4), .val av, .val (.int (0 : Int32)), .val (.ref c1), .val (.ref s1), .val (.ref c2), .val (.ref s2), .val (.ref l1), .val (.ref l2), .val (.ref q1), .val (.ref o1), .unset, .unset, .unset, .unset, .unset]) rfl (pc' := 168) rfl ?_
    refine w_iload X203.here hx (hb hby at_168) rfl (pc' := 170) rfl ?_
    refine w_ifYes X203.here hx (hb hby at_170) (teq (show (0 : Int32) = (0 : Int32) from by decide)).1 (pc' := 189) (by decide) (by decide) ?_
    refine w_aload X203.here hx (hb hby at_189) rfl rfl (pc' := 191) rfl ?_
    refine w_virtual X203 hx D.zw (y := yq15) (z := yq15) D.ow (tw hw 163 rfl) (tw hw 164 rfl) (notFace_of_selects (args := #[]) (mvT D.zw (tw hw 166 rfl))) (tw hw 166 rfl) (tw hw 165 rfl) (by decide) (backC (W := 6) (rmNest l Z a0 hw o1 q1 b1 pl1 vl1 D1 kD z T203.heap n0 (Nat.le_trans Z0 En.1) (SC.ext En) hz (DE.ext En) Q1) D.zw (tw hw 167 rfl) (tw hw 130 rfl) (by decide) (by decide)) rfl Q1.1 (by rw [hml]; rfl) (argsL := []) (st := []) pd_30 rfl rfl rfl (Nat.le_of_ble_eq_true rfl) (hb hby at_191) (by decide) (by decide) (pc' := 194) rfl ?_
    intro T205 v205 L205 X205 Q205
    obtain ⟨o2, rfl, N1, E1, go2, b2, t2, kt2, pl2, vl2, gb, gt, gp, gv, n1, n2, n3, n4, n5, n6, r1, r2, r3, r4, QN, BN, PN, VN⟩ := Q205
    clear X203
    show Go _ _ _ _ T205 (mkF m 194 _ [(.ref o2)])
    have N206 := Fr.app N204 N1
    have ne_s1_o2 : s1 ≠ o2 := Nat.ne_of_lt (Nat.lt_of_lt_of_le L_s1.1.lt go2)
    have ne_u_s1_o2 : u_s1 ≠ o2 := Nat.ne_of_lt (Nat.lt_of_lt_of_le L_s1.2.2.2.1.lt go2)
    have ne_s2_o2 : s2 ≠ o2 := Nat.ne_of_lt (Nat.lt_of_lt_of_le L_s2.1.lt go2)
    have ne_u_s2_o2 : u_s2 ≠ o2 := Nat.ne_of_lt (Nat.lt_of_lt_of_le L_s2.2.2.2.1.lt go2)
    have ne_i1_o2 : i1 ≠ o2 := Nat.ne_of_lt (Nat.lt_of_lt_of_le G_i1.1.lt go2)
    have ne_l1_o2 : l1 ≠ o2 := Nat.ne_of_lt (Nat.lt_of_lt_of_le O_l1.1.lt go2)
    have ne_a_l1_o2 : a_l1 ≠ o2 := Nat.ne_of_lt (Nat.lt_of_lt_of_le O_l1.2.2.2.1.lt go2)
    have ne_i2_o2 : i2 ≠ o2 := Nat.ne_of_lt (Nat.lt_of_lt_of_le G_i2.1.lt go2)
    have ne_l2_o2 : l2 ≠ o2 := Nat.ne_of_lt (Nat.lt_of_lt_of_le O_l2.1.lt go2)
    have ne_a_l2_o2 : a_l2 ≠ o2 := Nat.ne_of_lt (Nat.lt_of_lt_of_le O_l2.2.2.2.1.lt go2)
    have ne_q1_o2 : q1 ≠ o2 := Nat.ne_of_lt (Nat.lt_of_lt_of_le A_q1.lt go2)
    have ne_o1_o2 : o1 ≠ o2 := Nat.ne_of_lt (Nat.lt_of_lt_of_le Q1.1.lt go2)
    have ne_b1_o2 : b1 ≠ o2 := Nat.ne_of_lt (Nat.lt_of_lt_of_le B1.1.lt go2)
    have ne_t1_o2 : t1 ≠ o2 := Nat.ne_of_lt (Nat.lt_of_lt_of_le B1.2.2.2.2.1.lt go2)
    have ne_pl1_o2 : pl1 ≠ o2 := Nat.ne_of_lt (Nat.lt_of_lt_of_le P1.1.lt go2)
    have ne_vl1_o2 : vl1 ≠ o2 := Nat.ne_of_lt (Nat.lt_of_lt_of_le V1.1.lt go2)
    have ne_s1_b2 : s1 ≠ b2 := Nat.ne_of_lt (Nat.lt_of_lt_of_le L_s1.1.lt gb)
    have ne_u_s1_b2 : u_s1 ≠ b2 := Nat.ne_of_lt (Nat.lt_of_lt_of_le L_s1.2.2.2.1.lt gb)
    have ne_s2_b2 : s2 ≠ b2 := Nat.ne_of_lt (Nat.lt_of_lt_of_le L_s2.1.lt gb)
    have ne_u_s2_b2 : u_s2 ≠ b2 := Nat.ne_of_lt (Nat.lt_of_lt_of_le L_s2.2.2.2.1.lt gb)
    have ne_i1_b2 : i1 ≠ b2 := Nat.ne_of_lt (Nat.lt_of_lt_of_le G_i1.1.lt gb)
    have ne_l1_b2 : l1 ≠ b2 := Nat.ne_of_lt (Nat.lt_of_lt_of_le O_l1.1.lt gb)
    have ne_a_l1_b2 : a_l1 ≠ b2 := Nat.ne_of_lt (Nat.lt_of_lt_of_le O_l1.2.2.2.1.lt gb)
    have ne_i2_b2 : i2 ≠ b2 := Nat.ne_of_lt (Nat.lt_of_lt_of_le G_i2.1.lt gb)
    have ne_l2_b2 : l2 ≠ b2 := Nat.ne_of_lt (Nat.lt_of_lt_of_le O_l2.1.lt gb)
    have ne_a_l2_b2 : a_l2 ≠ b2 := Nat.ne_of_lt (Nat.lt_of_lt_of_le O_l2.2.2.2.1.lt gb)
    have ne_q1_b2 : q1 ≠ b2 := Nat.ne_of_lt (Nat.lt_of_lt_of_le A_q1.lt gb)
    have ne_o1_b2 : o1 ≠ b2 := Nat.ne_of_lt (Nat.lt_of_lt_of_le Q1.1.lt gb)
    have ne_b1_b2 : b1 ≠ b2 := Nat.ne_of_lt (Nat.lt_of_lt_of_le B1.1.lt gb)
    have ne_t1_b2 : t1 ≠ b2 := Nat.ne_of_lt (Nat.lt_of_lt_of_le B1.2.2.2.2.1.lt gb)
    have ne_pl1_b2 : pl1 ≠ b2 := Nat.ne_of_lt (Nat.lt_of_lt_of_le P1.1.lt gb)
    have ne_vl1_b2 : vl1 ≠ b2 := Nat.ne_of_lt (Nat.lt_of_lt_of_le V1.1.lt gb)
    have ge_b2 : h0.size ≤ b2 := Nat.le_trans En.1 gb
    have g0_b2 : n0 ≤ b2 := Nat.le_trans Z0 ge_b2
    have ne_s1_t2 : s1 ≠ t2 := Nat.ne_of_lt (Nat.lt_of_lt_of_le L_s1.1.lt gt)
    have ne_u_s1_t2 : u_s1 ≠ t2 := Nat.ne_of_lt (Nat.lt_of_lt_of_le L_s1.2.2.2.1.lt gt)
    have ne_s2_t2 : s2 ≠ t2 := Nat.ne_of_lt (Nat.lt_of_lt_of_le L_s2.1.lt gt)
    have ne_u_s2_t2 : u_s2 ≠ t2 := Nat.ne_of_lt (Nat.lt_of_lt_of_le L_s2.2.2.2.1.lt gt)
    have ne_i1_t2 : i1 ≠ t2 := Nat.ne_of_lt (Nat.lt_of_lt_of_le G_i1.1.lt gt)
    have ne_l1_t2 : l1 ≠ t2 := Nat.ne_of_lt (Nat.lt_of_lt_of_le O_l1.1.lt gt)
    have ne_a_l1_t2 : a_l1 ≠ t2 := Nat.ne_of_lt (Nat.lt_of_lt_of_le O_l1.2.2.2.1.lt gt)
    have ne_i2_t2 : i2 ≠ t2 := Nat.ne_of_lt (Nat.lt_of_lt_of_le G_i2.1.lt gt)
    have ne_l2_t2 : l2 ≠ t2 := Nat.ne_of_lt (Nat.lt_of_lt_of_le O_l2.1.lt gt)
    have ne_a_l2_t2 : a_l2 ≠ t2 := Nat.ne_of_lt (Nat.lt_of_lt_of_le O_l2.2.2.2.1.lt gt)
    have ne_q1_t2 : q1 ≠ t2 := Nat.ne_of_lt (Nat.lt_of_lt_of_le A_q1.lt gt)
    have ne_o1_t2 : o1 ≠ t2 := Nat.ne_of_lt (Nat.lt_of_lt_of_le Q1.1.lt gt)
    have ne_b1_t2 : b1 ≠ t2 := Nat.ne_of_lt (Nat.lt_of_lt_of_le B1.1.lt gt)
    have ne_t1_t2 : t1 ≠ t2 := Nat.ne_of_lt (Nat.lt_of_lt_of_le B1.2.2.2.2.1.lt gt)
    have ne_pl1_t2 : pl1 ≠ t2 := Nat.ne_of_lt (Nat.lt_of_lt_of_le P1.1.lt gt)
    have ne_vl1_t2 : vl1 ≠ t2 := Nat.ne_of_lt (Nat.lt_of_lt_of_le V1.1.lt gt)
    have ge_t2 : h0.size ≤ t2 := Nat.le_trans En.1 gt
    have g0_t2 : n0 ≤ t2 := Nat.le_trans Z0 ge_t2
    have ne_s1_pl2 : s1 ≠ pl2 := Nat.ne_of_lt (Nat.lt_of_lt_of_le L_s1.1.lt gp)
    have ne_u_s1_pl2 : u_s1 ≠ pl2 := Nat.ne_of_lt (Nat.lt_of_lt_of_le L_s1.2.2.2.1.lt gp)
    have ne_s2_pl2 : s2 ≠ pl2 := Nat.ne_of_lt (Nat.lt_of_lt_of_le L_s2.1.lt gp)
    have ne_u_s2_pl2 : u_s2 ≠ pl2 := Nat.ne_of_lt (Nat.lt_of_lt_of_le L_s2.2.2.2.1.lt gp)
    have ne_i1_pl2 : i1 ≠ pl2 := Nat.ne_of_lt (Nat.lt_of_lt_of_le G_i1.1.lt gp)
    have ne_l1_pl2 : l1 ≠ pl2 := Nat.ne_of_lt (Nat.lt_of_lt_of_le O_l1.1.lt gp)
    have ne_a_l1_pl2 : a_l1 ≠ pl2 := Nat.ne_of_lt (Nat.lt_of_lt_of_le O_l1.2.2.2.1.lt gp)
    have ne_i2_pl2 : i2 ≠ pl2 := Nat.ne_of_lt (Nat.lt_of_lt_of_le G_i2.1.lt gp)
    have ne_l2_pl2 : l2 ≠ pl2 := Nat.ne_of_lt (Nat.lt_of_lt_of_le O_l2.1.lt gp)
    have ne_a_l2_pl2 : a_l2 ≠ pl2 := Nat.ne_of_lt (Nat.lt_of_lt_of_le O_l2.2.2.2.1.lt gp)
    have ne_q1_pl2 : q1 ≠ pl2 := Nat.ne_of_lt (Nat.lt_of_lt_of_le A_q1.lt gp)
    have ne_o1_pl2 : o1 ≠ pl2 := Nat.ne_of_lt (Nat.lt_of_lt_of_le Q1.1.lt gp)
    have ne_b1_pl2 : b1 ≠ pl2 := Nat.ne_of_lt (Nat.lt_of_lt_of_le B1.1.lt gp)
    have ne_t1_pl2 : t1 ≠ pl2 := Nat.ne_of_lt (Nat.lt_of_lt_of_le B1.2.2.2.2.1.lt gp)
    have ne_pl1_pl2 : pl1 ≠ pl2 := Nat.ne_of_lt (Nat.lt_of_lt_of_le P1.1.lt gp)
    have ne_vl1_pl2 : vl1 ≠ pl2 := Nat.ne_of_lt (Nat.lt_of_lt_of_le V1.1.lt gp)
    have ge_pl2 : h0.size ≤ pl2 := Nat.le_trans En.1 gp
    have g0_pl2 : n0 ≤ pl2 := Nat.le_trans Z0 ge_pl2
    have ne_s1_vl2 : s1 ≠ vl2 := Nat.ne_of_lt (Nat.lt_of_lt_of_le L_s1.1.lt gv)
    have ne_u_s1_vl2 : u_s1 ≠ vl2 := Nat.ne_of_lt (Nat.lt_of_lt_of_le L_s1.2.2.2.1.lt gv)
    have ne_s2_vl2 : s2 ≠ vl2 := Nat.ne_of_lt (Nat.lt_of_lt_of_le L_s2.1.lt gv)
    have ne_u_s2_vl2 : u_s2 ≠ vl2 := Nat.ne_of_lt (Nat.lt_of_lt_of_le L_s2.2.2.2.1.lt gv)
    have ne_i1_vl2 : i1 ≠ vl2 := Nat.ne_of_lt (Nat.lt_of_lt_of_le G_i1.1.lt gv)
    have ne_l1_vl2 : l1 ≠ vl2 := Nat.ne_of_lt (Nat.lt_of_lt_of_le O_l1.1.lt gv)
    have ne_a_l1_vl2 : a_l1 ≠ vl2 := Nat.ne_of_lt (Nat.lt_of_lt_of_le O_l1.2.2.2.1.lt gv)
    have ne_i2_vl2 : i2 ≠ vl2 := Nat.ne_of_lt (Nat.lt_of_lt_of_le G_i2.1.lt gv)
    have ne_l2_vl2 : l2 ≠ vl2 := Nat.ne_of_lt (Nat.lt_of_lt_of_le O_l2.1.lt gv)
    have ne_a_l2_vl2 : a_l2 ≠ vl2 := Nat.ne_of_lt (Nat.lt_of_lt_of_le O_l2.2.2.2.1.lt gv)
    have ne_q1_vl2 : q1 ≠ vl2 := Nat.ne_of_lt (Nat.lt_of_lt_of_le A_q1.lt gv)
    have ne_o1_vl2 : o1 ≠ vl2 := Nat.ne_of_lt (Nat.lt_of_lt_of_le Q1.1.lt gv)
    have ne_b1_vl2 : b1 ≠ vl2 := Nat.ne_of_lt (Nat.lt_of_lt_of_le B1.1.lt gv)
    have ne_t1_vl2 : t1 ≠ vl2 := Nat.ne_of_lt (Nat.lt_of_lt_of_le B1.2.2.2.2.1.lt gv)
    have ne_pl1_vl2 : pl1 ≠ vl2 := Nat.ne_of_lt (Nat.lt_of_lt_of_le P1.1.lt gv)
    have ne_vl1_vl2 : vl1 ≠ vl2 := Nat.ne_of_lt (Nat.lt_of_lt_of_le V1.1.lt gv)
    have ge_vl2 : h0.size ≤ vl2 := Nat.le_trans En.1 gv
    have g0_vl2 : n0 ≤ vl2 := Nat.le_trans Z0 ge_vl2
    have m1_2 := n1
    have m2_2 := n2
    have m3_2 := n3
    have m4_2 := n4
    have m5_2 := n5
    have m6_2 := n6
    have SF2 := Safe.ext (EL := EL0) E1 D.2.2.2.1.1 (Safe.new gt)
    replace L_s1 := L_s1.ext E1
    replace L_s2 := L_s2.ext E1
    replace G_i1 := G_i1.ext E1
    replace O_l1 := O_l1.ext E1
    replace G_i2 := G_i2.ext E1
    replace O_l2 := O_l2.ext E1
    replace A_q1 := A_q1.ext E1
    replace Q1 := Q1.ext E1
    replace B1 := B1.ext E1
    replace P1 := P1.ext E1
    replace V1 := V1.ext E1
    replace SF1 := Safe.ext E1 D.2.2.2.1.1 SF1
    replace D := D.ext E1
    replace En := Ext.trs En E1
    have Q2 := QN
    have B2 := BN
    have P2 := PN
    have V2 := VN
    refine w_astore X205.here hx (hb hby at_194) rfl (l' := #[.val (.int p1), .val (.int p2), .val (.int p3), .val (.int p4), .val av, .val (.int (0 : Int32)), .val (.ref c1), .val (.ref s1), .val (.ref c2), .val (.ref s2), .val (.ref l1), .val (.ref l2), .val (.ref q1), .val (.ref o1), .val (.ref o2), .unset, .unset, .unset, .unset]) rfl (pc' := 196) rfl ?_
    refine w_aload X205.here hx (hb hby at_196) rfl rfl (pc' := 198) rfl ?_
    refine w_aload X205.here hx (hb hby at_198) rfl rfl (pc' := 200) rfl ?_
    refine w_acmpNo X205.here hx (hb hby at_200) rfl rfl (Jvm.Free.XT.aa_eq_f (show ¬ ((.ref o2) : Value) = (.ref o1) from fun q => ne_o1_o2 (Value.ref.inj q).symm)) (pc' := 203) rfl ?_
    refine w_aload X205.here hx (hb hby at_203) rfl rfl (pc' := 205) rfl ?_
    refine w_virtual X205 hx D.zw (y := yq16) (z := yq16) D.ow (tw hw 170 rfl) (tw hw 171 rfl) (notFace_of_selects (args := #[]) (mvT D.zw (tw hw 173 rfl))) (tw hw 173 rfl) (tw hw 172 rfl) (by decide) (backC (W := 6) (rmGp l Z a0 hw o2 q1 b2 pl2 vl2 T205.heap Q2) D.zw (tw hw 174 rfl) (tw hw 130 rfl) (by decide) (by decide)) rfl Q2.1 (by rw [hml]; rfl) (argsL := []) (st := []) pd_31 rfl rfl rfl (Nat.le_of_ble_eq_true rfl) (hb hby at_205) (by decide) (by decide) (pc' := 208) rfl ?_
    intro T208 v208 L208 X208 Q208
    obtain ⟨rfl, rfl, hq207⟩ := Q208
    clear X205
    show Go _ _ _ _ T208 (mkF m 208 _ [(.ref q1)])
    rw [List.append_nil] at X208
    refine w_aload X208.here hx (hb hby at_208) rfl rfl (pc' := 210) rfl ?_
    refine w_acmpNo X208.here hx (hb hby at_210) rfl rfl (Jvm.Free.XT.aa_ne_f (show ((.ref q1) : Value) = (.ref q1) from rfl)) (pc' := 213) rfl ?_
    refine w_aload X208.here hx (hb hby at_213) rfl rfl (pc' := 215) rfl ?_
    refine w_virtual X208 hx D.zw (y := yq1) (z := yq1) D.ow (tw hw 175 rfl) (tw hw 176 rfl) (notFace_of_selects (args := #[]) (mvT D.zw (tw hw 178 rfl))) (tw hw 178 rfl) (tw hw 177 rfl) (by decide) (backC (W := 6) (rmTx l Z a0 hw o2 q1 b2 pl2 vl2 t2 kt2 [] z T205.heap n0 (Nat.le_trans Z0 En.1) (SC.ext En) hz Q2 B2 (Nat.le_of_ble_eq_true rfl)) D.zw (tw hw 179 rfl) (tw hw 130 rfl) (by decide) (by decide)) hq207 Q2.1 (by rw [hml]; rfl) (argsL := []) (st := []) pd_23 rfl rfl rfl (Nat.le_of_ble_eq_true rfl) (hb hby at_215) (by decide) (by decide) (pc' := 218) rfl ?_
    intro T209 v209 L209 X209 Q209
    obtain ⟨x3, u_x3, ku_x3, rfl, N1, E1, gx, gu, L_x3⟩ := Q209
    clear X208
    show Go _ _ _ _ T209 (mkF m 218 _ [(.ref x3)])
    have N210 := Fr.app N206 N1
    replace L_s1 := L_s1.ext E1
    replace L_s2 := L_s2.ext E1
    replace G_i1 := G_i1.ext E1
    replace O_l1 := O_l1.ext E1
    replace G_i2 := G_i2.ext E1
    replace O_l2 := O_l2.ext E1
    replace A_q1 := A_q1.ext E1
    replace Q1 := Q1.ext E1
    replace B1 := B1.ext E1
    replace P1 := P1.ext E1
    replace V1 := V1.ext E1
    replace Q2 := Q2.ext E1
    replace B2 := B2.ext E1
    replace P2 := P2.ext E1
    replace V2 := V2.ext E1
    replace SF1 := Safe.ext E1 D.2.2.2.1.1 SF1
    replace SF2 := Safe.ext E1 D.2.2.2.1.1 SF2
    replace D := D.ext E1
    replace En := Ext.trs En E1
    refine w_virtual X209 hx D.zw (y := yq9) (z := yq9) D.ow (tw hw 230 rfl) (tw hw 231 rfl) (notFace_of_selects (args := #[]) (mvT D.zw (tw hw 233 rfl))) (tw hw 233 rfl) (tw hw 232 rfl) (by decide) (k_emp (W := 6) D.zw (fun d hd => hw d (own_wEmp d hd)) (tw hw 9 rfl) L_x3.str (by decide) (by decide)) rfl L_x3.1 (by rw [hml]; rfl) (argsL := []) (st := []) pd_11 rfl rfl rfl (Nat.le_of_ble_eq_true rfl) (hb hby at_218) (by decide) (by decide) (pc' := 221) rfl ?_
    intro T212 v212 L212 X212 Q212
    obtain ⟨rfl, rfl, hq211⟩ := Q212
    clear X209
    show Go _ _ _ _ T212 (mkF m 221 _ [(.int (1 : Int32))])
    rw [List.append_nil] at X212
    refine w_ifNo X212.here hx (hb hby at_221) (feq (show ¬ ((1 : Int32) = (0 : Int32)) from by decide)).1 (pc' := 224) rfl ?_
    refine w_aload X212.here hx (hb hby at_224) rfl rfl (pc' := 226) rfl ?_
    refine w_virtual X212 hx D.zw (y := yq17) (z := yq17) D.ow (tw hw 235 rfl) (tw hw 236 rfl) (notFace_of_selects (args := #[]) (mvT D.zw (tw hw 238 rfl))) (tw hw 238 rfl) (tw hw 237 rfl) (by decide) (backC (W := 6) (rmGl l Z a0 hw o2 q1 b2 pl2 vl2 T209.heap Q2) D.zw (tw hw 239 rfl) (tw hw 130 rfl) (by decide) (by decide)) hq211 Q2.1 (by rw [hml]; rfl) (argsL := []) (st := []) pd_32 rfl rfl rfl (Nat.le_of_ble_eq_true rfl) (hb hby at_226) (by decide) (by decide) (pc' := 229) rfl ?_
    intro T214 v214 L214 X214 Q214
    obtain ⟨rfl, rfl, hq213⟩ := Q214
    clear X212
    show Go _ _ _ _ T214 (mkF m 229 _ [(.ref pl2)])
    rw [List.append_nil] at X214
    refine w_interface X214 hx D.zw (y := yq5) (z := yq4) D.ow (tw hw 240 rfl) (tw hw 241 rfl) (mvT D.zw (tw hw 242 rfl)) (tw hw 243 rfl) (tw hw 244 rfl) (tw hw 245 rfl) (tw hw 246 rfl) (tw hw 68 rfl) (by decide) (backC5 (W := 6) (rmSize l Z a0 hw pl2 0 T209.heap P2.2.2.1) D.zw (tw hw 247 rfl) (tw hw 39 rfl) (by decide) (by decide)) hq213 P2.1 (by rw [hml]; rfl) (argsL := []) (st := []) pd_0 rfl rfl rfl (Nat.le_of_ble_eq_true rfl) (hb hby at_229) (by decide) (by decide) (pc' := 234) rfl ?_
    intro T216 v216 L216 X216 Q216
    obtain ⟨rfl, rfl, hq215⟩ := Q216
    clear X214
    show Go _ _ _ _ T216 (mkF m 234 _ [(.int (0 : Int32))])
    rw [List.append_nil] at X216
    refine w_ifNo X216.here hx (hb hby at_234) (teq (show (0 : Int32) = (0 : Int32) from rfl)).2 (pc' := 237) rfl ?_
    refine w_aload X216.here hx (hb hby at_237) rfl rfl (pc' := 239) rfl ?_
    refine w_virtual X216 hx D.zw (y := yq0) (z := yq0) D.ow (tw hw 248 rfl) (tw hw 249 rfl) (notFace_of_selects (args := #[]) (mvT D.zw (tw hw 251 rfl))) (tw hw 251 rfl) (tw hw 250 rfl) (by decide) (backC (W := 6) (rmGv l Z a0 hw o2 q1 b2 pl2 vl2 T209.heap Q2) D.zw (tw hw 252 rfl) (tw hw 130 rfl) (by decide) (by decide)) hq215 Q2.1 (by rw [hml]; rfl) (argsL := []) (st := []) pd_32 rfl rfl rfl (Nat.le_of_ble_eq_true rfl) (hb hby at_239) (by decide) (by decide) (pc' := 242) rfl ?_
    intro T218 v218 L218 X218 Q218
    obtain ⟨rfl, rfl, hq217⟩ := Q218
    clear X216
    show Go _ _ _ _ T218 (mkF m 242 _ [(.ref vl2)])
    rw [List.append_nil] at X218
    refine w_interface X218 hx D.zw (y := yq5) (z := yq4) D.ow (tw hw 240 rfl) (tw hw 241 rfl) (mvT D.zw (tw hw 242 rfl)) (tw hw 243 rfl) (tw hw 244 rfl) (tw hw 245 rfl) (tw hw 246 rfl) (tw hw 68 rfl) (by decide) (backC5 (W := 6) (rmSize l Z a0 hw vl2 0 T209.heap V2.2.2.1) D.zw (tw hw 247 rfl) (tw hw 39 rfl) (by decide) (by decide)) hq217 V2.1 (by rw [hml]; rfl) (argsL := []) (st := []) pd_0 rfl rfl rfl (Nat.le_of_ble_eq_true rfl) (hb hby at_242) (by decide) (by decide) (pc' := 247) rfl ?_
    intro T220 v220 L220 X220 Q220
    obtain ⟨rfl, rfl, hq219⟩ := Q220
    clear X218
    show Go _ _ _ _ T220 (mkF m 247 _ [(.int (0 : Int32))])
    rw [List.append_nil] at X220
    refine w_ifNo X220.here hx (hb hby at_247) (teq (show (0 : Int32) = (0 : Int32) from rfl)).2 (pc' := 250) rfl ?_
    refine w_iconst X220.here hx (hb hby at_250) (z := 1) rfl (pc' := 251) rfl ?_
    refine w_goto X220.here hx (hb hby at_251) (pc' := 255) (by decide) (by decide) ?_
    refine w_istore X220.here hx (hb hby at_255) (l' := #[.val (.int p1), .val (.int p2), .val (.int p3), .val (.int p4), .val av, .val (.int (0 : Int32)), .val (.ref c1), .val (.ref s1), .val (.ref c2), .val (.ref s2), .val (.ref l1), .val (.ref l2), .val (.ref q1), .val (.ref o1), .val (.ref o2), .val (.int (1 : Int32)), .unset, .unset, .unset]) rfl (pc' := 257) rfl ?_
    refine w_aload X220.here hx (hb hby at_257) rfl rfl (pc' := 259) rfl ?_
    refine w_aload X220.here hx (hb hby at_259) rfl rfl (pc' := 261) rfl ?_
    refine w_new X220 hx D.zw D.ow (tw hw 37 rfl) (tw hw 38 rfl) (tw hw 39 rfl) hq219 (hb hby at_261) (by decide) (by decide) (pc' := 264) rfl ?_
    intro T221 h221 e2 ge2 X221 e221 E221 A221 D221 U221
    clear X220
    have ge_e2 : h0.size ≤ e2 := Nat.le_trans En.1 (Nat.le_of_eq ge2)
    have g0_e2 : n0 ≤ e2 := Nat.le_trans Z0 ge_e2
    have ne_s1_e2 : s1 ≠ e2 := Nat.ne_of_lt (Nat.lt_of_lt_of_le L_s1.1.lt (Nat.le_of_eq ge2))
    have ne_u_s1_e2 : u_s1 ≠ e2 := Nat.ne_of_lt (Nat.lt_of_lt_of_le L_s1.2.2.2.1.lt (Nat.le_of_eq ge2))
    have ne_s2_e2 : s2 ≠ e2 := Nat.ne_of_lt (Nat.lt_of_lt_of_le L_s2.1.lt (Nat.le_of_eq ge2))
    have ne_u_s2_e2 : u_s2 ≠ e2 := Nat.ne_of_lt (Nat.lt_of_lt_of_le L_s2.2.2.2.1.lt (Nat.le_of_eq ge2))
    have ne_i1_e2 : i1 ≠ e2 := Nat.ne_of_lt (Nat.lt_of_lt_of_le G_i1.1.lt (Nat.le_of_eq ge2))
    have ne_l1_e2 : l1 ≠ e2 := Nat.ne_of_lt (Nat.lt_of_lt_of_le O_l1.1.lt (Nat.le_of_eq ge2))
    have ne_a_l1_e2 : a_l1 ≠ e2 := Nat.ne_of_lt (Nat.lt_of_lt_of_le O_l1.2.2.2.1.lt (Nat.le_of_eq ge2))
    have ne_i2_e2 : i2 ≠ e2 := Nat.ne_of_lt (Nat.lt_of_lt_of_le G_i2.1.lt (Nat.le_of_eq ge2))
    have ne_l2_e2 : l2 ≠ e2 := Nat.ne_of_lt (Nat.lt_of_lt_of_le O_l2.1.lt (Nat.le_of_eq ge2))
    have ne_a_l2_e2 : a_l2 ≠ e2 := Nat.ne_of_lt (Nat.lt_of_lt_of_le O_l2.2.2.2.1.lt (Nat.le_of_eq ge2))
    have ne_q1_e2 : q1 ≠ e2 := Nat.ne_of_lt (Nat.lt_of_lt_of_le A_q1.lt (Nat.le_of_eq ge2))
    have ne_o1_e2 : o1 ≠ e2 := Nat.ne_of_lt (Nat.lt_of_lt_of_le Q1.1.lt (Nat.le_of_eq ge2))
    have ne_b1_e2 : b1 ≠ e2 := Nat.ne_of_lt (Nat.lt_of_lt_of_le B1.1.lt (Nat.le_of_eq ge2))
    have ne_t1_e2 : t1 ≠ e2 := Nat.ne_of_lt (Nat.lt_of_lt_of_le B1.2.2.2.2.1.lt (Nat.le_of_eq ge2))
    have ne_pl1_e2 : pl1 ≠ e2 := Nat.ne_of_lt (Nat.lt_of_lt_of_le P1.1.lt (Nat.le_of_eq ge2))
    have ne_vl1_e2 : vl1 ≠ e2 := Nat.ne_of_lt (Nat.lt_of_lt_of_le V1.1.lt (Nat.le_of_eq ge2))
    have ne_o2_e2 : o2 ≠ e2 := Nat.ne_of_lt (Nat.lt_of_lt_of_le Q2.1.lt (Nat.le_of_eq ge2))
    have ne_b2_e2 : b2 ≠ e2 := Nat.ne_of_lt (Nat.lt_of_lt_of_le B2.1.lt (Nat.le_of_eq ge2))
    have ne_t2_e2 : t2 ≠ e2 := Nat.ne_of_lt (Nat.lt_of_lt_of_le B2.2.2.2.2.1.lt (Nat.le_of_eq ge2))
    have ne_pl2_e2 : pl2 ≠ e2 := Nat.ne_of_lt (Nat.lt_of_lt_of_le P2.1.lt (Nat.le_of_eq ge2))
    have ne_vl2_e2 : vl2 ≠ e2 := Nat.ne_of_lt (Nat.lt_of_lt_of_le V2.1.lt (Nat.le_of_eq ge2))
    replace L_s1 := L_s1.ext E221
    replace L_s2 := L_s2.ext E221
    replace G_i1 := G_i1.ext E221
    replace O_l1 := O_l1.ext E221
    replace G_i2 := G_i2.ext E221
    replace O_l2 := O_l2.ext E221
    replace A_q1 := A_q1.ext E221
    replace Q1 := Q1.ext E221
    replace B1 := B1.ext E221
    replace P1 := P1.ext E221
    replace V1 := V1.ext E221
    replace Q2 := Q2.ext E221
    replace B2 := B2.ext E221
    replace P2 := P2.ext E221
    replace V2 := V2.ext E221
    replace SF1 := Safe.ext E221 D.2.2.2.1.1 SF1
    replace SF2 := Safe.ext E221 D.2.2.2.1.1 SF2
    replace D := D.ext E221
    replace En := Ext.trs En E221
    have A_e2 := A221
    have FD : Fld Z h221 e2 "java/util/ArrayList" "elementData" "[Ljava/lang/Object;" .null := D221 (Or.inl (tw hw 60 rfl)) (ty := (.array (.object "java/lang/Object"))) (by decide)
    have FS : Fld Z h221 e2 "java/util/ArrayList" "size" "I" (.int (0 : Int32)) := D221 (Or.inl (tw hw 73 rfl)) (ty := .int) (by decide)
    have FM : Fld Z h221 e2 "java/util/AbstractList" "modCount" "I" (.int (0 : Int32)) := D221 (Or.inl (tw hw 57 rfl)) (ty := .int) (by decide)
    refine w_dup X221.here hx (hb hby at_264) rfl (pc' := 265) rfl ?_
    refine w_special X221 hx D.zw (y := yq2) rfl D.ow (tw hw 40 rfl) (tw hw 41 rfl) (tw hw 42 rfl) (by decide) (backC (W := 6) (rmAL l Z a0 hw e2 D1 kD h221 n0 g0_e2 (DE.ext En) A_e2 FD FS FM) D.zw (tw hw 42 rfl) (tw hw 39 rfl) (by decide) (by decide)) e221 (by rw [hml]; rfl) (argsL := []) (st := [(.ref e2), (.ref s2), (.ref o2)]) pd_14 rfl rfl rfl (Nat.le_of_ble_eq_true rfl) (hb hby at_265) (by decide) (by decide) (pc' := 268) rfl ?_
    intro T222 v222 L222 X222 Q222
    obtain ⟨rfl, N1, K1, E_e2⟩ := Q222
    clear X221
    clear e221
    show Go _ _ _ _ T222 (mkF m 268 _ [(.ref e2), (.ref s2), (.ref o2)])
    have N223 := Fr.app N210 N1
    have NSF1 := Safe.keep K1 (sfS (Safe.exa D.2.1.alike A_e2 (by decide) (by decide)) sf0) D.2.2.2.1.1 SF1
    have NSF2 := Safe.keep K1 (sfS (Safe.exa D.2.1.alike A_e2 (by decide) (by decide)) sf0) D.2.2.2.1.1 SF2
    have D' := D.keep K1 (sfS (Safe.exa D.2.1.alike A_e2 (by decide) (by decide)) sf0)
    replace L_s1 := L_s1.keep K1 (ninS ne_s1_e2 nin0) (ninS ne_u_s1_e2 nin0)
    replace L_s2 := L_s2.keep K1 (ninS ne_s2_e2 nin0) (ninS ne_u_s2_e2 nin0)
    replace G_i1 := G_i1.keep K1 (ninS ne_i1_e2 nin0)
    replace O_l1 := O_l1.keep K1 (ninS ne_l1_e2 nin0) (ninS ne_a_l1_e2 nin0)
    replace G_i2 := G_i2.keep K1 (ninS ne_i2_e2 nin0)
    replace O_l2 := O_l2.keep K1 (ninS ne_l2_e2 nin0) (ninS ne_a_l2_e2 nin0)
    replace A_q1 := A_q1.keep K1
    replace Q1 := Q1.keep K1 (ninS ne_o1_e2 nin0)
    replace B1 := B1.keep K1 (ninS ne_b1_e2 nin0) (ninS ne_t1_e2 nin0)
    replace P1 := P1.keep K1 (ninS ne_pl1_e2 nin0)
    replace V1 := V1.keep K1 (ninS ne_vl1_e2 nin0)
    replace Q2 := Q2.keep K1 (ninS ne_o2_e2 nin0)
    replace B2 := B2.keep K1 (ninS ne_b2_e2 nin0) (ninS ne_t2_e2 nin0)
    replace P2 := P2.keep K1 (ninS ne_pl2_e2 nin0)
    replace V2 := V2.keep K1 (ninS ne_vl2_e2 nin0)
    replace SF1 := NSF1
    replace SF2 := NSF2
    replace D := D'
    replace En := Ext.kp En K1 (allS ge_e2 all0)
    refine w_aload X222.here hx (hb hby at_268) rfl rfl (pc' := 270) rfl ?_
    refine w_virtual X222 hx D.zw (y := yq6) (z := yq6) D.ow (tw hw 253 rfl) (tw hw 254 rfl) (notFace_of_selects (args := #[]) (mvT D.zw (tw hw 256 rfl))) (tw hw 256 rfl) (tw hw 255 rfl) (by decide) (backC (W := 6) (rmSqA l Z a0 hw o2 q1 b2 pl2 vl2 t2 s2 u_s2 e2 l2 a_l2 i2 D1 mr kt2 ku_s2 ka_l2 kD (two p3) p3 z T222.heap n0 (Nat.le_trans Z0 En.1) g0_b2 g0_t2 g0_pl2 g0_vl2 (SC.ext En) hz M (DE.ext En) Q2 B2 P2 V2 L_s2 (Nat.le_of_ble_eq_true rfl) E_e2 O_l2 G_i2 (Nat.ne_of_lt (Nat.lt_of_lt_of_le DE.2.1.lt ge_t2)) (Ne.symm m1_2) (Ne.symm m2_2) (Ne.symm m4_2) (Ne.symm m3_2) (Ne.symm m5_2) (Ne.symm m6_2) r1 r2 r3 r4 (Ne.symm ne_b2_e2) (Ne.symm ne_t2_e2) (Ne.symm ne_pl2_e2) (Ne.symm ne_vl2_e2) ne_l2_b2 ne_l2_t2 ne_l2_pl2 ne_l2_vl2 ne_a_l2_b2 ne_a_l2_t2 ne_a_l2_pl2 ne_a_l2_vl2 ne_s2_b2 ne_s2_t2 ne_s2_pl2 ne_s2_vl2 ne_u_s2_b2 ne_u_s2_t2 ne_u_s2_pl2 ne_u_s2_vl2 ne_i2_b2 ne_i2_t2 ne_i2_pl2 ne_i2_vl2) D.zw (tw hw 257 rfl) (tw hw 130 rfl) (by decide) (by decide)) rfl Q2.1 (by rw [hml]; rfl) (argsL := [(.ref s2), (.ref e2), (.ref l2)]) (st := []) pd_33 rfl rfl rfl (Nat.le_of_ble_eq_true rfl) (hb hby at_270) (by decide) (by decide) (pc' := 273) rfl ?_
    intro T224 v224 L224 X224 Q224
    obtain ⟨rfl, N1, K1, BN, PN, a5_2, k5_2, ga, VN⟩ := Q224
    clear X222
    show Go _ _ _ _ T224 (mkF m 273 _ [])
    have N225 := Fr.app N223 N1
    have NSF1 := Safe.keep K1 (sfS (Safe.exa D.2.1.alike B2.1 (by decide) (by decide)) (sfS SF2 (sfS (Safe.exa D.2.1.alike P2.1 (by decide) (by decide)) (sfS (Safe.exa D.2.1.alike V2.1 (by decide) (by decide)) sf0)))) D.2.2.2.1.1 SF1
    have NSF2 := Safe.keep K1 (sfS (Safe.exa D.2.1.alike B2.1 (by decide) (by decide)) (sfS SF2 (sfS (Safe.exa D.2.1.alike P2.1 (by decide) (by decide)) (sfS (Safe.exa D.2.1.alike V2.1 (by decide) (by decide)) sf0)))) D.2.2.2.1.1 SF2
    have D' := D.keep K1 (sfS (Safe.exa D.2.1.alike B2.1 (by decide) (by decide)) (sfS SF2 (sfS (Safe.exa D.2.1.alike P2.1 (by decide) (by decide)) (sfS (Safe.exa D.2.1.alike V2.1 (by decide) (by decide)) sf0))))
    replace L_s1 := L_s1.keep K1 (ninS ne_s1_b2 (ninS ne_s1_t2 (ninS ne_s1_pl2 (ninS ne_s1_vl2 nin0)))) (ninS ne_u_s1_b2 (ninS ne_u_s1_t2 (ninS ne_u_s1_pl2 (ninS ne_u_s1_vl2 nin0))))
    replace L_s2 := L_s2.keep K1 (ninS ne_s2_b2 (ninS ne_s2_t2 (ninS ne_s2_pl2 (ninS ne_s2_vl2 nin0)))) (ninS ne_u_s2_b2 (ninS ne_u_s2_t2 (ninS ne_u_s2_pl2 (ninS ne_u_s2_vl2 nin0))))
    replace G_i1 := G_i1.keep K1 (ninS ne_i1_b2 (ninS ne_i1_t2 (ninS ne_i1_pl2 (ninS ne_i1_vl2 nin0))))
    replace O_l1 := O_l1.keep K1 (ninS ne_l1_b2 (ninS ne_l1_t2 (ninS ne_l1_pl2 (ninS ne_l1_vl2 nin0)))) (ninS ne_a_l1_b2 (ninS ne_a_l1_t2 (ninS ne_a_l1_pl2 (ninS ne_a_l1_vl2 nin0))))
    replace G_i2 := G_i2.keep K1 (ninS ne_i2_b2 (ninS ne_i2_t2 (ninS ne_i2_pl2 (ninS ne_i2_vl2 nin0))))
    replace O_l2 := O_l2.keep K1 (ninS ne_l2_b2 (ninS ne_l2_t2 (ninS ne_l2_pl2 (ninS ne_l2_vl2 nin0)))) (ninS ne_a_l2_b2 (ninS ne_a_l2_t2 (ninS ne_a_l2_pl2 (ninS ne_a_l2_vl2 nin0))))
    replace A_q1 := A_q1.keep K1
    replace Q1 := Q1.keep K1 (ninS ne_o1_b2 (ninS ne_o1_t2 (ninS ne_o1_pl2 (ninS ne_o1_vl2 nin0))))
    replace B1 := B1.keep K1 (ninS ne_b1_b2 (ninS ne_b1_t2 (ninS ne_b1_pl2 (ninS ne_b1_vl2 nin0)))) (ninS ne_t1_b2 (ninS ne_t1_t2 (ninS ne_t1_pl2 (ninS ne_t1_vl2 nin0))))
    replace P1 := P1.keep K1 (ninS ne_pl1_b2 (ninS ne_pl1_t2 (ninS ne_pl1_pl2 (ninS ne_pl1_vl2 nin0))))
    replace V1 := V1.keep K1 (ninS ne_vl1_b2 (ninS ne_vl1_t2 (ninS ne_vl1_pl2 (ninS ne_vl1_vl2 nin0))))
    replace Q2 := Q2.keep K1 (ninS r1 (ninS r2 (ninS r3 (ninS r4 nin0))))
    replace E_e2 := E_e2.keep K1 (ninS (Ne.symm ne_b2_e2) (ninS (Ne.symm ne_t2_e2) (ninS (Ne.symm ne_pl2_e2) (ninS (Ne.symm ne_vl2_e2) nin0))))
    have SF1 := NSF1
    have SF2 := NSF2
    replace D := D'
    replace En := Ext.kp En K1 (allS ge_b2 (allS ge_t2 (allS ge_pl2 (allS ge_vl2 all0))))
    have B2 := BN
    have P2 := PN
    have V2 := VN
    refine w_iload X224.here hx (hb hby at_273) rfl (pc' := 275) rfl ?_
    refine w_ifYes X224.here hx (hb hby at_275) (teq (show (0 : Int32) = (0 : Int32) from by decide)).1 (pc' := 283) (by decide) (by decide) ?_
    refine w_ldcS X224 hx D (tw hw 334 rfl) (fun d hd => hw d (own_wStr d hd)) rfl (EL := EL0) (by decide) (vs := []) (z := 0) ⟨by decide, by decide⟩ (by decide) (by decide) (hb hby at_283) (n := 0) (by decide) (by decide) (by decide) (by decide) (pc' := 285) rfl ?_
    intro em T226 h226 b_em k_em X226 e226 E226 D226 EX_em FC_em FV_em V_em CH_em LT_em NE_em
    clear X224
    replace En := Ext.trs En E226
    replace L_s1 := L_s1.ext E226
    replace L_s2 := L_s2.ext E226
    replace G_i1 := G_i1.ext E226
    replace O_l1 := O_l1.ext E226
    replace G_i2 := G_i2.ext E226
    replace O_l2 := O_l2.ext E226
    replace A_q1 := A_q1.ext E226
    replace Q1 := Q1.ext E226
    replace B1 := B1.ext E226
    replace P1 := P1.ext E226
    replace V1 := V1.ext E226
    replace Q2 := Q2.ext E226
    replace E_e2 := E_e2.ext E226
    replace B2 := B2.ext E226
    replace P2 := P2.ext E226
    replace V2 := V2.ext E226
    replace D := D226
    have L_em : LstOf Z h226 em b_em k_em [] := ⟨EX_em, FV_em, FC_em, V_em, by decide, fun c q => nomatch q⟩
    refine w_astore X226.here hx (hb hby at_285) rfl (l' := #[.val (.int p1), .val (.int p2), .val (.int p3), .val (.int p4), .val av, .val (.int (0 : Int32)), .val (.ref c1), .val (.ref s1), .val (.ref c2), .val (.ref s2), .val (.ref l1), .val (.ref l2), .val (.ref q1), .val (.ref o1), .val (.ref o2), .val (.int (1 : Int32)), .val (.ref em), .unset, .unset]) rfl (pc' := 287) rfl ?_
    refine w_iload X226.here hx (hb hby at_287) rfl (pc' := 289) rfl ?_
    refine w_ifYes X226.here hx (hb hby at_289) (teq (show (0 : Int32) = (0 : Int32) from by decide)).1 (pc' := 296) (by decide) (by decide) ?_
    refine w_iconst X226.here hx (hb hby at_296) (z := 0) rfl (pc' := 297) rfl ?_
    refine w_istore X226.here hx (hb hby at_297) (l' := #[.val (.int p1), .val (.int p2), .val (.int p3), .val (.int p4), .val av, .val (.int (0 : Int32)), .val (.ref c1), .val (.ref s1), .val (.ref c2), .val (.ref s2), .val (.ref l1), .val (.ref l2), .val (.ref q1), .val (.ref o1), .val (.ref o2), .val (.int (1 : Int32)), .val (.ref em), .val (.int (0 : Int32)), .unset]) rfl (pc' := 299) rfl ?_
    refine w_aload X226.here hx (hb hby at_299) rfl rfl (pc' := 301) rfl ?_
    refine w_virtual X226 hx D.zw (y := yq1) (z := yq1) D.ow (tw hw 175 rfl) (tw hw 176 rfl) (notFace_of_selects (args := #[]) (mvT D.zw (tw hw 178 rfl))) (tw hw 178 rfl) (tw hw 177 rfl) (by decide) (backC (W := 6) (rmTx l Z a0 hw o2 q1 b2 pl2 vl2 t2 kt2 (two p3) z h226 n0 (Nat.le_trans Z0 En.1) (SC.ext En) hz Q2 B2 (Nat.le_of_ble_eq_true rfl)) D.zw (tw hw 179 rfl) (tw hw 130 rfl) (by decide) (by decide)) e226 Q2.1 (by rw [hml]; rfl) (argsL := []) (st := []) pd_23 rfl rfl rfl (Nat.le_of_ble_eq_true rfl) (hb hby at_301) (by decide) (by decide) (pc' := 304) rfl ?_
    intro T227 v227 L227 X227 Q227
    obtain ⟨x4, u_x4, ku_x4, rfl, N1, E1, gx, gu, L_x4⟩ := Q227
    clear X226
    clear e226
    show Go _ _ _ _ T227 (mkF m 304 _ [(.ref x4)])
    have N228 := Fr.app N225 N1
    replace L_s1 := L_s1.ext E1
    replace L_s2 := L_s2.ext E1
    replace G_i1 := G_i1.ext E1
    replace O_l1 := O_l1.ext E1
    replace G_i2 := G_i2.ext E1
    replace O_l2 := O_l2.ext E1
    replace A_q1 := A_q1.ext E1
    replace Q1 := Q1.ext E1
    replace B1 := B1.ext E1
    replace P1 := P1.ext E1
    replace V1 := V1.ext E1
    replace Q2 := Q2.ext E1
    replace E_e2 := E_e2.ext E1
    replace B2 := B2.ext E1
    replace P2 := P2.ext E1
    replace V2 := V2.ext E1
    replace L_em := L_em.ext E1
    replace D := D.ext E1
    replace En := Ext.trs En E1
    refine w_aload X227.here hx (hb hby at_304) rfl rfl (pc' := 306) rfl ?_
    refine w_virtual X227 hx D.zw (y := yq3) (z := yq3) D.ow (tw hw 335 rfl) (tw hw 336 rfl) (notFace_of_selects (args := #[]) (mvT D.zw (tw hw 338 rfl))) (tw hw 338 rfl) (tw hw 337 rfl) (by decide) (Q := QEq (two p3) (two p3) _) (k_eq (W := 6) D.zw (fun d hd => hw d (own_wEq d hd)) (tw hw 9 rfl) L_x4.str L_s2.str (SC.ext En) hz (by decide) (by decide)) rfl L_x4.1 (by rw [hml]; rfl) (argsL := [(.ref s2)]) (st := []) pd_28 rfl rfl rfl (Nat.le_of_ble_eq_true rfl) (hb hby at_306) (by decide) (by decide) (pc' := 309) rfl ?_
    intro T230 v230 L230 X230 Q230
    obtain ⟨hv229, rfl, hq229⟩ := Q230
    clear X227
    rw [List.append_nil] at X230
    obtain rfl : v230 = some (.int 1) := hv229.elim (fun q => q.1) (fun q => absurd rfl q.2)
    show Go _ _ _ _ T230 (mkF m 309 _ [(.int (1 : Int32))])
    refine w_ifNo X230.here hx (hb hby at_309) (feq (show ¬ ((1 : Int32) = (0 : Int32)) from by decide)).1 (pc' := 312) rfl ?_
    refine w_aload X230.here hx (hb hby at_312) rfl rfl (pc' := 314) rfl ?_
    refine w_virtual X230 hx D.zw (y := yq0) (z := yq0) D.ow (tw hw 248 rfl) (tw hw 249 rfl) (notFace_of_selects (args := #[]) (mvT D.zw (tw hw 251 rfl))) (tw hw 251 rfl) (tw hw 250 rfl) (by decide) (backC (W := 6) (rmGv l Z a0 hw o2 q1 b2 pl2 vl2 T227.heap Q2) D.zw (tw hw 252 rfl) (tw hw 130 rfl) (by decide) (by decide)) hq229 Q2.1 (by rw [hml]; rfl) (argsL := []) (st := []) pd_32 rfl rfl rfl (Nat.le_of_ble_eq_true rfl) (hb hby at_314) (by decide) (by decide) (pc' := 317) rfl ?_
    intro T232 v232 L232 X232 Q232
    obtain ⟨rfl, rfl, hq231⟩ := Q232
    clear X230
    show Go _ _ _ _ T232 (mkF m 317 _ [(.ref vl2)])
    rw [List.append_nil] at X232
    refine w_interface X232 hx D.zw (y := yq5) (z := yq4) D.ow (tw hw 240 rfl) (tw hw 241 rfl) (mvT D.zw (tw hw 242 rfl)) (tw hw 243 rfl) (tw hw 244 rfl) (tw hw 245 rfl) (tw hw 246 rfl) (tw hw 68 rfl) (by decide) (backC5 (W := 6) (rmSize l Z a0 hw vl2 1 T227.heap V2.2.2.1) D.zw (tw hw 247 rfl) (tw hw 39 rfl) (by decide) (by decide)) hq231 V2.1 (by rw [hml]; rfl) (argsL := []) (st := []) pd_0 rfl rfl rfl (Nat.le_of_ble_eq_true rfl) (hb hby at_317) (by decide) (by decide) (pc' := 322) rfl ?_
    intro T234 v234 L234 X234 Q234
    obtain ⟨rfl, rfl, hq233⟩ := Q234
    clear X232
    show Go _ _ _ _ T234 (mkF m 322 _ [(.int (1 : Int32))])
    rw [List.append_nil] at X234
    refine w_iconst X234.here hx (hb hby at_322) (z := 1) rfl (pc' := 323) rfl ?_
    refine w_icmpNo X234.here hx (hb hby at_323) (teq (show (1 : Int32) = (1 : Int32) from rfl)).2 (pc' := 326) rfl ?_
    refine w_aload X234.here hx (hb hby at_326) rfl rfl (pc' := 328) rfl ?_
    refine w_virtual X234 hx D.zw (y := yq0) (z := yq0) D.ow (tw hw 248 rfl) (tw hw 249 rfl) (notFace_of_selects (args := #[]) (mvT D.zw (tw hw 251 rfl))) (tw hw 251 rfl) (tw hw 250 rfl) (by decide) (backC (W := 6) (rmGv l Z a0 hw o2 q1 b2 pl2 vl2 T227.heap Q2) D.zw (tw hw 252 rfl) (tw hw 130 rfl) (by decide) (by decide)) hq233 Q2.1 (by rw [hml]; rfl) (argsL := []) (st := []) pd_32 rfl rfl rfl (Nat.le_of_ble_eq_true rfl) (hb hby at_328) (by decide) (by decide) (pc' := 331) rfl ?_
    intro T236 v236 L236 X236 Q236
    obtain ⟨rfl, rfl, hq235⟩ := Q236
    clear X234
    show Go _ _ _ _ T236 (mkF m 331 _ [(.ref vl2)])
    rw [List.append_nil] at X236
    refine w_iconst X236.here hx (hb hby at_331) (z := 0) rfl (pc' := 332) rfl ?_
    refine w_interface X236 hx D.zw (y := (⟨"java/util/List", "get", "(I)Ljava/lang/Object;"⟩ : MethodName)) (z := yq35) D.ow (tw hw 345 rfl) (tw hw 346 rfl) (mvT D.zw (tw hw 347 rfl)) (tw hw 348 rfl) (tw hw 349 rfl) (tw hw 350 rfl) (tw hw 351 rfl) (tw hw 68 rfl) (by decide) (backC5 (W := 6) (rmGt l Z a0 hw vl2 a5_2 i2 k5_2 T227.heap V2) D.zw (tw hw 352 rfl) (tw hw 39 rfl) (by decide) (by decide)) hq235 V2.1 (by rw [hml]; rfl) (argsL := [(.int (0 : Int32))]) (st := []) pd_21 rfl rfl rfl (Nat.le_of_ble_eq_true rfl) (hb hby at_332) (by decide) (by decide) (pc' := 337) rfl ?_
    intro T238 v238 L238 X238 Q238
    obtain ⟨rfl, rfl, hq237⟩ := Q238
    clear X236
    show Go _ _ _ _ T238 (mkF m 337 _ [(.ref i2)])
    rw [List.append_nil] at X238
    refine w_castY X238 hx D.zw D.ow (tw hw 366 rfl) hq237 (Ins.self G_i2.1) (hb hby at_337) (pc' := 340) rfl ?_
    intro T239 X239 e239
    clear X238
    refine w_virtual X239 hx D.zw (y := yq12) (z := yq12) D.ow (tw hw 368 rfl) (tw hw 369 rfl) (notFace_of_selects (args := #[]) (mvT D.zw (tw hw 371 rfl))) (tw hw 371 rfl) (tw hw 370 rfl) (by decide) (backC (W := 6) (rmIntV l Z a0 hw i2 p3 T227.heap G_i2) D.zw (tw hw 372 rfl) (tw hw 2 rfl) (by decide) (by decide)) e239 G_i2.1 (by rw [hml]; rfl) (argsL := []) (st := []) pd_0 rfl rfl rfl (Nat.le_of_ble_eq_true rfl) (hb hby at_340) (by decide) (by decide) (pc' := 343) rfl ?_
    intro T241 v241 L241 X241 Q241
    obtain ⟨rfl, rfl, hq240⟩ := Q241
    clear X239
    clear e239
    show Go _ _ _ _ T241 (mkF m 343 _ [(.int p3)])
    rw [List.append_nil] at X241
    refine w_iloadN X241.here hx (hb hby at_343) rfl (pc' := 344) rfl ?_
    refine w_icmpNo X241.here hx (hb hby at_344) (teq (show p3 = p3 from rfl)).2 (pc' := 347) rfl ?_
    refine w_aload X241.here hx (hb hby at_347) rfl rfl (pc' := 349) rfl ?_
    refine w_virtual X241 hx D.zw (y := yq1) (z := yq1) D.ow (tw hw 175 rfl) (tw hw 176 rfl) (notFace_of_selects (args := #[]) (mvT D.zw (tw hw 178 rfl))) (tw hw 178 rfl) (tw hw 177 rfl) (by decide) (backC (W := 6) (rmTx l Z a0 hw o1 q1 b1 pl1 vl1 t1 kt1 [] z T227.heap n0 (Nat.le_trans Z0 En.1) (SC.ext En) hz Q1 B1 (Nat.le_of_ble_eq_true rfl)) D.zw (tw hw 179 rfl) (tw hw 130 rfl) (by decide) (by decide)) hq240 Q1.1 (by rw [hml]; rfl) (argsL := []) (st := []) pd_23 rfl rfl rfl (Nat.le_of_ble_eq_true rfl) (hb hby at_349) (by decide) (by decide) (pc' := 352) rfl ?_
    intro T242 v242 L242 X242 Q242
    obtain ⟨x5, u_x5, ku_x5, rfl, N1, E1, gx, gu, L_x5⟩ := Q242
    clear X241
    show Go _ _ _ _ T242 (mkF m 352 _ [(.ref x5)])
    have N243 := Fr.app N228 N1
    replace L_s1 := L_s1.ext E1
    replace L_s2 := L_s2.ext E1
    replace G_i1 := G_i1.ext E1
    replace O_l1 := O_l1.ext E1
    replace G_i2 := G_i2.ext E1
    replace O_l2 := O_l2.ext E1
    replace A_q1 := A_q1.ext E1
    replace Q1 := Q1.ext E1
    replace B1 := B1.ext E1
    replace P1 := P1.ext E1
    replace V1 := V1.ext E1
    replace Q2 := Q2.ext E1
    replace E_e2 := E_e2.ext E1
    replace B2 := B2.ext E1
    replace P2 := P2.ext E1
    replace V2 := V2.ext E1
    replace L_em := L_em.ext E1
    replace L_x4 := L_x4.ext E1
    replace D := D.ext E1
    replace En := Ext.trs En E1
    refine w_aload X242.here hx (hb hby at_352) rfl rfl (pc' := 354) rfl ?_
    refine w_virtual X242 hx D.zw (y := yq3) (z := yq3) D.ow (tw hw 335 rfl) (tw hw 336 rfl) (notFace_of_selects (args := #[]) (mvT D.zw (tw hw 338 rfl))) (tw hw 338 rfl) (tw hw 337 rfl) (by decide) (Q := QEq [] [] _) (k_eq (W := 6) D.zw (fun d hd => hw d (own_wEq d hd)) (tw hw 9 rfl) L_x5.str L_em.str (SC.ext En) hz (by decide) (by decide)) rfl L_x5.1 (by rw [hml]; rfl) (argsL := [(.ref em)]) (st := []) pd_28 rfl rfl rfl (Nat.le_of_ble_eq_true rfl) (hb hby at_354) (by decide) (by decide) (pc' := 357) rfl ?_
    intro T245 v245 L245 X245 Q245
    obtain ⟨hv244, rfl, hq244⟩ := Q245
    clear X242
    rw [List.append_nil] at X245
    obtain rfl : v245 = some (.int 1) := hv244.elim (fun q => q.1) (fun q => absurd rfl q.2)
    show Go _ _ _ _ T245 (mkF m 357 _ [(.int (1 : Int32))])
    refine w_ifNo X245.here hx (hb hby at_357) (feq (show ¬ ((1 : Int32) = (0 : Int32)) from by decide)).1 (pc' := 360) rfl ?_
    refine w_aload X245.here hx (hb hby at_360) rfl rfl (pc' := 362) rfl ?_
    refine w_virtual X245 hx D.zw (y := yq0) (z := yq0) D.ow (tw hw 248 rfl) (tw hw 249 rfl) (notFace_of_selects (args := #[]) (mvT D.zw (tw hw 251 rfl))) (tw hw 251 rfl) (tw hw 250 rfl) (by decide) (backC (W := 6) (rmGv l Z a0 hw o1 q1 b1 pl1 vl1 T242.heap Q1) D.zw (tw hw 252 rfl) (tw hw 130 rfl) (by decide) (by decide)) hq244 Q1.1 (by rw [hml]; rfl) (argsL := []) (st := []) pd_32 rfl rfl rfl (Nat.le_of_ble_eq_true rfl) (hb hby at_362) (by decide) (by decide) (pc' := 365) rfl ?_
    intro T247 v247 L247 X247 Q247
    obtain ⟨rfl, rfl, hq246⟩ := Q247
    clear X245
    show Go _ _ _ _ T247 (mkF m 365 _ [(.ref vl1)])
    rw [List.append_nil] at X247
    refine w_interface X247 hx D.zw (y := yq5) (z := yq4) D.ow (tw hw 240 rfl) (tw hw 241 rfl) (mvT D.zw (tw hw 242 rfl)) (tw hw 243 rfl) (tw hw 244 rfl) (tw hw 245 rfl) (tw hw 246 rfl) (tw hw 68 rfl) (by decide) (backC5 (W := 6) (rmSize l Z a0 hw vl1 0 T242.heap V1.2.2.1) D.zw (tw hw 247 rfl) (tw hw 39 rfl) (by decide) (by decide)) hq246 V1.1 (by rw [hml]; rfl) (argsL := []) (st := []) pd_0 rfl rfl rfl (Nat.le_of_ble_eq_true rfl) (hb hby at_365) (by decide) (by decide) (pc' := 370) rfl ?_
    intro T249 v249 L249 X249 Q249
    obtain ⟨rfl, rfl, hq248⟩ := Q249
    clear X247
    show Go _ _ _ _ T249 (mkF m 370 _ [(.int (0 : Int32))])
    rw [List.append_nil] at X249
    refine w_iload X249.here hx (hb hby at_370) rfl (pc' := 372) rfl ?_
    refine w_icmpNo X249.here hx (hb hby at_372) (teq (show (0 : Int32) = (0 : Int32) from rfl)).2 (pc' := 375) rfl ?_
    refine w_iconst X249.here hx (hb hby at_375) (z := 1) rfl (pc' := 376) rfl ?_
    refine w_goto X249.here hx (hb hby at_376) (pc' := 380) (by decide) (by decide) ?_
    refine w_istore X249.here hx (hb hby at_380) (l' := #[.val (.int p1), .val (.int p2), .val (.int p3), .val (.int p4), .val av, .val (.int (0 : Int32)), .val (.ref c1), .val (.ref s1), .val (.ref c2), .val (.ref s2), .val (.ref l1), .val (.ref l2), .val (.ref q1), .val (.ref o1), .val (.ref o2), .val (.int (1 : Int32)), .val (.ref em), .val (.int (0 : Int32)), .val (.int (1 : Int32))]) rfl (pc' := 382) rfl ?_
    refine w_iload X249.here hx (hb hby at_382) rfl (pc' := 384) rfl ?_
    refine w_ifNo X249.here hx (hb hby at_384) (feq (show ¬ ((1 : Int32) = (0 : Int32)) from by decide)).1 (pc' := 387) rfl ?_
    refine w_iload X249.here hx (hb hby at_387) rfl (pc' := 389) rfl ?_
    refine w_ifNo X249.here hx (hb hby at_389) (feq (show ¬ ((1 : Int32) = (0 : Int32)) from by decide)).1 (pc' := 392) rfl ?_
    refine w_iconst X249.here hx (hb hby at_392) (z := 1) rfl (pc' := 393) rfl ?_
    refine w_goto X249.here hx (hb hby at_393) (pc' := 397) (by decide) (by decide) ?_
    exact endZW X249 hx D hq248 hlk hret (by simp) (hb hby at_397) (show nar .boolean (1 : Int32) = (1 : Int32) from rfl) (by decide) (by decide) (by first | exact ⟨rfl, N243⟩ | (rw [hq248]; exact ⟨rfl, N243⟩))
  · refine w_ifNo X0.here hx (hb hby at_18) (feq (show ¬ ((p4 &&& (2 : Int32)) = (0 : Int32)) from c2)).1 (pc' := 21) rfl ?_
    refine w_iconst X0.here hx (hb hby at_21) (z := 1) rfl (pc' := 22) rfl ?_
    refine w_goto X0.here hx (hb hby at_22) (pc' := 26) (by decide) (by decide) ?_
    refine w_istore X0.here hx (hb hby at_26) (l' := #[.val (.int p1), .val (.int p2), .val (.int p3), .val (.int p4), .val av, .val (.int (1 : Int32)), .unset, .unset, .unset, .unset, .unset, .unset, .unset, .unset, .unset, .unset, .unset, .unset, .unset]) rfl (pc' := 28) rfl ?_
    refine w_iconst X0.here hx (hb hby at_28) (z := 2) rfl (pc' := 29) rfl ?_
    refine w_newarray X0 hx D.zw (ty := .char) (dv := (.int 0)) rfl rfl (tw hw 7 rfl) e0 (n := (2 : Int32)) (hb hby at_29) (by decide) (cap := 2) (by decide) (by decide) (by decide) (by decide) (pc' := 31) rfl ?_
    intro T250 h250 c1 kc1 gc1 X250 e250 E250 V
    clear X0
    clear e0
    have ge_c1 : h0.size ≤ c1 := Nat.le_trans En.1 (Nat.le_of_eq gc1)
    have g0_c1 : n0 ≤ c1 := Nat.le_trans Z0 ge_c1
    replace D := D.ext E250
    replace En := Ext.trs En E250
    refine w_dup X250.here hx (hb hby at_31) rfl (pc' := 32) rfl ?_
    refine w_iconst X250.here hx (hb hby at_32) (z := 0) rfl (pc' := 33) rfl ?_
    refine w_iloadN X250.here hx (hb hby at_33) rfl (pc' := 34) rfl ?_
    refine w_sipush X250.here hx (hb hby at_34) (z := 255) rfl (pc' := 37) rfl ?_
    refine w_iand X250.here hx (hb hby at_37) (pc' := 38) rfl ?_
    refine w_i2c X250.here hx (hb hby at_38) (pc' := 39) rfl ?_
    have SVc := Safe.arv (EL := EL0) D.2.1.alike V (by decide)
    refine w_castore X250 hx D.zw e250 V ⟨by decide, by decide⟩ 0 rfl (Nat.le_of_ble_eq_true rfl) (hb hby at_39) (pc' := 40) rfl ?_
    intro T251 h251 X251 e251 W251 V
    clear X250
    clear e250
    have N251 := Fr.snoc X251 N0 g0_c1
    have KW := Keep.of_wr W251
    replace D := D.wr W251 SVc
    replace En := Ext.wr En W251 ge_c1
    refine w_dup X251.here hx (hb hby at_40) rfl (pc' := 41) rfl ?_
    refine w_iconst X251.here hx (hb hby at_41) (z := 1) rfl (pc' := 42) rfl ?_
    refine w_iloadN X251.here hx (hb hby at_42) rfl (pc' := 43) rfl ?_
    refine w_bipush X251.here hx (hb hby at_43) (z := 8) rfl (pc' := 45) rfl ?_
    refine w_iushr X251.here hx (hb hby at_45) (pc' := 46) rfl ?_
    refine w_sipush X251.here hx (hb hby at_46) (z := 255) rfl (pc' := 49) rfl ?_
    refine w_iand X251.here hx (hb hby at_49) (pc' := 50) rfl ?_
    refine w_i2c X251.here hx (hb hby at_50) (pc' := 51) rfl ?_
    have SVc := Safe.arv (EL := EL0) D.2.1.alike V (by decide)
    refine w_castore X251 hx D.zw e251 V ⟨by decide, by decide⟩ 1 rfl (Nat.le_of_ble_eq_true rfl) (hb hby at_51) (pc' := 52) rfl ?_
    intro T252 h252 X252 e252 W252 V
    clear X251
    clear e251
    have N252 := Fr.snoc X252 N251 g0_c1
    have KW := Keep.of_wr W252
    replace D := D.wr W252 SVc
    replace En := Ext.wr En W252 ge_c1
    have V : Arv Z h252 c1 kc1 .char 2 ((two p2).map Value.int) (.int 0) := by have q := V; rw [m255c, m255c] at q; exact q
    refine w_astore X252.here hx (hb hby at_52) rfl (l' := #[.val (.int p1), .val (.int p2), .val (.int p3), .val (.int p4), .val av, .val (.int (1 : Int32)), .val (.ref c1), .unset, .unset, .unset, .unset, .unset, .unset, .unset, .unset, .unset, .unset, .unset, .unset]) rfl (pc' := 54) rfl ?_
    refine w_new X252 hx D.zw D.ow (tw hw 8 rfl) (tw hw 9 rfl) (tw hw 10 rfl) e252 (hb hby at_54) (by decide) (by decide) (pc' := 57) rfl ?_
    intro T253 h253 s1 gs1 X253 e253 E253 A253 D253 U253
    clear X252
    clear e252
    have ge_s1 : h0.size ≤ s1 := Nat.le_trans En.1 (Nat.le_of_eq gs1)
    have g0_s1 : n0 ≤ s1 := Nat.le_trans Z0 ge_s1
    replace V := V.ext E253
    replace D := D.ext E253
    replace En := Ext.trs En E253
    have FV : Fld Z h253 s1 "java/lang/String" "value" "[B" .null := D253 (Or.inr (tw hw 36 rfl)) (ty := (.array .byte)) (by decide)
    have FC : Fld Z h253 s1 "java/lang/String" "coder" "B" (.int (0 : Int32)) := D253 (Or.inr (tw hw 34 rfl)) (ty := .byte) (by decide)
    have SX := Safe.null (EL := EL0) D.2.1.alike A253 FV
    refine w_dup X253.here hx (hb hby at_57) rfl (pc' := 58) rfl ?_
    refine w_aload X253.here hx (hb hby at_58) rfl rfl (pc' := 60) rfl ?_
    refine w_special X253 hx D.zw (y := yq8) rfl D.ow (tw hw 11 rfl) (tw hw 12 rfl) (tw hw 13 rfl) (by decide) (k_newL (n := 2) (W := 6) D.zw (fun d hd => hw d (own_wNew d hd)) (tw hw 9 rfl) g0_s1 (Nat.le_trans Z0 En.1) A253 FV FC V (SC.ext En) hz rfl rfl (by decide) (by decide) (two_lat p2) (by decide) (by decide)) e253 (by rw [hml]; rfl) (argsL := [(.ref c1)]) (st := [(.ref s1)]) pd_26 rfl rfl rfl (Nat.le_of_ble_eq_true rfl) (hb hby at_60) (by decide) (by decide) (pc' := 63) rfl ?_
    intro T254 v254 L254 X254 Q254
    obtain ⟨rfl, Nn, Kn, GX⟩ := Q254
    clear X253
    clear e253
    show Go _ _ _ _ T254 (mkF m 63 _ [(.ref s1)])
    have N255 := Fr.app N252 Nn
    replace D := D.keep Kn (sfS SX sf0)
    replace En := Ext.kp En Kn (allS ge_s1 all0)
    obtain ⟨u_s1, ku_s1, L_s1⟩ := LstOf.of GX (two_lat p2)
    refine w_astore X254.here hx (hb hby at_63) rfl (l' := #[.val (.int p1), .val (.int p2), .val (.int p3), .val (.int p4), .val av, .val (.int (1 : Int32)), .val (.ref c1), .val (.ref s1), .unset, .unset, .unset, .unset, .unset, .unset, .unset, .unset, .unset, .unset, .unset]) rfl (pc' := 65) rfl ?_
    refine w_iconst X254.here hx (hb hby at_65) (z := 2) rfl (pc' := 66) rfl ?_
    refine w_newarray X254 hx D.zw (ty := .char) (dv := (.int 0)) rfl rfl (tw hw 7 rfl) rfl (n := (2 : Int32)) (hb hby at_66) (by decide) (cap := 2) (by decide) (by decide) (by decide) (by decide) (pc' := 68) rfl ?_
    intro T256 h256 c2 kc2 gc2 X256 e256 E256 V
    clear X254
    have ge_c2 : h0.size ≤ c2 := Nat.le_trans En.1 (Nat.le_of_eq gc2)
    have g0_c2 : n0 ≤ c2 := Nat.le_trans Z0 ge_c2
    have ne_s1_c2 : s1 ≠ c2 := Nat.ne_of_lt (Nat.lt_of_lt_of_le L_s1.1.lt (Nat.le_of_eq gc2))
    have ne_u_s1_c2 : u_s1 ≠ c2 := Nat.ne_of_lt (Nat.lt_of_lt_of_le L_s1.2.2.2.1.lt (Nat.le_of_eq gc2))
    replace L_s1 := L_s1.ext E256
    replace D := D.ext E256
    replace En := Ext.trs En E256
    refine w_dup X256.here hx (hb hby at_68) rfl (pc' := 69) rfl ?_
    refine w_iconst X256.here hx (hb hby at_69) (z := 0) rfl (pc' := 70) rfl ?_
    refine w_iloadN X256.here hx (hb hby at_70) rfl (pc' := 71) rfl ?_
    refine w_sipush X256.here hx (hb hby at_71) (z := 255) rfl (pc' := 74) rfl ?_
    refine w_iand X256.here hx (hb hby at_74) (pc' := 75) rfl ?_
    refine w_i2c X256.here hx (hb hby at_75) (pc' := 76) rfl ?_
    have SVc := Safe.arv (EL := EL0) D.2.1.alike V (by decide)
    refine w_castore X256 hx D.zw e256 V ⟨by decide, by decide⟩ 0 rfl (Nat.le_of_ble_eq_true rfl) (hb hby at_76) (pc' := 77) rfl ?_
    intro T257 h257 X257 e257 W257 V
    clear X256
    clear e256
    have N257 := Fr.snoc X257 N255 g0_c2
    have KW := Keep.of_wr W257
    replace L_s1 := L_s1.keep KW (ninS ne_s1_c2 nin0) (ninS ne_u_s1_c2 nin0)
    replace D := D.wr W257 SVc
    replace En := Ext.wr En W257 ge_c2
    refine w_dup X257.here hx (hb hby at_77) rfl (pc' := 78) rfl ?_
    refine w_iconst X257.here hx (hb hby at_78) (z := 1) rfl (pc' := 79) rfl ?_
    refine w_iloadN X257.here hx (hb hby at_79) rfl (pc' := 80) rfl ?_
    refine w_bipush X257.here hx (hb hby at_80) (z := 8) rfl (pc' := 82) rfl ?_
    refine w_iushr X257.here hx (hb hby at_82) (pc' := 83) rfl ?_
    refine w_sipush X257.here hx (hb hby at_83) (z := 255) rfl (pc' := 86) rfl ?_
    refine w_iand X257.here hx (hb hby at_86) (pc' := 87) rfl ?_
    refine w_i2c X257.here hx (hb hby at_87) (pc' := 88) rfl ?_
    have SVc := Safe.arv (EL := EL0) D.2.1.alike V (by decide)
    refine w_castore X257 hx D.zw e257 V ⟨by decide, by decide⟩ 1 rfl (Nat.le_of_ble_eq_true rfl) (hb hby at_88) (pc' := 89) rfl ?_
    intro T258 h258 X258 e258 W258 V
    clear X257
    clear e257
    have N258 := Fr.snoc X258 N257 g0_c2
    have KW := Keep.of_wr W258
    replace L_s1 := L_s1.keep KW (ninS ne_s1_c2 nin0) (ninS ne_u_s1_c2 nin0)
    replace D := D.wr W258 SVc
    replace En := Ext.wr En W258 ge_c2
    have V : Arv Z h258 c2 kc2 .char 2 ((two p3).map Value.int) (.int 0) := by have q := V; rw [m255c, m255c] at q; exact q
    refine w_astore X258.here hx (hb hby at_89) rfl (l' := #[.val (.int p1), .val (.int p2), .val (.int p3), .val (.int p4), .val av, .val (.int (1 : Int32)), .val (.ref c1), .val (.ref s1), .val (.ref c2), .unset, .unset, .unset, .unset, .unset, .unset, .unset, .unset, .unset, .unset]) rfl (pc' := 91) rfl ?_
    refine w_new X258 hx D.zw D.ow (tw hw 8 rfl) (tw hw 9 rfl) (tw hw 10 rfl) e258 (hb hby at_91) (by decide) (by decide) (pc' := 94) rfl ?_
    intro T259 h259 s2 gs2 X259 e259 E259 A259 D259 U259
    clear X258
    clear e258
    have ge_s2 : h0.size ≤ s2 := Nat.le_trans En.1 (Nat.le_of_eq gs2)
    have g0_s2 : n0 ≤ s2 := Nat.le_trans Z0 ge_s2
    have ne_s1_s2 : s1 ≠ s2 := Nat.ne_of_lt (Nat.lt_of_lt_of_le L_s1.1.lt (Nat.le_of_eq gs2))
    have ne_u_s1_s2 : u_s1 ≠ s2 := Nat.ne_of_lt (Nat.lt_of_lt_of_le L_s1.2.2.2.1.lt (Nat.le_of_eq gs2))
    replace V := V.ext E259
    replace L_s1 := L_s1.ext E259
    replace D := D.ext E259
    replace En := Ext.trs En E259
    have FV : Fld Z h259 s2 "java/lang/String" "value" "[B" .null := D259 (Or.inr (tw hw 36 rfl)) (ty := (.array .byte)) (by decide)
    have FC : Fld Z h259 s2 "java/lang/String" "coder" "B" (.int (0 : Int32)) := D259 (Or.inr (tw hw 34 rfl)) (ty := .byte) (by decide)
    have SX := Safe.null (EL := EL0) D.2.1.alike A259 FV
    refine w_dup X259.here hx (hb hby at_94) rfl (pc' := 95) rfl ?_
    refine w_aload X259.here hx (hb hby at_95) rfl rfl (pc' := 97) rfl ?_
    refine w_special X259 hx D.zw (y := yq8) rfl D.ow (tw hw 11 rfl) (tw hw 12 rfl) (tw hw 13 rfl) (by decide) (k_newL (n := 2) (W := 6) D.zw (fun d hd => hw d (own_wNew d hd)) (tw hw 9 rfl) g0_s2 (Nat.le_trans Z0 En.1) A259 FV FC V (SC.ext En) hz rfl rfl (by decide) (by decide) (two_lat p3) (by decide) (by decide)) e259 (by rw [hml]; rfl) (argsL := [(.ref c2)]) (st := [(.ref s2)]) pd_26 rfl rfl rfl (Nat.le_of_ble_eq_true rfl) (hb hby at_97) (by decide) (by decide) (pc' := 100) rfl ?_
    intro T260 v260 L260 X260 Q260
    obtain ⟨rfl, Nn, Kn, GX⟩ := Q260
    clear X259
    clear e259
    show Go _ _ _ _ T260 (mkF m 100 _ [(.ref s2)])
    have N261 := Fr.app N258 Nn
    replace L_s1 := L_s1.keep Kn (ninS ne_s1_s2 nin0) (ninS ne_u_s1_s2 nin0)
    replace D := D.keep Kn (sfS SX sf0)
    replace En := Ext.kp En Kn (allS ge_s2 all0)
    obtain ⟨u_s2, ku_s2, L_s2⟩ := LstOf.of GX (two_lat p3)
    refine w_astore X260.here hx (hb hby at_100) rfl (l' := #[.val (.int p1), .val (.int p2), .val (.int p3), .val (.int p4), .val av, .val (.int (1 : Int32)), .val (.ref c1), .val (.ref s1), .val (.ref c2), .val (.ref s2), .unset, .unset, .unset, .unset, .unset, .unset, .unset, .unset, .unset]) rfl (pc' := 102) rfl ?_
    refine w_new X260 hx D.zw D.ow (tw hw 37 rfl) (tw hw 38 rfl) (tw hw 39 rfl) rfl (hb hby at_102) (by decide) (by decide) (pc' := 105) rfl ?_
    intro T262 h262 l1 gl1 X262 e262 E262 A262 D262 U262
    clear X260
    have ge_l1 : h0.size ≤ l1 := Nat.le_trans En.1 (Nat.le_of_eq gl1)
    have g0_l1 : n0 ≤ l1 := Nat.le_trans Z0 ge_l1
    have ne_s1_l1 : s1 ≠ l1 := Nat.ne_of_lt (Nat.lt_of_lt_of_le L_s1.1.lt (Nat.le_of_eq gl1))
    have ne_u_s1_l1 : u_s1 ≠ l1 := Nat.ne_of_lt (Nat.lt_of_lt_of_le L_s1.2.2.2.1.lt (Nat.le_of_eq gl1))
    have ne_s2_l1 : s2 ≠ l1 := Nat.ne_of_lt (Nat.lt_of_lt_of_le L_s2.1.lt (Nat.le_of_eq gl1))
    have ne_u_s2_l1 : u_s2 ≠ l1 := Nat.ne_of_lt (Nat.lt_of_lt_of_le L_s2.2.2.2.1.lt (Nat.le_of_eq gl1))
    replace L_s1 := L_s1.ext E262
    replace L_s2 := L_s2.ext E262
    replace D := D.ext E262
    replace En := Ext.trs En E262
    have A_l1 := A262
    have FD : Fld Z h262 l1 "java/util/ArrayList" "elementData" "[Ljava/lang/Object;" .null := D262 (Or.inl (tw hw 60 rfl)) (ty := (.array (.object "java/lang/Object"))) (by decide)
    have FS : Fld Z h262 l1 "java/util/ArrayList" "size" "I" (.int (0 : Int32)) := D262 (Or.inl (tw hw 73 rfl)) (ty := .int) (by decide)
    have FM : Fld Z h262 l1 "java/util/AbstractList" "modCount" "I" (.int (0 : Int32)) := D262 (Or.inl (tw hw 57 rfl)) (ty := .int) (by decide)
    refine w_dup X262.here hx (hb hby at_105) rfl (pc' := 106) rfl ?_
    refine w_special X262 hx D.zw (y := yq2) rfl D.ow (tw hw 40 rfl) (tw hw 41 rfl) (tw hw 42 rfl) (by decide) (backC (W := 6) (rmAL l Z a0 hw l1 D1 kD h262 n0 g0_l1 (DE.ext En) A_l1 FD FS FM) D.zw (tw hw 42 rfl) (tw hw 39 rfl) (by decide) (by decide)) e262 (by rw [hml]; rfl) (argsL := []) (st := [(.ref l1)]) pd_14 rfl rfl rfl (Nat.le_of_ble_eq_true rfl) (hb hby at_106) (by decide) (by decide) (pc' := 109) rfl ?_
    intro T263 v263 L263 X263 Q263
    obtain ⟨rfl, N1, K1, E_l1⟩ := Q263
    clear X262
    clear e262
    show Go _ _ _ _ T263 (mkF m 109 _ [(.ref l1)])
    have N264 := Fr.app N261 N1
    have D' := D.keep K1 (sfS (Safe.exa D.2.1.alike A_l1 (by decide) (by decide)) sf0)
    replace L_s1 := L_s1.keep K1 (ninS ne_s1_l1 nin0) (ninS ne_u_s1_l1 nin0)
    replace L_s2 := L_s2.keep K1 (ninS ne_s2_l1 nin0) (ninS ne_u_s2_l1 nin0)
    replace D := D'
    replace En := Ext.kp En K1 (allS ge_l1 all0)
    refine w_astore X263.here hx (hb hby at_109) rfl (l' := #[.val (.int p1), .val (.int p2), .val (.int p3), .val (.int p4), .val av, .val (.int (1 : Int32)), .val (.ref c1), .val (.ref s1), .val (.ref c2), .val (.ref s2), .val (.ref l1), .unset, .unset, .unset, .unset, .unset, .unset, .unset, .unset]) rfl (pc' := 111) rfl ?_
    refine w_aload X263.here hx (hb hby at_111) rfl rfl (pc' := 113) rfl ?_
    refine w_iloadN X263.here hx (hb hby at_113) rfl (pc' := 114) rfl ?_
    refine w_static X263 hx D.zw (y := yq7) D.ow (tw hw 0 rfl) (tw hw 1 rfl) (tw hw 2 rfl) (tw hw 3 rfl) (by decide) (backC (W := 6) (rmVal l Z a0 hw p2 ca cl T263.heap n0 (Nat.le_trans Z0 En.1) (IC.ext En)) D.zw (tw hw 3 rfl) (tw hw 2 rfl) (by decide) (by decide)) rfl (by rw [hml]; rfl) (argsL := [(.int p2)]) (st := [(.ref l1)]) pd_27 rfl rfl rfl (Nat.le_of_ble_eq_true rfl) (hb hby at_114) (by decide) (by decide) (pc' := 117) rfl ?_
    intro T265 v265 L265 X265 Q265
    obtain ⟨i1, rfl, Nv, Ev, G_i1⟩ := Q265
    clear X263
    show Go _ _ _ _ T265 (mkF m 117 _ [(.ref i1), (.ref l1)])
    have N266 := Fr.app N264 Nv
    replace L_s1 := L_s1.ext Ev
    replace L_s2 := L_s2.ext Ev
    replace E_l1 := E_l1.ext Ev
    replace D := D.ext Ev
    replace En := Ext.trs En Ev
    obtain ⟨LX, LD, LS, lm, LM⟩ := E_l1
    have ni : i1 ≠ l1 := G_i1.1.ne LX (by decide)
    have ni_i1 := ni
    refine w_interface X265 hx D.zw (y := yq24) (z := yq13) D.ow (tw hw 61 rfl) (tw hw 62 rfl) (mvT D.zw (tw hw 63 rfl)) (tw hw 64 rfl) (tw hw 65 rfl) (tw hw 66 rfl) (tw hw 67 rfl) (tw hw 68 rfl) (by decide) (backC5 (W := 6) (rmAdd l Z a0 hw l1 D1 kD lm T265.heap n0 (Nat.le_trans Z0 En.1) g0_l1 (DE.ext En) LX LD LS LM i1 p2 G_i1 ni) D.zw (tw hw 69 rfl) (tw hw 39 rfl) (by decide) (by decide)) rfl LX (by rw [hml]; rfl) (argsL := [(.ref i1)]) (st := []) pd_28 rfl rfl rfl (Nat.le_of_ble_eq_true rfl) (hb hby at_117) (by decide) (by decide) (pc' := 122) rfl ?_
    intro T267 v267 L267 X267 Q267
    obtain ⟨rfl, N1, K1, a_l1, ka_l1, ga, O_l1⟩ := Q267
    clear X265
    show Go _ _ _ _ T267 (mkF m 122 _ [(.int (1 : Int32))])
    have N268 := Fr.app N266 N1
    have ne_s1_a_l1 : s1 ≠ a_l1 := Nat.ne_of_lt (Nat.lt_of_lt_of_le L_s1.1.lt ga)
    have ne_u_s1_a_l1 : u_s1 ≠ a_l1 := Nat.ne_of_lt (Nat.lt_of_lt_of_le L_s1.2.2.2.1.lt ga)
    have ne_s2_a_l1 : s2 ≠ a_l1 := Nat.ne_of_lt (Nat.lt_of_lt_of_le L_s2.1.lt ga)
    have ne_u_s2_a_l1 : u_s2 ≠ a_l1 := Nat.ne_of_lt (Nat.lt_of_lt_of_le L_s2.2.2.2.1.lt ga)
    have ne_i1_a_l1 : i1 ≠ a_l1 := Nat.ne_of_lt (Nat.lt_of_lt_of_le G_i1.1.lt ga)
    have D' := D.keep K1 (sfS (Safe.exa D.2.1.alike LX (by decide) (by decide)) sf0)
    replace L_s1 := L_s1.keep K1 (ninS ne_s1_l1 nin0) (ninS ne_u_s1_l1 nin0)
    replace L_s2 := L_s2.keep K1 (ninS ne_s2_l1 nin0) (ninS ne_u_s2_l1 nin0)
    replace G_i1 := G_i1.keep K1 (ninS ni_i1 nin0)
    replace D := D'
    replace En := Ext.kp En K1 (allS ge_l1 all0)
    have ne_l1_a_l1 : l1 ≠ a_l1 := Nat.ne_of_lt (Nat.lt_of_lt_of_le LX.lt ga)
    refine w_pop X267.here hx (hb hby at_122) rfl (pc' := 123) rfl ?_
    refine w_new X267 hx D.zw D.ow (tw hw 37 rfl) (tw hw 38 rfl) (tw hw 39 rfl) rfl (hb hby at_123) (by decide) (by decide) (pc' := 126) rfl ?_
    intro T269 h269 l2 gl2 X269 e269 E269 A269 D269 U269
    clear X267
    have ge_l2 : h0.size ≤ l2 := Nat.le_trans En.1 (Nat.le_of_eq gl2)
    have g0_l2 : n0 ≤ l2 := Nat.le_trans Z0 ge_l2
    have ne_s1_l2 : s1 ≠ l2 := Nat.ne_of_lt (Nat.lt_of_lt_of_le L_s1.1.lt (Nat.le_of_eq gl2))
    have ne_u_s1_l2 : u_s1 ≠ l2 := Nat.ne_of_lt (Nat.lt_of_lt_of_le L_s1.2.2.2.1.lt (Nat.le_of_eq gl2))
    have ne_s2_l2 : s2 ≠ l2 := Nat.ne_of_lt (Nat.lt_of_lt_of_le L_s2.1.lt (Nat.le_of_eq gl2))
    have ne_u_s2_l2 : u_s2 ≠ l2 := Nat.ne_of_lt (Nat.lt_of_lt_of_le L_s2.2.2.2.1.lt (Nat.le_of_eq gl2))
    have ne_i1_l2 : i1 ≠ l2 := Nat.ne_of_lt (Nat.lt_of_lt_of_le G_i1.1.lt (Nat.le_of_eq gl2))
    have ne_l1_l2 : l1 ≠ l2 := Nat.ne_of_lt (Nat.lt_of_lt_of_le O_l1.1.lt (Nat.le_of_eq gl2))
    have ne_a_l1_l2 : a_l1 ≠ l2 := Nat.ne_of_lt (Nat.lt_of_lt_of_le O_l1.2.2.2.1.lt (Nat.le_of_eq gl2))
    replace L_s1 := L_s1.ext E269
    replace L_s2 := L_s2.ext E269
    replace G_i1 := G_i1.ext E269
    replace O_l1 := O_l1.ext E269
    replace D := D.ext E269
    replace En := Ext.trs En E269
    have A_l2 := A269
    have FD : Fld Z h269 l2 "java/util/ArrayList" "elementData" "[Ljava/lang/Object;" .null := D269 (Or.inl (tw hw 60 rfl)) (ty := (.array (.object "java/lang/Object"))) (by decide)
    have FS : Fld Z h269 l2 "java/util/ArrayList" "size" "I" (.int (0 : Int32)) := D269 (Or.inl (tw hw 73 rfl)) (ty := .int) (by decide)
    have FM : Fld Z h269 l2 "java/util/AbstractList" "modCount" "I" (.int (0 : Int32)) := D269 (Or.inl (tw hw 57 rfl)) (ty := .int) (by decide)
    refine w_dup X269.here hx (hb hby at_126) rfl (pc' := 127) rfl ?_
    refine w_special X269 hx D.zw (y := yq2) rfl D.ow (tw hw 40 rfl) (tw hw 41 rfl) (tw hw 42 rfl) (by decide) (backC (W := 6) (rmAL l Z a0 hw l2 D1 kD h269 n0 g0_l2 (DE.ext En) A_l2 FD FS FM) D.zw (tw hw 42 rfl) (tw hw 39 rfl) (by decide) (by decide)) e269 (by rw [hml]; rfl) (argsL := []) (st := [(.ref l2)]) pd_14 rfl rfl rfl (Nat.le_of_ble_eq_true rfl) (hb hby at_127) (by decide) (by decide) (pc' := 130) rfl ?_
    intro T270 v270 L270 X270 Q270
    obtain ⟨rfl, N1, K1, E_l2⟩ := Q270
    clear X269
    clear e269
    show Go _ _ _ _ T270 (mkF m 130 _ [(.ref l2)])
    have N271 := Fr.app N268 N1
    have D' := D.keep K1 (sfS (Safe.exa D.2.1.alike A_l2 (by decide) (by decide)) sf0)
    replace L_s1 := L_s1.keep K1 (ninS ne_s1_l2 nin0) (ninS ne_u_s1_l2 nin0)
    replace L_s2 := L_s2.keep K1 (ninS ne_s2_l2 nin0) (ninS ne_u_s2_l2 nin0)
    replace G_i1 := G_i1.keep K1 (ninS ne_i1_l2 nin0)
    replace O_l1 := O_l1.keep K1 (ninS ne_l1_l2 nin0) (ninS ne_a_l1_l2 nin0)
    replace D := D'
    replace En := Ext.kp En K1 (allS ge_l2 all0)
    refine w_astore X270.here hx (hb hby at_130) rfl (l' := #[.val (.int p1), .val (.int p2), .val (.int p3), .val (.int p4), .val av, .val (.int (1 : Int32)), .val (.ref c1), .val (.ref s1), .val (.ref c2), .val (.ref s2), .val (.ref l1), .val (.ref l2), .unset, .unset, .unset, .unset, .unset, .unset, .unset]) rfl (pc' := 132) rfl ?_
    refine w_aload X270.here hx (hb hby at_132) rfl rfl (pc' := 134) rfl ?_
    refine w_iloadN X270.here hx (hb hby at_134) rfl (pc' := 135) rfl ?_
    refine w_static X270 hx D.zw (y := yq7) D.ow (tw hw 0 rfl) (tw hw 1 rfl) (tw hw 2 rfl) (tw hw 3 rfl) (by decide) (backC (W := 6) (rmVal l Z a0 hw p3 ca cl T270.heap n0 (Nat.le_trans Z0 En.1) (IC.ext En)) D.zw (tw hw 3 rfl) (tw hw 2 rfl) (by decide) (by decide)) rfl (by rw [hml]; rfl) (argsL := [(.int p3)]) (st := [(.ref l2)]) pd_27 rfl rfl rfl (Nat.le_of_ble_eq_true rfl) (hb hby at_135) (by decide) (by decide) (pc' := 138) rfl ?_
    intro T272 v272 L272 X272 Q272
    obtain ⟨i2, rfl, Nv, Ev, G_i2⟩ := Q272
    clear X270
    show Go _ _ _ _ T272 (mkF m 138 _ [(.ref i2), (.ref l2)])
    have N273 := Fr.app N271 Nv
    replace L_s1 := L_s1.ext Ev
    replace L_s2 := L_s2.ext Ev
    replace G_i1 := G_i1.ext Ev
    replace O_l1 := O_l1.ext Ev
    replace E_l2 := E_l2.ext Ev
    replace D := D.ext Ev
    replace En := Ext.trs En Ev
    obtain ⟨LX, LD, LS, lm, LM⟩ := E_l2
    have ni : i2 ≠ l2 := G_i2.1.ne LX (by decide)
    have ni_i2 := ni
    refine w_interface X272 hx D.zw (y := yq24) (z := yq13) D.ow (tw hw 61 rfl) (tw hw 62 rfl) (mvT D.zw (tw hw 63 rfl)) (tw hw 64 rfl) (tw hw 65 rfl) (tw hw 66 rfl) (tw hw 67 rfl) (tw hw 68 rfl) (by decide) (backC5 (W := 6) (rmAdd l Z a0 hw l2 D1 kD lm T272.heap n0 (Nat.le_trans Z0 En.1) g0_l2 (DE.ext En) LX LD LS LM i2 p3 G_i2 ni) D.zw (tw hw 69 rfl) (tw hw 39 rfl) (by decide) (by decide)) rfl LX (by rw [hml]; rfl) (argsL := [(.ref i2)]) (st := []) pd_28 rfl rfl rfl (Nat.le_of_ble_eq_true rfl) (hb hby at_138) (by decide) (by decide) (pc' := 143) rfl ?_
    intro T274 v274 L274 X274 Q274
    obtain ⟨rfl, N1, K1, a_l2, ka_l2, ga, O_l2⟩ := Q274
    clear X272
    show Go _ _ _ _ T274 (mkF m 143 _ [(.int (1 : Int32))])
    have N275 := Fr.app N273 N1
    have ne_s1_a_l2 : s1 ≠ a_l2 := Nat.ne_of_lt (Nat.lt_of_lt_of_le L_s1.1.lt ga)
    have ne_u_s1_a_l2 : u_s1 ≠ a_l2 := Nat.ne_of_lt (Nat.lt_of_lt_of_le L_s1.2.2.2.1.lt ga)
    have ne_s2_a_l2 : s2 ≠ a_l2 := Nat.ne_of_lt (Nat.lt_of_lt_of_le L_s2.1.lt ga)
    have ne_u_s2_a_l2 : u_s2 ≠ a_l2 := Nat.ne_of_lt (Nat.lt_of_lt_of_le L_s2.2.2.2.1.lt ga)
    have ne_i1_a_l2 : i1 ≠ a_l2 := Nat.ne_of_lt (Nat.lt_of_lt_of_le G_i1.1.lt ga)
    have ne_l1_a_l2 : l1 ≠ a_l2 := Nat.ne_of_lt (Nat.lt_of_lt_of_le O_l1.1.lt ga)
    have ne_a_l1_a_l2 : a_l1 ≠ a_l2 := Nat.ne_of_lt (Nat.lt_of_lt_of_le O_l1.2.2.2.1.lt ga)
    have ne_i2_a_l2 : i2 ≠ a_l2 := Nat.ne_of_lt (Nat.lt_of_lt_of_le G_i2.1.lt ga)
    have D' := D.keep K1 (sfS (Safe.exa D.2.1.alike LX (by decide) (by decide)) sf0)
    replace L_s1 := L_s1.keep K1 (ninS ne_s1_l2 nin0) (ninS ne_u_s1_l2 nin0)
    replace L_s2 := L_s2.keep K1 (ninS ne_s2_l2 nin0) (ninS ne_u_s2_l2 nin0)
    replace G_i1 := G_i1.keep K1 (ninS ne_i1_l2 nin0)
    replace O_l1 := O_l1.keep K1 (ninS ne_l1_l2 nin0) (ninS ne_a_l1_l2 nin0)
    replace G_i2 := G_i2.keep K1 (ninS ni_i2 nin0)
    replace D := D'
    replace En := Ext.kp En K1 (allS ge_l2 all0)
    have ne_l2_a_l2 : l2 ≠ a_l2 := Nat.ne_of_lt (Nat.lt_of_lt_of_le LX.lt ga)
    refine w_pop X274.here hx (hb hby at_143) rfl (pc' := 144) rfl ?_
    refine w_new X274 hx D.zw D.ow (tw hw 96 rfl) (tw hw 97 rfl) (tw hw 98 rfl) rfl (hb hby at_144) (by decide) (by decide) (pc' := 147) rfl ?_
    intro T276 h276 q1 gq1 X276 e276 E276 A276 D276 U276
    clear X274
    have ge_q1 : h0.size ≤ q1 := Nat.le_trans En.1 (Nat.le_of_eq gq1)
    have g0_q1 : n0 ≤ q1 := Nat.le_trans Z0 ge_q1
    have ne_s1_q1 : s1 ≠ q1 := Nat.ne_of_lt (Nat.lt_of_lt_of_le L_s1.1.lt (Nat.le_of_eq gq1))
    have ne_u_s1_q1 : u_s1 ≠ q1 := Nat.ne_of_lt (Nat.lt_of_lt_of_le L_s1.2.2.2.1.lt (Nat.le_of_eq gq1))
    have ne_s2_q1 : s2 ≠ q1 := Nat.ne_of_lt (Nat.lt_of_lt_of_le L_s2.1.lt (Nat.le_of_eq gq1))
    have ne_u_s2_q1 : u_s2 ≠ q1 := Nat.ne_of_lt (Nat.lt_of_lt_of_le L_s2.2.2.2.1.lt (Nat.le_of_eq gq1))
    have ne_i1_q1 : i1 ≠ q1 := Nat.ne_of_lt (Nat.lt_of_lt_of_le G_i1.1.lt (Nat.le_of_eq gq1))
    have ne_l1_q1 : l1 ≠ q1 := Nat.ne_of_lt (Nat.lt_of_lt_of_le O_l1.1.lt (Nat.le_of_eq gq1))
    have ne_a_l1_q1 : a_l1 ≠ q1 := Nat.ne_of_lt (Nat.lt_of_lt_of_le O_l1.2.2.2.1.lt (Nat.le_of_eq gq1))
    have ne_i2_q1 : i2 ≠ q1 := Nat.ne_of_lt (Nat.lt_of_lt_of_le G_i2.1.lt (Nat.le_of_eq gq1))
    have ne_l2_q1 : l2 ≠ q1 := Nat.ne_of_lt (Nat.lt_of_lt_of_le O_l2.1.lt (Nat.le_of_eq gq1))
    have ne_a_l2_q1 : a_l2 ≠ q1 := Nat.ne_of_lt (Nat.lt_of_lt_of_le O_l2.2.2.2.1.lt (Nat.le_of_eq gq1))
    replace L_s1 := L_s1.ext E276
    replace L_s2 := L_s2.ext E276
    replace G_i1 := G_i1.ext E276
    replace O_l1 := O_l1.ext E276
    replace G_i2 := G_i2.ext E276
    replace O_l2 := O_l2.ext E276
    replace D := D.ext E276
    replace En := Ext.trs En E276
    have A_q1 := A276
    have F0 : Fld Z h276 q1 "com/example/crud4/crud4/StatementParameter" "bindings" "Ljava/util/Map;" .null := D276 (Or.inr (tw hw 123 rfl)) (ty := (.object "java/util/Map")) (by decide)
    have F1 : Fld Z h276 q1 "com/example/crud4/crud4/StatementParameter" "statementId" "Ljava/lang/String;" .null := D276 (Or.inr (tw hw 125 rfl)) (ty := (.object "java/lang/String")) (by decide)
    have F2 : Fld Z h276 q1 "com/example/crud4/crud4/StatementParameter" "parameter" "Ljava/lang/Object;" .null := D276 (Or.inr (tw hw 127 rfl)) (ty := (.object "java/lang/Object")) (by decide)
    refine w_dup X276.here hx (hb hby at_147) rfl (pc' := 148) rfl ?_
    refine w_ldcS X276 hx D (tw hw 99 rfl) (fun d hd => hw d (own_wStr d hd)) e276 (EL := EL0) (by decide) (vs := [(.int 115)]) (z := 1) ⟨by decide, by decide⟩ (by decide) (by decide) (hb hby at_148) (n := 4) (by decide) (by decide) (by decide) (by decide) (pc' := 150) rfl ?_
    intro sc T277 h277 b_sc k_sc X277 e277 E277 D277 EX_sc FC_sc FV_sc V_sc CH_sc LT_sc NE_sc
    clear X276
    clear e276
    replace En := Ext.trs En E277
    replace L_s1 := L_s1.ext E277
    replace L_s2 := L_s2.ext E277
    replace G_i1 := G_i1.ext E277
    replace O_l1 := O_l1.ext E277
    replace G_i2 := G_i2.ext E277
    replace O_l2 := O_l2.ext E277
    replace A_q1 := A_q1.ext E277
    replace F0 := F0.ext E277
    replace F1 := F1.ext E277
    replace F2 := F2.ext E277
    replace D := D277
    refine w_aload X277.here hx (hb hby at_150) rfl hav (pc' := 152) rfl ?_
    refine w_special X277 hx D.zw (y := yq14) rfl D.ow (tw hw 102 rfl) (tw hw 103 rfl) (tw hw 104 rfl) (by decide) (backC (W := 6) (rmSP l Z a0 hw q1 sc av hav h277 n0 (Nat.le_trans Z0 En.1) g0_q1 A_q1 F0 F1 F2) D.zw (tw hw 104 rfl) (tw hw 98 rfl) (by decide) (by decide)) e277 (by rw [hml]; rfl) (argsL := [(.ref sc), av]) (st := [(.ref q1)]) pd_29 rfl rfl rfl (Nat.le_of_ble_eq_true rfl) (hb hby at_152) (by decide) (by decide) (pc' := 155) rfl ?_
    intro T278 v278 L278 X278 Q278
    obtain ⟨rfl, N1, K1⟩ := Q278
    clear X277
    clear e277
    show Go _ _ _ _ T278 (mkF m 155 _ [(.ref q1)])
    have N279 := Fr.app N275 N1
    have D' := D.keep K1 (sfS (Safe.exa D.2.1.alike A_q1 (by decide) (by decide)) sf0)
    replace L_s1 := L_s1.keep K1 (ninS ne_s1_q1 nin0) (ninS ne_u_s1_q1 nin0)
    replace L_s2 := L_s2.keep K1 (ninS ne_s2_q1 nin0) (ninS ne_u_s2_q1 nin0)
    replace G_i1 := G_i1.keep K1 (ninS ne_i1_q1 nin0)
    replace O_l1 := O_l1.keep K1 (ninS ne_l1_q1 nin0) (ninS ne_a_l1_q1 nin0)
    replace G_i2 := G_i2.keep K1 (ninS ne_i2_q1 nin0)
    replace O_l2 := O_l2.keep K1 (ninS ne_l2_q1 nin0) (ninS ne_a_l2_q1 nin0)
    replace A_q1 := A_q1.keep K1
    replace D := D'
    replace En := Ext.kp En K1 (allS ge_q1 all0)
    refine w_astore X278.here hx (hb hby at_155) rfl (l' := #[.val (.int p1), .val (.int p2), .val (.int p3), .val (.int p4), .val av, .val (.int (1 : Int32)), .val (.ref c1), .val (.ref s1), .val (.ref c2), .val (.ref s2), .val (.ref l1), .val (.ref l2), .val (.ref q1), .unset, .unset, .unset, .unset, .unset, .unset]) rfl (pc' := 157) rfl ?_
    refine w_new X278 hx D.zw D.ow (tw hw 128 rfl) (tw hw 129 rfl) (tw hw 130 rfl) rfl (hb hby at_157) (by decide) (by decide) (pc' := 160) rfl ?_
    intro T280 h280 o1 go1 X280 e280 E280 A280 D280 U280
    clear X278
    have ge_o1 : h0.size ≤ o1 := Nat.le_trans En.1 (Nat.le_of_eq go1)
    have g0_o1 : n0 ≤ o1 := Nat.le_trans Z0 ge_o1
    have ne_s1_o1 : s1 ≠ o1 := Nat.ne_of_lt (Nat.lt_of_lt_of_le L_s1.1.lt (Nat.le_of_eq go1))
    have ne_u_s1_o1 : u_s1 ≠ o1 := Nat.ne_of_lt (Nat.lt_of_lt_of_le L_s1.2.2.2.1.lt (Nat.le_of_eq go1))
    have ne_s2_o1 : s2 ≠ o1 := Nat.ne_of_lt (Nat.lt_of_lt_of_le L_s2.1.lt (Nat.le_of_eq go1))
    have ne_u_s2_o1 : u_s2 ≠ o1 := Nat.ne_of_lt (Nat.lt_of_lt_of_le L_s2.2.2.2.1.lt (Nat.le_of_eq go1))
    have ne_i1_o1 : i1 ≠ o1 := Nat.ne_of_lt (Nat.lt_of_lt_of_le G_i1.1.lt (Nat.le_of_eq go1))
    have ne_l1_o1 : l1 ≠ o1 := Nat.ne_of_lt (Nat.lt_of_lt_of_le O_l1.1.lt (Nat.le_of_eq go1))
    have ne_a_l1_o1 : a_l1 ≠ o1 := Nat.ne_of_lt (Nat.lt_of_lt_of_le O_l1.2.2.2.1.lt (Nat.le_of_eq go1))
    have ne_i2_o1 : i2 ≠ o1 := Nat.ne_of_lt (Nat.lt_of_lt_of_le G_i2.1.lt (Nat.le_of_eq go1))
    have ne_l2_o1 : l2 ≠ o1 := Nat.ne_of_lt (Nat.lt_of_lt_of_le O_l2.1.lt (Nat.le_of_eq go1))
    have ne_a_l2_o1 : a_l2 ≠ o1 := Nat.ne_of_lt (Nat.lt_of_lt_of_le O_l2.2.2.2.1.lt (Nat.le_of_eq go1))
    have ne_q1_o1 : q1 ≠ o1 := Nat.ne_of_lt (Nat.lt_of_lt_of_le A_q1.lt (Nat.le_of_eq go1))
    replace L_s1 := L_s1.ext E280
    replace L_s2 := L_s2.ext E280
    replace G_i1 := G_i1.ext E280
    replace O_l1 := O_l1.ext E280
    replace G_i2 := G_i2.ext E280
    replace O_l2 := O_l2.ext E280
    replace A_q1 := A_q1.ext E280
    replace D := D.ext E280
    replace En := Ext.trs En E280
    have A_o1 := A280
    have F0 : Fld Z h280 o1 "com/example/crud4/crud4/SqlBuilder" "text" "Ljava/lang/StringBuilder;" .null := D280 (Or.inr (tw hw 154 rfl)) (ty := (.object "java/lang/StringBuilder")) (by decide)
    have F1 : Fld Z h280 o1 "com/example/crud4/crud4/SqlBuilder" "placeholders" "Ljava/util/List;" .null := D280 (Or.inr (tw hw 158 rfl)) (ty := (.object "java/util/List")) (by decide)
    have F2 : Fld Z h280 o1 "com/example/crud4/crud4/SqlBuilder" "values" "Ljava/util/List;" .null := D280 (Or.inr (tw hw 160 rfl)) (ty := (.object "java/util/List")) (by decide)
    have F3 : Fld Z h280 o1 "com/example/crud4/crud4/SqlBuilder" "parameter" "Lcom/example/crud4/crud4/StatementParameter;" .null := D280 (Or.inr (tw hw 162 rfl)) (ty := (.object "com/example/crud4/crud4/StatementParameter")) (by decide)
    refine w_dup X280.here hx (hb hby at_160) rfl (pc' := 161) rfl ?_
    refine w_aload X280.here hx (hb hby at_161) rfl rfl (pc' := 163) rfl ?_
    refine w_special X280 hx D.zw (y := yq23) rfl D.ow (tw hw 131 rfl) (tw hw 132 rfl) (tw hw 133 rfl) (by decide) (backC (W := 6) (rmSqI l Z a0 hw o1 q1 D1 kD z h280 n0 (Nat.le_trans Z0 En.1) g0_o1 (SC.ext En) hz (DE.ext En) A_o1 F0 F1 F2 F3) D.zw (tw hw 133 rfl) (tw hw 130 rfl) (by decide) (by decide)) e280 (by rw [hml]; rfl) (argsL := [(.ref q1)]) (st := [(.ref o1)]) pd_22 rfl rfl rfl (Nat.le_of_ble_eq_true rfl) (hb hby at_163) (by decide) (by decide) (pc' := 166) rfl ?_
    intro T281 v281 L281 X281 Q281
    obtain ⟨rfl, N1, K1, b1, t1, kt1, pl1, vl1, gb, gt, gp, gv, n1, n2, n3, n4, n5, n6, QN, BN, PN, VN⟩ := Q281
    clear X280
    clear e280
    show Go _ _ _ _ T281 (mkF m 166 _ [(.ref o1)])
    have N282 := Fr.app N279 N1
    have ne_s1_b1 : s1 ≠ b1 := Nat.ne_of_lt (Nat.lt_of_lt_of_le L_s1.1.lt gb)
    have ne_u_s1_b1 : u_s1 ≠ b1 := Nat.ne_of_lt (Nat.lt_of_lt_of_le L_s1.2.2.2.1.lt gb)
    have ne_s2_b1 : s2 ≠ b1 := Nat.ne_of_lt (Nat.lt_of_lt_of_le L_s2.1.lt gb)
    have ne_u_s2_b1 : u_s2 ≠ b1 := Nat.ne_of_lt (Nat.lt_of_lt_of_le L_s2.2.2.2.1.lt gb)
    have ne_i1_b1 : i1 ≠ b1 := Nat.ne_of_lt (Nat.lt_of_lt_of_le G_i1.1.lt gb)
    have ne_l1_b1 : l1 ≠ b1 := Nat.ne_of_lt (Nat.lt_of_lt_of_le O_l1.1.lt gb)
    have ne_a_l1_b1 : a_l1 ≠ b1 := Nat.ne_of_lt (Nat.lt_of_lt_of_le O_l1.2.2.2.1.lt gb)
    have ne_i2_b1 : i2 ≠ b1 := Nat.ne_of_lt (Nat.lt_of_lt_of_le G_i2.1.lt gb)
    have ne_l2_b1 : l2 ≠ b1 := Nat.ne_of_lt (Nat.lt_of_lt_of_le O_l2.1.lt gb)
    have ne_a_l2_b1 : a_l2 ≠ b1 := Nat.ne_of_lt (Nat.lt_of_lt_of_le O_l2.2.2.2.1.lt gb)
    have ne_q1_b1 : q1 ≠ b1 := Nat.ne_of_lt (Nat.lt_of_lt_of_le A_q1.lt gb)
    have ne_o1_b1 : o1 ≠ b1 := Nat.ne_of_lt (Nat.lt_of_lt_of_le A_o1.lt gb)
    have ge_b1 : h0.size ≤ b1 := Nat.le_trans En.1 gb
    have g0_b1 : n0 ≤ b1 := Nat.le_trans Z0 ge_b1
    have ne_s1_t1 : s1 ≠ t1 := Nat.ne_of_lt (Nat.lt_of_lt_of_le L_s1.1.lt gt)
    have ne_u_s1_t1 : u_s1 ≠ t1 := Nat.ne_of_lt (Nat.lt_of_lt_of_le L_s1.2.2.2.1.lt gt)
    have ne_s2_t1 : s2 ≠ t1 := Nat.ne_of_lt (Nat.lt_of_lt_of_le L_s2.1.lt gt)
    have ne_u_s2_t1 : u_s2 ≠ t1 := Nat.ne_of_lt (Nat.lt_of_lt_of_le L_s2.2.2.2.1.lt gt)
    have ne_i1_t1 : i1 ≠ t1 := Nat.ne_of_lt (Nat.lt_of_lt_of_le G_i1.1.lt gt)
    have ne_l1_t1 : l1 ≠ t1 := Nat.ne_of_lt (Nat.lt_of_lt_of_le O_l1.1.lt gt)
    have ne_a_l1_t1 : a_l1 ≠ t1 := Nat.ne_of_lt (Nat.lt_of_lt_of_le O_l1.2.2.2.1.lt gt)
    have ne_i2_t1 : i2 ≠ t1 := Nat.ne_of_lt (Nat.lt_of_lt_of_le G_i2.1.lt gt)
    have ne_l2_t1 : l2 ≠ t1 := Nat.ne_of_lt (Nat.lt_of_lt_of_le O_l2.1.lt gt)
    have ne_a_l2_t1 : a_l2 ≠ t1 := Nat.ne_of_lt (Nat.lt_of_lt_of_le O_l2.2.2.2.1.lt gt)
    have ne_q1_t1 : q1 ≠ t1 := Nat.ne_of_lt (Nat.lt_of_lt_of_le A_q1.lt gt)
    have ne_o1_t1 : o1 ≠ t1 := Nat.ne_of_lt (Nat.lt_of_lt_of_le A_o1.lt gt)
    have ge_t1 : h0.size ≤ t1 := Nat.le_trans En.1 gt
    have g0_t1 : n0 ≤ t1 := Nat.le_trans Z0 ge_t1
    have ne_s1_pl1 : s1 ≠ pl1 := Nat.ne_of_lt (Nat.lt_of_lt_of_le L_s1.1.lt gp)
    have ne_u_s1_pl1 : u_s1 ≠ pl1 := Nat.ne_of_lt (Nat.lt_of_lt_of_le L_s1.2.2.2.1.lt gp)
    have ne_s2_pl1 : s2 ≠ pl1 := Nat.ne_of_lt (Nat.lt_of_lt_of_le L_s2.1.lt gp)
    have ne_u_s2_pl1 : u_s2 ≠ pl1 := Nat.ne_of_lt (Nat.lt_of_lt_of_le L_s2.2.2.2.1.lt gp)
    have ne_i1_pl1 : i1 ≠ pl1 := Nat.ne_of_lt (Nat.lt_of_lt_of_le G_i1.1.lt gp)
    have ne_l1_pl1 : l1 ≠ pl1 := Nat.ne_of_lt (Nat.lt_of_lt_of_le O_l1.1.lt gp)
    have ne_a_l1_pl1 : a_l1 ≠ pl1 := Nat.ne_of_lt (Nat.lt_of_lt_of_le O_l1.2.2.2.1.lt gp)
    have ne_i2_pl1 : i2 ≠ pl1 := Nat.ne_of_lt (Nat.lt_of_lt_of_le G_i2.1.lt gp)
    have ne_l2_pl1 : l2 ≠ pl1 := Nat.ne_of_lt (Nat.lt_of_lt_of_le O_l2.1.lt gp)
    have ne_a_l2_pl1 : a_l2 ≠ pl1 := Nat.ne_of_lt (Nat.lt_of_lt_of_le O_l2.2.2.2.1.lt gp)
    have ne_q1_pl1 : q1 ≠ pl1 := Nat.ne_of_lt (Nat.lt_of_lt_of_le A_q1.lt gp)
    have ne_o1_pl1 : o1 ≠ pl1 := Nat.ne_of_lt (Nat.lt_of_lt_of_le A_o1.lt gp)
    have ge_pl1 : h0.size ≤ pl1 := Nat.le_trans En.1 gp
    have g0_pl1 : n0 ≤ pl1 := Nat.le_trans Z0 ge_pl1
    have ne_s1_vl1 : s1 ≠ vl1 := Nat.ne_of_lt (Nat.lt_of_lt_of_le L_s1.1.lt gv)
    have ne_u_s1_vl1 : u_s1 ≠ vl1 := Nat.ne_of_lt (Nat.lt_of_lt_of_le L_s1.2.2.2.1.lt gv)
    have ne_s2_vl1 : s2 ≠ vl1 := Nat.ne_of_lt (Nat.lt_of_lt_of_le L_s2.1.lt gv)
    have ne_u_s2_vl1 : u_s2 ≠ vl1 := Nat.ne_of_lt (Nat.lt_of_lt_of_le L_s2.2.2.2.1.lt gv)
    have ne_i1_vl1 : i1 ≠ vl1 := Nat.ne_of_lt (Nat.lt_of_lt_of_le G_i1.1.lt gv)
    have ne_l1_vl1 : l1 ≠ vl1 := Nat.ne_of_lt (Nat.lt_of_lt_of_le O_l1.1.lt gv)
    have ne_a_l1_vl1 : a_l1 ≠ vl1 := Nat.ne_of_lt (Nat.lt_of_lt_of_le O_l1.2.2.2.1.lt gv)
    have ne_i2_vl1 : i2 ≠ vl1 := Nat.ne_of_lt (Nat.lt_of_lt_of_le G_i2.1.lt gv)
    have ne_l2_vl1 : l2 ≠ vl1 := Nat.ne_of_lt (Nat.lt_of_lt_of_le O_l2.1.lt gv)
    have ne_a_l2_vl1 : a_l2 ≠ vl1 := Nat.ne_of_lt (Nat.lt_of_lt_of_le O_l2.2.2.2.1.lt gv)
    have ne_q1_vl1 : q1 ≠ vl1 := Nat.ne_of_lt (Nat.lt_of_lt_of_le A_q1.lt gv)
    have ne_o1_vl1 : o1 ≠ vl1 := Nat.ne_of_lt (Nat.lt_of_lt_of_le A_o1.lt gv)
    have ge_vl1 : h0.size ≤ vl1 := Nat.le_trans En.1 gv
    have g0_vl1 : n0 ≤ vl1 := Nat.le_trans Z0 ge_vl1
    have m1_1 := n1
    have m2_1 := n2
    have m3_1 := n3
    have m4_1 := n4
    have m5_1 := n5
    have m6_1 := n6
    have SF1 := Safe.keep (EL := EL0) K1 (sfS (Safe.exa D.2.1.alike A_o1 (by decide) (by decide)) sf0) D.2.2.2.1.1 (Safe.new gt)
    have D' := D.keep K1 (sfS (Safe.exa D.2.1.alike A_o1 (by decide) (by decide)) sf0)
    replace L_s1 := L_s1.keep K1 (ninS ne_s1_o1 nin0) (ninS ne_u_s1_o1 nin0)
    replace L_s2 := L_s2.keep K1 (ninS ne_s2_o1 nin0) (ninS ne_u_s2_o1 nin0)
    replace G_i1 := G_i1.keep K1 (ninS ne_i1_o1 nin0)
    replace O_l1 := O_l1.keep K1 (ninS ne_l1_o1 nin0) (ninS ne_a_l1_o1 nin0)
    replace G_i2 := G_i2.keep K1 (ninS ne_i2_o1 nin0)
    replace O_l2 := O_l2.keep K1 (ninS ne_l2_o1 nin0) (ninS ne_a_l2_o1 nin0)
    replace A_q1 := A_q1.keep K1
    replace D := D'
    replace En := Ext.kp En K1 (allS ge_o1 all0)
    have Q1 := QN
    have B1 := BN
    have P1 := PN
    have V1 := VN
    refine w_astore X281.here hx (hb hby at_166) rfl (l' := #[.val (.int p1), .val (.int p2), .val (.int p3), .val (.int p4), .val av, .val (.int (1 : Int32)), .val (.ref c1), .val (.ref s1), .val (.ref c2), .val (.ref s2), .val (.ref l1), .val (.ref l2), .val (.ref q1), .val (.ref o1), .unset, .unset, .unset, .unset, .unset]) rfl (pc' := 168) rfl ?_
    refine w_iload X281.here hx (hb hby at_168) rfl (pc' := 170) rfl ?_
    refine w_ifNo X281.here hx (hb hby at_170) (feq (show ¬ ((1 : Int32) = (0 : Int32)) from by decide)).1 (pc' := 173) rfl ?_
    refine w_aload X281.here hx (hb hby at_173) rfl rfl (pc' := 175) rfl ?_
    refine w_aload X281.here hx (hb hby at_175) rfl rfl (pc' := 177) rfl ?_
    refine w_new X281 hx D.zw D.ow (tw hw 37 rfl) (tw hw 38 rfl) (tw hw 39 rfl) rfl (hb hby at_177) (by decide) (by decide) (pc' := 180) rfl ?_
    intro T283 h283 e1 ge1 X283 e283 E283 A283 D283 U283
    clear X281
    have ge_e1 : h0.size ≤ e1 := Nat.le_trans En.1 (Nat.le_of_eq ge1)
    have g0_e1 : n0 ≤ e1 := Nat.le_trans Z0 ge_e1
    have ne_s1_e1 : s1 ≠ e1 := Nat.ne_of_lt (Nat.lt_of_lt_of_le L_s1.1.lt (Nat.le_of_eq ge1))
    have ne_u_s1_e1 : u_s1 ≠ e1 := Nat.ne_of_lt (Nat.lt_of_lt_of_le L_s1.2.2.2.1.lt (Nat.le_of_eq ge1))
    have ne_s2_e1 : s2 ≠ e1 := Nat.ne_of_lt (Nat.lt_of_lt_of_le L_s2.1.lt (Nat.le_of_eq ge1))
    have ne_u_s2_e1 : u_s2 ≠ e1 := Nat.ne_of_lt (Nat.lt_of_lt_of_le L_s2.2.2.2.1.lt (Nat.le_of_eq ge1))
    have ne_i1_e1 : i1 ≠ e1 := Nat.ne_of_lt (Nat.lt_of_lt_of_le G_i1.1.lt (Nat.le_of_eq ge1))
    have ne_l1_e1 : l1 ≠ e1 := Nat.ne_of_lt (Nat.lt_of_lt_of_le O_l1.1.lt (Nat.le_of_eq ge1))
    have ne_a_l1_e1 : a_l1 ≠ e1 := Nat.ne_of_lt (Nat.lt_of_lt_of_le O_l1.2.2.2.1.lt (Nat.le_of_eq ge1))
    have ne_i2_e1 : i2 ≠ e1 := Nat.ne_of_lt (Nat.lt_of_lt_of_le G_i2.1.lt (Nat.le_of_eq ge1))
    have ne_l2_e1 : l2 ≠ e1 := Nat.ne_of_lt (Nat.lt_of_lt_of_le O_l2.1.lt (Nat.le_of_eq ge1))
    have ne_a_l2_e1 : a_l2 ≠ e1 := Nat.ne_of_lt (Nat.lt_of_lt_of_le O_l2.2.2.2.1.lt (Nat.le_of_eq ge1))
    have ne_q1_e1 : q1 ≠ e1 := Nat.ne_of_lt (Nat.lt_of_lt_of_le A_q1.lt (Nat.le_of_eq ge1))
    have ne_o1_e1 : o1 ≠ e1 := Nat.ne_of_lt (Nat.lt_of_lt_of_le Q1.1.lt (Nat.le_of_eq ge1))
    have ne_b1_e1 : b1 ≠ e1 := Nat.ne_of_lt (Nat.lt_of_lt_of_le B1.1.lt (Nat.le_of_eq ge1))
    have ne_t1_e1 : t1 ≠ e1 := Nat.ne_of_lt (Nat.lt_of_lt_of_le B1.2.2.2.2.1.lt (Nat.le_of_eq ge1))
    have ne_pl1_e1 : pl1 ≠ e1 := Nat.ne_of_lt (Nat.lt_of_lt_of_le P1.1.lt (Nat.le_of_eq ge1))
    have ne_vl1_e1 : vl1 ≠ e1 := Nat.ne_of_lt (Nat.lt_of_lt_of_le V1.1.lt (Nat.le_of_eq ge1))
    replace L_s1 := L_s1.ext E283
    replace L_s2 := L_s2.ext E283
    replace G_i1 := G_i1.ext E283
    replace O_l1 := O_l1.ext E283
    replace G_i2 := G_i2.ext E283
    replace O_l2 := O_l2.ext E283
    replace A_q1 := A_q1.ext E283
    replace Q1 := Q1.ext E283
    replace B1 := B1.ext E283
    replace P1 := P1.ext E283
    replace V1 := V1.ext E283
    replace SF1 := Safe.ext E283 D.2.2.2.1.1 SF1
    replace D := D.ext E283
    replace En := Ext.trs En E283
    have A_e1 := A283
    have FD : Fld Z h283 e1 "java/util/ArrayList" "elementData" "[Ljava/lang/Object;" .null := D283 (Or.inl (tw hw 60 rfl)) (ty := (.array (.object "java/lang/Object"))) (by decide)
    have FS : Fld Z h283 e1 "java/util/ArrayList" "size" "I" (.int (0 : Int32)) := D283 (Or.inl (tw hw 73 rfl)) (ty := .int) (by decide)
    have FM : Fld Z h283 e1 "java/util/AbstractList" "modCount" "I" (.int (0 : Int32)) := D283 (Or.inl (tw hw 57 rfl)) (ty := .int) (by decide)
    refine w_dup X283.here hx (hb hby at_180) rfl (pc' := 181) rfl ?_
    refine w_special X283 hx D.zw (y := yq2) rfl D.ow (tw hw 40 rfl) (tw hw 41 rfl) (tw hw 42 rfl) (by decide) (backC (W := 6) (rmAL l Z a0 hw e1 D1 kD h283 n0 g0_e1 (DE.ext En) A_e1 FD FS FM) D.zw (tw hw 42 rfl) (tw hw 39 rfl) (by decide) (by decide)) e283 (by rw [hml]; rfl) (argsL := []) (st := [(.ref e1), (.ref s1), (.ref o1)]) pd_14 rfl rfl rfl (Nat.le_of_ble_eq_true rfl) (hb hby at_181) (by decide) (by decide) (pc' := 184) rfl ?_
    intro T284 v284 L284 X284 Q284
    obtain ⟨rfl, N1, K1, E_e1⟩ := Q284
    clear X283
    clear e283
    show Go _ _ _ _ T284 (mkF m 184 _ [(.ref e1), (.ref s1), (.ref o1)])
    have N285 := Fr.app N282 N1
    have NSF1 := Safe.keep K1 (sfS (Safe.exa D.2.1.alike A_e1 (by decide) (by decide)) sf0) D.2.2.2.1.1 SF1
    have D' := D.keep K1 (sfS (Safe.exa D.2.1.alike A_e1 (by decide) (by decide)) sf0)
    replace L_s1 := L_s1.keep K1 (ninS ne_s1_e1 nin0) (ninS ne_u_s1_e1 nin0)
    replace L_s2 := L_s2.keep K1 (ninS ne_s2_e1 nin0) (ninS ne_u_s2_e1 nin0)
    replace G_i1 := G_i1.keep K1 (ninS ne_i1_e1 nin0)
    replace O_l1 := O_l1.keep K1 (ninS ne_l1_e1 nin0) (ninS ne_a_l1_e1 nin0)
    replace G_i2 := G_i2.keep K1 (ninS ne_i2_e1 nin0)
    replace O_l2 := O_l2.keep K1 (ninS ne_l2_e1 nin0) (ninS ne_a_l2_e1 nin0)
    replace A_q1 := A_q1.keep K1
    replace Q1 := Q1.keep K1 (ninS ne_o1_e1 nin0)
    replace B1 := B1.keep K1 (ninS ne_b1_e1 nin0) (ninS ne_t1_e1 nin0)
    replace P1 := P1.keep K1 (ninS ne_pl1_e1 nin0)
    replace V1 := V1.keep K1 (ninS ne_vl1_e1 nin0)
    replace SF1 := NSF1
    replace D := D'
    replace En := Ext.kp En K1 (allS ge_e1 all0)
    refine w_aload X284.here hx (hb hby at_184) rfl rfl (pc' := 186) rfl ?_
    refine w_virtual X284 hx D.zw (y := yq6) (z := yq6) D.ow (tw hw 253 rfl) (tw hw 254 rfl) (notFace_of_selects (args := #[]) (mvT D.zw (tw hw 256 rfl))) (tw hw 256 rfl) (tw hw 255 rfl) (by decide) (backC (W := 6) (rmSqA l Z a0 hw o1 q1 b1 pl1 vl1 t1 s1 u_s1 e1 l1 a_l1 i1 D1 mr kt1 ku_s1 ka_l1 kD (two p2) p2 z T284.heap n0 (Nat.le_trans Z0 En.1) g0_b1 g0_t1 g0_pl1 g0_vl1 (SC.ext En) hz M (DE.ext En) Q1 B1 P1 V1 L_s1 (Nat.le_of_ble_eq_true rfl) E_e1 O_l1 G_i1 (Nat.ne_of_lt (Nat.lt_of_lt_of_le DE.2.1.lt ge_t1)) (Ne.symm m1_1) (Ne.symm m2_1) (Ne.symm m4_1) (Ne.symm m3_1) (Ne.symm m5_1) (Ne.symm m6_1) ne_o1_b1 ne_o1_t1 ne_o1_pl1 ne_o1_vl1 (Ne.symm ne_b1_e1) (Ne.symm ne_t1_e1) (Ne.symm ne_pl1_e1) (Ne.symm ne_vl1_e1) ne_l1_b1 ne_l1_t1 ne_l1_pl1 ne_l1_vl1 ne_a_l1_b1 ne_a_l1_t1 ne_a_l1_pl1 ne_a_l1_vl1 ne_s1_b1 ne_s1_t1 ne_s1_pl1 ne_s1_vl1 ne_u_s1_b1 ne_u_s1_t1 ne_u_s1_pl1 ne_u_s1_vl1 ne_i1_b1 ne_i1_t1 ne_i1_pl1 ne_i1_vl1) D.zw (tw hw 257 rfl) (tw hw 130 rfl) (by decide) (by decide)) rfl Q1.1 (by rw [hml]; rfl) (argsL := [(.ref s1), (.ref e1), (.ref l1)]) (st := []) pd_33 rfl rfl rfl (Nat.le_of_ble_eq_true rfl) (hb hby at_186) (by decide) (by decide) (pc' := 189) rfl ?_
    intro T286 v286 L286 X286 Q286
    obtain ⟨rfl, N1, K1, BN, PN, a5_1, k5_1, ga, VN⟩ := Q286
    clear X284
    show Go _ _ _ _ T286 (mkF m 189 _ [])
    have N287 := Fr.app N285 N1
    have NSF1 := Safe.keep K1 (sfS (Safe.exa D.2.1.alike B1.1 (by decide) (by decide)) (sfS SF1 (sfS (Safe.exa D.2.1.alike P1.1 (by decide) (by decide)) (sfS (Safe.exa D.2.1.alike V1.1 (by decide) (by decide)) sf0)))) D.2.2.2.1.1 SF1
    have D' := D.keep K1 (sfS (Safe.exa D.2.1.alike B1.1 (by decide) (by decide)) (sfS SF1 (sfS (Safe.exa D.2.1.alike P1.1 (by decide) (by decide)) (sfS (Safe.exa D.2.1.alike V1.1 (by decide) (by decide)) sf0))))
    replace L_s1 := L_s1.keep K1 (ninS ne_s1_b1 (ninS ne_s1_t1 (ninS ne_s1_pl1 (ninS ne_s1_vl1 nin0)))) (ninS ne_u_s1_b1 (ninS ne_u_s1_t1 (ninS ne_u_s1_pl1 (ninS ne_u_s1_vl1 nin0))))
    replace L_s2 := L_s2.keep K1 (ninS ne_s2_b1 (ninS ne_s2_t1 (ninS ne_s2_pl1 (ninS ne_s2_vl1 nin0)))) (ninS ne_u_s2_b1 (ninS ne_u_s2_t1 (ninS ne_u_s2_pl1 (ninS ne_u_s2_vl1 nin0))))
    replace G_i1 := G_i1.keep K1 (ninS ne_i1_b1 (ninS ne_i1_t1 (ninS ne_i1_pl1 (ninS ne_i1_vl1 nin0))))
    replace O_l1 := O_l1.keep K1 (ninS ne_l1_b1 (ninS ne_l1_t1 (ninS ne_l1_pl1 (ninS ne_l1_vl1 nin0)))) (ninS ne_a_l1_b1 (ninS ne_a_l1_t1 (ninS ne_a_l1_pl1 (ninS ne_a_l1_vl1 nin0))))
    replace G_i2 := G_i2.keep K1 (ninS ne_i2_b1 (ninS ne_i2_t1 (ninS ne_i2_pl1 (ninS ne_i2_vl1 nin0))))
    replace O_l2 := O_l2.keep K1 (ninS ne_l2_b1 (ninS ne_l2_t1 (ninS ne_l2_pl1 (ninS ne_l2_vl1 nin0)))) (ninS ne_a_l2_b1 (ninS ne_a_l2_t1 (ninS ne_a_l2_pl1 (ninS ne_a_l2_vl1 nin0))))
    replace A_q1 := A_q1.keep K1
    replace Q1 := Q1.keep K1 (ninS ne_o1_b1 (ninS ne_o1_t1 (ninS ne_o1_pl1 (ninS ne_o1_vl1 nin0))))
    replace E_e1 := E_e1.keep K1 (ninS (Ne.symm ne_b1_e1) (ninS (Ne.symm ne_t1_e1) (ninS (Ne.symm ne_pl1_e1) (ninS (Ne.symm ne_vl1_e1) nin0))))
    have SF1 := NSF1
    replace D := D'
    replace En := Ext.kp En K1 (allS ge_b1 (allS ge_t1 (allS ge_pl1 (allS ge_vl1 all0))))
    have B1 := BN
    have P1 := PN
    have V1 := VN
    refine w_aload X286.here hx (hb hby at_189) rfl rfl (pc' := 191) rfl ?_
    refine w_virtual X286 hx D.zw (y := yq15) (z := yq15) D.ow (tw hw 163 rfl) (tw hw 164 rfl) (notFace_of_selects (args := #[]) (mvT D.zw (tw hw 166 rfl))) (tw hw 166 rfl) (tw hw 165 rfl) (by decide) (backC (W := 6) (rmNest l Z a0 hw o1 q1 b1 pl1 vl1 D1 kD z T286.heap n0 (Nat.le_trans Z0 En.1) (SC.ext En) hz (DE.ext En) Q1) D.zw (tw hw 167 rfl) (tw hw 130 rfl) (by decide) (by decide)) rfl Q1.1 (by rw [hml]; rfl) (argsL := []) (st := []) pd_30 rfl rfl rfl (Nat.le_of_ble_eq_true rfl) (hb hby at_191) (by decide) (by decide) (pc' := 194) rfl ?_
    intro T288 v288 L288 X288 Q288
    obtain ⟨o2, rfl, N1, E1, go2, b2, t2, kt2, pl2, vl2, gb, gt, gp, gv, n1, n2, n3, n4, n5, n6, r1, r2, r3, r4, QN, BN, PN, VN⟩ := Q288
    clear X286
    show Go _ _ _ _ T288 (mkF m 194 _ [(.ref o2)])
    have N289 := Fr.app N287 N1
    have ne_s1_o2 : s1 ≠ o2 := Nat.ne_of_lt (Nat.lt_of_lt_of_le L_s1.1.lt go2)
    have ne_u_s1_o2 : u_s1 ≠ o2 := Nat.ne_of_lt (Nat.lt_of_lt_of_le L_s1.2.2.2.1.lt go2)
    have ne_s2_o2 : s2 ≠ o2 := Nat.ne_of_lt (Nat.lt_of_lt_of_le L_s2.1.lt go2)
    have ne_u_s2_o2 : u_s2 ≠ o2 := Nat.ne_of_lt (Nat.lt_of_lt_of_le L_s2.2.2.2.1.lt go2)
    have ne_i1_o2 : i1 ≠ o2 := Nat.ne_of_lt (Nat.lt_of_lt_of_le G_i1.1.lt go2)
    have ne_l1_o2 : l1 ≠ o2 := Nat.ne_of_lt (Nat.lt_of_lt_of_le O_l1.1.lt go2)
    have ne_a_l1_o2 : a_l1 ≠ o2 := Nat.ne_of_lt (Nat.lt_of_lt_of_le O_l1.2.2.2.1.lt go2)
    have ne_i2_o2 : i2 ≠ o2 := Nat.ne_of_lt (Nat.lt_of_lt_of_le G_i2.1.lt go2)
    have ne_l2_o2 : l2 ≠ o2 := Nat.ne_of_lt (Nat.lt_of_lt_of_le O_l2.1.lt go2)
    have ne_a_l2_o2 : a_l2 ≠ o2 := Nat.ne_of_lt (Nat.lt_of_lt_of_le O_l2.2.2.2.1.lt go2)
    have ne_q1_o2 : q1 ≠ o2 := Nat.ne_of_lt (Nat.lt_of_lt_of_le A_q1.lt go2)
    have ne_o1_o2 : o1 ≠ o2 := Nat.ne_of_lt (Nat.lt_of_lt_of_le Q1.1.lt go2)
    have ne_e1_o2 : e1 ≠ o2 := Nat.ne_of_lt (Nat.lt_of_lt_of_le E_e1.1.lt go2)
    have ne_b1_o2 : b1 ≠ o2 := Nat.ne_of_lt (Nat.lt_of_lt_of_le B1.1.lt go2)
    have ne_t1_o2 : t1 ≠ o2 := Nat.ne_of_lt (Nat.lt_of_lt_of_le B1.2.2.2.2.1.lt go2)
    have ne_pl1_o2 : pl1 ≠ o2 := Nat.ne_of_lt (Nat.lt_of_lt_of_le P1.1.lt go2)
    have ne_vl1_o2 : vl1 ≠ o2 := Nat.ne_of_lt (Nat.lt_of_lt_of_le V1.1.lt go2)
    have ne_a5_1_o2 : a5_1 ≠ o2 := Nat.ne_of_lt (Nat.lt_of_lt_of_le V1.2.2.2.1.lt go2)
    have ne_s1_b2 : s1 ≠ b2 := Nat.ne_of_lt (Nat.lt_of_lt_of_le L_s1.1.lt gb)
    have ne_u_s1_b2 : u_s1 ≠ b2 := Nat.ne_of_lt (Nat.lt_of_lt_of_le L_s1.2.2.2.1.lt gb)
    have ne_s2_b2 : s2 ≠ b2 := Nat.ne_of_lt (Nat.lt_of_lt_of_le L_s2.1.lt gb)
    have ne_u_s2_b2 : u_s2 ≠ b2 := Nat.ne_of_lt (Nat.lt_of_lt_of_le L_s2.2.2.2.1.lt gb)
    have ne_i1_b2 : i1 ≠ b2 := Nat.ne_of_lt (Nat.lt_of_lt_of_le G_i1.1.lt gb)
    have ne_l1_b2 : l1 ≠ b2 := Nat.ne_of_lt (Nat.lt_of_lt_of_le O_l1.1.lt gb)
    have ne_a_l1_b2 : a_l1 ≠ b2 := Nat.ne_of_lt (Nat.lt_of_lt_of_le O_l1.2.2.2.1.lt gb)
    have ne_i2_b2 : i2 ≠ b2 := Nat.ne_of_lt (Nat.lt_of_lt_of_le G_i2.1.lt gb)
    have ne_l2_b2 : l2 ≠ b2 := Nat.ne_of_lt (Nat.lt_of_lt_of_le O_l2.1.lt gb)
    have ne_a_l2_b2 : a_l2 ≠ b2 := Nat.ne_of_lt (Nat.lt_of_lt_of_le O_l2.2.2.2.1.lt gb)
    have ne_q1_b2 : q1 ≠ b2 := Nat.ne_of_lt (Nat.lt_of_lt_of_le A_q1.lt gb)
    have ne_o1_b2 : o1 ≠ b2 := Nat.ne_of_lt (Nat.lt_of_lt_of_le Q1.1.lt gb)
    have ne_e1_b2 : e1 ≠ b2 := Nat.ne_of_lt (Nat.lt_of_lt_of_le E_e1.1.lt gb)
    have ne_b1_b2 : b1 ≠ b2 := Nat.ne_of_lt (Nat.lt_of_lt_of_le B1.1.lt gb)
    have ne_t1_b2 : t1 ≠ b2 := Nat.ne_of_lt (Nat.lt_of_lt_of_le B1.2.2.2.2.1.lt gb)
    have ne_pl1_b2 : pl1 ≠ b2 := Nat.ne_of_lt (Nat.lt_of_lt_of_le P1.1.lt gb)
    have ne_vl1_b2 : vl1 ≠ b2 := Nat.ne_of_lt (Nat.lt_of_lt_of_le V1.1.lt gb)
    have ne_a5_1_b2 : a5_1 ≠ b2 := Nat.ne_of_lt (Nat.lt_of_lt_of_le V1.2.2.2.1.lt gb)
    have ge_b2 : h0.size ≤ b2 := Nat.le_trans En.1 gb
    have g0_b2 : n0 ≤ b2 := Nat.le_trans Z0 ge_b2
    have ne_s1_t2 : s1 ≠ t2 := Nat.ne_of_lt (Nat.lt_of_lt_of_le L_s1.1.lt gt)
    have ne_u_s1_t2 : u_s1 ≠ t2 := Nat.ne_of_lt (Nat.lt_of_lt_of_le L_s1.2.2.2.1.lt gt)
    have ne_s2_t2 : s2 ≠ t2 := Nat.ne_of_lt (Nat.lt_of_lt_of_le L_s2.1.lt gt)
    have ne_u_s2_t2 : u_s2 ≠ t2 := Nat.ne_of_lt (Nat.lt_of_lt_of_le L_s2.2.2.2.1.lt gt)
    have ne_i1_t2 : i1 ≠ t2 := Nat.ne_of_lt (Nat.lt_of_lt_of_le G_i1.1.lt gt)
    have ne_l1_t2 : l1 ≠ t2 := Nat.ne_of_lt (Nat.lt_of_lt_of_le O_l1.1.lt gt)
    have ne_a_l1_t2 : a_l1 ≠ t2 := Nat.ne_of_lt (Nat.lt_of_lt_of_le O_l1.2.2.2.1.lt gt)
    have ne_i2_t2 : i2 ≠ t2 := Nat.ne_of_lt (Nat.lt_of_lt_of_le G_i2.1.lt gt)
    have ne_l2_t2 : l2 ≠ t2 := Nat.ne_of_lt (Nat.lt_of_lt_of_le O_l2.1.lt gt)
    have ne_a_l2_t2 : a_l2 ≠ t2 := Nat.ne_of_lt (Nat.lt_of_lt_of_le O_l2.2.2.2.1.lt gt)
    have ne_q1_t2 : q1 ≠ t2 := Nat.ne_of_lt (Nat.lt_of_lt_of_le A_q1.lt gt)
    have ne_o1_t2 : o1 ≠ t2 := Nat.ne_of_lt (Nat.lt_of_lt_of_le Q1.1.lt gt)
    have ne_e1_t2 : e1 ≠ t2 := Nat.ne_of_lt (Nat.lt_of_lt_of_le E_e1.1.lt gt)
    have ne_b1_t2 : b1 ≠ t2 := Nat.ne_of_lt (Nat.lt_of_lt_of_le B1.1.lt gt)
    have ne_t1_t2 : t1 ≠ t2 := Nat.ne_of_lt (Nat.lt_of_lt_of_le B1.2.2.2.2.1.lt gt)
    have ne_pl1_t2 : pl1 ≠ t2 := Nat.ne_of_lt (Nat.lt_of_lt_of_le P1.1.lt gt)
    have ne_vl1_t2 : vl1 ≠ t2 := Nat.ne_of_lt (Nat.lt_of_lt_of_le V1.1.lt gt)
    have ne_a5_1_t2 : a5_1 ≠ t2 := Nat.ne_of_lt (Nat.lt_of_lt_of_le V1.2.2.2.1.lt gt)
    have ge_t2 : h0.size ≤ t2 := Nat.le_trans En.1 gt
    have g0_t2 : n0 ≤ t2 := Nat.le_trans Z0 ge_t2
    have ne_s1_pl2 : s1 ≠ pl2 := Nat.ne_of_lt (Nat.lt_of_lt_of_le L_s1.1.lt gp)
    have ne_u_s1_pl2 : u_s1 ≠ pl2 := Nat.ne_of_lt (Nat.lt_of_lt_of_le L_s1.2.2.2.1.lt gp)
    have ne_s2_pl2 : s2 ≠ pl2 := Nat.ne_of_lt (Nat.lt_of_lt_of_le L_s2.1.lt gp)
    have ne_u_s2_pl2 : u_s2 ≠ pl2 := Nat.ne_of_lt (Nat.lt_of_lt_of_le L_s2.2.2.2.1.lt gp)
    have ne_i1_pl2 : i1 ≠ pl2 := Nat.ne_of_lt (Nat.lt_of_lt_of_le G_i1.1.lt gp)
    have ne_l1_pl2 : l1 ≠ pl2 := Nat.ne_of_lt (Nat.lt_of_lt_of_le O_l1.1.lt gp)
    have ne_a_l1_pl2 : a_l1 ≠ pl2 := Nat.ne_of_lt (Nat.lt_of_lt_of_le O_l1.2.2.2.1.lt gp)
    have ne_i2_pl2 : i2 ≠ pl2 := Nat.ne_of_lt (Nat.lt_of_lt_of_le G_i2.1.lt gp)
    have ne_l2_pl2 : l2 ≠ pl2 := Nat.ne_of_lt (Nat.lt_of_lt_of_le O_l2.1.lt gp)
    have ne_a_l2_pl2 : a_l2 ≠ pl2 := Nat.ne_of_lt (Nat.lt_of_lt_of_le O_l2.2.2.2.1.lt gp)
    have ne_q1_pl2 : q1 ≠ pl2 := Nat.ne_of_lt (Nat.lt_of_lt_of_le A_q1.lt gp)
    have ne_o1_pl2 : o1 ≠ pl2 := Nat.ne_of_lt (Nat.lt_of_lt_of_le Q1.1.lt gp)
    have ne_e1_pl2 : e1 ≠ pl2 := Nat.ne_of_lt (Nat.lt_of_lt_of_le E_e1.1.lt gp)
    have ne_b1_pl2 : b1 ≠ pl2 := Nat.ne_of_lt (Nat.lt_of_lt_of_le B1.1.lt gp)
    have ne_t1_pl2 : t1 ≠ pl2 := Nat.ne_of_lt (Nat.lt_of_lt_of_le B1.2.2.2.2.1.lt gp)
    have ne_pl1_pl2 : pl1 ≠ pl2 := Nat.ne_of_lt (Nat.lt_of_lt_of_le P1.1.lt gp)
    have ne_vl1_pl2 : vl1 ≠ pl2 := Nat.ne_of_lt (Nat.lt_of_lt_of_le V1.1.lt gp)
    have ne_a5_1_pl2 : a5_1 ≠ pl2 := Nat.ne_of_lt (Nat.lt_of_lt_of_le V1.2.2.2.1.lt gp)
    have ge_pl2 : h0.size ≤ pl2 := Nat.le_trans En.1 gp
    have g0_pl2 : n0 ≤ pl2 := Nat.le_trans Z0 ge_pl2
    have ne_s1_vl2 : s1 ≠ vl2 := Nat.ne_of_lt (Nat.lt_of_lt_of_le L_s1.1.lt gv)
    have ne_u_s1_vl2 : u_s1 ≠ vl2 := Nat.ne_of_lt (Nat.lt_of_lt_of_le L_s1.2.2.2.1.lt gv)
    have ne_s2_vl2 : s2 ≠ vl2 := Nat.ne_of_lt (Nat.lt_of_lt_of_le L_s2.1.lt gv)
    have ne_u_s2_vl2 : u_s2 ≠ vl2 := Nat.ne_of_lt (Nat.lt_of_lt_of_le L_s2.2.2.2.1.lt gv)
    have ne_i1_vl2 : i1 ≠ vl2 := Nat.ne_of_lt (Nat.lt_of_lt_of_le G_i1.1.lt gv)
    have ne_l1_vl2 : l1 ≠ vl2 := Nat.ne_of_lt (Nat.lt_of_lt_of_le O_l1.1.lt gv)
    have ne_a_l1_vl2 : a_l1 ≠ vl2 := Nat.ne_of_lt (Nat.lt_of_lt_of_le O_l1.2.2.2.1.lt gv)
    have ne_i2_vl2 : i2 ≠ vl2 := Nat.ne_of_lt (Nat.lt_of_lt_of_le G_i2.1.lt gv)
    have ne_l2_vl2 : l2 ≠ vl2 := Nat.ne_of_lt (Nat.lt_of_lt_of_le O_l2.1.lt gv)
    have ne_a_l2_vl2 : a_l2 ≠ vl2 := Nat.ne_of_lt (Nat.lt_of_lt_of_le O_l2.2.2.2.1.lt gv)
    have ne_q1_vl2 : q1 ≠ vl2 := Nat.ne_of_lt (Nat.lt_of_lt_of_le A_q1.lt gv)
    have ne_o1_vl2 : o1 ≠ vl2 := Nat.ne_of_lt (Nat.lt_of_lt_of_le Q1.1.lt gv)
    have ne_e1_vl2 : e1 ≠ vl2 := Nat.ne_of_lt (Nat.lt_of_lt_of_le E_e1.1.lt gv)
    have ne_b1_vl2 : b1 ≠ vl2 := Nat.ne_of_lt (Nat.lt_of_lt_of_le B1.1.lt gv)
    have ne_t1_vl2 : t1 ≠ vl2 := Nat.ne_of_lt (Nat.lt_of_lt_of_le B1.2.2.2.2.1.lt gv)
    have ne_pl1_vl2 : pl1 ≠ vl2 := Nat.ne_of_lt (Nat.lt_of_lt_of_le P1.1.lt gv)
    have ne_vl1_vl2 : vl1 ≠ vl2 := Nat.ne_of_lt (Nat.lt_of_lt_of_le V1.1.lt gv)
    have ne_a5_1_vl2 : a5_1 ≠ vl2 := Nat.ne_of_lt (Nat.lt_of_lt_of_le V1.2.2.2.1.lt gv)
    have ge_vl2 : h0.size ≤ vl2 := Nat.le_trans En.1 gv
    have g0_vl2 : n0 ≤ vl2 := Nat.le_trans Z0 ge_vl2
    have m1_2 := n1
    have m2_2 := n2
    have m3_2 := n3
    have m4_2 := n4
    have m5_2 := n5
    have m6_2 := n6
    have SF2 := Safe.ext (EL := EL0) E1 D.2.2.2.1.1 (Safe.new gt)
    replace L_s1 := L_s1.ext E1
    replace L_s2 := L_s2.ext E1
    replace G_i1 := G_i1.ext E1
    replace O_l1 := O_l1.ext E1
    replace G_i2 := G_i2.ext E1
    replace O_l2 := O_l2.ext E1
    replace A_q1 := A_q1.ext E1
    replace Q1 := Q1.ext E1
    replace E_e1 := E_e1.ext E1
    replace B1 := B1.ext E1
    replace P1 := P1.ext E1
    replace V1 := V1.ext E1
    replace SF1 := Safe.ext E1 D.2.2.2.1.1 SF1
    replace D := D.ext E1
    replace En := Ext.trs En E1
    have Q2 := QN
    have B2 := BN
    have P2 := PN
    have V2 := VN
    refine w_astore X288.here hx (hb hby at_194) rfl (l' := #[.val (.int p1), .val (.int p2), .val (.int p3), .val (.int p4), .val av, .val (.int (1 : Int32)), .val (.ref c1), .val (.ref s1), .val (.ref c2), .val (.ref s2), .val (.ref l1), .val (.ref l2), .val (.ref q1), .val (.ref o1), .val (.ref o2), .unset, .unset, .unset, .unset]) rfl (pc' := 196) rfl ?_
    refine w_aload X288.here hx (hb hby at_196) rfl rfl (pc' := 198) rfl ?_
    refine w_aload X288.here hx (hb hby at_198) rfl rfl (pc' := 200) rfl ?_
    refine w_acmpNo X288.here hx (hb hby at_200) rfl rfl (Jvm.Free.XT.aa_eq_f (show ¬ ((.ref o2) : Value) = (.ref o1) from fun q => ne_o1_o2 (Value.ref.inj q).symm)) (pc' := 203) rfl ?_
    refine w_aload X288.here hx (hb hby at_203) rfl rfl (pc' := 205) rfl ?_
    refine w_virtual X288 hx D.zw (y := yq16) (z := yq16) D.ow (tw hw 170 rfl) (tw hw 171 rfl) (notFace_of_selects (args := #[]) (mvT D.zw (tw hw 173 rfl))) (tw hw 173 rfl) (tw hw 172 rfl) (by decide) (backC (W := 6) (rmGp l Z a0 hw o2 q1 b2 pl2 vl2 T288.heap Q2) D.zw (tw hw 174 rfl) (tw hw 130 rfl) (by decide) (by decide)) rfl Q2.1 (by rw [hml]; rfl) (argsL := []) (st := []) pd_31 rfl rfl rfl (Nat.le_of_ble_eq_true rfl) (hb hby at_205) (by decide) (by decide) (pc' := 208) rfl ?_
    intro T291 v291 L291 X291 Q291
    obtain ⟨rfl, rfl, hq290⟩ := Q291
    clear X288
    show Go _ _ _ _ T291 (mkF m 208 _ [(.ref q1)])
    rw [List.append_nil] at X291
    refine w_aload X291.here hx (hb hby at_208) rfl rfl (pc' := 210) rfl ?_
    refine w_acmpNo X291.here hx (hb hby at_210) rfl rfl (Jvm.Free.XT.aa_ne_f (show ((.ref q1) : Value) = (.ref q1) from rfl)) (pc' := 213) rfl ?_
    refine w_aload X291.here hx (hb hby at_213) rfl rfl (pc' := 215) rfl ?_
    refine w_virtual X291 hx D.zw (y := yq1) (z := yq1) D.ow (tw hw 175 rfl) (tw hw 176 rfl) (notFace_of_selects (args := #[]) (mvT D.zw (tw hw 178 rfl))) (tw hw 178 rfl) (tw hw 177 rfl) (by decide) (backC (W := 6) (rmTx l Z a0 hw o2 q1 b2 pl2 vl2 t2 kt2 [] z T288.heap n0 (Nat.le_trans Z0 En.1) (SC.ext En) hz Q2 B2 (Nat.le_of_ble_eq_true rfl)) D.zw (tw hw 179 rfl) (tw hw 130 rfl) (by decide) (by decide)) hq290 Q2.1 (by rw [hml]; rfl) (argsL := []) (st := []) pd_23 rfl rfl rfl (Nat.le_of_ble_eq_true rfl) (hb hby at_215) (by decide) (by decide) (pc' := 218) rfl ?_
    intro T292 v292 L292 X292 Q292
    obtain ⟨x3, u_x3, ku_x3, rfl, N1, E1, gx, gu, L_x3⟩ := Q292
    clear X291
    show Go _ _ _ _ T292 (mkF m 218 _ [(.ref x3)])
    have N293 := Fr.app N289 N1
    replace L_s1 := L_s1.ext E1
    replace L_s2 := L_s2.ext E1
    replace G_i1 := G_i1.ext E1
    replace O_l1 := O_l1.ext E1
    replace G_i2 := G_i2.ext E1
    replace O_l2 := O_l2.ext E1
    replace A_q1 := A_q1.ext E1
    replace Q1 := Q1.ext E1
    replace E_e1 := E_e1.ext E1
    replace B1 := B1.ext E1
    replace P1 := P1.ext E1
    replace V1 := V1.ext E1
    replace Q2 := Q2.ext E1
    replace B2 := B2.ext E1
    replace P2 := P2.ext E1
    replace V2 := V2.ext E1
    replace SF1 := Safe.ext E1 D.2.2.2.1.1 SF1
    replace SF2 := Safe.ext E1 D.2.2.2.1.1 SF2
    replace D := D.ext E1
    replace En := Ext.trs En E1
    refine w_virtual X292 hx D.zw (y := yq9) (z := yq9) D.ow (tw hw 230 rfl) (tw hw 231 rfl) (notFace_of_selects (args := #[]) (mvT D.zw (tw hw 233 rfl))) (tw hw 233 rfl) (tw hw 232 rfl) (by decide) (k_emp (W := 6) D.zw (fun d hd => hw d (own_wEmp d hd)) (tw hw 9 rfl) L_x3.str (by decide) (by decide)) rfl L_x3.1 (by rw [hml]; rfl) (argsL := []) (st := []) pd_11 rfl rfl rfl (Nat.le_of_ble_eq_true rfl) (hb hby at_218) (by decide) (by decide) (pc' := 221) rfl ?_
    intro T295 v295 L295 X295 Q295
    obtain ⟨rfl, rfl, hq294⟩ := Q295
    clear X292
    show Go _ _ _ _ T295 (mkF m 221 _ [(.int (1 : Int32))])
    rw [List.append_nil] at X295
    refine w_ifNo X295.here hx (hb hby at_221) (feq (show ¬ ((1 : Int32) = (0 : Int32)) from by decide)).1 (pc' := 224) rfl ?_
    refine w_aload X295.here hx (hb hby at_224) rfl rfl (pc' := 226) rfl ?_
    refine w_virtual X295 hx D.zw (y := yq17) (z := yq17) D.ow (tw hw 235 rfl) (tw hw 236 rfl) (notFace_of_selects (args := #[]) (mvT D.zw (tw hw 238 rfl))) (tw hw 238 rfl) (tw hw 237 rfl) (by decide) (backC (W := 6) (rmGl l Z a0 hw o2 q1 b2 pl2 vl2 T292.heap Q2) D.zw (tw hw 239 rfl) (tw hw 130 rfl) (by decide) (by decide)) hq294 Q2.1 (by rw [hml]; rfl) (argsL := []) (st := []) pd_32 rfl rfl rfl (Nat.le_of_ble_eq_true rfl) (hb hby at_226) (by decide) (by decide) (pc' := 229) rfl ?_
    intro T297 v297 L297 X297 Q297
    obtain ⟨rfl, rfl, hq296⟩ := Q297
    clear X295
    show Go _ _ _ _ T297 (mkF m 229 _ [(.ref pl2)])
    rw [List.append_nil] at X297
    refine w_interface X297 hx D.zw (y := yq5) (z := yq4) D.ow (tw hw 240 rfl) (tw hw 241 rfl) (mvT D.zw (tw hw 242 rfl)) (tw hw 243 rfl) (tw hw 244 rfl) (tw hw 245 rfl) (tw hw 246 rfl) (tw hw 68 rfl) (by decide) (backC5 (W := 6) (rmSize l Z a0 hw pl2 0 T292.heap P2.2.2.1) D.zw (tw hw 247 rfl) (tw hw 39 rfl) (by decide) (by decide)) hq296 P2.1 (by rw [hml]; rfl) (argsL := []) (st := []) pd_0 rfl rfl rfl (Nat.le_of_ble_eq_true rfl) (hb hby at_229) (by decide) (by decide) (pc' := 234) rfl ?_
    intro T299 v299 L299 X299 Q299
    obtain ⟨rfl, rfl, hq298⟩ := Q299
    clear X297
    show Go _ _ _ _ T299 (mkF m 234 _ [(.int (0 : Int32))])
    rw [List.append_nil] at X299
    refine w_ifNo X299.here hx (hb hby at_234) (teq (show (0 : Int32) = (0 : Int32) from rfl)).2 (pc' := 237) rfl ?_
    refine w_aload X299.here hx (hb hby at_237) rfl rfl (pc' := 239) rfl ?_
    refine w_virtual X299 hx D.zw (y := yq0) (z := yq0) D.ow (tw hw 248 rfl) (tw hw 249 rfl) (notFace_of_selects (args := #[]) (mvT D.zw (tw hw 251 rfl))) (tw hw 251 rfl) (tw hw 250 rfl) (by decide) (backC (W := 6) (rmGv l Z a0 hw o2 q1 b2 pl2 vl2 T292.heap Q2) D.zw (tw hw 252 rfl) (tw hw 130 rfl) (by decide) (by decide)) hq298 Q2.1 (by rw [hml]; rfl) (argsL := []) (st := []) pd_32 rfl rfl rfl (Nat.le_of_ble_eq_true rfl) (hb hby at_239) (by decide) (by decide) (pc' := 242) rfl ?_
    intro T301 v301 L301 X301 Q301
    obtain ⟨rfl, rfl, hq300⟩ := Q301
    clear X299
    show Go _ _ _ _ T301 (mkF m 242 _ [(.ref vl2)])
    rw [List.append_nil] at X301
    refine w_interface X301 hx D.zw (y := yq5) (z := yq4) D.ow (tw hw 240 rfl) (tw hw 241 rfl) (mvT D.zw (tw hw 242 rfl)) (tw hw 243 rfl) (tw hw 244 rfl) (tw hw 245 rfl) (tw hw 246 rfl) (tw hw 68 rfl) (by decide) (backC5 (W := 6) (rmSize l Z a0 hw vl2 0 T292.heap V2.2.2.1) D.zw (tw hw 247 rfl) (tw hw 39 rfl) (by decide) (by decide)) hq300 V2.1 (by rw [hml]; rfl) (argsL := []) (st := []) pd_0 rfl rfl rfl (Nat.le_of_ble_eq_true rfl) (hb hby at_242) (by decide) (by decide) (pc' := 247) rfl ?_
    intro T303 v303 L303 X303 Q303
    obtain ⟨rfl, rfl, hq302⟩ := Q303
    clear X301
    show Go _ _ _ _ T303 (mkF m 247 _ [(.int (0 : Int32))])
    rw [List.append_nil] at X303
    refine w_ifNo X303.here hx (hb hby at_247) (teq (show (0 : Int32) = (0 : Int32) from rfl)).2 (pc' := 250) rfl ?_
    refine w_iconst X303.here hx (hb hby at_250) (z := 1) rfl (pc' := 251) rfl ?_
    refine w_goto X303.here hx (hb hby at_251) (pc' := 255) (by decide) (by decide) ?_
    refine w_istore X303.here hx (hb hby at_255) (l' := #[.val (.int p1), .val (.int p2), .val (.int p3), .val (.int p4), .val av, .val (.int (1 : Int32)), .val (.ref c1), .val (.ref s1), .val (.ref c2), .val (.ref s2), .val (.ref l1), .val (.ref l2), .val (.ref q1), .val (.ref o1), .val (.ref o2), .val (.int (1 : Int32)), .unset, .unset, .unset]) rfl (pc' := 257) rfl ?_
    refine w_aload X303.here hx (hb hby at_257) rfl rfl (pc' := 259) rfl ?_
    refine w_aload X303.here hx (hb hby at_259) rfl rfl (pc' := 261) rfl ?_
    refine w_new X303 hx D.zw D.ow (tw hw 37 rfl) (tw hw 38 rfl) (tw hw 39 rfl) hq302 (hb hby at_261) (by decide) (by decide) (pc' := 264) rfl ?_
    intro T304 h304 e2 ge2 X304 e304 E304 A304 D304 U304
    clear X303
    have ge_e2 : h0.size ≤ e2 := Nat.le_trans En.1 (Nat.le_of_eq ge2)
    have g0_e2 : n0 ≤ e2 := Nat.le_trans Z0 ge_e2
    have ne_s1_e2 : s1 ≠ e2 := Nat.ne_of_lt (Nat.lt_of_lt_of_le L_s1.1.lt (Nat.le_of_eq ge2))
    have ne_u_s1_e2 : u_s1 ≠ e2 := Nat.ne_of_lt (Nat.lt_of_lt_of_le L_s1.2.2.2.1.lt (Nat.le_of_eq ge2))
    have ne_s2_e2 : s2 ≠ e2 := Nat.ne_of_lt (Nat.lt_of_lt_of_le L_s2.1.lt (Nat.le_of_eq ge2))
    have ne_u_s2_e2 : u_s2 ≠ e2 := Nat.ne_of_lt (Nat.lt_of_lt_of_le L_s2.2.2.2.1.lt (Nat.le_of_eq ge2))
    have ne_i1_e2 : i1 ≠ e2 := Nat.ne_of_lt (Nat.lt_of_lt_of_le G_i1.1.lt (Nat.le_of_eq ge2))
    have ne_l1_e2 : l1 ≠ e2 := Nat.ne_of_lt (Nat.lt_of_lt_of_le O_l1.1.lt (Nat.le_of_eq ge2))
    have ne_a_l1_e2 : a_l1 ≠ e2 := Nat.ne_of_lt (Nat.lt_of_lt_of_le O_l1.2.2.2.1.lt (Nat.le_of_eq ge2))
    have ne_i2_e2 : i2 ≠ e2 := Nat.ne_of_lt (Nat.lt_of_lt_of_le G_i2.1.lt (Nat.le_of_eq ge2))
    have ne_l2_e2 : l2 ≠ e2 := Nat.ne_of_lt (Nat.lt_of_lt_of_le O_l2.1.lt (Nat.le_of_eq ge2))
    have ne_a_l2_e2 : a_l2 ≠ e2 := Nat.ne_of_lt (Nat.lt_of_lt_of_le O_l2.2.2.2.1.lt (Nat.le_of_eq ge2))
    have ne_q1_e2 : q1 ≠ e2 := Nat.ne_of_lt (Nat.lt_of_lt_of_le A_q1.lt (Nat.le_of_eq ge2))
    have ne_o1_e2 : o1 ≠ e2 := Nat.ne_of_lt (Nat.lt_of_lt_of_le Q1.1.lt (Nat.le_of_eq ge2))
    have ne_e1_e2 : e1 ≠ e2 := Nat.ne_of_lt (Nat.lt_of_lt_of_le E_e1.1.lt (Nat.le_of_eq ge2))
    have ne_b1_e2 : b1 ≠ e2 := Nat.ne_of_lt (Nat.lt_of_lt_of_le B1.1.lt (Nat.le_of_eq ge2))
    have ne_t1_e2 : t1 ≠ e2 := Nat.ne_of_lt (Nat.lt_of_lt_of_le B1.2.2.2.2.1.lt (Nat.le_of_eq ge2))
    have ne_pl1_e2 : pl1 ≠ e2 := Nat.ne_of_lt (Nat.lt_of_lt_of_le P1.1.lt (Nat.le_of_eq ge2))
    have ne_vl1_e2 : vl1 ≠ e2 := Nat.ne_of_lt (Nat.lt_of_lt_of_le V1.1.lt (Nat.le_of_eq ge2))
    have ne_a5_1_e2 : a5_1 ≠ e2 := Nat.ne_of_lt (Nat.lt_of_lt_of_le V1.2.2.2.1.lt (Nat.le_of_eq ge2))
    have ne_o2_e2 : o2 ≠ e2 := Nat.ne_of_lt (Nat.lt_of_lt_of_le Q2.1.lt (Nat.le_of_eq ge2))
    have ne_b2_e2 : b2 ≠ e2 := Nat.ne_of_lt (Nat.lt_of_lt_of_le B2.1.lt (Nat.le_of_eq ge2))
    have ne_t2_e2 : t2 ≠ e2 := Nat.ne_of_lt (Nat.lt_of_lt_of_le B2.2.2.2.2.1.lt (Nat.le_of_eq ge2))
    have ne_pl2_e2 : pl2 ≠ e2 := Nat.ne_of_lt (Nat.lt_of_lt_of_le P2.1.lt (Nat.le_of_eq ge2))
    have ne_vl2_e2 : vl2 ≠ e2 := Nat.ne_of_lt (Nat.lt_of_lt_of_le V2.1.lt (Nat.le_of_eq ge2))
    replace L_s1 := L_s1.ext E304
    replace L_s2 := L_s2.ext E304
    replace G_i1 := G_i1.ext E304
    replace O_l1 := O_l1.ext E304
    replace G_i2 := G_i2.ext E304
    replace O_l2 := O_l2.ext E304
    replace A_q1 := A_q1.ext E304
    replace Q1 := Q1.ext E304
    replace E_e1 := E_e1.ext E304
    replace B1 := B1.ext E304
    replace P1 := P1.ext E304
    replace V1 := V1.ext E304
    replace Q2 := Q2.ext E304
    replace B2 := B2.ext E304
    replace P2 := P2.ext E304
    replace V2 := V2.ext E304
    replace SF1 := Safe.ext E304 D.2.2.2.1.1 SF1
    replace SF2 := Safe.ext E304 D.2.2.2.1.1 SF2
    replace D := D.ext E304
    replace En := Ext.trs En E304
    have A_e2 := A304
    have FD : Fld Z h304 e2 "java/util/ArrayList" "elementData" "[Ljava/lang/Object;" .null := D304 (Or.inl (tw hw 60 rfl)) (ty := (.array (.object "java/lang/Object"))) (by decide)
    have FS : Fld Z h304 e2 "java/util/ArrayList" "size" "I" (.int (0 : Int32)) := D304 (Or.inl (tw hw 73 rfl)) (ty := .int) (by decide)
    have FM : Fld Z h304 e2 "java/util/AbstractList" "modCount" "I" (.int (0 : Int32)) := D304 (Or.inl (tw hw 57 rfl)) (ty := .int) (by decide)
    refine w_dup X304.here hx (hb hby at_264) rfl (pc' := 265) rfl ?_
    refine w_special X304 hx D.zw (y := yq2) rfl D.ow (tw hw 40 rfl) (tw hw 41 rfl) (tw hw 42 rfl) (by decide) (backC (W := 6) (rmAL l Z a0 hw e2 D1 kD h304 n0 g0_e2 (DE.ext En) A_e2 FD FS FM) D.zw (tw hw 42 rfl) (tw hw 39 rfl) (by decide) (by decide)) e304 (by rw [hml]; rfl) (argsL := []) (st := [(.ref e2), (.ref s2), (.ref o2)]) pd_14 rfl rfl rfl (Nat.le_of_ble_eq_true rfl) (hb hby at_265) (by decide) (by decide) (pc' := 268) rfl ?_
    intro T305 v305 L305 X305 Q305
    obtain ⟨rfl, N1, K1, E_e2⟩ := Q305
    clear X304
    clear e304
    show Go _ _ _ _ T305 (mkF m 268 _ [(.ref e2), (.ref s2), (.ref o2)])
    have N306 := Fr.app N293 N1
    have NSF1 := Safe.keep K1 (sfS (Safe.exa D.2.1.alike A_e2 (by decide) (by decide)) sf0) D.2.2.2.1.1 SF1
    have NSF2 := Safe.keep K1 (sfS (Safe.exa D.2.1.alike A_e2 (by decide) (by decide)) sf0) D.2.2.2.1.1 SF2
    have D' := D.keep K1 (sfS (Safe.exa D.2.1.alike A_e2 (by decide) (by decide)) sf0)
    replace L_s1 := L_s1.keep K1 (ninS ne_s1_e2 nin0) (ninS ne_u_s1_e2 nin0)
    replace L_s2 := L_s2.keep K1 (ninS ne_s2_e2 nin0) (ninS ne_u_s2_e2 nin0)
    replace G_i1 := G_i1.keep K1 (ninS ne_i1_e2 nin0)
    replace O_l1 := O_l1.keep K1 (ninS ne_l1_e2 nin0) (ninS ne_a_l1_e2 nin0)
    replace G_i2 := G_i2.keep K1 (ninS ne_i2_e2 nin0)
    replace O_l2 := O_l2.keep K1 (ninS ne_l2_e2 nin0) (ninS ne_a_l2_e2 nin0)
    replace A_q1 := A_q1.keep K1
    replace Q1 := Q1.keep K1 (ninS ne_o1_e2 nin0)
    replace E_e1 := E_e1.keep K1 (ninS ne_e1_e2 nin0)
    replace B1 := B1.keep K1 (ninS ne_b1_e2 nin0) (ninS ne_t1_e2 nin0)
    replace P1 := P1.keep K1 (ninS ne_pl1_e2 nin0)
    replace V1 := V1.keep K1 (ninS ne_vl1_e2 nin0) (ninS ne_a5_1_e2 nin0)
    replace Q2 := Q2.keep K1 (ninS ne_o2_e2 nin0)
    replace B2 := B2.keep K1 (ninS ne_b2_e2 nin0) (ninS ne_t2_e2 nin0)
    replace P2 := P2.keep K1 (ninS ne_pl2_e2 nin0)
    replace V2 := V2.keep K1 (ninS ne_vl2_e2 nin0)
    replace SF1 := NSF1
    replace SF2 := NSF2
    replace D := D'
    replace En := Ext.kp En K1 (allS ge_e2 all0)
    refine w_aload X305.here hx (hb hby at_268) rfl rfl (pc' := 270) rfl ?_
    refine w_virtual X305 hx D.zw (y := yq6) (z := yq6) D.ow (tw hw 253 rfl) (tw hw 254 rfl) (notFace_of_selects (args := #[]) (mvT D.zw (tw hw 256 rfl))) (tw hw 256 rfl) (tw hw 255 rfl) (by decide) (backC (W := 6) (rmSqA l Z a0 hw o2 q1 b2 pl2 vl2 t2 s2 u_s2 e2 l2 a_l2 i2 D1 mr kt2 ku_s2 ka_l2 kD (two p3) p3 z T305.heap n0 (Nat.le_trans Z0 En.1) g0_b2 g0_t2 g0_pl2 g0_vl2 (SC.ext En) hz M (DE.ext En) Q2 B2 P2 V2 L_s2 (Nat.le_of_ble_eq_true rfl) E_e2 O_l2 G_i2 (Nat.ne_of_lt (Nat.lt_of_lt_of_le DE.2.1.lt ge_t2)) (Ne.symm m1_2) (Ne.symm m2_2) (Ne.symm m4_2) (Ne.symm m3_2) (Ne.symm m5_2) (Ne.symm m6_2) r1 r2 r3 r4 (Ne.symm ne_b2_e2) (Ne.symm ne_t2_e2) (Ne.symm ne_pl2_e2) (Ne.symm ne_vl2_e2) ne_l2_b2 ne_l2_t2 ne_l2_pl2 ne_l2_vl2 ne_a_l2_b2 ne_a_l2_t2 ne_a_l2_pl2 ne_a_l2_vl2 ne_s2_b2 ne_s2_t2 ne_s2_pl2 ne_s2_vl2 ne_u_s2_b2 ne_u_s2_t2 ne_u_s2_pl2 ne_u_s2_vl2 ne_i2_b2 ne_i2_t2 ne_i2_pl2 ne_i2_vl2) D.zw (tw hw 257 rfl) (tw hw 130 rfl) (by decide) (by decide)) rfl Q2.1 (by rw [hml]; rfl) (argsL := [(.ref s2), (.ref e2), (.ref l2)]) (st := []) pd_33 rfl rfl rfl (Nat.le_of_ble_eq_true rfl) (hb hby at_270) (by decide) (by decide) (pc' := 273) rfl ?_
    intro T307 v307 L307 X307 Q307
    obtain ⟨rfl, N1, K1, BN, PN, a5_2, k5_2, ga, VN⟩ := Q307
    clear X305
    show Go _ _ _ _ T307 (mkF m 273 _ [])
    have N308 := Fr.app N306 N1
    have NSF1 := Safe.keep K1 (sfS (Safe.exa D.2.1.alike B2.1 (by decide) (by decide)) (sfS SF2 (sfS (Safe.exa D.2.1.alike P2.1 (by decide) (by decide)) (sfS (Safe.exa D.2.1.alike V2.1 (by decide) (by decide)) sf0)))) D.2.2.2.1.1 SF1
    have NSF2 := Safe.keep K1 (sfS (Safe.exa D.2.1.alike B2.1 (by decide) (by decide)) (sfS SF2 (sfS (Safe.exa D.2.1.alike P2.1 (by decide) (by decide)) (sfS (Safe.exa D.2.1.alike V2.1 (by decide) (by decide)) sf0)))) D.2.2.2.1.1 SF2
    have D' := D.keep K1 (sfS (Safe.exa D.2.1.alike B2.1 (by decide) (by decide)) (sfS SF2 (sfS (Safe.exa D.2.1.alike P2.1 (by decide) (by decide)) (sfS (Safe.exa D.2.1.alike V2.1 (by decide) (by decide)) sf0))))
    replace L_s1 := L_s1.keep K1 (ninS ne_s1_b2 (ninS ne_s1_t2 (ninS ne_s1_pl2 (ninS ne_s1_vl2 nin0)))) (ninS ne_u_s1_b2 (ninS ne_u_s1_t2 (ninS ne_u_s1_pl2 (ninS ne_u_s1_vl2 nin0))))
    replace L_s2 := L_s2.keep K1 (ninS ne_s2_b2 (ninS ne_s2_t2 (ninS ne_s2_pl2 (ninS ne_s2_vl2 nin0)))) (ninS ne_u_s2_b2 (ninS ne_u_s2_t2 (ninS ne_u_s2_pl2 (ninS ne_u_s2_vl2 nin0))))
    replace G_i1 := G_i1.keep K1 (ninS ne_i1_b2 (ninS ne_i1_t2 (ninS ne_i1_pl2 (ninS ne_i1_vl2 nin0))))
    replace O_l1 := O_l1.keep K1 (ninS ne_l1_b2 (ninS ne_l1_t2 (ninS ne_l1_pl2 (ninS ne_l1_vl2 nin0)))) (ninS ne_a_l1_b2 (ninS ne_a_l1_t2 (ninS ne_a_l1_pl2 (ninS ne_a_l1_vl2 nin0))))
    replace G_i2 := G_i2.keep K1 (ninS ne_i2_b2 (ninS ne_i2_t2 (ninS ne_i2_pl2 (ninS ne_i2_vl2 nin0))))
    replace O_l2 := O_l2.keep K1 (ninS ne_l2_b2 (ninS ne_l2_t2 (ninS ne_l2_pl2 (ninS ne_l2_vl2 nin0)))) (ninS ne_a_l2_b2 (ninS ne_a_l2_t2 (ninS ne_a_l2_pl2 (ninS ne_a_l2_vl2 nin0))))
    replace A_q1 := A_q1.keep K1
    replace Q1 := Q1.keep K1 (ninS ne_o1_b2 (ninS ne_o1_t2 (ninS ne_o1_pl2 (ninS ne_o1_vl2 nin0))))
    replace E_e1 := E_e1.keep K1 (ninS ne_e1_b2 (ninS ne_e1_t2 (ninS ne_e1_pl2 (ninS ne_e1_vl2 nin0))))
    replace B1 := B1.keep K1 (ninS ne_b1_b2 (ninS ne_b1_t2 (ninS ne_b1_pl2 (ninS ne_b1_vl2 nin0)))) (ninS ne_t1_b2 (ninS ne_t1_t2 (ninS ne_t1_pl2 (ninS ne_t1_vl2 nin0))))
    replace P1 := P1.keep K1 (ninS ne_pl1_b2 (ninS ne_pl1_t2 (ninS ne_pl1_pl2 (ninS ne_pl1_vl2 nin0))))
    replace V1 := V1.keep K1 (ninS ne_vl1_b2 (ninS ne_vl1_t2 (ninS ne_vl1_pl2 (ninS ne_vl1_vl2 nin0)))) (ninS ne_a5_1_b2 (ninS ne_a5_1_t2 (ninS ne_a5_1_pl2 (ninS ne_a5_1_vl2 nin0))))
    replace Q2 := Q2.keep K1 (ninS r1 (ninS r2 (ninS r3 (ninS r4 nin0))))
    replace E_e2 := E_e2.keep K1 (ninS (Ne.symm ne_b2_e2) (ninS (Ne.symm ne_t2_e2) (ninS (Ne.symm ne_pl2_e2) (ninS (Ne.symm ne_vl2_e2) nin0))))
    have SF1 := NSF1
    have SF2 := NSF2
    replace D := D'
    replace En := Ext.kp En K1 (allS ge_b2 (allS ge_t2 (allS ge_pl2 (allS ge_vl2 all0))))
    have B2 := BN
    have P2 := PN
    have V2 := VN
    refine w_iload X307.here hx (hb hby at_273) rfl (pc' := 275) rfl ?_
    refine w_ifNo X307.here hx (hb hby at_275) (feq (show ¬ ((1 : Int32) = (0 : Int32)) from by decide)).1 (pc' := 278) rfl ?_
    refine w_aload X307.here hx (hb hby at_278) rfl rfl (pc' := 280) rfl ?_
    refine w_goto X307.here hx (hb hby at_280) (pc' := 285) (by decide) (by decide) ?_
    refine w_astore X307.here hx (hb hby at_285) rfl (l' := #[.val (.int p1), .val (.int p2), .val (.int p3), .val (.int p4), .val av, .val (.int (1 : Int32)), .val (.ref c1), .val (.ref s1), .val (.ref c2), .val (.ref s2), .val (.ref l1), .val (.ref l2), .val (.ref q1), .val (.ref o1), .val (.ref o2), .val (.int (1 : Int32)), .val (.ref s1), .unset, .unset]) rfl (pc' := 287) rfl ?_
    refine w_iload X307.here hx (hb hby at_287) rfl (pc' := 289) rfl ?_
    refine w_ifNo X307.here hx (hb hby at_289) (feq (show ¬ ((1 : Int32) = (0 : Int32)) from by decide)).1 (pc' := 292) rfl ?_
    refine w_iconst X307.here hx (hb hby at_292) (z := 1) rfl (pc' := 293) rfl ?_
    refine w_goto X307.here hx (hb hby at_293) (pc' := 297) (by decide) (by decide) ?_
    refine w_istore X307.here hx (hb hby at_297) (l' := #[.val (.int p1), .val (.int p2), .val (.int p3), .val (.int p4), .val av, .val (.int (1 : Int32)), .val (.ref c1), .val (.ref s1), .val (.ref c2), .val (.ref s2), .val (.ref l1), .val (.ref l2), .val (.ref q1), .val (.ref o1), .val (.ref o2), .val (.int (1 : Int32)), .val (.ref s1), .val (.int (1 : Int32)), .unset]) rfl (pc' := 299) rfl ?_
    refine w_aload X307.here hx (hb hby at_299) rfl rfl (pc' := 301) rfl ?_
    refine w_virtual X307 hx D.zw (y := yq1) (z := yq1) D.ow (tw hw 175 rfl) (tw hw 176 rfl) (notFace_of_selects (args := #[]) (mvT D.zw (tw hw 178 rfl))) (tw hw 178 rfl) (tw hw 177 rfl) (by decide) (backC (W := 6) (rmTx l Z a0 hw o2 q1 b2 pl2 vl2 t2 kt2 (two p3) z T307.heap n0 (Nat.le_trans Z0 En.1) (SC.ext En) hz Q2 B2 (Nat.le_of_ble_eq_true rfl)) D.zw (tw hw 179 rfl) (tw hw 130 rfl) (by decide) (by decide)) rfl Q2.1 (by rw [hml]; rfl) (argsL := []) (st := []) pd_23 rfl rfl rfl (Nat.le_of_ble_eq_true rfl) (hb hby at_301) (by decide) (by decide) (pc' := 304) rfl ?_
    intro T309 v309 L309 X309 Q309
    obtain ⟨x4, u_x4, ku_x4, rfl, N1, E1, gx, gu, L_x4⟩ := Q309
    clear X307
    show Go _ _ _ _ T309 (mkF m 304 _ [(.ref x4)])
    have N310 := Fr.app N308 N1
    replace L_s1 := L_s1.ext E1
    replace L_s2 := L_s2.ext E1
    replace G_i1 := G_i1.ext E1
    replace O_l1 := O_l1.ext E1
    replace G_i2 := G_i2.ext E1
    replace O_l2 := O_l2.ext E1
    replace A_q1 := A_q1.ext E1
    replace Q1 := Q1.ext E1
    replace E_e1 := E_e1.ext E1
    replace B1 := B1.ext E1
    replace P1 := P1.ext E1
    replace V1 := V1.ext E1
    replace Q2 := Q2.ext E1
    replace E_e2 := E_e2.ext E1
    replace B2 := B2.ext E1
    replace P2 := P2.ext E1
    replace V2 := V2.ext E1
    replace D := D.ext E1
    replace En := Ext.trs En E1
    refine w_aload X309.here hx (hb hby at_304) rfl rfl (pc' := 306) rfl ?_
    refine w_virtual X309 hx D.zw (y := yq3) (z := yq3) D.ow (tw hw 335 rfl) (tw hw 336 rfl) (notFace_of_selects (args := #[]) (mvT D.zw (tw hw 338 rfl))) (tw hw 338 rfl) (tw hw 337 rfl) (by decide) (Q := QEq (two p3) (two p3) _) (k_eq (W := 6) D.zw (fun d hd => hw d (own_wEq d hd)) (tw hw 9 rfl) L_x4.str L_s2.str (SC.ext En) hz (by decide) (by decide)) rfl L_x4.1 (by rw [hml]; rfl) (argsL := [(.ref s2)]) (st := []) pd_28 rfl rfl rfl (Nat.le_of_ble_eq_true rfl) (hb hby at_306) (by decide) (by decide) (pc' := 309) rfl ?_
    intro T312 v312 L312 X312 Q312
    obtain ⟨hv311, rfl, hq311⟩ := Q312
    clear X309
    rw [List.append_nil] at X312
    obtain rfl : v312 = some (.int 1) := hv311.elim (fun q => q.1) (fun q => absurd rfl q.2)
    show Go _ _ _ _ T312 (mkF m 309 _ [(.int (1 : Int32))])
    refine w_ifNo X312.here hx (hb hby at_309) (feq (show ¬ ((1 : Int32) = (0 : Int32)) from by decide)).1 (pc' := 312) rfl ?_
    refine w_aload X312.here hx (hb hby at_312) rfl rfl (pc' := 314) rfl ?_
    refine w_virtual X312 hx D.zw (y := yq0) (z := yq0) D.ow (tw hw 248 rfl) (tw hw 249 rfl) (notFace_of_selects (args := #[]) (mvT D.zw (tw hw 251 rfl))) (tw hw 251 rfl) (tw hw 250 rfl) (by decide) (backC (W := 6) (rmGv l Z a0 hw o2 q1 b2 pl2 vl2 T309.heap Q2) D.zw (tw hw 252 rfl) (tw hw 130 rfl) (by decide) (by decide)) hq311 Q2.1 (by rw [hml]; rfl) (argsL := []) (st := []) pd_32 rfl rfl rfl (Nat.le_of_ble_eq_true rfl) (hb hby at_314) (by decide) (by decide) (pc' := 317) rfl ?_
    intro T314 v314 L314 X314 Q314
    obtain ⟨rfl, rfl, hq313⟩ := Q314
    clear X312
    show Go _ _ _ _ T314 (mkF m 317 _ [(.ref vl2)])
    rw [List.append_nil] at X314
    refine w_interface X314 hx D.zw (y := yq5) (z := yq4) D.ow (tw hw 240 rfl) (tw hw 241 rfl) (mvT D.zw (tw hw 242 rfl)) (tw hw 243 rfl) (tw hw 244 rfl) (tw hw 245 rfl) (tw hw 246 rfl) (tw hw 68 rfl) (by decide) (backC5 (W := 6) (rmSize l Z a0 hw vl2 1 T309.heap V2.2.2.1) D.zw (tw hw 247 rfl) (tw hw 39 rfl) (by decide) (by decide)) hq313 V2.1 (by rw [hml]; rfl) (argsL := []) (st := []) pd_0 rfl rfl rfl (Nat.le_of_ble_eq_true rfl) (hb hby at_317) (by decide) (by decide) (pc' := 322) rfl ?_
    intro T316 v316 L316 X316 Q316
    obtain ⟨rfl, rfl, hq315⟩ := Q316
    clear X314
    show Go _ _ _ _ T316 (mkF m 322 _ [(.int (1 : Int32))])
    rw [List.append_nil] at X316
    refine w_iconst X316.here hx (hb hby at_322) (z := 1) rfl (pc' := 323) rfl ?_
    refine w_icmpNo X316.here hx (hb hby at_323) (teq (show (1 : Int32) = (1 : Int32) from rfl)).2 (pc' := 326) rfl ?_
    refine w_aload X316.here hx (hb hby at_326) rfl rfl (pc' := 328) rfl ?_
    refine w_virtual X316 hx D.zw (y := yq0) (z := yq0) D.ow (tw hw 248 rfl) (tw hw 249 rfl) (notFace_of_selects (args := #[]) (mvT D.zw (tw hw 251 rfl))) (tw hw 251 rfl) (tw hw 250 rfl) (by decide) (backC (W := 6) (rmGv l Z a0 hw o2 q1 b2 pl2 vl2 T309.heap Q2) D.zw (tw hw 252 rfl) (tw hw 130 rfl) (by decide) (by decide)) hq315 Q2.1 (by rw [hml]; rfl) (argsL := []) (st := []) pd_32 rfl rfl rfl (Nat.le_of_ble_eq_true rfl) (hb hby at_328) (by decide) (by decide) (pc' := 331) rfl ?_
    intro T318 v318 L318 X318 Q318
    obtain ⟨rfl, rfl, hq317⟩ := Q318
    clear X316
    show Go _ _ _ _ T318 (mkF m 331 _ [(.ref vl2)])
    rw [List.append_nil] at X318
    refine w_iconst X318.here hx (hb hby at_331) (z := 0) rfl (pc' := 332) rfl ?_
    refine w_interface X318 hx D.zw (y := (⟨"java/util/List", "get", "(I)Ljava/lang/Object;"⟩ : MethodName)) (z := yq35) D.ow (tw hw 345 rfl) (tw hw 346 rfl) (mvT D.zw (tw hw 347 rfl)) (tw hw 348 rfl) (tw hw 349 rfl) (tw hw 350 rfl) (tw hw 351 rfl) (tw hw 68 rfl) (by decide) (backC5 (W := 6) (rmGt l Z a0 hw vl2 a5_2 i2 k5_2 T309.heap V2) D.zw (tw hw 352 rfl) (tw hw 39 rfl) (by decide) (by decide)) hq317 V2.1 (by rw [hml]; rfl) (argsL := [(.int (0 : Int32))]) (st := []) pd_21 rfl rfl rfl (Nat.le_of_ble_eq_true rfl) (hb hby at_332) (by decide) (by decide) (pc' := 337) rfl ?_
    intro T320 v320 L320 X320 Q320
    obtain ⟨rfl, rfl, hq319⟩ := Q320
    clear X318
    show Go _ _ _ _ T320 (mkF m 337 _ [(.ref i2)])
    rw [List.append_nil] at X320
    refine w_castY X320 hx D.zw D.ow (tw hw 366 rfl) hq319 (Ins.self G_i2.1) (hb hby at_337) (pc' := 340) rfl ?_
    intro T321 X321 e321
    clear X320
    refine w_virtual X321 hx D.zw (y := yq12) (z := yq12) D.ow (tw hw 368 rfl) (tw hw 369 rfl) (notFace_of_selects (args := #[]) (mvT D.zw (tw hw 371 rfl))) (tw hw 371 rfl) (tw hw 370 rfl) (by decide) (backC (W := 6) (rmIntV l Z a0 hw i2 p3 T309.heap G_i2) D.zw (tw hw 372 rfl) (tw hw 2 rfl) (by decide) (by decide)) e321 G_i2.1 (by rw [hml]; rfl) (argsL := []) (st := []) pd_0 rfl rfl rfl (Nat.le_of_ble_eq_true rfl) (hb hby at_340) (by decide) (by decide) (pc' := 343) rfl ?_
    intro T323 v323 L323 X323 Q323
    obtain ⟨rfl, rfl, hq322⟩ := Q323
    clear X321
    clear e321
    show Go _ _ _ _ T323 (mkF m 343 _ [(.int p3)])
    rw [List.append_nil] at X323
    refine w_iloadN X323.here hx (hb hby at_343) rfl (pc' := 344) rfl ?_
    refine w_icmpNo X323.here hx (hb hby at_344) (teq (show p3 = p3 from rfl)).2 (pc' := 347) rfl ?_
    refine w_aload X323.here hx (hb hby at_347) rfl rfl (pc' := 349) rfl ?_
    refine w_virtual X323 hx D.zw (y := yq1) (z := yq1) D.ow (tw hw 175 rfl) (tw hw 176 rfl) (notFace_of_selects (args := #[]) (mvT D.zw (tw hw 178 rfl))) (tw hw 178 rfl) (tw hw 177 rfl) (by decide) (backC (W := 6) (rmTx l Z a0 hw o1 q1 b1 pl1 vl1 t1 kt1 (two p2) z T309.heap n0 (Nat.le_trans Z0 En.1) (SC.ext En) hz Q1 B1 (Nat.le_of_ble_eq_true rfl)) D.zw (tw hw 179 rfl) (tw hw 130 rfl) (by decide) (by decide)) hq322 Q1.1 (by rw [hml]; rfl) (argsL := []) (st := []) pd_23 rfl rfl rfl (Nat.le_of_ble_eq_true rfl) (hb hby at_349) (by decide) (by decide) (pc' := 352) rfl ?_
    intro T324 v324 L324 X324 Q324
    obtain ⟨x5, u_x5, ku_x5, rfl, N1, E1, gx, gu, L_x5⟩ := Q324
    clear X323
    show Go _ _ _ _ T324 (mkF m 352 _ [(.ref x5)])
    have N325 := Fr.app N310 N1
    replace L_s1 := L_s1.ext E1
    replace L_s2 := L_s2.ext E1
    replace G_i1 := G_i1.ext E1
    replace O_l1 := O_l1.ext E1
    replace G_i2 := G_i2.ext E1
    replace O_l2 := O_l2.ext E1
    replace A_q1 := A_q1.ext E1
    replace Q1 := Q1.ext E1
    replace E_e1 := E_e1.ext E1
    replace B1 := B1.ext E1
    replace P1 := P1.ext E1
    replace V1 := V1.ext E1
    replace Q2 := Q2.ext E1
    replace E_e2 := E_e2.ext E1
    replace B2 := B2.ext E1
    replace P2 := P2.ext E1
    replace V2 := V2.ext E1
    replace L_x4 := L_x4.ext E1
    replace D := D.ext E1
    replace En := Ext.trs En E1
    refine w_aload X324.here hx (hb hby at_352) rfl rfl (pc' := 354) rfl ?_
    refine w_virtual X324 hx D.zw (y := yq3) (z := yq3) D.ow (tw hw 335 rfl) (tw hw 336 rfl) (notFace_of_selects (args := #[]) (mvT D.zw (tw hw 338 rfl))) (tw hw 338 rfl) (tw hw 337 rfl) (by decide) (Q := QEq (two p2) (two p2) _) (k_eq (W := 6) D.zw (fun d hd => hw d (own_wEq d hd)) (tw hw 9 rfl) L_x5.str L_s1.str (SC.ext En) hz (by decide) (by decide)) rfl L_x5.1 (by rw [hml]; rfl) (argsL := [(.ref s1)]) (st := []) pd_28 rfl rfl rfl (Nat.le_of_ble_eq_true rfl) (hb hby at_354) (by decide) (by decide) (pc' := 357) rfl ?_
    intro T327 v327 L327 X327 Q327
    obtain ⟨hv326, rfl, hq326⟩ := Q327
    clear X324
    rw [List.append_nil] at X327
    obtain rfl : v327 = some (.int 1) := hv326.elim (fun q => q.1) (fun q => absurd rfl q.2)
    show Go _ _ _ _ T327 (mkF m 357 _ [(.int (1 : Int32))])
    refine w_ifNo X327.here hx (hb hby at_357) (feq (show ¬ ((1 : Int32) = (0 : Int32)) from by decide)).1 (pc' := 360) rfl ?_
    refine w_aload X327.here hx (hb hby at_360) rfl rfl (pc' := 362) rfl ?_
    refine w_virtual X327 hx D.zw (y := yq0) (z := yq0) D.ow (tw hw 248 rfl) (tw hw 249 rfl) (notFace_of_selects (args := #[]) (mvT D.zw (tw hw 251 rfl))) (tw hw 251 rfl) (tw hw 250 rfl) (by decide) (backC (W := 6) (rmGv l Z a0 hw o1 q1 b1 pl1 vl1 T324.heap Q1) D.zw (tw hw 252 rfl) (tw hw 130 rfl) (by decide) (by decide)) hq326 Q1.1 (by rw [hml]; rfl) (argsL := []) (st := []) pd_32 rfl rfl rfl (Nat.le_of_ble_eq_true rfl) (hb hby at_362) (by decide) (by decide) (pc' := 365) rfl ?_
    intro T329 v329 L329 X329 Q329
    obtain ⟨rfl, rfl, hq328⟩ := Q329
    clear X327
    show Go _ _ _ _ T329 (mkF m 365 _ [(.ref vl1)])
    rw [List.append_nil] at X329
    refine w_interface X329 hx D.zw (y := yq5) (z := yq4) D.ow (tw hw 240 rfl) (tw hw 241 rfl) (mvT D.zw (tw hw 242 rfl)) (tw hw 243 rfl) (tw hw 244 rfl) (tw hw 245 rfl) (tw hw 246 rfl) (tw hw 68 rfl) (by decide) (backC5 (W := 6) (rmSize l Z a0 hw vl1 1 T324.heap V1.2.2.1) D.zw (tw hw 247 rfl) (tw hw 39 rfl) (by decide) (by decide)) hq328 V1.1 (by rw [hml]; rfl) (argsL := []) (st := []) pd_0 rfl rfl rfl (Nat.le_of_ble_eq_true rfl) (hb hby at_365) (by decide) (by decide) (pc' := 370) rfl ?_
    intro T331 v331 L331 X331 Q331
    obtain ⟨rfl, rfl, hq330⟩ := Q331
    clear X329
    show Go _ _ _ _ T331 (mkF m 370 _ [(.int (1 : Int32))])
    rw [List.append_nil] at X331
    refine w_iload X331.here hx (hb hby at_370) rfl (pc' := 372) rfl ?_
    refine w_icmpNo X331.here hx (hb hby at_372) (teq (show (1 : Int32) = (1 : Int32) from rfl)).2 (pc' := 375) rfl ?_
    refine w_iconst X331.here hx (hb hby at_375) (z := 1) rfl (pc' := 376) rfl ?_
    refine w_goto X331.here hx (hb hby at_376) (pc' := 380) (by decide) (by decide) ?_
    refine w_istore X331.here hx (hb hby at_380) (l' := #[.val (.int p1), .val (.int p2), .val (.int p3), .val (.int p4), .val av, .val (.int (1 : Int32)), .val (.ref c1), .val (.ref s1), .val (.ref c2), .val (.ref s2), .val (.ref l1), .val (.ref l2), .val (.ref q1), .val (.ref o1), .val (.ref o2), .val (.int (1 : Int32)), .val (.ref s1), .val (.int (1 : Int32)), .val (.int (1 : Int32))]) rfl (pc' := 382) rfl ?_
    refine w_iload X331.here hx (hb hby at_382) rfl (pc' := 384) rfl ?_
    refine w_ifNo X331.here hx (hb hby at_384) (feq (show ¬ ((1 : Int32) = (0 : Int32)) from by decide)).1 (pc' := 387) rfl ?_
    refine w_iload X331.here hx (hb hby at_387) rfl (pc' := 389) rfl ?_
    refine w_ifNo X331.here hx (hb hby at_389) (feq (show ¬ ((1 : Int32) = (0 : Int32)) from by decide)).1 (pc' := 392) rfl ?_
    refine w_iconst X331.here hx (hb hby at_392) (z := 1) rfl (pc' := 393) rfl ?_
    refine w_goto X331.here hx (hb hby at_393) (pc' := 397) (by decide) (by decide) ?_
    exact endZW X331 hx D hq330 hlk hret (by simp) (hb hby at_397) (show nar .boolean (1 : Int32) = (1 : Int32) from rfl) (by decide) (by decide) (by first | exact ⟨rfl, N325⟩ | (rw [hq330]; exact ⟨rfl, N325⟩))
theorem pn_15 : plainName "com/example/crud4/crud4/SqlBuilderNestedPinLaw" = true := by first | (simp [plainName, overriddenIn]; done) | decide +kernel
set_option maxRecDepth 65536 in
set_option maxHeartbeats 40000000 in
theorem rm0 (l : Launch) (Z : State) (a0 : Array Value) (hw : ∀ d ∈ tables_1, d.before a0 Z = true) (hEL : EW Z a0 EL0) (ws : List Jvm.Cond) (p1 p2 p3 p4 z : Int32) (ca D1 mr : Addr) (cl : Cell) (kD : ClassId) (h0 : Heap) (n0 : Nat) (Z0 : n0 ≤ h0.size) (SC : Sta Z h0 "java/lang/String" "COMPACT_STRINGS" "Z" (.int z)) (hz : ¬ z = 0) (IC : IcOf Z h0 ca cl) (DE : DeOf Z h0 D1 kD) (M : MirO Z "[Ljava/lang/Object;" mr) :
    MetFree l x (head1 (Jvm.Cond.code x code maxLocals ret :: ws) room_1) (fun a U => a = #[(.int p1), (.int p2), (.int p3), (.int p4)] ∧ Z.Warmed39 U.vm ∧ U.heap = h0 ∧ CHv Z EL0 U.vm h0) (fun _ _ _ _ _ => True) (fun _ U o U' => ∃ v L, o = .returned v ∧ (fun v h L => v = some (.int 1) ∧ Fr n0 L) v U'.heap L ∧ CHr Z EL0 U.vm U.heap U'.vm U'.heap ∧ ReturnedEndW U o U' L room_1.cells room_1.slots) := by
  refine ct_ofW (Q := fun v h L => v = some (.int 1) ∧ Fr n0 L) (plainFor_of_name pn_15) hEL ?_
  intro p e s m below meth c s₁ X0 hx hby hml hret hnm hlk D0 hs0 e0
  have N0 := Fr.nil n0
  rw [show entryFrame m #[(.int p1), (.int p2), (.int p3), (.int p4)] maxLocals = mkF m 0 #[.val (.int p1), .val (.int p2), .val (.int p3), .val (.int p4), .unset, .unset, .unset, .unset, .unset, .unset, .unset, .unset, .unset, .unset, .unset, .unset, .unset, .unset, .unset] [] from by first | (simp [entryFrame, mkF, argsToLocals, Value.category, maxLocals]; done) | rfl]
  have D := D0
  have En : Ext h0 h0 := Ext.rfl'
  refine w_null X0.here hx (hb hby at_0) (pc' := 1) rfl ?_
  refine w_astore X0.here hx (hb hby at_1) rfl (l' := #[.val (.int p1), .val (.int p2), .val (.int p3), .val (.int p4), .val .null, .unset, .unset, .unset, .unset, .unset, .unset, .unset, .unset, .unset, .unset, .unset, .unset, .unset, .unset]) rfl (pc' := 3) rfl ?_
  refine w_iloadN X0.here hx (hb hby at_3) rfl (pc' := 4) rfl ?_
  refine w_iconst X0.here hx (hb hby at_4) (z := 1) rfl (pc' := 5) rfl ?_
  refine w_iand X0.here hx (hb hby at_5) (pc' := 6) rfl ?_
  by_cases c1 : (p4 &&& (1 : Int32)) = (0 : Int32)
  · refine w_ifYes X0.here hx (hb hby at_6) (teq (show (p4 &&& (1 : Int32)) = (0 : Int32) from c1)).1 (pc' := 15) (by decide) (by decide) ?_
    exact lawRest (P := fun _ => True) (R := room_1) (cells := 0) (slots := 0) Z a0 hw hx hby hml hEL hret hlk p1 p2 p3 p4 z ca D1 mr cl kD .null rfl h0 _ n0 Z0 (X0.more (by decide) (by decide)) e0 N0 D En SC hz IC DE M
  · refine w_ifNo X0.here hx (hb hby at_6) (feq (show ¬ ((p4 &&& (1 : Int32)) = (0 : Int32)) from c1)).1 (pc' := 9) rfl ?_
    refine w_iloadN X0.here hx (hb hby at_9) rfl (pc' := 10) rfl ?_
    refine w_static X0 hx D.zw (y := yq7) D.ow (tw hw 0 rfl) (tw hw 1 rfl) (tw hw 2 rfl) (tw hw 3 rfl) (by decide) (backC (W := 6) (rmVal l Z a0 hw p1 ca cl h0 n0 (Nat.le_trans Z0 En.1) (IC.ext En)) D.zw (tw hw 3 rfl) (tw hw 2 rfl) (by decide) (by decide)) e0 (by rw [hml]; rfl) (argsL := [(.int p1)]) (st := []) pd_27 rfl rfl rfl (Nat.le_of_ble_eq_true rfl) (hb hby at_10) (by decide) (by decide) (pc' := 13) rfl ?_
    intro T332 v332 L332 X332 Q332
    obtain ⟨i0, rfl, Nv, Ev, G_i0⟩ := Q332
    clear X0
    clear e0
    show Go _ _ _ _ T332 (mkF m 13 _ [(.ref i0)])
    have N333 := Fr.app N0 Nv
    replace D := D.ext Ev
    replace En := Ext.trs En Ev
    refine w_astore X332.here hx (hb hby at_13) rfl (l' := #[.val (.int p1), .val (.int p2), .val (.int p3), .val (.int p4), .val (.ref i0), .unset, .unset, .unset, .unset, .unset, .unset, .unset, .unset, .unset, .unset, .unset, .unset, .unset, .unset]) rfl (pc' := 15) rfl ?_
    exact lawRest (P := fun _ => True) (R := room_1) (cells := 0) (slots := 0) Z a0 hw hx hby hml hEL hret hlk p1 p2 p3 p4 z ca D1 mr cl kD (.ref i0) rfl h0 _ n0 Z0 X332 rfl N333 D En SC hz IC DE M
theorem own_ic {s : State} {args : Array Value} {ca : Addr} {cl : Cell} (ec : (Term.static "java/lang/Integer$IntegerCache" "cache" "[Ljava/lang/Integer;").eval args s none [] s = some (.ref ca)) (A : Arr s s.heap ca cl (.object "java/lang/Integer")) (l1 : cl.slots.size < 2 ^ 31) (l2 : cl.slots.size.toInt32 = 256)
    (h : (Jvm.Cond.all (.static "java/lang/Integer$IntegerCache" "cache" "[Ljava/lang/Integer;") (.and (.exactly (.elem (.static "java/lang/Integer$IntegerCache" "cache" "[Ljava/lang/Integer;") (.index 0)) "java/lang/Integer") (.eq (.field (.elem (.static "java/lang/Integer$IntegerCache" "cache" "[Ljava/lang/Integer;") (.index 0)) "java/lang/Integer" "value" "I") (.sub (.index 0) (.int 128))))).value args s none s [] = some true) :
    cl.slots.size = 256 ∧ ∀ j : Nat, j < 256 → ∃ i, cl.slots[j]? = some (.ref i) ∧ IntOf s s.heap i (Int32.ofNat j - 128) := by
  obtain ⟨-, b2, -, b4⟩ := Bxs.start (val := fun j => .int (j - 128)) (fun _ => ec) A l1 l2 (by decide) h (fun X j nn hq => eqv_i (by simp [Term.eval]; exact (back32 nn).1) hq)
  have e : cl.slots.size = 256 := b2
  refine ⟨e, fun j hj => ?_⟩
  have ej : (Int32.ofNat j).toNatClampNeg = j := n_nat (by omega)
  obtain ⟨i, c1, c2, c3⟩ := b4 (Int32.ofNat j) (fun q => q.elim (n_nn (by omega)) (fun q => by rw [ej, e] at q; omega))
  rw [ej] at c1
  exact ⟨i, c1, c2, c3⟩
set_option maxRecDepth 65536 in
set_option maxHeartbeats 40000000 in
theorem comes_1 {Post : Tables → Env → Array Value → State → Outcome → State → Prop} (hpost : ∀ tb e args s v u, (limb_1_1.after args s (.returned v) u = true ∧ limb_1_2.after args s (.returned v) u = true ∧ True) → ReturnedEndW s (.returned v) u (Jvm.fieldLocs frame_1_writes args s ++ Jvm.arrayLocs frame_1_arrays args s ++ Jvm.staticLocs frame_1_statics s) 96 2496 → Post tb e args s (.returned v) u) :
    ArmFor flags0 classFile x code maxLocals ret World_1 tables_1 room_1 Calls_1 rest_1 Pre_1 Post := by
  intro l hfl _ _ p e ha hc hk s m args below hf hA hF happ hP
  obtain ⟨hcalls, hrest, hpre⟩ := hP
  obtain ⟨-, -, -, hnamed, -, -, -, hat⟩ := (Spec.applies_iff hf).mp happ
  obtain ⟨hg, hn⟩ := and_e (Cond.before_iff.mp (show (Jvm.Cond.and given_1 narrow_1).before args s = true from hpre))
  obtain ⟨hg0, hgr0⟩ := and_e hg
  obtain ⟨hg1, hgr1⟩ := and_e hgr0
  obtain ⟨hg2, hgr2⟩ := and_e hgr1
  obtain ⟨hg3, hgr3⟩ := and_e hgr2
  obtain ⟨w0, w1, w2, w3, rfl⟩ : ∃ w0 w1 w2 w3 : Value, args = #[w0, w1, w2, w3] := by
    have hs : args.size = 4 := by simpa [Cond.value, given_1] using hg0
    obtain ⟨L⟩ := args
    match L, hs with
    | [w0, w1, w2, w3], _ => exact ⟨w0, w1, w2, w3, rfl⟩
  have hw := fun d (hd : d ∈ tables_1) => atoms_spec (ws := Jvm.Cond.code x code maxLocals ret :: tables_1) hat d (List.mem_cons_of_mem _ hd)
  have hfit : Fit s := fun {y c} hc i hi => by
    obtain ⟨ha, rfl⟩ := Array.getElem?_eq_some_iff.mp hc
    have q := List.all_eq_true.mp ((Array.all_eq_true_iff_forall_mem.mp hF) _ (Array.getElem_mem ha)) i (List.mem_range.mpr hi)
    simpa [Array.getElem?_eq_getElem hi] using q
  obtain ⟨hsets, hown0⟩ := atoms_of _ (rest_1_c_eq ▸ (show rest_1_c.before _ s = true from hrest))
  obtain ⟨i0, ei0⟩ := is_v hg1
  obtain rfl : w0 = (.int i0) := Option.some.inj ei0
  obtain ⟨i1, ei1⟩ := is_v hg2
  obtain rfl : w1 = (.int i1) := Option.some.inj ei1
  obtain ⟨i2, ei2⟩ := is_v hg3
  obtain rfl : w2 = (.int i2) := Option.some.inj ei2
  obtain ⟨i3, ei3⟩ := is_v hgr3
  obtain rfl : w3 = (.int i3) := Option.some.inj ei3
  obtain ⟨z, ez⟩ := is_v (Cond.before_iff.mp (hsets _ (List.mem_of_getElem? (i := 9) rfl)))
  have SC := Sta.start ez (Or.inl (hsets _ (List.mem_of_getElem? (i := 8) rfl)))
  have hz : ¬ z = 0 := fun q => by
    have q2 := not_v (Cond.before_iff.mp (hsets _ (List.mem_of_getElem? (i := 10) rfl)))
    rw [eq_i ez (Term.int_eval 0) (by rw [q])] at q2
    cases q2
  have SH := Sta.start (st_int (Cond.before_iff.mp (hsets _ (List.mem_of_getElem? (i := 3) rfl)))) (Or.inl (hsets _ (List.mem_of_getElem? (i := 1) rfl)))
  obtain ⟨ca, eca⟩ := exa_v (Cond.before_iff.mp (hsets _ (List.mem_of_getElem? (i := 5) rfl)))
  have SCa := Sta.start eca (Or.inr ⟨(tw hw 5 rfl), (hsets _ (List.mem_of_getElem? (i := 2) rfl))⟩)
  obtain ⟨cl, ArC⟩ := Arr.start eca (Cond.before_iff.mp (hsets _ (List.mem_of_getElem? (i := 4) rfl)))
  obtain ⟨lc1, lc2⟩ := st_len eca ArC (Cond.before_iff.mp (hsets _ (List.mem_of_getElem? (i := 6) rfl)))
  obtain ⟨lc3, lc4⟩ := own_ic eca ArC lc1 lc2 (Cond.before_iff.mp (hsets _ (List.mem_of_getElem? (i := 7) rfl)))
  have IC : IcOf s s.heap ca cl := ⟨SH, SCa, ArC, lc3, lc4⟩
  obtain ⟨D1, eD⟩ := exa_v (Cond.before_iff.mp (hsets _ (List.mem_of_getElem? (i := 24) rfl)))
  obtain ⟨clD, ArD⟩ := Arr.start eD (Cond.before_iff.mp (hsets _ (List.mem_of_getElem? (i := 23) rfl)))
  obtain ⟨ld1, ld2⟩ := st_len eD ArD (Cond.before_iff.mp (hsets _ (List.mem_of_getElem? (i := 25) rfl)))
  have DE : DeOf s s.heap D1 clD.cls := ⟨Sta.start eD (Or.inr ⟨(tw hw 39 rfl), (hsets _ (List.mem_of_getElem? (i := 19) rfl))⟩), Arv.start hfit ArD ld1 ld2 (by decide) rfl trivial, Exa.start eD (Cond.before_iff.mp (hsets _ (List.mem_of_getElem? (i := 24) rfl)))⟩
  obtain ⟨cM, kM, mr, hM1, hM2, hM3⟩ := hcalls.1
  have M : MirO s "[Ljava/lang/Object;" mr := ⟨cM, kM, hM1, hM2, hM3.1⟩
  have hEL : EW s _ EL0 := EW.cons (tw hw 99 rfl) (by decide) (EW.cons (tw hw 334 rfl) (by decide) EW.nil)
  have CH0 : CHv s EL0 s.vm s.heap := CHv.start hEL (fun q hq => hcalls.2.1 q hq) (hsets _ (List.mem_of_getElem? (i := 10) rfl)) (tw hw 26 rfl) (tw hw 9 rfl)
  obtain ⟨n, o, h1, h2, h3, _, L, rfl, ⟨rfl, N⟩, -, hq⟩ := rm0 l s _ hw hEL tables_1 i0 i1 i2 i3 z ca D1 mr cl clD.cls s.heap s.heap.size (Nat.le_refl _) SC hz IC DE M p e ha hc hk s m _ below hf ((Spec.applies_iff_loose hf).mp happ).1 ⟨rfl, State.Warmed39.refl s, rfl, CH0⟩ trivial
  refine ⟨n, _, h1, h2, h3, hpost _ _ _ _ _ _ ⟨Cond.after_iff.mpr rfl, Cond.after_iff.mpr (eq_i res_at (Term.int_eval (1)) rfl), trivial⟩ ⟨hq.1, hq.2.1, hq.2.2.1, (hq.2.2.2.sift fun y hy => Or.inr (N y hy)).mono (by decide) (by decide)⟩⟩
theorem main_1_1 : Claimed_1_1 := comes_1 fun _ _ _ _ _ _ h hF => ⟨h.1, hF⟩
theorem main_1_2 : Claimed_1_2 := comes_1 fun _ _ _ _ _ _ h hF => ⟨h.2.1, hF⟩
end Jvm.Pilot.@@N@@
namespace Jvm.Pilot.@@N@@
open Jvm Jvm.ClassFile Sem Op Lib Jvm.Free Jvm.Stand Jvm.Pilot.@@N@@.Jvm.D
/-! MADE BY PROGRAM (witnessworld.py) out of the Statement's table words and the real class files: 45 classes; the members and pool entries that the words name. The judged class is class 1, her method 1. -/
namespace start1
open Jvm.ClassFile
def u (s : String) : CpInfo := .utf8 (stringToUtf16 s)
/-- a pool by its gaps: so many unusable entries, then the entry; so many at the end -/
def gap : Nat → List CpInfo → List CpInfo
  | 0, r => r
  | n + 1, r => .unusable :: gap n r
def poolList (es : List (Nat × CpInfo)) (last : Nat) : List CpInfo := es.foldr (fun e r => gap e.1 (e.2 :: r)) (gap last [])
def pool (es : List (Nat × CpInfo)) (last : Nat) : Array CpInfo := ⟨poolList es last⟩
def fileOf (pool : Array CpInfo) (this : Nat) (attrs : Array Attribute := #[]) (ms : Array MethodInfo := #[]) (fl : Nat := 33) (sup : Nat := 0) (ifs : Array Nat := #[]) (fds : Array FieldInfo := #[]) : ClassFile where
  minorVersion := 0
  majorVersion := 65
  constantPool := pool
  accessFlags := fl
  thisClass := this
  superClass := sup
  interfaces := ifs
  fields := fds
  methods := ms
  attributes := attrs
def plain (name : String) (sup : Option ClassId) : Class where
  name := name
  kind := .ordinary
  loader := none
  accessFlags := 33
  super := sup
  interfaces := #[]
  cf := none
  fields := #[]
  methods := #[]
  instanceTypes := #[]
  staticTypes := #[]
  resolved := #[]
  callSites := []
  init := .initialized
  statics := none
  mirror := none

def pool0 : Array CpInfo := pool [(5, u "<init>"), (0, u "()V"), (1, .class_ 10), (1, u "java/lang/Object"), (0, u "getClass"), (0, u "()Ljava/lang/Class;")] 111

def k0c0 : Code := { maxStack := 0, maxLocals := 1, code := object_method_1_code, exceptionTable := #[], attributes := #[] }
def k0m0 : Method := { name := "<init>", desc := "()V", sig := { parameters := [], returnType := none }, accessFlags := 1, code := some k0c0 }
def k0m1 : Method := { name := "getClass", desc := "()Ljava/lang/Class;", sig := { parameters := [], returnType := some (.object "java/lang/Class") }, accessFlags := 273, code := none }
/-- java/lang/Object -/
def k0 : Class := { plain "java/lang/Object" none with
  accessFlags := 33
  interfaces := #[]
  cf := some (fileOf pool0 8 #[] #[{ accessFlags := 1, nameIndex := 5, descriptorIndex := 6, attributes := #[] }, { accessFlags := 273, nameIndex := 11, descriptorIndex := 12, attributes := #[] }] 33 0 #[] #[])
  fields := #[]
  methods := #[k0m0, k0m1]
  instanceTypes := #[]
  staticTypes := #[]
  resolved := Array.replicate 124 none
  statics := none }

def pool1 : Array CpInfo := pool [(2, .class_ 4), (0, .nameAndType 5 6), (0, u "java/lang/Object"), (0, u "<init>"), (0, u "()V"), (0, .methodref 8 9), (0, .class_ 10), (0, .nameAndType 11 12), (0, u "java/lang/Integer"), (0, u "valueOf"), (0, u "(I)Ljava/lang/Integer;"), (0, .class_ 14), (0, u "java/lang/String"), (0, .methodref 13 16), (0, .nameAndType 5 17), (0, u "([C)V"), (0, .class_ 19), (0, u "java/util/ArrayList"), (0, .methodref 18 3), (0, .interfaceMethodref 22 23), (0, .class_ 24), (0, .nameAndType 25 26), (0, u "java/util/List"), (0, u "add"), (0, u "(Ljava/lang/Object;)Z"), (0, .class_ 28), (0, u "com/example/crud4/crud4/StatementParameter"), (0, .string 30), (0, u "s"), (0, .methodref 27 32), (0, .nameAndType 5 33), (0, u "(Ljava/lang/String;Ljava/lang/Object;)V"), (0, .class_ 35), (0, u "com/example/crud4/crud4/SqlBuilder"), (0, .methodref 34 37), (0, .nameAndType 5 38), (0, u "(Lcom/example/crud4/crud4/StatementParameter;)V"), (0, .methodref 34 40), (0, .nameAndType 25 41), (0, u "(Ljava/lang/String;Ljava/util/List;Ljava/util/List;)V"), (0, .methodref 34 43), (0, .nameAndType 44 45), (0, u "nested"), (0, u "()Lcom/example/crud4/crud4/SqlBuilder;"), (0, .methodref 34 47), (0, .nameAndType 48 49), (0, u "parameter"), (0, u "()Lcom/example/crud4/crud4/StatementParameter;"), (0, .methodref 34 51), (0, .nameAndType 52 53), (0, u "text"), (0, u "()Ljava/lang/String;"), (0, .methodref 13 55), (0, .nameAndType 56 57), (0, u "isEmpty"), (0, u "()Z"), (0, .methodref 34 59), (0, .nameAndType 60 61), (0, u "placeholders"), (0, u "()Ljava/util/List;"), (0, .interfaceMethodref 22 63), (0, .nameAndType 64 65), (0, u "size"), (0, u "()I"), (0, .methodref 34 67), (0, .nameAndType 68 61), (0, u "values"), (0, .string 70), (0, u ""), (0, .methodref 13 72), (0, .nameAndType 73 26), (0, u "equals"), (0, .interfaceMethodref 22 75), (0, .nameAndType 76 77), (0, u "get"), (0, u "(I)Ljava/lang/Object;"), (0, .methodref 8 79), (0, .nameAndType 80 65), (0, u "intValue"), (0, .class_ 82), (0, u "com/example/crud4/crud4/SqlBuilderNestedPinLaw"), (2, u "law"), (0, u "(IIII)Z")] 5

def k1m0 : Method := { name := "<init>", desc := "()V", sig := { parameters := [], returnType := none }, accessFlags := 1, code := none }
def k1c1 : Code := { maxStack := 5, maxLocals := 19, code := code, exceptionTable := #[], attributes := #[] }
def k1m1 : Method := { name := "law", desc := "(IIII)Z", sig := { parameters := [.int, .int, .int, .int], returnType := some .boolean }, accessFlags := 9, code := some k1c1 }
/-- com/example/crud4/crud4/SqlBuilderNestedPinLaw -/
def k1 : Class := { plain "com/example/crud4/crud4/SqlBuilderNestedPinLaw" (some 0) with
  accessFlags := 49
  interfaces := #[]
  cf := some (fileOf pool1 81 #[] #[{ accessFlags := 1, nameIndex := 5, descriptorIndex := 6, attributes := #[] }, { accessFlags := 9, nameIndex := 85, descriptorIndex := 86, attributes := #[] }] 49 2 #[] #[])
  fields := #[]
  methods := #[k1m0, k1m1]
  instanceTypes := #[]
  staticTypes := #[]
  resolved := Array.replicate 92 none
  statics := none }

def pool2 : Array CpInfo := pool [(1, .class_ 2), (0, u "java/io/Serializable"), (0, .class_ 4), (0, u "java/lang/Object")] 2

/-- java/io/Serializable -/
def k2 : Class := { plain "java/io/Serializable" (some 0) with
  accessFlags := 1537
  interfaces := #[]
  cf := some (fileOf pool2 1 #[] #[] 1537 3 #[] #[])
  fields := #[]
  methods := #[]
  instanceTypes := #[]
  staticTypes := #[]
  resolved := Array.replicate 7 none
  statics := none }

def pool3 : Array CpInfo := pool [(1, .methodref 2 3), (0, .class_ 4), (0, .nameAndType 5 6), (0, u "java/lang/Object"), (0, u "<init>"), (0, u "()V"), (1, .class_ 10), (1, u "java/lang/Number"), (2, .class_ 14), (0, u "java/io/Serializable"), (0, u "serialVersionUID"), (0, u "J")] 20

def k3c0 : Code := { maxStack := 1, maxLocals := 1, code := jdk_18_method_1_code, exceptionTable := #[], attributes := #[] }
def k3m0 : Method := { name := "<init>", desc := "()V", sig := { parameters := [], returnType := none }, accessFlags := 1, code := some k3c0 }
/-- java/lang/Number -/
def k3 : Class := { plain "java/lang/Number" (some 0) with
  accessFlags := 1057
  interfaces := #[2]
  cf := some (fileOf pool3 8 #[] #[{ accessFlags := 1, nameIndex := 5, descriptorIndex := 6, attributes := #[] }] 1057 2 #[13] #[{ accessFlags := 26, nameIndex := 15, descriptorIndex := 16, attributes := #[] }])
  fields := #[{ name := "serialVersionUID", type := .long, accessFlags := 26, slot := 0, constantValue := 0 }]
  methods := #[k3m0]
  instanceTypes := #[]
  staticTypes := #[.long]
  resolved := Array.replicate 37 none
  statics := none }

def pool4 : Array CpInfo := pool [(1, .class_ 2), (0, u "java/lang/Comparable"), (0, .class_ 4), (0, u "java/lang/Object")] 7

/-- java/lang/Comparable -/
def k4 : Class := { plain "java/lang/Comparable" (some 0) with
  accessFlags := 1537
  interfaces := #[]
  cf := some (fileOf pool4 1 #[] #[] 1537 3 #[] #[])
  fields := #[]
  methods := #[]
  instanceTypes := #[]
  staticTypes := #[]
  resolved := Array.replicate 12 none
  statics := none }

def pool5 : Array CpInfo := pool [(1, .class_ 2), (0, u "java/lang/constant/Constable"), (0, .class_ 4), (0, u "java/lang/Object")] 6

/-- java/lang/constant/Constable -/
def k5 : Class := { plain "java/lang/constant/Constable" (some 0) with
  accessFlags := 1537
  interfaces := #[]
  cf := some (fileOf pool5 1 #[] #[] 1537 3 #[] #[])
  fields := #[]
  methods := #[]
  instanceTypes := #[]
  staticTypes := #[]
  resolved := Array.replicate 11 none
  statics := none }

def pool6 : Array CpInfo := pool [(1, .class_ 2), (0, u "java/lang/constant/ConstantDesc"), (0, .class_ 4), (0, u "java/lang/Object")] 32

/-- java/lang/constant/ConstantDesc -/
def k6 : Class := { plain "java/lang/constant/ConstantDesc" (some 0) with
  accessFlags := 1537
  interfaces := #[]
  cf := some (fileOf pool6 1 #[] #[] 1537 3 #[] #[])
  fields := #[]
  methods := #[]
  instanceTypes := #[]
  staticTypes := #[]
  resolved := Array.replicate 37 none
  statics := none }

def pool7 : Array CpInfo := pool [(1, .class_ 2), (0, u "java/lang/Integer"), (16, u "digits"), (0, u "[C"), (46, u "<init>"), (17, u "DigitOnes"), (0, u "[B"), (2, u "DigitTens"), (10, .nameAndType 67 101), (0, u "()V"), (19, u "()I"), (65, u "valueOf"), (0, u "(I)Ljava/lang/Integer;"), (0, .class_ 190), (0, u "java/lang/Integer$IntegerCache"), (0, .fieldref 189 192), (0, .nameAndType 193 194), (0, u "high"), (0, u "I"), (0, .fieldref 189 196), (0, .nameAndType 197 198), (0, u "cache"), (0, u "[Ljava/lang/Integer;"), (0, .methodref 1 200), (0, .nameAndType 67 201), (0, u "(I)V"), (0, .methodref 203 100), (0, .class_ 204), (0, u "java/lang/Number"), (0, .fieldref 1 206), (0, .nameAndType 207 194), (0, u "value"), (5, u "intValue"), (88, u "TYPE"), (0, u "Ljava/lang/Class;"), (0, .class_ 305), (0, u "java/lang/Comparable"), (0, .class_ 307), (0, u "java/lang/constant/Constable"), (0, .class_ 309), (0, u "java/lang/constant/ConstantDesc"), (0, u "MIN_VALUE"), (1, u "MAX_VALUE"), (3, u "SIZE"), (1, u "BYTES"), (1, u "serialVersionUID"), (0, u "J")] 131

def k7c0 : Code := { maxStack := 3, maxLocals := 1, code := jdk_33_method_22_code, exceptionTable := #[], attributes := #[] }
def k7m0 : Method := { name := "valueOf", desc := "(I)Ljava/lang/Integer;", sig := { parameters := [.int], returnType := some (.object "java/lang/Integer") }, accessFlags := 9, code := some k7c0 }
def k7c1 : Code := { maxStack := 2, maxLocals := 2, code := jdk_33_method_23_code, exceptionTable := #[], attributes := #[] }
def k7m1 : Method := { name := "<init>", desc := "(I)V", sig := { parameters := [.int], returnType := none }, accessFlags := 1, code := some k7c1 }
def k7c2 : Code := { maxStack := 1, maxLocals := 1, code := jdk_33_method_27_code, exceptionTable := #[], attributes := #[] }
def k7m2 : Method := { name := "intValue", desc := "()I", sig := { parameters := [], returnType := some .int }, accessFlags := 1, code := some k7c2 }
/-- java/lang/Integer -/
def k7 : Class := { plain "java/lang/Integer" (some 3) with
  accessFlags := 49
  interfaces := #[4, 5, 6]
  cf := some (fileOf pool7 1 #[.nestMembers #[189]] #[{ accessFlags := 9, nameIndex := 187, descriptorIndex := 188, attributes := #[] }, { accessFlags := 1, nameIndex := 67, descriptorIndex := 201, attributes := #[] }, { accessFlags := 1, nameIndex := 213, descriptorIndex := 121, attributes := #[] }] 49 203 #[304, 306, 308] #[{ accessFlags := 25, nameIndex := 310, descriptorIndex := 194, attributes := #[] }, { accessFlags := 25, nameIndex := 312, descriptorIndex := 194, attributes := #[] }, { accessFlags := 25, nameIndex := 302, descriptorIndex := 303, attributes := #[] }, { accessFlags := 24, nameIndex := 19, descriptorIndex := 20, attributes := #[] }, { accessFlags := 24, nameIndex := 89, descriptorIndex := 86, attributes := #[] }, { accessFlags := 24, nameIndex := 85, descriptorIndex := 86, attributes := #[] }, { accessFlags := 18, nameIndex := 207, descriptorIndex := 194, attributes := #[] }, { accessFlags := 25, nameIndex := 316, descriptorIndex := 194, attributes := #[] }, { accessFlags := 25, nameIndex := 318, descriptorIndex := 194, attributes := #[] }, { accessFlags := 26, nameIndex := 320, descriptorIndex := 321, attributes := #[] }])
  fields := #[{ name := "MIN_VALUE", type := .int, accessFlags := 25, slot := 0, constantValue := 0 }, { name := "MAX_VALUE", type := .int, accessFlags := 25, slot := 1, constantValue := 0 }, { name := "TYPE", type := (.object "java/lang/Class"), accessFlags := 25, slot := 2, constantValue := 0 }, { name := "digits", type := (.array .char), accessFlags := 24, slot := 3, constantValue := 0 }, { name := "DigitTens", type := (.array .byte), accessFlags := 24, slot := 4, constantValue := 0 }, { name := "DigitOnes", type := (.array .byte), accessFlags := 24, slot := 5, constantValue := 0 }, { name := "value", type := .int, accessFlags := 18, slot := 0, constantValue := 0 }, { name := "SIZE", type := .int, accessFlags := 25, slot := 6, constantValue := 0 }, { name := "BYTES", type := .int, accessFlags := 25, slot := 7, constantValue := 0 }, { name := "serialVersionUID", type := .long, accessFlags := 26, slot := 8, constantValue := 0 }]
  methods := #[k7m0, k7m1, k7m2]
  instanceTypes := #[.int]
  staticTypes := #[.int, .int, (.object "java/lang/Class"), (.array .char), (.array .byte), (.array .byte), .int, .int, .long]
  resolved := Array.replicate 453 none
  statics := none }

def pool8 : Array CpInfo := pool [(2, .class_ 4), (1, u "java/lang/Object"), (0, u "<init>"), (0, u "()V"), (0, .class_ 8), (0, u "java/lang/Integer"), (7, .class_ 18), (1, u "java/lang/Integer$IntegerCache"), (0, u "$assertionsDisabled"), (0, u "Z"), (26, u "high"), (0, u "I"), (8, u "archivedCache"), (0, u "[Ljava/lang/Integer;"), (12, u "cache"), (0, u "low")] 27

def k8m0 : Method := { name := "<init>", desc := "()V", sig := { parameters := [], returnType := none }, accessFlags := 2, code := none }
/-- java/lang/Integer$IntegerCache -/
def k8 : Class := { plain "java/lang/Integer$IntegerCache" (some 0) with
  accessFlags := 48
  interfaces := #[]
  cf := some (fileOf pool8 16 #[.nestHost 7] #[{ accessFlags := 2, nameIndex := 5, descriptorIndex := 6, attributes := #[] }] 48 2 #[] #[{ accessFlags := 24, nameIndex := 72, descriptorIndex := 48, attributes := #[] }, { accessFlags := 24, nameIndex := 47, descriptorIndex := 48, attributes := #[] }, { accessFlags := 24, nameIndex := 71, descriptorIndex := 58, attributes := #[] }, { accessFlags := 8, nameIndex := 57, descriptorIndex := 58, attributes := #[] }, { accessFlags := 4120, nameIndex := 19, descriptorIndex := 20, attributes := #[] }])
  fields := #[{ name := "low", type := .int, accessFlags := 24, slot := 0, constantValue := 0 }, { name := "high", type := .int, accessFlags := 24, slot := 1, constantValue := 0 }, { name := "cache", type := (.array (.object "java/lang/Integer")), accessFlags := 24, slot := 2, constantValue := 0 }, { name := "archivedCache", type := (.array (.object "java/lang/Integer")), accessFlags := 8, slot := 3, constantValue := 0 }, { name := "$assertionsDisabled", type := .boolean, accessFlags := 4120, slot := 4, constantValue := 0 }]
  methods := #[k8m0]
  instanceTypes := #[]
  staticTypes := #[.int, .int, (.array (.object "java/lang/Integer")), (.array (.object "java/lang/Integer")), .boolean]
  resolved := Array.replicate 100 none
  statics := some 0 }

def pool9 : Array CpInfo := pool [(2, .class_ 4), (1, u "java/lang/CharSequence"), (42, .class_ 48), (0, u "java/lang/CharSequence$1CodePointIterator"), (10, .class_ 60), (0, u "java/lang/CharSequence$1CharIterator"), (5, .class_ 67), (0, u "java/lang/Object")] 63

/-- java/lang/CharSequence -/
def k9 : Class := { plain "java/lang/CharSequence" (some 0) with
  accessFlags := 1537
  interfaces := #[]
  cf := some (fileOf pool9 2 #[.nestMembers #[47, 59]] #[] 1537 66 #[] #[])
  fields := #[]
  methods := #[]
  instanceTypes := #[]
  staticTypes := #[]
  resolved := Array.replicate 131 none
  statics := none }

def pool10 : Array CpInfo := pool [(1, .methodref 2 3), (0, .class_ 4), (0, .nameAndType 5 6), (0, u "java/lang/Object"), (0, u "<init>"), (0, u "()V"), (2, .fieldref 10 11), (0, .class_ 12), (0, .nameAndType 13 14), (0, u "java/lang/String"), (0, u "value"), (0, u "[B"), (0, .fieldref 10 16), (0, .nameAndType 17 18), (0, u "coder"), (0, u "B"), (2, u "hash"), (0, u "I"), (2, u "hashIsZero"), (0, u "Z"), (0, .methodref 10 28), (0, .nameAndType 5 29), (0, u "([CIILjava/lang/Void;)V"), (8, .fieldref 10 39), (0, .nameAndType 40 26), (0, u "COMPACT_STRINGS"), (1, .class_ 44), (1, u "java/lang/StringUTF16"), (0, u "compress"), (1, .methodref 42 48), (0, .nameAndType 49 50), (0, u "coderFromArrayLen"), (0, u "([BI)B"), (3, .methodref 55 56), (0, .class_ 57), (0, .nameAndType 58 59), (0, u "java/util/Arrays"), (0, u "copyOfRange"), (0, u "([BII)[B"), (47, .class_ 109), (1, u "java/lang/StringLatin1"), (32, u "()Z"), (34, .methodref 42 178), (0, .nameAndType 45 179), (0, u "([CII)[B"), (13, .class_ 195), (1, u "java/lang/System"), (16, .methodref 193 213), (0, .nameAndType 214 215), (0, u "arraycopy"), (0, u "(Ljava/lang/Object;ILjava/lang/Object;II)V"), (118, u "()I"), (0, .methodref 10 336), (0, .nameAndType 17 337), (0, u "()B"), (2, u "()[B"), (148, .methodref 10 490), (0, .nameAndType 5 491), (0, u "(Ljava/lang/AbstractStringBuilder;Ljava/lang/Void;)V"), (1, .nameAndType 494 142), (0, u "isLatin1"), (11, .nameAndType 507 334), (0, u "length"), (24, u "getBytes"), (8, .methodref 107 542), (0, .nameAndType 543 544), (0, u "equals"), (0, u "([B[B)Z"), (4, .methodref 550 506), (0, .class_ 551), (0, u "java/lang/AbstractStringBuilder"), (0, .methodref 550 553), (0, .nameAndType 554 340), (0, u "getValue"), (18, u "(Ljava/lang/Object;)Z"), (1, .class_ 576), (0, u "java/lang/CharSequence"), (22, u "CASE_INSENSITIVE_ORDER"), (0, u "Ljava/util/Comparator;"), (91, u "isEmpty"), (128, u "([BIB)V"), (188, u "([C)V"), (36, .methodref 550 493), (53, u "serialPersistentFields"), (0, u "[Ljava/io/ObjectStreamField;"), (0, .class_ 1104), (0, u "java/lang/String$CaseInsensitiveComparator"), (1, .class_ 1107), (0, u "java/io/Serializable"), (0, .class_ 1109), (0, u "java/lang/Comparable"), (0, .class_ 1111), (0, u "java/lang/constant/Constable"), (0, .class_ 1113), (0, u "java/lang/constant/ConstantDesc"), (2, u "serialVersionUID"), (0, u "J"), (3, u "REPL"), (0, u "C"), (2, u "LATIN1"), (1, u "UTF16"), (105, u "(Ljava/lang/StringBuilder;)V")] 217

def k10m0 : Method := { name := "<init>", desc := "()V", sig := { parameters := [], returnType := none }, accessFlags := 1, code := none }
def k10c1 : Code := { maxStack := 5, maxLocals := 2, code := jdk_42_method_3_code, exceptionTable := #[], attributes := #[] }
def k10m1 : Method := { name := "<init>", desc := "([C)V", sig := { parameters := [(.array .char)], returnType := none }, accessFlags := 1, code := some k10c1 }
def k10c2 : Code := { maxStack := 3, maxLocals := 2, code := jdk_42_method_53_code, exceptionTable := #[], attributes := #[] }
def k10m2 : Method := { name := "<init>", desc := "(Ljava/lang/StringBuilder;)V", sig := { parameters := [(.object "java/lang/StringBuilder")], returnType := none }, accessFlags := 1, code := some k10c2 }
def k10c3 : Code := { maxStack := 2, maxLocals := 1, code := jdk_42_method_54_code, exceptionTable := #[], attributes := #[] }
def k10m3 : Method := { name := "length", desc := "()I", sig := { parameters := [], returnType := some .int }, accessFlags := 1, code := some k10c3 }
def k10c4 : Code := { maxStack := 1, maxLocals := 1, code := jdk_42_method_55_code, exceptionTable := #[], attributes := #[] }
def k10m4 : Method := { name := "isEmpty", desc := "()Z", sig := { parameters := [], returnType := some .boolean }, accessFlags := 1, code := some k10c4 }
def k10c5 : Code := { maxStack := 2, maxLocals := 3, code := jdk_42_method_66_code, exceptionTable := #[], attributes := #[] }
def k10m5 : Method := { name := "equals", desc := "(Ljava/lang/Object;)Z", sig := { parameters := [(.object "java/lang/Object")], returnType := some .boolean }, accessFlags := 1, code := some k10c5 }
def k10c6 : Code := { maxStack := 5, maxLocals := 4, code := jdk_42_method_147_code, exceptionTable := #[], attributes := #[] }
def k10m6 : Method := { name := "getBytes", desc := "([BIB)V", sig := { parameters := [(.array .byte), .int, .byte], returnType := none }, accessFlags := 0, code := some k10c6 }
def k10c7 : Code := { maxStack := 4, maxLocals := 6, code := jdk_42_method_149_code, exceptionTable := #[], attributes := #[] }
def k10m7 : Method := { name := "<init>", desc := "([CIILjava/lang/Void;)V", sig := { parameters := [(.array .char), .int, .int, (.object "java/lang/Void")], returnType := none }, accessFlags := 2, code := some k10c7 }
def k10c8 : Code := { maxStack := 5, maxLocals := 5, code := jdk_42_method_150_code, exceptionTable := #[], attributes := #[] }
def k10m8 : Method := { name := "<init>", desc := "(Ljava/lang/AbstractStringBuilder;Ljava/lang/Void;)V", sig := { parameters := [(.object "java/lang/AbstractStringBuilder"), (.object "java/lang/Void")], returnType := none }, accessFlags := 0, code := some k10c8 }
def k10c9 : Code := { maxStack := 1, maxLocals := 1, code := jdk_42_method_152_code, exceptionTable := #[], attributes := #[] }
def k10m9 : Method := { name := "coder", desc := "()B", sig := { parameters := [], returnType := some .byte }, accessFlags := 0, code := some k10c9 }
/-- java/lang/String -/
def k10 : Class := { plain "java/lang/String" (some 0) with
  accessFlags := 49
  interfaces := #[2, 4, 9, 5, 6]
  cf := some (fileOf pool10 10 #[.nestMembers #[1103]] #[{ accessFlags := 1, nameIndex := 5, descriptorIndex := 6, attributes := #[] }, { accessFlags := 1, nameIndex := 5, descriptorIndex := 1010, attributes := #[] }, { accessFlags := 1, nameIndex := 5, descriptorIndex := 1233, attributes := #[] }, { accessFlags := 1, nameIndex := 507, descriptorIndex := 334, attributes := #[] }, { accessFlags := 1, nameIndex := 692, descriptorIndex := 142, attributes := #[] }, { accessFlags := 1, nameIndex := 543, descriptorIndex := 573, attributes := #[] }, { accessFlags := 0, nameIndex := 532, descriptorIndex := 821, attributes := #[] }, { accessFlags := 2, nameIndex := 5, descriptorIndex := 29, attributes := #[] }, { accessFlags := 0, nameIndex := 5, descriptorIndex := 491, attributes := #[] }, { accessFlags := 0, nameIndex := 17, descriptorIndex := 337, attributes := #[] }] 49 2 #[1106, 1108, 575, 1110, 1112] #[{ accessFlags := 18, nameIndex := 13, descriptorIndex := 14, attributes := #[] }, { accessFlags := 18, nameIndex := 17, descriptorIndex := 18, attributes := #[] }, { accessFlags := 2, nameIndex := 21, descriptorIndex := 22, attributes := #[] }, { accessFlags := 2, nameIndex := 25, descriptorIndex := 26, attributes := #[] }, { accessFlags := 26, nameIndex := 1116, descriptorIndex := 1117, attributes := #[] }, { accessFlags := 24, nameIndex := 40, descriptorIndex := 26, attributes := #[] }, { accessFlags := 26, nameIndex := 1101, descriptorIndex := 1102, attributes := #[] }, { accessFlags := 26, nameIndex := 1121, descriptorIndex := 1122, attributes := #[] }, { accessFlags := 25, nameIndex := 599, descriptorIndex := 600, attributes := #[] }, { accessFlags := 24, nameIndex := 1125, descriptorIndex := 18, attributes := #[] }, { accessFlags := 24, nameIndex := 1127, descriptorIndex := 18, attributes := #[] }])
  fields := #[{ name := "value", type := (.array .byte), accessFlags := 18, slot := 0, constantValue := 0 }, { name := "coder", type := .byte, accessFlags := 18, slot := 1, constantValue := 0 }, { name := "hash", type := .int, accessFlags := 2, slot := 2, constantValue := 0 }, { name := "hashIsZero", type := .boolean, accessFlags := 2, slot := 3, constantValue := 0 }, { name := "serialVersionUID", type := .long, accessFlags := 26, slot := 0, constantValue := 0 }, { name := "COMPACT_STRINGS", type := .boolean, accessFlags := 24, slot := 1, constantValue := 0 }, { name := "serialPersistentFields", type := (.array (.object "java/io/ObjectStreamField")), accessFlags := 26, slot := 2, constantValue := 0 }, { name := "REPL", type := .char, accessFlags := 26, slot := 3, constantValue := 0 }, { name := "CASE_INSENSITIVE_ORDER", type := (.object "java/util/Comparator"), accessFlags := 25, slot := 4, constantValue := 0 }, { name := "LATIN1", type := .byte, accessFlags := 24, slot := 5, constantValue := 0 }, { name := "UTF16", type := .byte, accessFlags := 24, slot := 6, constantValue := 0 }]
  methods := #[k10m0, k10m1, k10m2, k10m3, k10m4, k10m5, k10m6, k10m7, k10m8, k10m9]
  instanceTypes := #[(.array .byte), .byte, .int, .boolean]
  staticTypes := #[.long, .boolean, (.array (.object "java/io/ObjectStreamField")), .char, (.object "java/util/Comparator"), .byte, .byte]
  resolved := Array.replicate 1451 none
  statics := some 1 }

def pool11 : Array CpInfo := pool [(6, .class_ 8), (1, u "java/lang/Object"), (0, u "<init>"), (0, u "()V"), (1, .class_ 14), (1, u "java/lang/StringUTF16"), (31, u "$assertionsDisabled"), (0, u "Z"), (13, u "HI_BYTE_SHIFT"), (0, u "I"), (2, u "LO_BYTE_SHIFT"), (49, .methodref 12 116), (0, .nameAndType 117 118), (0, u "compress"), (0, u "([CI[BII)I"), (3, u "([CII)[B"), (138, u "coderFromArrayLen"), (0, u "([BI)B"), (106, .class_ 371), (1, u "java/lang/StringUTF16$LinesSpliterator"), (58, u "MAX_LENGTH"), (196, .class_ 628), (0, u "java/lang/StringUTF16$CodePointsSpliterator"), (0, .class_ 630), (0, u "java/lang/StringUTF16$CharsSpliterator")] 4

def k11m0 : Method := { name := "<init>", desc := "()V", sig := { parameters := [], returnType := none }, accessFlags := 0, code := none }
def k11c1 : Code := { maxStack := 2, maxLocals := 2, code := jdk_52_method_15_code, exceptionTable := #[], attributes := #[] }
def k11m1 : Method := { name := "coderFromArrayLen", desc := "([BI)B", sig := { parameters := [(.array .byte), .int], returnType := some .byte }, accessFlags := 8, code := some k11c1 }
def k11c2 : Code := { maxStack := 5, maxLocals := 6, code := jdk_52_method_16_code, exceptionTable := #[], attributes := #[] }
def k11m2 : Method := { name := "compress", desc := "([CII)[B", sig := { parameters := [(.array .char), .int, .int], returnType := some (.array .byte) }, accessFlags := 9, code := some k11c2 }
def k11c3 : Code := { maxStack := 3, maxLocals := 7, code := jdk_52_method_21_code, exceptionTable := #[], attributes := #[] }
def k11m3 : Method := { name := "compress", desc := "([CI[BII)I", sig := { parameters := [(.array .char), .int, (.array .byte), .int, .int], returnType := some .int }, accessFlags := 9, code := some k11c3 }
/-- java/lang/StringUTF16 -/
def k11 : Class := { plain "java/lang/StringUTF16" (some 0) with
  accessFlags := 48
  interfaces := #[]
  cf := some (fileOf pool11 12 #[.nestMembers #[627, 629, 369]] #[{ accessFlags := 0, nameIndex := 9, descriptorIndex := 10, attributes := #[] }, { accessFlags := 8, nameIndex := 261, descriptorIndex := 262, attributes := #[] }, { accessFlags := 9, nameIndex := 117, descriptorIndex := 122, attributes := #[] }, { accessFlags := 9, nameIndex := 117, descriptorIndex := 118, attributes := #[] }] 48 6 #[] #[{ accessFlags := 26, nameIndex := 61, descriptorIndex := 62, attributes := #[] }, { accessFlags := 26, nameIndex := 65, descriptorIndex := 62, attributes := #[] }, { accessFlags := 24, nameIndex := 430, descriptorIndex := 62, attributes := #[] }, { accessFlags := 4120, nameIndex := 46, descriptorIndex := 47, attributes := #[] }])
  fields := #[{ name := "HI_BYTE_SHIFT", type := .int, accessFlags := 26, slot := 0, constantValue := 0 }, { name := "LO_BYTE_SHIFT", type := .int, accessFlags := 26, slot := 1, constantValue := 0 }, { name := "MAX_LENGTH", type := .int, accessFlags := 24, slot := 2, constantValue := 0 }, { name := "$assertionsDisabled", type := .boolean, accessFlags := 4120, slot := 3, constantValue := 0 }]
  methods := #[k11m0, k11m1, k11m2, k11m3]
  instanceTypes := #[]
  staticTypes := #[.int, .int, .int, .boolean]
  resolved := Array.replicate 635 none
  statics := none }

def pool12 : Array CpInfo := pool [(8, .class_ 10), (1, u "java/lang/Iterable"), (24, .class_ 36), (0, u "java/lang/Object")] 25

/-- java/lang/Iterable -/
def k12 : Class := { plain "java/lang/Iterable" (some 0) with
  accessFlags := 1537
  interfaces := #[]
  cf := some (fileOf pool12 8 #[] #[] 1537 35 #[] #[])
  fields := #[]
  methods := #[]
  instanceTypes := #[]
  staticTypes := #[]
  resolved := Array.replicate 62 none
  statics := none }

def pool13 : Array CpInfo := pool [(10, .class_ 12), (1, u "java/util/Collection"), (0, u "toArray"), (46, .class_ 61), (0, u "java/lang/Object"), (0, .class_ 63), (0, u "java/lang/Iterable"), (6, u "()[Ljava/lang/Object;")] 44

def k13m0 : Method := { name := "toArray", desc := "()[Ljava/lang/Object;", sig := { parameters := [], returnType := some (.array (.object "java/lang/Object")) }, accessFlags := 1025, code := none }
/-- java/util/Collection -/
def k13 : Class := { plain "java/util/Collection" (some 0) with
  accessFlags := 1537
  interfaces := #[12]
  cf := some (fileOf pool13 10 #[] #[{ accessFlags := 1025, nameIndex := 13, descriptorIndex := 70, attributes := #[] }] 1537 60 #[62] #[])
  fields := #[]
  methods := #[k13m0]
  instanceTypes := #[]
  staticTypes := #[]
  resolved := Array.replicate 115 none
  statics := none }

def pool14 : Array CpInfo := pool [(1, .methodref 2 3), (0, .class_ 4), (0, .nameAndType 5 6), (0, u "java/lang/Object"), (0, u "<init>"), (0, u "()V"), (1, .class_ 10), (1, u "java/util/AbstractCollection"), (66, .class_ 78), (0, u "java/util/Collection")] 81

def k14c0 : Code := { maxStack := 1, maxLocals := 1, code := jdk_22_method_1_code, exceptionTable := #[], attributes := #[] }
def k14m0 : Method := { name := "<init>", desc := "()V", sig := { parameters := [], returnType := none }, accessFlags := 4, code := some k14c0 }
/-- java/util/AbstractCollection -/
def k14 : Class := { plain "java/util/AbstractCollection" (some 0) with
  accessFlags := 1057
  interfaces := #[13]
  cf := some (fileOf pool14 8 #[] #[{ accessFlags := 4, nameIndex := 5, descriptorIndex := 6, attributes := #[] }] 1057 2 #[77] #[])
  fields := #[]
  methods := #[k14m0]
  instanceTypes := #[]
  staticTypes := #[]
  resolved := Array.replicate 160 none
  statics := none }

def pool15 : Array CpInfo := pool [(8, .class_ 10), (1, u "java/util/SequencedCollection"), (15, .class_ 27), (0, u "java/lang/Object"), (0, .class_ 29), (0, u "java/util/Collection")] 27

/-- java/util/SequencedCollection -/
def k15 : Class := { plain "java/util/SequencedCollection" (some 0) with
  accessFlags := 1537
  interfaces := #[13]
  cf := some (fileOf pool15 8 #[] #[] 1537 26 #[28] #[])
  fields := #[]
  methods := #[]
  instanceTypes := #[]
  staticTypes := #[]
  resolved := Array.replicate 57 none
  statics := none }

def pool16 : Array CpInfo := pool [(8, .class_ 10), (1, u "java/util/List"), (49, u "add"), (3, u "(Ljava/lang/Object;)Z"), (10, u "get"), (0, u "(I)Ljava/lang/Object;"), (2, u "size"), (0, u "()I"), (22, .class_ 104), (0, u "java/lang/Object"), (15, .class_ 121), (0, u "java/util/SequencedCollection"), (9, u "(Ljava/util/Collection;)Z"), (1, u "addAll")] 117

def k16m0 : Method := { name := "size", desc := "()I", sig := { parameters := [], returnType := some .int }, accessFlags := 1025, code := none }
def k16m1 : Method := { name := "add", desc := "(Ljava/lang/Object;)Z", sig := { parameters := [(.object "java/lang/Object")], returnType := some .boolean }, accessFlags := 1025, code := none }
def k16m2 : Method := { name := "addAll", desc := "(Ljava/util/Collection;)Z", sig := { parameters := [(.object "java/util/Collection")], returnType := some .boolean }, accessFlags := 1025, code := none }
def k16m3 : Method := { name := "get", desc := "(I)Ljava/lang/Object;", sig := { parameters := [.int], returnType := some (.object "java/lang/Object") }, accessFlags := 1025, code := none }
/-- java/util/List -/
def k16 : Class := { plain "java/util/List" (some 0) with
  accessFlags := 1537
  interfaces := #[15]
  cf := some (fileOf pool16 8 #[] #[{ accessFlags := 1025, nameIndex := 79, descriptorIndex := 80, attributes := #[] }, { accessFlags := 1025, nameIndex := 60, descriptorIndex := 64, attributes := #[] }, { accessFlags := 1025, nameIndex := 133, descriptorIndex := 131, attributes := #[] }, { accessFlags := 1025, nameIndex := 75, descriptorIndex := 76, attributes := #[] }] 1537 103 #[120] #[])
  fields := #[]
  methods := #[k16m0, k16m1, k16m2, k16m3]
  instanceTypes := #[]
  staticTypes := #[]
  resolved := Array.replicate 251 none
  statics := none }

def pool17 : Array CpInfo := pool [(1, .methodref 2 3), (0, .class_ 4), (0, .nameAndType 5 6), (0, u "java/util/AbstractCollection"), (0, u "<init>"), (0, u "()V"), (0, .fieldref 8 9), (0, .class_ 10), (0, .nameAndType 11 12), (0, u "java/util/AbstractList"), (0, u "modCount"), (0, u "I"), (64, .class_ 78), (0, u "java/util/AbstractList$Itr"), (3, .class_ 83), (0, u "java/util/AbstractList$ListItr"), (9, .class_ 94), (0, u "java/util/AbstractList$RandomAccessSubList"), (3, .class_ 99), (0, u "java/util/AbstractList$SubList"), (33, .class_ 134), (0, u "java/util/List"), (73, .class_ 209), (0, u "java/util/AbstractList$SubList$1"), (0, .class_ 211), (0, u "java/util/AbstractList$RandomAccessSpliterator")] 6

def k17c0 : Code := { maxStack := 2, maxLocals := 1, code := jdk_39_method_1_code, exceptionTable := #[], attributes := #[] }
def k17m0 : Method := { name := "<init>", desc := "()V", sig := { parameters := [], returnType := none }, accessFlags := 4, code := some k17c0 }
/-- java/util/AbstractList -/
def k17 : Class := { plain "java/util/AbstractList" (some 14) with
  accessFlags := 1057
  interfaces := #[16]
  cf := some (fileOf pool17 8 #[.nestMembers #[93, 98, 208, 210, 82, 77]] #[{ accessFlags := 4, nameIndex := 5, descriptorIndex := 6, attributes := #[] }] 1057 2 #[133] #[{ accessFlags := 132, nameIndex := 11, descriptorIndex := 12, attributes := #[] }])
  fields := #[{ name := "modCount", type := .int, accessFlags := 132, slot := 0, constantValue := 0 }]
  methods := #[k17m0]
  instanceTypes := #[.int]
  staticTypes := #[]
  resolved := Array.replicate 218 none
  statics := none }

def pool18 : Array CpInfo := pool [(1, .class_ 2), (0, u "java/util/RandomAccess"), (0, .class_ 4), (0, u "java/lang/Object")] 2

/-- java/util/RandomAccess -/
def k18 : Class := { plain "java/util/RandomAccess" (some 0) with
  accessFlags := 1537
  interfaces := #[]
  cf := some (fileOf pool18 1 #[] #[] 1537 3 #[] #[])
  fields := #[]
  methods := #[]
  instanceTypes := #[]
  staticTypes := #[]
  resolved := Array.replicate 7 none
  statics := none }

def pool19 : Array CpInfo := pool [(1, .class_ 2), (0, u "java/lang/Cloneable"), (0, .class_ 4), (0, u "java/lang/Object")] 2

/-- java/lang/Cloneable -/
def k19 : Class := { plain "java/lang/Cloneable" (some 0) with
  accessFlags := 1537
  interfaces := #[]
  cf := some (fileOf pool19 1 #[] #[] 1537 3 #[] #[])
  fields := #[]
  methods := #[]
  instanceTypes := #[]
  staticTypes := #[]
  resolved := Array.replicate 7 none
  statics := none }

def pool20 : Array CpInfo := pool [(1, .methodref 2 3), (0, .class_ 4), (0, .nameAndType 5 6), (0, u "java/util/AbstractList"), (0, u "<init>"), (0, u "()V"), (0, .class_ 8), (0, u "java/lang/Object"), (0, .fieldref 10 11), (0, .class_ 12), (0, .nameAndType 13 14), (0, u "java/util/ArrayList"), (0, u "elementData"), (0, u "[Ljava/lang/Object;"), (2, u "EMPTY_ELEMENTDATA"), (21, .fieldref 10 40), (0, .nameAndType 41 14), (0, u "DEFAULTCAPACITY_EMPTY_ELEMENTDATA"), (0, .interfaceMethodref 43 44), (0, .class_ 45), (0, .nameAndType 46 47), (0, u "java/util/Collection"), (0, u "toArray"), (0, u "()[Ljava/lang/Object;"), (0, .fieldref 10 49), (0, .nameAndType 50 51), (0, u "size"), (0, u "I"), (6, .class_ 60), (1, u "java/util/Arrays"), (0, u "copyOf"), (1, .fieldref 10 64), (0, .nameAndType 65 51), (0, u "modCount"), (0, .methodref 58 67), (0, .nameAndType 61 68), (0, u "([Ljava/lang/Object;I)[Ljava/lang/Object;"), (0, .methodref 10 70), (0, .nameAndType 71 72), (0, u "grow"), (0, u "(I)[Ljava/lang/Object;"), (6, .methodref 80 81), (0, .class_ 82), (0, .nameAndType 83 84), (0, u "java/lang/Math"), (0, u "max"), (0, u "(II)I"), (11, u "(Ljava/lang/Object;)Z"), (15, .methodref 113 114), (0, .class_ 115), (0, .nameAndType 116 117), (0, u "java/lang/System"), (0, u "arraycopy"), (0, u "(Ljava/lang/Object;ILjava/lang/Object;II)V"), (0, .methodref 119 120), (0, .class_ 121), (0, .nameAndType 122 84), (0, u "java/util/Objects"), (0, u "checkIndex"), (0, .methodref 10 124), (0, .nameAndType 13 125), (0, u "(I)Ljava/lang/Object;"), (3, .methodref 10 130), (0, .nameAndType 71 47), (0, .methodref 10 132), (0, .nameAndType 133 134), (0, u "add"), (0, u "(Ljava/lang/Object;[Ljava/lang/Object;I)V"), (13, .class_ 149), (0, u "java/util/List"), (36, u "()I"), (75, .class_ 263), (0, u "java/util/ArrayList$ListItr"), (3, .class_ 268), (0, u "java/util/ArrayList$Itr"), (7, .class_ 277), (0, u "java/util/ArrayList$SubList"), (12, .class_ 291), (0, u "java/util/ArrayList$ArrayListSpliterator"), (37, .class_ 330), (0, u "java/util/RandomAccess"), (0, .class_ 332), (0, u "java/lang/Cloneable"), (0, .class_ 334), (0, u "java/io/Serializable"), (0, u "serialVersionUID"), (0, u "J"), (3, u "DEFAULT_CAPACITY"), (40, u "get"), (38, u "addAll"), (0, u "(Ljava/util/Collection;)Z"), (78, .class_ 501), (0, u "java/util/ArrayList$SubList$2"), (0, .class_ 503), (0, u "java/util/ArrayList$SubList$1")] 5

def k20c0 : Code := { maxStack := 2, maxLocals := 1, code := jdk_38_method_2_code, exceptionTable := #[], attributes := #[] }
def k20m0 : Method := { name := "<init>", desc := "()V", sig := { parameters := [], returnType := none }, accessFlags := 1, code := some k20c0 }
def k20c1 : Code := { maxStack := 4, maxLocals := 4, code := jdk_38_method_6_code, exceptionTable := #[], attributes := #[] }
def k20m1 : Method := { name := "grow", desc := "(I)[Ljava/lang/Object;", sig := { parameters := [.int], returnType := some (.array (.object "java/lang/Object")) }, accessFlags := 2, code := some k20c1 }
def k20c2 : Code := { maxStack := 3, maxLocals := 1, code := jdk_38_method_7_code, exceptionTable := #[], attributes := #[] }
def k20m2 : Method := { name := "grow", desc := "()[Ljava/lang/Object;", sig := { parameters := [], returnType := some (.array (.object "java/lang/Object")) }, accessFlags := 2, code := some k20c2 }
def k20c3 : Code := { maxStack := 1, maxLocals := 1, code := jdk_38_method_8_code, exceptionTable := #[], attributes := #[] }
def k20m3 : Method := { name := "size", desc := "()I", sig := { parameters := [], returnType := some .int }, accessFlags := 1, code := some k20c3 }
def k20c4 : Code := { maxStack := 2, maxLocals := 1, code := jdk_38_method_16_code, exceptionTable := #[], attributes := #[] }
def k20m4 : Method := { name := "toArray", desc := "()[Ljava/lang/Object;", sig := { parameters := [], returnType := some (.array (.object "java/lang/Object")) }, accessFlags := 1, code := some k20c4 }
def k20c5 : Code := { maxStack := 2, maxLocals := 2, code := jdk_38_method_18_code, exceptionTable := #[], attributes := #[] }
def k20m5 : Method := { name := "elementData", desc := "(I)Ljava/lang/Object;", sig := { parameters := [.int], returnType := some (.object "java/lang/Object") }, accessFlags := 0, code := some k20c5 }
def k20c6 : Code := { maxStack := 2, maxLocals := 2, code := jdk_38_method_20_code, exceptionTable := #[], attributes := #[] }
def k20m6 : Method := { name := "get", desc := "(I)Ljava/lang/Object;", sig := { parameters := [.int], returnType := some (.object "java/lang/Object") }, accessFlags := 1, code := some k20c6 }
def k20c7 : Code := { maxStack := 3, maxLocals := 4, code := jdk_38_method_24_code, exceptionTable := #[], attributes := #[] }
def k20m7 : Method := { name := "add", desc := "(Ljava/lang/Object;[Ljava/lang/Object;I)V", sig := { parameters := [(.object "java/lang/Object"), (.array (.object "java/lang/Object")), .int], returnType := none }, accessFlags := 2, code := some k20c7 }
def k20c8 : Code := { maxStack := 4, maxLocals := 2, code := jdk_38_method_25_code, exceptionTable := #[], attributes := #[] }
def k20m8 : Method := { name := "add", desc := "(Ljava/lang/Object;)Z", sig := { parameters := [(.object "java/lang/Object")], returnType := some .boolean }, accessFlags := 1, code := some k20c8 }
def k20c9 : Code := { maxStack := 5, maxLocals := 6, code := jdk_38_method_41_code, exceptionTable := #[], attributes := #[] }
def k20m9 : Method := { name := "addAll", desc := "(Ljava/util/Collection;)Z", sig := { parameters := [(.object "java/util/Collection")], returnType := some .boolean }, accessFlags := 1, code := some k20c9 }
/-- java/util/ArrayList -/
def k20 : Class := { plain "java/util/ArrayList" (some 17) with
  accessFlags := 33
  interfaces := #[16, 18, 19, 2]
  cf := some (fileOf pool20 10 #[.nestMembers #[290, 276, 500, 502, 262, 267]] #[{ accessFlags := 1, nameIndex := 5, descriptorIndex := 6, attributes := #[] }, { accessFlags := 2, nameIndex := 71, descriptorIndex := 72, attributes := #[] }, { accessFlags := 2, nameIndex := 71, descriptorIndex := 47, attributes := #[] }, { accessFlags := 1, nameIndex := 50, descriptorIndex := 186, attributes := #[] }, { accessFlags := 1, nameIndex := 46, descriptorIndex := 47, attributes := #[] }, { accessFlags := 0, nameIndex := 13, descriptorIndex := 125, attributes := #[] }, { accessFlags := 1, nameIndex := 381, descriptorIndex := 125, attributes := #[] }, { accessFlags := 2, nameIndex := 133, descriptorIndex := 134, attributes := #[] }, { accessFlags := 1, nameIndex := 133, descriptorIndex := 96, attributes := #[] }, { accessFlags := 1, nameIndex := 420, descriptorIndex := 421, attributes := #[] }] 33 2 #[148, 329, 331, 333] #[{ accessFlags := 26, nameIndex := 335, descriptorIndex := 336, attributes := #[] }, { accessFlags := 26, nameIndex := 340, descriptorIndex := 51, attributes := #[] }, { accessFlags := 26, nameIndex := 17, descriptorIndex := 14, attributes := #[] }, { accessFlags := 26, nameIndex := 41, descriptorIndex := 14, attributes := #[] }, { accessFlags := 128, nameIndex := 13, descriptorIndex := 14, attributes := #[] }, { accessFlags := 2, nameIndex := 50, descriptorIndex := 51, attributes := #[] }])
  fields := #[{ name := "serialVersionUID", type := .long, accessFlags := 26, slot := 0, constantValue := 0 }, { name := "DEFAULT_CAPACITY", type := .int, accessFlags := 26, slot := 1, constantValue := 0 }, { name := "EMPTY_ELEMENTDATA", type := (.array (.object "java/lang/Object")), accessFlags := 26, slot := 2, constantValue := 0 }, { name := "DEFAULTCAPACITY_EMPTY_ELEMENTDATA", type := (.array (.object "java/lang/Object")), accessFlags := 26, slot := 3, constantValue := 0 }, { name := "elementData", type := (.array (.object "java/lang/Object")), accessFlags := 128, slot := 1, constantValue := 0 }, { name := "size", type := .int, accessFlags := 2, slot := 2, constantValue := 0 }]
  methods := #[k20m0, k20m1, k20m2, k20m3, k20m4, k20m5, k20m6, k20m7, k20m8, k20m9]
  instanceTypes := #[.int, (.array (.object "java/lang/Object")), .int]
  staticTypes := #[.long, .int, (.array (.object "java/lang/Object")), (.array (.object "java/lang/Object"))]
  resolved := Array.replicate 509 none
  statics := some 2 }

def pool21 : Array CpInfo := pool [(1, .class_ 2), (0, u "java/lang/Math"), (1, .class_ 6), (1, u "java/lang/Object"), (0, u "<init>"), (0, u "()V"), (89, .class_ 100), (1, u "java/lang/Math$RandomNumberGeneratorHolder"), (71, u "negativeZeroFloatBits"), (0, u "J"), (2, u "negativeZeroDoubleBits"), (21, u "max"), (2, u "min"), (43, u "$assertionsDisabled"), (0, u "Z"), (88, u "(II)I"), (2, u "twoToTheDoubleScaleDown"), (0, u "D"), (4, u "twoToTheDoubleScaleUp"), (9, u "E"), (3, u "PI"), (2, u "TAU"), (2, u "DEGREES_TO_RADIANS"), (0, u "RADIANS_TO_DEGREES")] 94

def k21m0 : Method := { name := "<init>", desc := "()V", sig := { parameters := [], returnType := none }, accessFlags := 2, code := none }
def k21c1 : Code := { maxStack := 2, maxLocals := 2, code := jdk_29_method_65_code, exceptionTable := #[], attributes := #[] }
def k21m1 : Method := { name := "max", desc := "(II)I", sig := { parameters := [.int, .int], returnType := some .int }, accessFlags := 9, code := some k21c1 }
def k21c2 : Code := { maxStack := 2, maxLocals := 2, code := jdk_29_method_69_code, exceptionTable := #[], attributes := #[] }
def k21m2 : Method := { name := "min", desc := "(II)I", sig := { parameters := [.int, .int], returnType := some .int }, accessFlags := 9, code := some k21c2 }
/-- java/lang/Math -/
def k21 : Class := { plain "java/lang/Math" (some 0) with
  accessFlags := 49
  interfaces := #[]
  cf := some (fileOf pool21 1 #[.nestMembers #[98]] #[{ accessFlags := 2, nameIndex := 7, descriptorIndex := 8, attributes := #[] }, { accessFlags := 9, nameIndex := 198, descriptorIndex := 335, attributes := #[] }, { accessFlags := 9, nameIndex := 201, descriptorIndex := 335, attributes := #[] }] 49 4 #[] #[{ accessFlags := 25, nameIndex := 354, descriptorIndex := 339, attributes := #[] }, { accessFlags := 25, nameIndex := 358, descriptorIndex := 339, attributes := #[] }, { accessFlags := 25, nameIndex := 361, descriptorIndex := 339, attributes := #[] }, { accessFlags := 26, nameIndex := 364, descriptorIndex := 339, attributes := #[] }, { accessFlags := 26, nameIndex := 365, descriptorIndex := 339, attributes := #[] }, { accessFlags := 26, nameIndex := 172, descriptorIndex := 173, attributes := #[] }, { accessFlags := 26, nameIndex := 176, descriptorIndex := 173, attributes := #[] }, { accessFlags := 8, nameIndex := 344, descriptorIndex := 339, attributes := #[] }, { accessFlags := 8, nameIndex := 338, descriptorIndex := 339, attributes := #[] }, { accessFlags := 4120, nameIndex := 245, descriptorIndex := 246, attributes := #[] }])
  fields := #[{ name := "E", type := .double, accessFlags := 25, slot := 0, constantValue := 0 }, { name := "PI", type := .double, accessFlags := 25, slot := 1, constantValue := 0 }, { name := "TAU", type := .double, accessFlags := 25, slot := 2, constantValue := 0 }, { name := "DEGREES_TO_RADIANS", type := .double, accessFlags := 26, slot := 3, constantValue := 0 }, { name := "RADIANS_TO_DEGREES", type := .double, accessFlags := 26, slot := 4, constantValue := 0 }, { name := "negativeZeroFloatBits", type := .long, accessFlags := 26, slot := 5, constantValue := 0 }, { name := "negativeZeroDoubleBits", type := .long, accessFlags := 26, slot := 6, constantValue := 0 }, { name := "twoToTheDoubleScaleUp", type := .double, accessFlags := 8, slot := 7, constantValue := 0 }, { name := "twoToTheDoubleScaleDown", type := .double, accessFlags := 8, slot := 8, constantValue := 0 }, { name := "$assertionsDisabled", type := .boolean, accessFlags := 4120, slot := 9, constantValue := 0 }]
  methods := #[k21m0, k21m1, k21m2]
  instanceTypes := #[]
  staticTypes := #[.double, .double, .double, .double, .double, .long, .long, .double, .double, .boolean]
  resolved := Array.replicate 460 none
  statics := none }

def pool22 : Array CpInfo := pool [(1, .methodref 2 3), (0, .class_ 4), (0, .nameAndType 5 6), (0, u "java/lang/Object"), (0, u "<init>"), (0, u "()V"), (0, .class_ 8), (0, u "java/util/HashMap"), (0, .methodref 7 3), (0, .fieldref 11 12), (0, .class_ 13), (0, .nameAndType 14 15), (0, u "com/example/crud4/crud4/StatementParameter"), (0, u "bindings"), (0, u "Ljava/util/Map;"), (0, .fieldref 11 17), (0, .nameAndType 18 19), (0, u "statementId"), (0, u "Ljava/lang/String;"), (0, .fieldref 11 21), (0, .nameAndType 22 23), (0, u "parameter"), (0, u "Ljava/lang/Object;"), (103, .class_ 129), (1, u "com/example/crud4/crud4/StatementParameter$KeyTarget"), (50, u "COLLECTION_NAMES"), (0, u "Ljava/util/Set;"), (100, u "BEAN_TYPES"), (0, u "Ljava/lang/ClassValue;"), (11, .class_ 296), (0, u "com/example/crud4/crud4/StatementParameter$1"), (11, u "WHOLE_PARAMETER"), (2, u "ARRAY_NAME"), (1, u "(Ljava/lang/String;Ljava/lang/Object;)V")] 52

def k22c0 : Code := { maxStack := 3, maxLocals := 3, code := prog_40_method_1_code, exceptionTable := #[], attributes := #[] }
def k22m0 : Method := { name := "<init>", desc := "(Ljava/lang/String;Ljava/lang/Object;)V", sig := { parameters := [(.object "java/lang/String"), (.object "java/lang/Object")], returnType := none }, accessFlags := 0, code := some k22c0 }
/-- com/example/crud4/crud4/StatementParameter -/
def k22 : Class := { plain "com/example/crud4/crud4/StatementParameter" (some 0) with
  accessFlags := 48
  interfaces := #[]
  cf := some (fileOf pool22 11 #[.nestMembers #[127, 295]] #[{ accessFlags := 0, nameIndex := 5, descriptorIndex := 313, attributes := #[] }] 48 2 #[] #[{ accessFlags := 26, nameIndex := 282, descriptorIndex := 283, attributes := #[] }, { accessFlags := 26, nameIndex := 308, descriptorIndex := 19, attributes := #[] }, { accessFlags := 26, nameIndex := 180, descriptorIndex := 181, attributes := #[] }, { accessFlags := 26, nameIndex := 311, descriptorIndex := 19, attributes := #[] }, { accessFlags := 18, nameIndex := 18, descriptorIndex := 19, attributes := #[] }, { accessFlags := 18, nameIndex := 22, descriptorIndex := 23, attributes := #[] }, { accessFlags := 18, nameIndex := 14, descriptorIndex := 15, attributes := #[] }])
  fields := #[{ name := "BEAN_TYPES", type := (.object "java/lang/ClassValue"), accessFlags := 26, slot := 0, constantValue := 0 }, { name := "WHOLE_PARAMETER", type := (.object "java/lang/String"), accessFlags := 26, slot := 1, constantValue := 0 }, { name := "COLLECTION_NAMES", type := (.object "java/util/Set"), accessFlags := 26, slot := 2, constantValue := 0 }, { name := "ARRAY_NAME", type := (.object "java/lang/String"), accessFlags := 26, slot := 3, constantValue := 0 }, { name := "statementId", type := (.object "java/lang/String"), accessFlags := 18, slot := 0, constantValue := 0 }, { name := "parameter", type := (.object "java/lang/Object"), accessFlags := 18, slot := 1, constantValue := 0 }, { name := "bindings", type := (.object "java/util/Map"), accessFlags := 18, slot := 2, constantValue := 0 }]
  methods := #[k22m0]
  instanceTypes := #[(.object "java/lang/String"), (.object "java/lang/Object"), (.object "java/util/Map")]
  staticTypes := #[(.object "java/lang/ClassValue"), (.object "java/lang/String"), (.object "java/util/Set"), (.object "java/lang/String")]
  resolved := Array.replicate 366 none
  statics := none }

def pool23 : Array CpInfo := pool [(2, .class_ 4), (1, u "java/util/Map"), (31, .class_ 37), (0, u "java/util/Map$Entry"), (55, .class_ 94), (0, u "java/lang/Object")] 168

/-- java/util/Map -/
def k23 : Class := { plain "java/util/Map" (some 0) with
  accessFlags := 1537
  interfaces := #[]
  cf := some (fileOf pool23 2 #[.nestMembers #[36]] #[] 1537 93 #[] #[])
  fields := #[]
  methods := #[]
  instanceTypes := #[]
  staticTypes := #[]
  resolved := Array.replicate 263 none
  statics := none }

def pool24 : Array CpInfo := pool [(1, .methodref 2 3), (0, .class_ 4), (0, .nameAndType 5 6), (0, u "java/lang/Object"), (0, u "<init>"), (0, u "()V"), (1, .class_ 10), (1, u "java/util/AbstractMap"), (42, .class_ 54), (0, u "java/util/Map"), (9, u "keySet"), (0, u "Ljava/util/Set;"), (0, .class_ 67), (0, u "java/util/AbstractMap$1"), (5, u "values"), (0, u "Ljava/util/Collection;"), (0, .class_ 76), (0, u "java/util/AbstractMap$2"), (104, .class_ 182), (0, u "java/util/AbstractMap$ViewCollection"), (0, .class_ 184), (0, u "java/util/AbstractMap$SimpleImmutableEntry"), (0, .class_ 186), (0, u "java/util/AbstractMap$SimpleEntry"), (0, .class_ 188), (0, u "java/util/AbstractMap$2$1"), (0, .class_ 190), (0, u "java/util/AbstractMap$1$1")] 5

def k24c0 : Code := { maxStack := 1, maxLocals := 1, code := jdk_71_method_1_code, exceptionTable := #[], attributes := #[] }
def k24m0 : Method := { name := "<init>", desc := "()V", sig := { parameters := [], returnType := none }, accessFlags := 4, code := some k24c0 }
/-- java/util/AbstractMap -/
def k24 : Class := { plain "java/util/AbstractMap" (some 0) with
  accessFlags := 1057
  interfaces := #[23]
  cf := some (fileOf pool24 8 #[.nestMembers #[181, 183, 185, 75, 187, 66, 189]] #[{ accessFlags := 4, nameIndex := 5, descriptorIndex := 6, attributes := #[] }] 1057 2 #[53] #[{ accessFlags := 128, nameIndex := 64, descriptorIndex := 65, attributes := #[] }, { accessFlags := 128, nameIndex := 73, descriptorIndex := 74, attributes := #[] }])
  fields := #[{ name := "keySet", type := (.object "java/util/Set"), accessFlags := 128, slot := 0, constantValue := 0 }, { name := "values", type := (.object "java/util/Collection"), accessFlags := 128, slot := 1, constantValue := 0 }]
  methods := #[k24m0]
  instanceTypes := #[(.object "java/util/Set"), (.object "java/util/Collection")]
  staticTypes := #[]
  resolved := Array.replicate 196 none
  statics := none }

def pool25 : Array CpInfo := pool [(40, .class_ 41), (0, u "java/util/HashMap"), (1, .methodref 44 45), (0, .class_ 46), (0, .nameAndType 47 48), (0, u "java/util/AbstractMap"), (0, u "<init>"), (0, u "()V"), (32, .fieldref 40 82), (0, .nameAndType 83 84), (0, u "loadFactor"), (0, u "F"), (5, u "threshold"), (0, u "I"), (0, .float 1061158912), (8, .class_ 103), (1, u "java/util/Map"), (0, u "size"), (2, u "table"), (0, u "[Ljava/util/HashMap$Node;"), (14, u "entrySet"), (39, .class_ 165), (1, u "java/util/HashMap$Node"), (14, .class_ 181), (0, u "java/util/HashMap$TreeNode"), (22, u "modCount"), (37, u "Ljava/util/Set;"), (0, .class_ 244), (0, u "java/util/HashMap$KeySet"), (18, .class_ 264), (0, u "java/util/HashMap$Values"), (3, .class_ 269), (0, u "java/util/HashMap$EntrySet"), (76, .class_ 348), (1, u "java/util/HashMap$UnsafeHolder"), (43, .class_ 393), (0, u "java/lang/Cloneable"), (0, .class_ 395), (0, u "java/io/Serializable"), (0, u "serialVersionUID"), (0, u "J"), (3, u "DEFAULT_INITIAL_CAPACITY"), (1, u "MAXIMUM_CAPACITY"), (0, u "DEFAULT_LOAD_FACTOR"), (0, u "TREEIFY_THRESHOLD"), (1, u "UNTREEIFY_THRESHOLD"), (1, u "MIN_TREEIFY_CAPACITY"), (186, .class_ 597), (0, u "java/util/HashMap$EntrySpliterator"), (0, .class_ 599), (0, u "java/util/HashMap$ValueSpliterator"), (0, .class_ 601), (0, u "java/util/HashMap$KeySpliterator"), (0, .class_ 603), (0, u "java/util/HashMap$HashMapSpliterator"), (0, .class_ 605), (0, u "java/util/HashMap$EntryIterator"), (0, .class_ 607), (0, u "java/util/HashMap$ValueIterator"), (0, .class_ 609), (0, u "java/util/HashMap$KeyIterator"), (0, .class_ 611), (0, u "java/util/HashMap$HashIterator")] 17

def k25c0 : Code := { maxStack := 2, maxLocals := 1, code := jdk_69_method_7_code, exceptionTable := #[], attributes := #[] }
def k25m0 : Method := { name := "<init>", desc := "()V", sig := { parameters := [], returnType := none }, accessFlags := 1, code := some k25c0 }
/-- java/util/HashMap -/
def k25 : Class := { plain "java/util/HashMap" (some 24) with
  accessFlags := 33
  interfaces := #[23, 19, 2]
  cf := some (fileOf pool25 40 #[.nestMembers #[180, 596, 598, 600, 602, 604, 606, 608, 610, 346, 268, 263, 243, 163]] #[{ accessFlags := 1, nameIndex := 47, descriptorIndex := 48, attributes := #[] }] 33 44 #[101, 392, 394] #[{ accessFlags := 26, nameIndex := 396, descriptorIndex := 397, attributes := #[] }, { accessFlags := 24, nameIndex := 401, descriptorIndex := 91, attributes := #[] }, { accessFlags := 24, nameIndex := 403, descriptorIndex := 91, attributes := #[] }, { accessFlags := 24, nameIndex := 404, descriptorIndex := 84, attributes := #[] }, { accessFlags := 24, nameIndex := 405, descriptorIndex := 91, attributes := #[] }, { accessFlags := 24, nameIndex := 407, descriptorIndex := 91, attributes := #[] }, { accessFlags := 24, nameIndex := 409, descriptorIndex := 91, attributes := #[] }, { accessFlags := 128, nameIndex := 107, descriptorIndex := 108, attributes := #[] }, { accessFlags := 128, nameIndex := 123, descriptorIndex := 242, attributes := #[] }, { accessFlags := 128, nameIndex := 104, descriptorIndex := 91, attributes := #[] }, { accessFlags := 128, nameIndex := 204, descriptorIndex := 91, attributes := #[] }, { accessFlags := 0, nameIndex := 90, descriptorIndex := 91, attributes := #[] }, { accessFlags := 16, nameIndex := 83, descriptorIndex := 84, attributes := #[] }])
  fields := #[{ name := "serialVersionUID", type := .long, accessFlags := 26, slot := 0, constantValue := 0 }, { name := "DEFAULT_INITIAL_CAPACITY", type := .int, accessFlags := 24, slot := 1, constantValue := 0 }, { name := "MAXIMUM_CAPACITY", type := .int, accessFlags := 24, slot := 2, constantValue := 0 }, { name := "DEFAULT_LOAD_FACTOR", type := .float, accessFlags := 24, slot := 3, constantValue := 0 }, { name := "TREEIFY_THRESHOLD", type := .int, accessFlags := 24, slot := 4, constantValue := 0 }, { name := "UNTREEIFY_THRESHOLD", type := .int, accessFlags := 24, slot := 5, constantValue := 0 }, { name := "MIN_TREEIFY_CAPACITY", type := .int, accessFlags := 24, slot := 6, constantValue := 0 }, { name := "table", type := (.array (.object "java/util/HashMap$Node")), accessFlags := 128, slot := 2, constantValue := 0 }, { name := "entrySet", type := (.object "java/util/Set"), accessFlags := 128, slot := 3, constantValue := 0 }, { name := "size", type := .int, accessFlags := 128, slot := 4, constantValue := 0 }, { name := "modCount", type := .int, accessFlags := 128, slot := 5, constantValue := 0 }, { name := "threshold", type := .int, accessFlags := 0, slot := 6, constantValue := 0 }, { name := "loadFactor", type := .float, accessFlags := 16, slot := 7, constantValue := 0 }]
  methods := #[k25m0]
  instanceTypes := #[(.object "java/util/Set"), (.object "java/util/Collection"), (.array (.object "java/util/HashMap$Node")), (.object "java/util/Set"), .int, .int, .int, .float]
  staticTypes := #[.long, .int, .int, .float, .int, .int, .int]
  resolved := Array.replicate 629 none
  statics := none }

def pool26 : Array CpInfo := pool [(1, .methodref 2 3), (0, .class_ 4), (0, .nameAndType 5 6), (0, u "java/lang/Object"), (0, u "<init>"), (0, u "()V"), (0, .class_ 8), (0, u "java/lang/StringBuilder"), (0, .methodref 7 3), (0, .fieldref 11 12), (0, .class_ 13), (0, .nameAndType 14 15), (0, u "com/example/crud4/crud4/SqlBuilder"), (0, u "text"), (0, u "Ljava/lang/StringBuilder;"), (0, .class_ 17), (0, u "java/util/ArrayList"), (0, .methodref 16 3), (0, .fieldref 11 20), (0, .nameAndType 21 22), (0, u "placeholders"), (0, u "Ljava/util/List;"), (0, .fieldref 11 24), (0, .nameAndType 25 22), (0, u "values"), (0, .fieldref 11 27), (0, .nameAndType 28 29), (0, u "parameter"), (0, u "Lcom/example/crud4/crud4/StatementParameter;"), (0, .methodref 11 31), (0, .nameAndType 5 32), (0, u "(Lcom/example/crud4/crud4/StatementParameter;)V"), (1, .class_ 36), (1, u "java/util/List"), (7, u "()Z"), (17, u "add"), (0, u "(Ljava/lang/String;Ljava/util/List;Ljava/util/List;)V"), (0, .methodref 7 65), (0, .nameAndType 66 67), (0, u "length"), (0, u "()I"), (0, .methodref 69 70), (0, .class_ 71), (0, .nameAndType 72 44), (0, u "java/lang/String"), (0, u "isEmpty"), (13, u "append"), (1, .methodref 7 89), (0, .nameAndType 86 90), (0, u "(Ljava/lang/String;)Ljava/lang/StringBuilder;"), (0, .interfaceMethodref 34 92), (0, .nameAndType 93 94), (0, u "addAll"), (0, u "(Ljava/util/Collection;)Z"), (0, .methodref 7 96), (0, .nameAndType 97 98), (0, u "toString"), (0, u "()Ljava/lang/String;"), (15, u "()Lcom/example/crud4/crud4/StatementParameter;"), (0, u "nested"), (0, u "()Lcom/example/crud4/crud4/SqlBuilder;"), (5, u "()Ljava/util/List;")] 10

def k26c0 : Code := { maxStack := 3, maxLocals := 2, code := prog_24_method_1_code, exceptionTable := #[], attributes := #[] }
def k26m0 : Method := { name := "<init>", desc := "(Lcom/example/crud4/crud4/StatementParameter;)V", sig := { parameters := [(.object "com/example/crud4/crud4/StatementParameter")], returnType := none }, accessFlags := 0, code := some k26c0 }
def k26c1 : Code := { maxStack := 1, maxLocals := 1, code := prog_24_method_2_code, exceptionTable := #[], attributes := #[] }
def k26m1 : Method := { name := "parameter", desc := "()Lcom/example/crud4/crud4/StatementParameter;", sig := { parameters := [], returnType := some (.object "com/example/crud4/crud4/StatementParameter") }, accessFlags := 0, code := some k26c1 }
def k26c2 : Code := { maxStack := 3, maxLocals := 1, code := prog_24_method_3_code, exceptionTable := #[], attributes := #[] }
def k26m2 : Method := { name := "nested", desc := "()Lcom/example/crud4/crud4/SqlBuilder;", sig := { parameters := [], returnType := some (.object "com/example/crud4/crud4/SqlBuilder") }, accessFlags := 0, code := some k26c2 }
def k26c3 : Code := { maxStack := 3, maxLocals := 5, code := prog_24_method_6_code, exceptionTable := #[], attributes := #[] }
def k26m3 : Method := { name := "add", desc := "(Ljava/lang/String;Ljava/util/List;Ljava/util/List;)V", sig := { parameters := [(.object "java/lang/String"), (.object "java/util/List"), (.object "java/util/List")], returnType := none }, accessFlags := 0, code := some k26c3 }
def k26c4 : Code := { maxStack := 1, maxLocals := 1, code := prog_24_method_7_code, exceptionTable := #[], attributes := #[] }
def k26m4 : Method := { name := "text", desc := "()Ljava/lang/String;", sig := { parameters := [], returnType := some (.object "java/lang/String") }, accessFlags := 0, code := some k26c4 }
def k26c5 : Code := { maxStack := 1, maxLocals := 1, code := prog_24_method_8_code, exceptionTable := #[], attributes := #[] }
def k26m5 : Method := { name := "placeholders", desc := "()Ljava/util/List;", sig := { parameters := [], returnType := some (.object "java/util/List") }, accessFlags := 0, code := some k26c5 }
def k26c6 : Code := { maxStack := 1, maxLocals := 1, code := prog_24_method_9_code, exceptionTable := #[], attributes := #[] }
def k26m6 : Method := { name := "values", desc := "()Ljava/util/List;", sig := { parameters := [], returnType := some (.object "java/util/List") }, accessFlags := 0, code := some k26c6 }
/-- com/example/crud4/crud4/SqlBuilder -/
def k26 : Class := { plain "com/example/crud4/crud4/SqlBuilder" (some 0) with
  accessFlags := 48
  interfaces := #[]
  cf := some (fileOf pool26 11 #[] #[{ accessFlags := 0, nameIndex := 5, descriptorIndex := 32, attributes := #[] }, { accessFlags := 0, nameIndex := 28, descriptorIndex := 114, attributes := #[] }, { accessFlags := 0, nameIndex := 115, descriptorIndex := 116, attributes := #[] }, { accessFlags := 0, nameIndex := 62, descriptorIndex := 63, attributes := #[] }, { accessFlags := 0, nameIndex := 14, descriptorIndex := 98, attributes := #[] }, { accessFlags := 0, nameIndex := 21, descriptorIndex := 122, attributes := #[] }, { accessFlags := 0, nameIndex := 25, descriptorIndex := 122, attributes := #[] }] 48 2 #[] #[{ accessFlags := 18, nameIndex := 28, descriptorIndex := 29, attributes := #[] }, { accessFlags := 18, nameIndex := 14, descriptorIndex := 15, attributes := #[] }, { accessFlags := 18, nameIndex := 21, descriptorIndex := 22, attributes := #[] }, { accessFlags := 18, nameIndex := 25, descriptorIndex := 22, attributes := #[] }])
  fields := #[{ name := "parameter", type := (.object "com/example/crud4/crud4/StatementParameter"), accessFlags := 18, slot := 0, constantValue := 0 }, { name := "text", type := (.object "java/lang/StringBuilder"), accessFlags := 18, slot := 1, constantValue := 0 }, { name := "placeholders", type := (.object "java/util/List"), accessFlags := 18, slot := 2, constantValue := 0 }, { name := "values", type := (.object "java/util/List"), accessFlags := 18, slot := 3, constantValue := 0 }]
  methods := #[k26m0, k26m1, k26m2, k26m3, k26m4, k26m5, k26m6]
  instanceTypes := #[(.object "com/example/crud4/crud4/StatementParameter"), (.object "java/lang/StringBuilder"), (.object "java/util/List"), (.object "java/util/List")]
  staticTypes := #[]
  resolved := Array.replicate 133 none
  statics := none }

def pool27 : Array CpInfo := pool [(1, .class_ 2), (0, u "java/lang/Appendable"), (0, .class_ 4), (0, u "java/lang/Object")] 9

/-- java/lang/Appendable -/
def k27 : Class := { plain "java/lang/Appendable" (some 0) with
  accessFlags := 1537
  interfaces := #[]
  cf := some (fileOf pool27 1 #[] #[] 1537 3 #[] #[])
  fields := #[]
  methods := #[]
  instanceTypes := #[]
  staticTypes := #[]
  resolved := Array.replicate 14 none
  statics := none }

def pool28 : Array CpInfo := pool [(1, .class_ 2), (0, u "java/lang/String"), (0, .methodref 4 5), (0, .class_ 6), (0, .nameAndType 7 8), (0, u "java/lang/Object"), (0, u "<init>"), (0, u "()V"), (1, .class_ 12), (1, u "java/lang/AbstractStringBuilder"), (0, u "EMPTYVALUE"), (0, u "[B"), (0, .fieldref 10 16), (0, .nameAndType 17 14), (0, u "value"), (0, .fieldref 1 19), (0, .nameAndType 20 21), (0, u "COMPACT_STRINGS"), (0, u "Z"), (0, .fieldref 10 23), (0, .nameAndType 24 25), (0, u "coder"), (0, u "B"), (6, .methodref 1 33), (0, .nameAndType 34 35), (0, u "length"), (0, u "()I"), (4, .methodref 1 41), (0, .nameAndType 24 42), (0, u "()B"), (2, u "append"), (0, u "(Ljava/lang/String;)Ljava/lang/AbstractStringBuilder;"), (1, .class_ 49), (0, u "java/lang/CharSequence"), (19, u "(Ljava/lang/String;)V"), (5, u "maybeLatin1"), (3, .fieldref 10 80), (0, .nameAndType 81 82), (0, u "count"), (0, u "I"), (2, u "isLatin1"), (0, u "()Z"), (13, .methodref 10 101), (0, .nameAndType 102 103), (0, u "ensureCapacityInternal"), (0, u "(I)V"), (104, .methodref 10 209), (0, .nameAndType 210 211), (0, u "putStringAt"), (0, u "(ILjava/lang/String;)V"), (5, u "inflateIfNeededFor"), (2, .nameAndType 221 222), (0, u "getBytes"), (0, u "([BIB)V"), (174, .methodref 10 398), (0, .nameAndType 217 69), (0, .methodref 1 220), (3, u "()[B"), (40, .class_ 445), (0, u "java/lang/Appendable"), (106, u "getValue")] 56

def k28m0 : Method := { name := "<init>", desc := "()V", sig := { parameters := [], returnType := none }, accessFlags := 0, code := none }
def k28c1 : Code := { maxStack := 2, maxLocals := 2, code := jdk_68_method_2_code, exceptionTable := #[], attributes := #[] }
def k28m1 : Method := { name := "<init>", desc := "(I)V", sig := { parameters := [.int], returnType := none }, accessFlags := 0, code := some k28c1 }
def k28c2 : Code := { maxStack := 1, maxLocals := 1, code := jdk_68_method_6_code, exceptionTable := #[], attributes := #[] }
def k28m2 : Method := { name := "length", desc := "()I", sig := { parameters := [], returnType := some .int }, accessFlags := 1, code := some k28c2 }
def k28c3 : Code := { maxStack := 4, maxLocals := 3, code := jdk_68_method_9_code, exceptionTable := #[], attributes := #[] }
def k28m3 : Method := { name := "ensureCapacityInternal", desc := "(I)V", sig := { parameters := [.int], returnType := none }, accessFlags := 2, code := some k28c3 }
def k28c4 : Code := { maxStack := 3, maxLocals := 3, code := jdk_68_method_22_code, exceptionTable := #[], attributes := #[] }
def k28m4 : Method := { name := "append", desc := "(Ljava/lang/String;)Ljava/lang/AbstractStringBuilder;", sig := { parameters := [(.object "java/lang/String")], returnType := some (.object "java/lang/AbstractStringBuilder") }, accessFlags := 1, code := some k28c4 }
def k28c5 : Code := { maxStack := 1, maxLocals := 1, code := jdk_68_method_64_code, exceptionTable := #[], attributes := #[] }
def k28m5 : Method := { name := "getValue", desc := "()[B", sig := { parameters := [], returnType := some (.array .byte) }, accessFlags := 16, code := some k28c5 }
def k28c6 : Code := { maxStack := 1, maxLocals := 1, code := jdk_68_method_68_code, exceptionTable := #[], attributes := #[] }
def k28m6 : Method := { name := "isLatin1", desc := "()Z", sig := { parameters := [], returnType := some .boolean }, accessFlags := 16, code := some k28c6 }
def k28c7 : Code := { maxStack := 2, maxLocals := 2, code := jdk_68_method_71_code, exceptionTable := #[], attributes := #[] }
def k28m7 : Method := { name := "inflateIfNeededFor", desc := "(Ljava/lang/String;)V", sig := { parameters := [(.object "java/lang/String")], returnType := none }, accessFlags := 2, code := some k28c7 }
def k28c8 : Code := { maxStack := 4, maxLocals := 3, code := jdk_68_method_73_code, exceptionTable := #[], attributes := #[] }
def k28m8 : Method := { name := "putStringAt", desc := "(ILjava/lang/String;)V", sig := { parameters := [.int, (.object "java/lang/String")], returnType := none }, accessFlags := 2, code := some k28c8 }
/-- java/lang/AbstractStringBuilder -/
def k28 : Class := { plain "java/lang/AbstractStringBuilder" (some 0) with
  accessFlags := 1056
  interfaces := #[27, 9]
  cf := some (fileOf pool28 10 #[] #[{ accessFlags := 0, nameIndex := 7, descriptorIndex := 8, attributes := #[] }, { accessFlags := 0, nameIndex := 7, descriptorIndex := 103, attributes := #[] }, { accessFlags := 1, nameIndex := 34, descriptorIndex := 35, attributes := #[] }, { accessFlags := 2, nameIndex := 102, descriptorIndex := 103, attributes := #[] }, { accessFlags := 1, nameIndex := 45, descriptorIndex := 46, attributes := #[] }, { accessFlags := 16, nameIndex := 552, descriptorIndex := 403, attributes := #[] }, { accessFlags := 16, nameIndex := 85, descriptorIndex := 86, attributes := #[] }, { accessFlags := 2, nameIndex := 217, descriptorIndex := 69, attributes := #[] }, { accessFlags := 2, nameIndex := 210, descriptorIndex := 211, attributes := #[] }] 1056 4 #[444, 48] #[{ accessFlags := 0, nameIndex := 17, descriptorIndex := 14, attributes := #[] }, { accessFlags := 0, nameIndex := 24, descriptorIndex := 25, attributes := #[] }, { accessFlags := 0, nameIndex := 75, descriptorIndex := 21, attributes := #[] }, { accessFlags := 0, nameIndex := 81, descriptorIndex := 82, attributes := #[] }, { accessFlags := 26, nameIndex := 13, descriptorIndex := 14, attributes := #[] }])
  fields := #[{ name := "value", type := (.array .byte), accessFlags := 0, slot := 0, constantValue := 0 }, { name := "coder", type := .byte, accessFlags := 0, slot := 1, constantValue := 0 }, { name := "maybeLatin1", type := .boolean, accessFlags := 0, slot := 2, constantValue := 0 }, { name := "count", type := .int, accessFlags := 0, slot := 3, constantValue := 0 }, { name := "EMPTYVALUE", type := (.array .byte), accessFlags := 26, slot := 0, constantValue := 0 }]
  methods := #[k28m0, k28m1, k28m2, k28m3, k28m4, k28m5, k28m6, k28m7, k28m8]
  instanceTypes := #[(.array .byte), .byte, .boolean, .int]
  staticTypes := #[(.array .byte)]
  resolved := Array.replicate 609 none
  statics := none }

def pool29 : Array CpInfo := pool [(1, .methodref 2 3), (0, .class_ 4), (0, .nameAndType 5 6), (0, u "java/lang/AbstractStringBuilder"), (0, u "<init>"), (0, u "(I)V"), (11, .class_ 20), (1, u "java/lang/String"), (3, .class_ 26), (1, u "java/lang/StringBuilder"), (0, u "append"), (0, u "(Ljava/lang/String;)Ljava/lang/StringBuilder;"), (0, .methodref 2 30), (0, .nameAndType 27 31), (0, u "(Ljava/lang/String;)Ljava/lang/AbstractStringBuilder;"), (105, .methodref 18 138), (0, .nameAndType 5 139), (0, u "(Ljava/lang/StringBuilder;)V"), (5, u "()V"), (10, u "()I"), (186, .methodref 2 344), (0, .nameAndType 345 156), (0, u "length"), (3, .class_ 350), (0, u "java/lang/Appendable"), (0, .class_ 352), (0, u "java/io/Serializable"), (0, .class_ 354), (0, u "java/lang/Comparable"), (0, .class_ 356), (0, u "java/lang/CharSequence"), (0, u "serialVersionUID"), (0, u "J"), (40, u "toString"), (0, u "()Ljava/lang/String;")] 21

def k29c0 : Code := { maxStack := 2, maxLocals := 1, code := jdk_67_method_1_code, exceptionTable := #[], attributes := #[] }
def k29m0 : Method := { name := "<init>", desc := "()V", sig := { parameters := [], returnType := none }, accessFlags := 1, code := some k29c0 }
def k29c1 : Code := { maxStack := 2, maxLocals := 2, code := jdk_67_method_7_code, exceptionTable := #[], attributes := #[] }
def k29m1 : Method := { name := "append", desc := "(Ljava/lang/String;)Ljava/lang/StringBuilder;", sig := { parameters := [(.object "java/lang/String")], returnType := some (.object "java/lang/StringBuilder") }, accessFlags := 1, code := some k29c1 }
def k29c2 : Code := { maxStack := 3, maxLocals := 1, code := jdk_67_method_42_code, exceptionTable := #[], attributes := #[] }
def k29m2 : Method := { name := "toString", desc := "()Ljava/lang/String;", sig := { parameters := [], returnType := some (.object "java/lang/String") }, accessFlags := 1, code := some k29c2 }
def k29c3 : Code := { maxStack := 1, maxLocals := 1, code := jdk_67_method_93_code, exceptionTable := #[], attributes := #[] }
def k29m3 : Method := { name := "length", desc := "()I", sig := { parameters := [], returnType := some .int }, accessFlags := 4161, code := some k29c3 }
/-- java/lang/StringBuilder -/
def k29 : Class := { plain "java/lang/StringBuilder" (some 28) with
  accessFlags := 49
  interfaces := #[27, 2, 4, 9]
  cf := some (fileOf pool29 24 #[] #[{ accessFlags := 1, nameIndex := 5, descriptorIndex := 145, attributes := #[] }, { accessFlags := 1, nameIndex := 27, descriptorIndex := 28, attributes := #[] }, { accessFlags := 1, nameIndex := 399, descriptorIndex := 400, attributes := #[] }, { accessFlags := 4161, nameIndex := 345, descriptorIndex := 156, attributes := #[] }] 49 2 #[349, 351, 353, 355] #[{ accessFlags := 24, nameIndex := 357, descriptorIndex := 358, attributes := #[] }])
  fields := #[{ name := "serialVersionUID", type := .long, accessFlags := 24, slot := 0, constantValue := 0 }]
  methods := #[k29m0, k29m1, k29m2, k29m3]
  instanceTypes := #[(.array .byte), .byte, .boolean, .int]
  staticTypes := #[.long]
  resolved := Array.replicate 422 none
  statics := none }

def pool30 : Array CpInfo := pool [(2, .class_ 4), (1, u "java/lang/Object"), (0, u "<init>"), (0, u "()V"), (7, .class_ 16), (1, u "java/util/Arrays"), (57, .class_ 76), (1, u "java/util/Arrays$NaturalOrder"), (9, .methodref 2 87), (0, .nameAndType 88 89), (0, u "getClass"), (0, u "()Ljava/lang/Class;"), (20, .class_ 111), (0, u "[Ljava/lang/Object;"), (1, .class_ 115), (1, u "java/util/Arrays$LegacyMergeSort"), (1, u "Z"), (21, u "copyOfRange"), (10, .methodref 151 152), (0, .class_ 153), (0, .nameAndType 154 155), (0, u "java/lang/System"), (0, u "arraycopy"), (0, u "(Ljava/lang/Object;ILjava/lang/Object;II)V"), (144, .methodref 14 301), (0, .nameAndType 302 303), (0, u "copyOf"), (0, u "([Ljava/lang/Object;ILjava/lang/Class;)[Ljava/lang/Object;"), (0, .methodref 305 306), (0, .class_ 307), (0, .nameAndType 308 309), (0, u "java/lang/Math"), (0, u "min"), (0, u "(II)I"), (29, .methodref 14 340), (0, .nameAndType 341 342), (0, u "copyOfRangeByte"), (0, u "([BII)[B"), (0, .methodref 14 344), (0, .nameAndType 345 346), (0, u "checkLength"), (0, u "(II)V"), (28, .class_ 376), (0, u "java/util/Arrays$ArrayList"), (68, u "$assertionsDisabled"), (269, u "MIN_ARRAY_SORT_GRAN"), (0, u "I"), (2, u "INSERTIONSORT_THRESHOLD"), (140, u "([Ljava/lang/Object;I)[Ljava/lang/Object;"), (114, .class_ 976), (0, u "java/util/Arrays$ArrayItr")] 52

def k30m0 : Method := { name := "<init>", desc := "()V", sig := { parameters := [], returnType := none }, accessFlags := 2, code := none }
def k30c1 : Code := { maxStack := 3, maxLocals := 2, code := jdk_65_method_119_code, exceptionTable := #[], attributes := #[] }
def k30m1 : Method := { name := "copyOf", desc := "([Ljava/lang/Object;I)[Ljava/lang/Object;", sig := { parameters := [(.array (.object "java/lang/Object")), .int], returnType := some (.array (.object "java/lang/Object")) }, accessFlags := 9, code := some k30c1 }
def k30c2 : Code := { maxStack := 6, maxLocals := 4, code := jdk_65_method_120_code, exceptionTable := #[], attributes := #[] }
def k30m2 : Method := { name := "copyOf", desc := "([Ljava/lang/Object;ILjava/lang/Class;)[Ljava/lang/Object;", sig := { parameters := [(.array (.object "java/lang/Object")), .int, (.object "java/lang/Class")], returnType := some (.array (.object "java/lang/Object")) }, accessFlags := 9, code := some k30c2 }
def k30c3 : Code := { maxStack := 4, maxLocals := 2, code := jdk_65_method_131_code, exceptionTable := #[], attributes := #[] }
def k30m3 : Method := { name := "checkLength", desc := "(II)V", sig := { parameters := [.int, .int], returnType := none }, accessFlags := 10, code := some k30c3 }
def k30c4 : Code := { maxStack := 3, maxLocals := 3, code := jdk_65_method_132_code, exceptionTable := #[], attributes := #[] }
def k30m4 : Method := { name := "copyOfRange", desc := "([BII)[B", sig := { parameters := [(.array .byte), .int, .int], returnType := some (.array .byte) }, accessFlags := 9, code := some k30c4 }
def k30c5 : Code := { maxStack := 6, maxLocals := 5, code := jdk_65_method_133_code, exceptionTable := #[], attributes := #[] }
def k30m5 : Method := { name := "copyOfRangeByte", desc := "([BII)[B", sig := { parameters := [(.array .byte), .int, .int], returnType := some (.array .byte) }, accessFlags := 10, code := some k30c5 }
/-- java/util/Arrays -/
def k30 : Class := { plain "java/util/Arrays" (some 0) with
  accessFlags := 49
  interfaces := #[]
  cf := some (fileOf pool30 14 #[.nestMembers #[975, 375, 113, 74]] #[{ accessFlags := 2, nameIndex := 5, descriptorIndex := 6, attributes := #[] }, { accessFlags := 9, nameIndex := 302, descriptorIndex := 860, attributes := #[] }, { accessFlags := 9, nameIndex := 302, descriptorIndex := 303, attributes := #[] }, { accessFlags := 10, nameIndex := 345, descriptorIndex := 346, attributes := #[] }, { accessFlags := 9, nameIndex := 139, descriptorIndex := 342, attributes := #[] }, { accessFlags := 10, nameIndex := 341, descriptorIndex := 342, attributes := #[] }] 49 2 #[] #[{ accessFlags := 26, nameIndex := 715, descriptorIndex := 716, attributes := #[] }, { accessFlags := 26, nameIndex := 719, descriptorIndex := 716, attributes := #[] }, { accessFlags := 4120, nameIndex := 445, descriptorIndex := 117, attributes := #[] }])
  fields := #[{ name := "MIN_ARRAY_SORT_GRAN", type := .int, accessFlags := 26, slot := 0, constantValue := 0 }, { name := "INSERTIONSORT_THRESHOLD", type := .int, accessFlags := 26, slot := 1, constantValue := 0 }, { name := "$assertionsDisabled", type := .boolean, accessFlags := 4120, slot := 2, constantValue := 0 }]
  methods := #[k30m0, k30m1, k30m2, k30m3, k30m4, k30m5]
  instanceTypes := #[]
  staticTypes := #[.int, .int, .boolean]
  resolved := Array.replicate 1029 none
  statics := none }

def pool31 : Array CpInfo := pool [(2, .class_ 4), (1, u "java/lang/Object"), (0, u "<init>"), (0, u "()V"), (1, .class_ 10), (1, u "java/lang/System"), (0, u "allowSecurityManager"), (0, u "I"), (16, u "cons"), (0, u "Ljava/io/Console;"), (77, .class_ 110), (1, u "java/lang/System$CallersHolder"), (43, u "initialErrStream"), (0, u "Ljava/io/PrintStream;"), (19, u "security"), (0, u "Ljava/lang/SecurityManager;"), (31, .class_ 209), (0, u "java/lang/System$1"), (7, u "props"), (0, u "Ljava/util/Properties;"), (2, u "lineSeparator"), (0, u "Ljava/lang/String;"), (96, .class_ 321), (1, u "java/lang/System$LoggerFinder"), (5, .class_ 328), (0, u "java/lang/System$Logger"), (67, u "err"), (2, u "out"), (91, u "notSupportedJnuEncoding"), (15, u "in"), (17, u "initialIn"), (0, u "Ljava/io/InputStream;"), (35, u "bootLayer"), (0, u "Ljava/lang/ModuleLayer;"), (99, .class_ 664), (0, u "java/lang/System$2"), (9, u "NEVER"), (2, u "MAYBE"), (49, u "arraycopy"), (0, u "(Ljava/lang/Object;ILjava/lang/Object;II)V"), (72, .class_ 802), (0, u "java/lang/System$Logger$Level")] 31

def k31m0 : Method := { name := "<init>", desc := "()V", sig := { parameters := [], returnType := none }, accessFlags := 2, code := none }
def k31m1 : Method := { name := "arraycopy", desc := "(Ljava/lang/Object;ILjava/lang/Object;II)V", sig := { parameters := [(.object "java/lang/Object"), .int, (.object "java/lang/Object"), .int, .int], returnType := none }, accessFlags := 265, code := none }
/-- java/lang/System -/
def k31 : Class := { plain "java/lang/System" (some 0) with
  accessFlags := 49
  interfaces := #[]
  cf := some (fileOf pool31 8 #[.nestMembers #[319, 327, 801, 108, 663, 208]] #[{ accessFlags := 2, nameIndex := 5, descriptorIndex := 6, attributes := #[] }, { accessFlags := 265, nameIndex := 727, descriptorIndex := 728, attributes := #[] }] 49 2 #[] #[{ accessFlags := 25, nameIndex := 507, descriptorIndex := 526, attributes := #[] }, { accessFlags := 25, nameIndex := 399, descriptorIndex := 155, attributes := #[] }, { accessFlags := 25, nameIndex := 396, descriptorIndex := 155, attributes := #[] }, { accessFlags := 10, nameIndex := 525, descriptorIndex := 526, attributes := #[] }, { accessFlags := 26, nameIndex := 674, descriptorIndex := 12, attributes := #[] }, { accessFlags := 26, nameIndex := 677, descriptorIndex := 12, attributes := #[] }, { accessFlags := 10, nameIndex := 11, descriptorIndex := 12, attributes := #[] }, { accessFlags := 74, nameIndex := 175, descriptorIndex := 176, attributes := #[] }, { accessFlags := 10, nameIndex := 491, descriptorIndex := 222, attributes := #[] }, { accessFlags := 74, nameIndex := 29, descriptorIndex := 30, attributes := #[] }, { accessFlags := 74, nameIndex := 154, descriptorIndex := 155, attributes := #[] }, { accessFlags := 10, nameIndex := 217, descriptorIndex := 218, attributes := #[] }, { accessFlags := 10, nameIndex := 221, descriptorIndex := 222, attributes := #[] }, { accessFlags := 8, nameIndex := 562, descriptorIndex := 563, attributes := #[] }])
  fields := #[{ name := "in", type := (.object "java/io/InputStream"), accessFlags := 25, slot := 0, constantValue := 0 }, { name := "out", type := (.object "java/io/PrintStream"), accessFlags := 25, slot := 1, constantValue := 0 }, { name := "err", type := (.object "java/io/PrintStream"), accessFlags := 25, slot := 2, constantValue := 0 }, { name := "initialIn", type := (.object "java/io/InputStream"), accessFlags := 10, slot := 3, constantValue := 0 }, { name := "NEVER", type := .int, accessFlags := 26, slot := 4, constantValue := 0 }, { name := "MAYBE", type := .int, accessFlags := 26, slot := 5, constantValue := 0 }, { name := "allowSecurityManager", type := .int, accessFlags := 10, slot := 6, constantValue := 0 }, { name := "security", type := (.object "java/lang/SecurityManager"), accessFlags := 74, slot := 7, constantValue := 0 }, { name := "notSupportedJnuEncoding", type := (.object "java/lang/String"), accessFlags := 10, slot := 8, constantValue := 0 }, { name := "cons", type := (.object "java/io/Console"), accessFlags := 74, slot := 9, constantValue := 0 }, { name := "initialErrStream", type := (.object "java/io/PrintStream"), accessFlags := 74, slot := 10, constantValue := 0 }, { name := "props", type := (.object "java/util/Properties"), accessFlags := 10, slot := 11, constantValue := 0 }, { name := "lineSeparator", type := (.object "java/lang/String"), accessFlags := 10, slot := 12, constantValue := 0 }, { name := "bootLayer", type := (.object "java/lang/ModuleLayer"), accessFlags := 8, slot := 13, constantValue := 0 }]
  methods := #[k31m0, k31m1]
  instanceTypes := #[]
  staticTypes := #[(.object "java/io/InputStream"), (.object "java/io/PrintStream"), (.object "java/io/PrintStream"), (.object "java/io/InputStream"), .int, .int, .int, (.object "java/lang/SecurityManager"), (.object "java/lang/String"), (.object "java/io/Console"), (.object "java/io/PrintStream"), (.object "java/util/Properties"), (.object "java/lang/String"), (.object "java/lang/ModuleLayer")]
  resolved := Array.replicate 834 none
  statics := none }

def pool32 : Array CpInfo := pool [(4, .class_ 6), (1, u "java/lang/Object"), (0, u "<init>"), (0, u "()V"), (5, .class_ 16), (1, u "java/lang/StringLatin1"), (104, u "$assertionsDisabled"), (0, u "Z"), (98, .class_ 223), (1, u "java/lang/StringLatin1$LinesSpliterator"), (57, u "equals"), (0, u "([B[B)Z"), (107, .class_ 391), (0, u "java/lang/StringLatin1$CharsSpliterator")] 3

def k32m0 : Method := { name := "<init>", desc := "()V", sig := { parameters := [], returnType := none }, accessFlags := 0, code := none }
def k32c1 : Code := { maxStack := 3, maxLocals := 3, code := jdk_43_method_13_code, exceptionTable := #[], attributes := #[] }
def k32m1 : Method := { name := "equals", desc := "([B[B)Z", sig := { parameters := [(.array .byte), (.array .byte)], returnType := some .boolean }, accessFlags := 9, code := some k32c1 }
/-- java/lang/StringLatin1 -/
def k32 : Class := { plain "java/lang/StringLatin1" (some 0) with
  accessFlags := 48
  interfaces := #[]
  cf := some (fileOf pool32 14 #[.nestMembers #[390, 221]] #[{ accessFlags := 0, nameIndex := 7, descriptorIndex := 8, attributes := #[] }, { accessFlags := 9, nameIndex := 281, descriptorIndex := 282, attributes := #[] }] 48 4 #[] #[{ accessFlags := 4120, nameIndex := 121, descriptorIndex := 122, attributes := #[] }])
  fields := #[{ name := "$assertionsDisabled", type := .boolean, accessFlags := 4120, slot := 0, constantValue := 0 }]
  methods := #[k32m0, k32m1]
  instanceTypes := #[]
  staticTypes := #[.boolean]
  resolved := Array.replicate 395 none
  statics := none }

def pool33 : Array CpInfo := pool [(2, .class_ 4), (1, u "java/lang/Object"), (0, u "<init>"), (0, u "()V"), (35, .class_ 44), (1, u "java/util/Objects"), (60, .methodref 106 107), (0, .class_ 108), (0, .nameAndType 109 110), (0, u "jdk/internal/util/Preconditions"), (0, u "checkIndex"), (0, u "(IILjava/util/function/BiFunction;)I"), (60, u "(II)I")] 12

def k33m0 : Method := { name := "<init>", desc := "()V", sig := { parameters := [], returnType := none }, accessFlags := 2, code := none }
def k33c1 : Code := { maxStack := 3, maxLocals := 2, code := jdk_31_method_17_code, exceptionTable := #[], attributes := #[] }
def k33m1 : Method := { name := "checkIndex", desc := "(II)I", sig := { parameters := [.int, .int], returnType := some .int }, accessFlags := 9, code := some k33c1 }
/-- java/util/Objects -/
def k33 : Class := { plain "java/util/Objects" (some 0) with
  accessFlags := 49
  interfaces := #[]
  cf := some (fileOf pool33 42 #[] #[{ accessFlags := 2, nameIndex := 5, descriptorIndex := 6, attributes := #[] }, { accessFlags := 9, nameIndex := 109, descriptorIndex := 171, attributes := #[] }] 49 2 #[] #[])
  fields := #[]
  methods := #[k33m0, k33m1]
  instanceTypes := #[]
  staticTypes := #[]
  resolved := Array.replicate 184 none
  statics := none }

def pool34 : Array CpInfo := pool [(2, .class_ 4), (1, u "java/lang/Object"), (0, u "<init>"), (0, u "()V"), (17, .class_ 26), (1, u "jdk/internal/util/Preconditions"), (6, u "checkIndex"), (21, .class_ 56), (0, u "jdk/internal/util/Preconditions$4"), (57, .class_ 115), (0, u "jdk/internal/util/Preconditions$1"), (7, u "SIOOBE_FORMATTER"), (0, u "Ljava/util/function/BiFunction;"), (0, .class_ 126), (0, u "jdk/internal/util/Preconditions$2"), (3, u "AIOOBE_FORMATTER"), (0, .class_ 132), (0, u "jdk/internal/util/Preconditions$3"), (3, u "IOOBE_FORMATTER"), (41, u "(IILjava/util/function/BiFunction;)I")] 15

def k34m0 : Method := { name := "<init>", desc := "()V", sig := { parameters := [], returnType := none }, accessFlags := 1, code := none }
def k34c1 : Code := { maxStack := 3, maxLocals := 3, code := jdk_41_method_11_code, exceptionTable := #[], attributes := #[] }
def k34m1 : Method := { name := "checkIndex", desc := "(IILjava/util/function/BiFunction;)I", sig := { parameters := [.int, .int, (.object "java/util/function/BiFunction")], returnType := some .int }, accessFlags := 9, code := some k34c1 }
/-- jdk/internal/util/Preconditions -/
def k34 : Class := { plain "jdk/internal/util/Preconditions" (some 0) with
  accessFlags := 33
  interfaces := #[]
  cf := some (fileOf pool34 24 #[.nestMembers #[55, 131, 125, 114]] #[{ accessFlags := 1, nameIndex := 5, descriptorIndex := 6, attributes := #[] }, { accessFlags := 9, nameIndex := 33, descriptorIndex := 178, attributes := #[] }] 33 2 #[] #[{ accessFlags := 25, nameIndex := 123, descriptorIndex := 124, attributes := #[] }, { accessFlags := 25, nameIndex := 130, descriptorIndex := 124, attributes := #[] }, { accessFlags := 25, nameIndex := 136, descriptorIndex := 124, attributes := #[] }])
  fields := #[{ name := "SIOOBE_FORMATTER", type := (.object "java/util/function/BiFunction"), accessFlags := 25, slot := 0, constantValue := 0 }, { name := "AIOOBE_FORMATTER", type := (.object "java/util/function/BiFunction"), accessFlags := 25, slot := 1, constantValue := 0 }, { name := "IOOBE_FORMATTER", type := (.object "java/util/function/BiFunction"), accessFlags := 25, slot := 2, constantValue := 0 }]
  methods := #[k34m0, k34m1]
  instanceTypes := #[]
  staticTypes := #[(.object "java/util/function/BiFunction"), (.object "java/util/function/BiFunction"), (.object "java/util/function/BiFunction")]
  resolved := Array.replicate 194 none
  statics := some 3 }

def pool35 : Array CpInfo := pool [(9, u "<init>"), (6, .class_ 18), (1, u "java/lang/Object"), (0, u "()V"), (1, .class_ 23), (1, u "jdk/internal/util/ArraysSupport"), (0, u "LOG2_ARRAY_LONG_INDEX_SCALE"), (0, u "I"), (2, u "U"), (0, u "Ljdk/internal/misc/Unsafe;"), (8, u "BIG_ENDIAN"), (0, u "Z"), (8, u "LOG2_BYTE_BIT_SIZE"), (4, u "LOG2_ARRAY_INT_INDEX_SCALE"), (54, u "JLA"), (0, u "Ljdk/internal/access/JavaLangAccess;"), (11, u "LOG2_ARRAY_BOOLEAN_INDEX_SCALE"), (9, u "LOG2_ARRAY_BYTE_INDEX_SCALE"), (5, u "LOG2_ARRAY_CHAR_INDEX_SCALE"), (5, u "LOG2_ARRAY_SHORT_INDEX_SCALE"), (18, u "LOG2_ARRAY_FLOAT_INDEX_SCALE"), (24, u "LOG2_ARRAY_DOUBLE_INDEX_SCALE"), (89, u "T_BOOLEAN"), (2, u "T_CHAR"), (1, u "T_FLOAT"), (1, u "T_DOUBLE"), (1, u "T_BYTE"), (1, u "T_SHORT"), (1, u "T_INT"), (1, u "T_LONG"), (1, u "SOFT_MAX_ARRAY_LENGTH")] 83

def k35m0 : Method := { name := "<init>", desc := "()V", sig := { parameters := [], returnType := none }, accessFlags := 2, code := none }
/-- jdk/internal/util/ArraysSupport -/
def k35 : Class := { plain "jdk/internal/util/ArraysSupport" (some 0) with
  accessFlags := 33
  interfaces := #[]
  cf := some (fileOf pool35 21 #[] #[{ accessFlags := 2, nameIndex := 9, descriptorIndex := 19, attributes := #[] }] 33 16 #[] #[{ accessFlags := 24, nameIndex := 28, descriptorIndex := 29, attributes := #[] }, { accessFlags := 26, nameIndex := 38, descriptorIndex := 39, attributes := #[] }, { accessFlags := 25, nameIndex := 121, descriptorIndex := 25, attributes := #[] }, { accessFlags := 25, nameIndex := 131, descriptorIndex := 25, attributes := #[] }, { accessFlags := 25, nameIndex := 137, descriptorIndex := 25, attributes := #[] }, { accessFlags := 25, nameIndex := 143, descriptorIndex := 25, attributes := #[] }, { accessFlags := 25, nameIndex := 53, descriptorIndex := 25, attributes := #[] }, { accessFlags := 25, nameIndex := 24, descriptorIndex := 25, attributes := #[] }, { accessFlags := 25, nameIndex := 162, descriptorIndex := 25, attributes := #[] }, { accessFlags := 25, nameIndex := 187, descriptorIndex := 25, attributes := #[] }, { accessFlags := 26, nameIndex := 48, descriptorIndex := 25, attributes := #[] }, { accessFlags := 25, nameIndex := 277, descriptorIndex := 25, attributes := #[] }, { accessFlags := 25, nameIndex := 280, descriptorIndex := 25, attributes := #[] }, { accessFlags := 25, nameIndex := 282, descriptorIndex := 25, attributes := #[] }, { accessFlags := 25, nameIndex := 284, descriptorIndex := 25, attributes := #[] }, { accessFlags := 25, nameIndex := 286, descriptorIndex := 25, attributes := #[] }, { accessFlags := 25, nameIndex := 288, descriptorIndex := 25, attributes := #[] }, { accessFlags := 25, nameIndex := 290, descriptorIndex := 25, attributes := #[] }, { accessFlags := 25, nameIndex := 292, descriptorIndex := 25, attributes := #[] }, { accessFlags := 26, nameIndex := 108, descriptorIndex := 109, attributes := #[] }, { accessFlags := 25, nameIndex := 294, descriptorIndex := 25, attributes := #[] }])
  fields := #[{ name := "U", type := (.object "jdk/internal/misc/Unsafe"), accessFlags := 24, slot := 0, constantValue := 0 }, { name := "BIG_ENDIAN", type := .boolean, accessFlags := 26, slot := 1, constantValue := 0 }, { name := "LOG2_ARRAY_BOOLEAN_INDEX_SCALE", type := .int, accessFlags := 25, slot := 2, constantValue := 0 }, { name := "LOG2_ARRAY_BYTE_INDEX_SCALE", type := .int, accessFlags := 25, slot := 3, constantValue := 0 }, { name := "LOG2_ARRAY_CHAR_INDEX_SCALE", type := .int, accessFlags := 25, slot := 4, constantValue := 0 }, { name := "LOG2_ARRAY_SHORT_INDEX_SCALE", type := .int, accessFlags := 25, slot := 5, constantValue := 0 }, { name := "LOG2_ARRAY_INT_INDEX_SCALE", type := .int, accessFlags := 25, slot := 6, constantValue := 0 }, { name := "LOG2_ARRAY_LONG_INDEX_SCALE", type := .int, accessFlags := 25, slot := 7, constantValue := 0 }, { name := "LOG2_ARRAY_FLOAT_INDEX_SCALE", type := .int, accessFlags := 25, slot := 8, constantValue := 0 }, { name := "LOG2_ARRAY_DOUBLE_INDEX_SCALE", type := .int, accessFlags := 25, slot := 9, constantValue := 0 }, { name := "LOG2_BYTE_BIT_SIZE", type := .int, accessFlags := 26, slot := 10, constantValue := 0 }, { name := "T_BOOLEAN", type := .int, accessFlags := 25, slot := 11, constantValue := 0 }, { name := "T_CHAR", type := .int, accessFlags := 25, slot := 12, constantValue := 0 }, { name := "T_FLOAT", type := .int, accessFlags := 25, slot := 13, constantValue := 0 }, { name := "T_DOUBLE", type := .int, accessFlags := 25, slot := 14, constantValue := 0 }, { name := "T_BYTE", type := .int, accessFlags := 25, slot := 15, constantValue := 0 }, { name := "T_SHORT", type := .int, accessFlags := 25, slot := 16, constantValue := 0 }, { name := "T_INT", type := .int, accessFlags := 25, slot := 17, constantValue := 0 }, { name := "T_LONG", type := .int, accessFlags := 25, slot := 18, constantValue := 0 }, { name := "JLA", type := (.object "jdk/internal/access/JavaLangAccess"), accessFlags := 26, slot := 19, constantValue := 0 }, { name := "SOFT_MAX_ARRAY_LENGTH", type := .int, accessFlags := 25, slot := 20, constantValue := 0 }]
  methods := #[k35m0]
  instanceTypes := #[]
  staticTypes := #[(.object "jdk/internal/misc/Unsafe"), .boolean, .int, .int, .int, .int, .int, .int, .int, .int, .int, .int, .int, .int, .int, .int, .int, .int, .int, (.object "jdk/internal/access/JavaLangAccess"), .int]
  resolved := Array.replicate 378 none
  statics := none }

def pool36 : Array CpInfo := pool [(1, u "java/lang/Class"), (0, .class_ 1), (0, u "java/lang/Object"), (0, .class_ 3)] 3

/-- java/lang/Class -/
def k36 : Class := { plain "java/lang/Class" (some 0) with
  accessFlags := 49
  interfaces := #[]
  cf := some (fileOf pool36 2 #[] #[] 49 4 #[] #[])
  fields := #[]
  methods := #[]
  instanceTypes := #[]
  staticTypes := #[]
  resolved := Array.replicate 8 none
  statics := none }

/-- the primitive byte -/
def k37 : Class := { plain "byte" none with kind := .primitive 'B', accessFlags := 0x411 }
/-- [B -/
def k38 : Class := { plain "[B" (some 0) with kind := .array 37 .byte, interfaces := #[19, 2], accessFlags := 1041 }

/-- the primitive char -/
def k39 : Class := { plain "char" none with kind := .primitive 'C', accessFlags := 0x411 }
/-- [C -/
def k40 : Class := { plain "[C" (some 0) with kind := .array 39 .char, interfaces := #[19, 2], accessFlags := 1041 }

/-- the primitive int -/
def k41 : Class := { plain "int" none with kind := .primitive 'I', accessFlags := 0x411 }
/-- [I -/
def k42 : Class := { plain "[I" (some 0) with kind := .array 41 .int, interfaces := #[19, 2], accessFlags := 1041 }

/-- [Ljava/lang/Integer; -/
def k43 : Class := { plain "[Ljava/lang/Integer;" (some 0) with kind := .array 7 (.object "java/lang/Integer"), interfaces := #[19, 2], accessFlags := 1041 }

/-- [Ljava/lang/Object; -/
def k44 : Class := { plain "[Ljava/lang/Object;" (some 0) with kind := .array 0 (.object "java/lang/Object"), interfaces := #[19, 2], accessFlags := 1041, mirror := some 4 }

def heap : Heap := #[{ cls := 8, slots := #[.int 0, .int 127, .ref 5, .null, .int 0], vm := .statics 8 },
  { cls := 10, slots := #[.long 0, .int 1, .null, .int 0, .null, .int 0, .int 0], vm := .statics 10 },
  { cls := 20, slots := #[.long 0, .int 0, .ref 262, .ref 263], vm := .statics 20 },
  { cls := 34, slots := #[.null, .null, .null], vm := .statics 34 },
  { cls := 36, slots := #[], vm := .mirror 44 },
  { cls := 43, slots := #[.ref 6, .ref 7, .ref 8, .ref 9, .ref 10, .ref 11, .ref 12, .ref 13, .ref 14, .ref 15, .ref 16, .ref 17, .ref 18, .ref 19, .ref 20, .ref 21, .ref 22, .ref 23, .ref 24, .ref 25, .ref 26, .ref 27, .ref 28, .ref 29, .ref 30, .ref 31, .ref 32, .ref 33, .ref 34, .ref 35, .ref 36, .ref 37, .ref 38, .ref 39, .ref 40, .ref 41, .ref 42, .ref 43, .ref 44, .ref 45, .ref 46, .ref 47, .ref 48, .ref 49, .ref 50, .ref 51, .ref 52, .ref 53, .ref 54, .ref 55, .ref 56, .ref 57, .ref 58, .ref 59, .ref 60, .ref 61, .ref 62, .ref 63, .ref 64, .ref 65, .ref 66, .ref 67, .ref 68, .ref 69, .ref 70, .ref 71, .ref 72, .ref 73, .ref 74, .ref 75, .ref 76, .ref 77, .ref 78, .ref 79, .ref 80, .ref 81, .ref 82, .ref 83, .ref 84, .ref 85, .ref 86, .ref 87, .ref 88, .ref 89, .ref 90, .ref 91, .ref 92, .ref 93, .ref 94, .ref 95, .ref 96, .ref 97, .ref 98, .ref 99, .ref 100, .ref 101, .ref 102, .ref 103, .ref 104, .ref 105, .ref 106, .ref 107, .ref 108, .ref 109, .ref 110, .ref 111, .ref 112, .ref 113, .ref 114, .ref 115, .ref 116, .ref 117, .ref 118, .ref 119, .ref 120, .ref 121, .ref 122, .ref 123, .ref 124, .ref 125, .ref 126, .ref 127, .ref 128, .ref 129, .ref 130, .ref 131, .ref 132, .ref 133, .ref 134, .ref 135, .ref 136, .ref 137, .ref 138, .ref 139, .ref 140, .ref 141, .ref 142, .ref 143, .ref 144, .ref 145, .ref 146, .ref 147, .ref 148, .ref 149, .ref 150, .ref 151, .ref 152, .ref 153, .ref 154, .ref 155, .ref 156, .ref 157, .ref 158, .ref 159, .ref 160, .ref 161, .ref 162, .ref 163, .ref 164, .ref 165, .ref 166, .ref 167, .ref 168, .ref 169, .ref 170, .ref 171, .ref 172, .ref 173, .ref 174, .ref 175, .ref 176, .ref 177, .ref 178, .ref 179, .ref 180, .ref 181, .ref 182, .ref 183, .ref 184, .ref 185, .ref 186, .ref 187, .ref 188, .ref 189, .ref 190, .ref 191, .ref 192, .ref 193, .ref 194, .ref 195, .ref 196, .ref 197, .ref 198, .ref 199, .ref 200, .ref 201, .ref 202, .ref 203, .ref 204, .ref 205, .ref 206, .ref 207, .ref 208, .ref 209, .ref 210, .ref 211, .ref 212, .ref 213, .ref 214, .ref 215, .ref 216, .ref 217, .ref 218, .ref 219, .ref 220, .ref 221, .ref 222, .ref 223, .ref 224, .ref 225, .ref 226, .ref 227, .ref 228, .ref 229, .ref 230, .ref 231, .ref 232, .ref 233, .ref 234, .ref 235, .ref 236, .ref 237, .ref 238, .ref 239, .ref 240, .ref 241, .ref 242, .ref 243, .ref 244, .ref 245, .ref 246, .ref 247, .ref 248, .ref 249, .ref 250, .ref 251, .ref 252, .ref 253, .ref 254, .ref 255, .ref 256, .ref 257, .ref 258, .ref 259, .ref 260, .ref 261], vm := .none },
  { cls := 7, slots := #[.int (-128)], vm := .none },
  { cls := 7, slots := #[.int (-127)], vm := .none },
  { cls := 7, slots := #[.int (-126)], vm := .none },
  { cls := 7, slots := #[.int (-125)], vm := .none },
  { cls := 7, slots := #[.int (-124)], vm := .none },
  { cls := 7, slots := #[.int (-123)], vm := .none },
  { cls := 7, slots := #[.int (-122)], vm := .none },
  { cls := 7, slots := #[.int (-121)], vm := .none },
  { cls := 7, slots := #[.int (-120)], vm := .none },
  { cls := 7, slots := #[.int (-119)], vm := .none },
  { cls := 7, slots := #[.int (-118)], vm := .none },
  { cls := 7, slots := #[.int (-117)], vm := .none },
  { cls := 7, slots := #[.int (-116)], vm := .none },
  { cls := 7, slots := #[.int (-115)], vm := .none },
  { cls := 7, slots := #[.int (-114)], vm := .none },
  { cls := 7, slots := #[.int (-113)], vm := .none },
  { cls := 7, slots := #[.int (-112)], vm := .none },
  { cls := 7, slots := #[.int (-111)], vm := .none },
  { cls := 7, slots := #[.int (-110)], vm := .none },
  { cls := 7, slots := #[.int (-109)], vm := .none },
  { cls := 7, slots := #[.int (-108)], vm := .none },
  { cls := 7, slots := #[.int (-107)], vm := .none },
  { cls := 7, slots := #[.int (-106)], vm := .none },
  { cls := 7, slots := #[.int (-105)], vm := .none },
  { cls := 7, slots := #[.int (-104)], vm := .none },
  { cls := 7, slots := #[.int (-103)], vm := .none },
  { cls := 7, slots := #[.int (-102)], vm := .none },
  { cls := 7, slots := #[.int (-101)], vm := .none },
  { cls := 7, slots := #[.int (-100)], vm := .none },
  { cls := 7, slots := #[.int (-99)], vm := .none },
  { cls := 7, slots := #[.int (-98)], vm := .none },
  { cls := 7, slots := #[.int (-97)], vm := .none },
  { cls := 7, slots := #[.int (-96)], vm := .none },
  { cls := 7, slots := #[.int (-95)], vm := .none },
  { cls := 7, slots := #[.int (-94)], vm := .none },
  { cls := 7, slots := #[.int (-93)], vm := .none },
  { cls := 7, slots := #[.int (-92)], vm := .none },
  { cls := 7, slots := #[.int (-91)], vm := .none },
  { cls := 7, slots := #[.int (-90)], vm := .none },
  { cls := 7, slots := #[.int (-89)], vm := .none },
  { cls := 7, slots := #[.int (-88)], vm := .none },
  { cls := 7, slots := #[.int (-87)], vm := .none },
  { cls := 7, slots := #[.int (-86)], vm := .none },
  { cls := 7, slots := #[.int (-85)], vm := .none },
  { cls := 7, slots := #[.int (-84)], vm := .none },
  { cls := 7, slots := #[.int (-83)], vm := .none },
  { cls := 7, slots := #[.int (-82)], vm := .none },
  { cls := 7, slots := #[.int (-81)], vm := .none },
  { cls := 7, slots := #[.int (-80)], vm := .none },
  { cls := 7, slots := #[.int (-79)], vm := .none },
  { cls := 7, slots := #[.int (-78)], vm := .none },
  { cls := 7, slots := #[.int (-77)], vm := .none },
  { cls := 7, slots := #[.int (-76)], vm := .none },
  { cls := 7, slots := #[.int (-75)], vm := .none },
  { cls := 7, slots := #[.int (-74)], vm := .none },
  { cls := 7, slots := #[.int (-73)], vm := .none },
  { cls := 7, slots := #[.int (-72)], vm := .none },
  { cls := 7, slots := #[.int (-71)], vm := .none },
  { cls := 7, slots := #[.int (-70)], vm := .none },
  { cls := 7, slots := #[.int (-69)], vm := .none },
  { cls := 7, slots := #[.int (-68)], vm := .none },
  { cls := 7, slots := #[.int (-67)], vm := .none },
  { cls := 7, slots := #[.int (-66)], vm := .none },
  { cls := 7, slots := #[.int (-65)], vm := .none },
  { cls := 7, slots := #[.int (-64)], vm := .none },
  { cls := 7, slots := #[.int (-63)], vm := .none },
  { cls := 7, slots := #[.int (-62)], vm := .none },
  { cls := 7, slots := #[.int (-61)], vm := .none },
  { cls := 7, slots := #[.int (-60)], vm := .none },
  { cls := 7, slots := #[.int (-59)], vm := .none },
  { cls := 7, slots := #[.int (-58)], vm := .none },
  { cls := 7, slots := #[.int (-57)], vm := .none },
  { cls := 7, slots := #[.int (-56)], vm := .none },
  { cls := 7, slots := #[.int (-55)], vm := .none },
  { cls := 7, slots := #[.int (-54)], vm := .none },
  { cls := 7, slots := #[.int (-53)], vm := .none },
  { cls := 7, slots := #[.int (-52)], vm := .none },
  { cls := 7, slots := #[.int (-51)], vm := .none },
  { cls := 7, slots := #[.int (-50)], vm := .none },
  { cls := 7, slots := #[.int (-49)], vm := .none },
  { cls := 7, slots := #[.int (-48)], vm := .none },
  { cls := 7, slots := #[.int (-47)], vm := .none },
  { cls := 7, slots := #[.int (-46)], vm := .none },
  { cls := 7, slots := #[.int (-45)], vm := .none },
  { cls := 7, slots := #[.int (-44)], vm := .none },
  { cls := 7, slots := #[.int (-43)], vm := .none },
  { cls := 7, slots := #[.int (-42)], vm := .none },
  { cls := 7, slots := #[.int (-41)], vm := .none },
  { cls := 7, slots := #[.int (-40)], vm := .none },
  { cls := 7, slots := #[.int (-39)], vm := .none },
  { cls := 7, slots := #[.int (-38)], vm := .none },
  { cls := 7, slots := #[.int (-37)], vm := .none },
  { cls := 7, slots := #[.int (-36)], vm := .none },
  { cls := 7, slots := #[.int (-35)], vm := .none },
  { cls := 7, slots := #[.int (-34)], vm := .none },
  { cls := 7, slots := #[.int (-33)], vm := .none },
  { cls := 7, slots := #[.int (-32)], vm := .none },
  { cls := 7, slots := #[.int (-31)], vm := .none },
  { cls := 7, slots := #[.int (-30)], vm := .none },
  { cls := 7, slots := #[.int (-29)], vm := .none },
  { cls := 7, slots := #[.int (-28)], vm := .none },
  { cls := 7, slots := #[.int (-27)], vm := .none },
  { cls := 7, slots := #[.int (-26)], vm := .none },
  { cls := 7, slots := #[.int (-25)], vm := .none },
  { cls := 7, slots := #[.int (-24)], vm := .none },
  { cls := 7, slots := #[.int (-23)], vm := .none },
  { cls := 7, slots := #[.int (-22)], vm := .none },
  { cls := 7, slots := #[.int (-21)], vm := .none },
  { cls := 7, slots := #[.int (-20)], vm := .none },
  { cls := 7, slots := #[.int (-19)], vm := .none },
  { cls := 7, slots := #[.int (-18)], vm := .none },
  { cls := 7, slots := #[.int (-17)], vm := .none },
  { cls := 7, slots := #[.int (-16)], vm := .none },
  { cls := 7, slots := #[.int (-15)], vm := .none },
  { cls := 7, slots := #[.int (-14)], vm := .none },
  { cls := 7, slots := #[.int (-13)], vm := .none },
  { cls := 7, slots := #[.int (-12)], vm := .none },
  { cls := 7, slots := #[.int (-11)], vm := .none },
  { cls := 7, slots := #[.int (-10)], vm := .none },
  { cls := 7, slots := #[.int (-9)], vm := .none },
  { cls := 7, slots := #[.int (-8)], vm := .none },
  { cls := 7, slots := #[.int (-7)], vm := .none },
  { cls := 7, slots := #[.int (-6)], vm := .none },
  { cls := 7, slots := #[.int (-5)], vm := .none },
  { cls := 7, slots := #[.int (-4)], vm := .none },
  { cls := 7, slots := #[.int (-3)], vm := .none },
  { cls := 7, slots := #[.int (-2)], vm := .none },
  { cls := 7, slots := #[.int (-1)], vm := .none },
  { cls := 7, slots := #[.int 0], vm := .none },
  { cls := 7, slots := #[.int 1], vm := .none },
  { cls := 7, slots := #[.int 2], vm := .none },
  { cls := 7, slots := #[.int 3], vm := .none },
  { cls := 7, slots := #[.int 4], vm := .none },
  { cls := 7, slots := #[.int 5], vm := .none },
  { cls := 7, slots := #[.int 6], vm := .none },
  { cls := 7, slots := #[.int 7], vm := .none },
  { cls := 7, slots := #[.int 8], vm := .none },
  { cls := 7, slots := #[.int 9], vm := .none },
  { cls := 7, slots := #[.int 10], vm := .none },
  { cls := 7, slots := #[.int 11], vm := .none },
  { cls := 7, slots := #[.int 12], vm := .none },
  { cls := 7, slots := #[.int 13], vm := .none },
  { cls := 7, slots := #[.int 14], vm := .none },
  { cls := 7, slots := #[.int 15], vm := .none },
  { cls := 7, slots := #[.int 16], vm := .none },
  { cls := 7, slots := #[.int 17], vm := .none },
  { cls := 7, slots := #[.int 18], vm := .none },
  { cls := 7, slots := #[.int 19], vm := .none },
  { cls := 7, slots := #[.int 20], vm := .none },
  { cls := 7, slots := #[.int 21], vm := .none },
  { cls := 7, slots := #[.int 22], vm := .none },
  { cls := 7, slots := #[.int 23], vm := .none },
  { cls := 7, slots := #[.int 24], vm := .none },
  { cls := 7, slots := #[.int 25], vm := .none },
  { cls := 7, slots := #[.int 26], vm := .none },
  { cls := 7, slots := #[.int 27], vm := .none },
  { cls := 7, slots := #[.int 28], vm := .none },
  { cls := 7, slots := #[.int 29], vm := .none },
  { cls := 7, slots := #[.int 30], vm := .none },
  { cls := 7, slots := #[.int 31], vm := .none },
  { cls := 7, slots := #[.int 32], vm := .none },
  { cls := 7, slots := #[.int 33], vm := .none },
  { cls := 7, slots := #[.int 34], vm := .none },
  { cls := 7, slots := #[.int 35], vm := .none },
  { cls := 7, slots := #[.int 36], vm := .none },
  { cls := 7, slots := #[.int 37], vm := .none },
  { cls := 7, slots := #[.int 38], vm := .none },
  { cls := 7, slots := #[.int 39], vm := .none },
  { cls := 7, slots := #[.int 40], vm := .none },
  { cls := 7, slots := #[.int 41], vm := .none },
  { cls := 7, slots := #[.int 42], vm := .none },
  { cls := 7, slots := #[.int 43], vm := .none },
  { cls := 7, slots := #[.int 44], vm := .none },
  { cls := 7, slots := #[.int 45], vm := .none },
  { cls := 7, slots := #[.int 46], vm := .none },
  { cls := 7, slots := #[.int 47], vm := .none },
  { cls := 7, slots := #[.int 48], vm := .none },
  { cls := 7, slots := #[.int 49], vm := .none },
  { cls := 7, slots := #[.int 50], vm := .none },
  { cls := 7, slots := #[.int 51], vm := .none },
  { cls := 7, slots := #[.int 52], vm := .none },
  { cls := 7, slots := #[.int 53], vm := .none },
  { cls := 7, slots := #[.int 54], vm := .none },
  { cls := 7, slots := #[.int 55], vm := .none },
  { cls := 7, slots := #[.int 56], vm := .none },
  { cls := 7, slots := #[.int 57], vm := .none },
  { cls := 7, slots := #[.int 58], vm := .none },
  { cls := 7, slots := #[.int 59], vm := .none },
  { cls := 7, slots := #[.int 60], vm := .none },
  { cls := 7, slots := #[.int 61], vm := .none },
  { cls := 7, slots := #[.int 62], vm := .none },
  { cls := 7, slots := #[.int 63], vm := .none },
  { cls := 7, slots := #[.int 64], vm := .none },
  { cls := 7, slots := #[.int 65], vm := .none },
  { cls := 7, slots := #[.int 66], vm := .none },
  { cls := 7, slots := #[.int 67], vm := .none },
  { cls := 7, slots := #[.int 68], vm := .none },
  { cls := 7, slots := #[.int 69], vm := .none },
  { cls := 7, slots := #[.int 70], vm := .none },
  { cls := 7, slots := #[.int 71], vm := .none },
  { cls := 7, slots := #[.int 72], vm := .none },
  { cls := 7, slots := #[.int 73], vm := .none },
  { cls := 7, slots := #[.int 74], vm := .none },
  { cls := 7, slots := #[.int 75], vm := .none },
  { cls := 7, slots := #[.int 76], vm := .none },
  { cls := 7, slots := #[.int 77], vm := .none },
  { cls := 7, slots := #[.int 78], vm := .none },
  { cls := 7, slots := #[.int 79], vm := .none },
  { cls := 7, slots := #[.int 80], vm := .none },
  { cls := 7, slots := #[.int 81], vm := .none },
  { cls := 7, slots := #[.int 82], vm := .none },
  { cls := 7, slots := #[.int 83], vm := .none },
  { cls := 7, slots := #[.int 84], vm := .none },
  { cls := 7, slots := #[.int 85], vm := .none },
  { cls := 7, slots := #[.int 86], vm := .none },
  { cls := 7, slots := #[.int 87], vm := .none },
  { cls := 7, slots := #[.int 88], vm := .none },
  { cls := 7, slots := #[.int 89], vm := .none },
  { cls := 7, slots := #[.int 90], vm := .none },
  { cls := 7, slots := #[.int 91], vm := .none },
  { cls := 7, slots := #[.int 92], vm := .none },
  { cls := 7, slots := #[.int 93], vm := .none },
  { cls := 7, slots := #[.int 94], vm := .none },
  { cls := 7, slots := #[.int 95], vm := .none },
  { cls := 7, slots := #[.int 96], vm := .none },
  { cls := 7, slots := #[.int 97], vm := .none },
  { cls := 7, slots := #[.int 98], vm := .none },
  { cls := 7, slots := #[.int 99], vm := .none },
  { cls := 7, slots := #[.int 100], vm := .none },
  { cls := 7, slots := #[.int 101], vm := .none },
  { cls := 7, slots := #[.int 102], vm := .none },
  { cls := 7, slots := #[.int 103], vm := .none },
  { cls := 7, slots := #[.int 104], vm := .none },
  { cls := 7, slots := #[.int 105], vm := .none },
  { cls := 7, slots := #[.int 106], vm := .none },
  { cls := 7, slots := #[.int 107], vm := .none },
  { cls := 7, slots := #[.int 108], vm := .none },
  { cls := 7, slots := #[.int 109], vm := .none },
  { cls := 7, slots := #[.int 110], vm := .none },
  { cls := 7, slots := #[.int 111], vm := .none },
  { cls := 7, slots := #[.int 112], vm := .none },
  { cls := 7, slots := #[.int 113], vm := .none },
  { cls := 7, slots := #[.int 114], vm := .none },
  { cls := 7, slots := #[.int 115], vm := .none },
  { cls := 7, slots := #[.int 116], vm := .none },
  { cls := 7, slots := #[.int 117], vm := .none },
  { cls := 7, slots := #[.int 118], vm := .none },
  { cls := 7, slots := #[.int 119], vm := .none },
  { cls := 7, slots := #[.int 120], vm := .none },
  { cls := 7, slots := #[.int 121], vm := .none },
  { cls := 7, slots := #[.int 122], vm := .none },
  { cls := 7, slots := #[.int 123], vm := .none },
  { cls := 7, slots := #[.int 124], vm := .none },
  { cls := 7, slots := #[.int 125], vm := .none },
  { cls := 7, slots := #[.int 126], vm := .none },
  { cls := 7, slots := #[.int 127], vm := .none },
  { cls := 44, slots := #[], vm := .none },
  { cls := 44, slots := #[], vm := .none }]
def classes : Array Class := #[k0, k1, k2, k3, k4, k5, k6, k7, k8, k9, k10, k11, k12, k13, k14, k15, k16, k17, k18, k19, k20, k21, k22, k23, k24, k25, k26, k27, k28, k29, k30, k31, k32, k33, k34, k35, k36, k37, k38, k39, k40, k41, k42, k43, k44]
def interned : List (Array UInt16 × Addr) := []
def slotsUsed : Nat := 531
def theMethod : MethodId := ⟨1, 1⟩
def args0 : Array Value := #[.int 5, .int 300, .int 7, .int 3]
def aboutOver (below : List Frame) : State where
  vm := { classes := classes, interned := interned.toArray }
  heap := heap
  slotsUsed := slotsUsed
  threads := #[{ frames := .invoking theMethod args0 :: below }]
def below0 : List Frame := [.native { method := ⟨0, 0⟩, args := #[] }]
def about1 : State := aboutOver below0
def p0 : Program := .bare "" "" ""
def e0 : Env := launch0.env 0 0 0
theorem w_frames : about1.frames = Frame.invoking theMethod args0 :: below0 := rfl
set_option maxRecDepth 65536 in
theorem w_args : argsFit about1.vm theMethod args0 = true := by decide +kernel
set_option maxRecDepth 65536 in
theorem w_heap : heapFits about1 = true := by decide +kernel
set_option maxRecDepth 65536 in
theorem w_runnable : about1.curStatus? = some .runnable := by decide +kernel
set_option maxRecDepth 65536 in
theorem w_alone : about1.alone = true := by decide +kernel
set_option maxRecDepth 65536 in
theorem w_named : about1.methodNamed? x = some theMethod := by decide +kernel
set_option maxRecDepth 65536 in
theorem w_hears : about1.hears theMethod below0 = true := by decide +kernel
set_option maxRecDepth 65536 in
theorem w_ripe : about1.ripe theMethod args0 below0 = true := by decide +kernel
theorem w_running : about1.status = .running := rfl
set_option maxRecDepth 65536 in
theorem w_room : about1.hasRoom e0.platform room_1 = true :=
  launch0.hasRoom_least _ room_1 (by decide +kernel) (by decide +kernel) (by decide +kernel) (by decide +kernel) (by decide +kernel) (by decide +kernel)
theorem allAtoms_all (ts : List Jvm.Cond) (a : Array Jvm.Value) (st : Jvm.State) : (allAtoms ts).before a st = ts.all (fun c => c.before a st) := by
  induction ts with
  | nil => rfl
  | cons c t ih =>
    show (Jvm.Cond.and c (allAtoms t)).before a st = _
    rw [Jvm.Cond.before_and, ih, List.all_cons]
def words1 : List Jvm.Cond := Jvm.Cond.code x code maxLocals ret :: tables_1
/-- a 'code' word, met by the world's own term for the bytes: nothing is compared byte by byte -/
theorem code_word {y : MethodName} {bytes : ByteArray} {mx : Nat} {rt : Option FieldType} {a : Array Value} {s : State} {m : MethodId} {meth : Method} {c : Code} (h1 : s.methodNamed? y = some m) (h2 : s.vm.method? m = some meth) (h3 : meth.code = some c) (h4 : c.code = bytes)
    (h5 : (c.maxLocals == mx && c.exceptionTable.isEmpty && decide (c.maxStack ≤ mostOperands) && decide (meth.sig.returnType = rt) && !meth.locks && decide (parseMethodDescriptor y.desc = some meth.sig)) = true) : (Jvm.Cond.code y bytes mx rt).before a s = true := by
  simp only [Bool.and_eq_true, beq_iff_eq, Bool.not_eq_true', decide_eq_true_eq] at h5
  obtain ⟨⟨⟨⟨⟨g1, g2⟩, g3⟩, g4⟩, g5⟩, g6⟩ := h5
  simp [Cond.before, Cond.holds, Cond.value, h1, h2, h3, h4, g1, g2, g3, g4, g5, g6]
def isCode : Jvm.Cond → Bool
  | .code _ _ _ _ => true
  | _ => false
theorem all_split {L : List Jvm.Cond} {P : Jvm.Cond → Bool} (h1 : L.all (fun c => isCode c || P c) = true) (h2 : ∀ c ∈ L.filter isCode, P c = true) : L.all P = true := by
  refine List.all_eq_true.mpr fun c hc => ?_
  have h := List.all_eq_true.mp h1 c hc
  rcases Bool.eq_false_or_eq_true (isCode c) with hi | hi
  · exact h2 c (List.mem_filter.mpr ⟨hc, hi⟩)
  · simpa [hi] using h
set_option maxRecDepth 65536 in
theorem w_c0 : (Jvm.Cond.code x code maxLocals ret).before args0 about1 = true := code_word (m := ⟨1, 1⟩) (meth := k1m1) (c := k1c1) (by decide +kernel) rfl rfl rfl (by decide +kernel)
set_option maxRecDepth 65536 in
theorem w_c1 : (Jvm.Cond.code ({ cls := "java/lang/Integer", name := "valueOf", desc := "(I)Ljava/lang/Integer;" } : Jvm.MethodName) jdk_33_method_22_code (1 : Nat) (Option.some (Jvm.ClassFile.FieldType.object "java/lang/Integer"))).before args0 about1 = true := code_word (m := ⟨7, 0⟩) (meth := k7m0) (c := k7c0) (by decide +kernel) rfl rfl rfl (by decide +kernel)
set_option maxRecDepth 65536 in
theorem w_c2 : (Jvm.Cond.code ({ cls := "java/lang/String", name := "<init>", desc := "([C)V" } : Jvm.MethodName) jdk_42_method_3_code (2 : Nat) (Option.none : Option Jvm.ClassFile.FieldType)).before args0 about1 = true := code_word (m := ⟨10, 1⟩) (meth := k10m1) (c := k10c1) (by decide +kernel) rfl rfl rfl (by decide +kernel)
set_option maxRecDepth 65536 in
theorem w_c3 : (Jvm.Cond.code ({ cls := "java/lang/String", name := "<init>", desc := "([CIILjava/lang/Void;)V" } : Jvm.MethodName) jdk_42_method_149_code (6 : Nat) (Option.none : Option Jvm.ClassFile.FieldType)).before args0 about1 = true := code_word (m := ⟨10, 7⟩) (meth := k10m7) (c := k10c7) (by decide +kernel) rfl rfl rfl (by decide +kernel)
set_option maxRecDepth 65536 in
theorem w_c4 : (Jvm.Cond.code ({ cls := "java/lang/Object", name := "<init>", desc := "()V" } : Jvm.MethodName) object_method_1_code (1 : Nat) (Option.none : Option Jvm.ClassFile.FieldType)).before args0 about1 = true := code_word (m := ⟨0, 0⟩) (meth := k0m0) (c := k0c0) (by decide +kernel) rfl rfl rfl (by decide +kernel)
set_option maxRecDepth 65536 in
theorem w_c5 : (Jvm.Cond.code ({ cls := "java/lang/StringUTF16", name := "compress", desc := "([CII)[B" } : Jvm.MethodName) jdk_52_method_16_code (6 : Nat) (Option.some (Jvm.ClassFile.FieldType.array Jvm.ClassFile.FieldType.byte))).before args0 about1 = true := code_word (m := ⟨11, 2⟩) (meth := k11m2) (c := k11c2) (by decide +kernel) rfl rfl rfl (by decide +kernel)
set_option maxRecDepth 65536 in
theorem w_c6 : (Jvm.Cond.code ({ cls := "java/lang/StringUTF16", name := "compress", desc := "([CI[BII)I" } : Jvm.MethodName) jdk_52_method_21_code (7 : Nat) (Option.some Jvm.ClassFile.FieldType.int)).before args0 about1 = true := code_word (m := ⟨11, 3⟩) (meth := k11m3) (c := k11c3) (by decide +kernel) rfl rfl rfl (by decide +kernel)
set_option maxRecDepth 65536 in
theorem w_c7 : (Jvm.Cond.code ({ cls := "java/lang/StringUTF16", name := "coderFromArrayLen", desc := "([BI)B" } : Jvm.MethodName) jdk_52_method_15_code (2 : Nat) (Option.some Jvm.ClassFile.FieldType.byte)).before args0 about1 = true := code_word (m := ⟨11, 1⟩) (meth := k11m1) (c := k11c1) (by decide +kernel) rfl rfl rfl (by decide +kernel)
set_option maxRecDepth 65536 in
theorem w_c8 : (Jvm.Cond.code ({ cls := "java/util/ArrayList", name := "<init>", desc := "()V" } : Jvm.MethodName) jdk_38_method_2_code (1 : Nat) (Option.none : Option Jvm.ClassFile.FieldType)).before args0 about1 = true := code_word (m := ⟨20, 0⟩) (meth := k20m0) (c := k20c0) (by decide +kernel) rfl rfl rfl (by decide +kernel)
set_option maxRecDepth 65536 in
theorem w_c9 : (Jvm.Cond.code ({ cls := "java/util/AbstractList", name := "<init>", desc := "()V" } : Jvm.MethodName) jdk_39_method_1_code (1 : Nat) (Option.none : Option Jvm.ClassFile.FieldType)).before args0 about1 = true := code_word (m := ⟨17, 0⟩) (meth := k17m0) (c := k17c0) (by decide +kernel) rfl rfl rfl (by decide +kernel)
set_option maxRecDepth 65536 in
theorem w_c10 : (Jvm.Cond.code ({ cls := "java/util/AbstractCollection", name := "<init>", desc := "()V" } : Jvm.MethodName) jdk_22_method_1_code (1 : Nat) (Option.none : Option Jvm.ClassFile.FieldType)).before args0 about1 = true := code_word (m := ⟨14, 0⟩) (meth := k14m0) (c := k14c0) (by decide +kernel) rfl rfl rfl (by decide +kernel)
set_option maxRecDepth 65536 in
theorem w_c11 : (Jvm.Cond.code ({ cls := "java/util/ArrayList", name := "add", desc := "(Ljava/lang/Object;)Z" } : Jvm.MethodName) jdk_38_method_25_code (2 : Nat) (Option.some Jvm.ClassFile.FieldType.boolean)).before args0 about1 = true := code_word (m := ⟨20, 8⟩) (meth := k20m8) (c := k20c8) (by decide +kernel) rfl rfl rfl (by decide +kernel)
set_option maxRecDepth 65536 in
theorem w_c12 : (Jvm.Cond.code ({ cls := "java/util/ArrayList", name := "add", desc := "(Ljava/lang/Object;[Ljava/lang/Object;I)V" } : Jvm.MethodName) jdk_38_method_24_code (4 : Nat) (Option.none : Option Jvm.ClassFile.FieldType)).before args0 about1 = true := code_word (m := ⟨20, 7⟩) (meth := k20m7) (c := k20c7) (by decide +kernel) rfl rfl rfl (by decide +kernel)
set_option maxRecDepth 65536 in
theorem w_c13 : (Jvm.Cond.code ({ cls := "java/util/ArrayList", name := "grow", desc := "()[Ljava/lang/Object;" } : Jvm.MethodName) jdk_38_method_7_code (1 : Nat) (Option.some (Jvm.ClassFile.FieldType.array (Jvm.ClassFile.FieldType.object "java/lang/Object")))).before args0 about1 = true := code_word (m := ⟨20, 2⟩) (meth := k20m2) (c := k20c2) (by decide +kernel) rfl rfl rfl (by decide +kernel)
set_option maxRecDepth 65536 in
theorem w_c14 : (Jvm.Cond.code ({ cls := "java/util/ArrayList", name := "grow", desc := "(I)[Ljava/lang/Object;" } : Jvm.MethodName) jdk_38_method_6_code (4 : Nat) (Option.some (Jvm.ClassFile.FieldType.array (Jvm.ClassFile.FieldType.object "java/lang/Object")))).before args0 about1 = true := code_word (m := ⟨20, 1⟩) (meth := k20m1) (c := k20c1) (by decide +kernel) rfl rfl rfl (by decide +kernel)
set_option maxRecDepth 65536 in
theorem w_c15 : (Jvm.Cond.code ({ cls := "java/lang/Math", name := "max", desc := "(II)I" } : Jvm.MethodName) jdk_29_method_65_code (2 : Nat) (Option.some Jvm.ClassFile.FieldType.int)).before args0 about1 = true := code_word (m := ⟨21, 1⟩) (meth := k21m1) (c := k21c1) (by decide +kernel) rfl rfl rfl (by decide +kernel)
set_option maxRecDepth 65536 in
theorem w_c16 : (Jvm.Cond.code ({ cls := "com/example/crud4/crud4/StatementParameter", name := "<init>", desc := "(Ljava/lang/String;Ljava/lang/Object;)V" } : Jvm.MethodName) prog_40_method_1_code (3 : Nat) (Option.none : Option Jvm.ClassFile.FieldType)).before args0 about1 = true := code_word (m := ⟨22, 0⟩) (meth := k22m0) (c := k22c0) (by decide +kernel) rfl rfl rfl (by decide +kernel)
set_option maxRecDepth 65536 in
theorem w_c17 : (Jvm.Cond.code ({ cls := "java/util/HashMap", name := "<init>", desc := "()V" } : Jvm.MethodName) jdk_69_method_7_code (1 : Nat) (Option.none : Option Jvm.ClassFile.FieldType)).before args0 about1 = true := code_word (m := ⟨25, 0⟩) (meth := k25m0) (c := k25c0) (by decide +kernel) rfl rfl rfl (by decide +kernel)
set_option maxRecDepth 65536 in
theorem w_c18 : (Jvm.Cond.code ({ cls := "java/util/AbstractMap", name := "<init>", desc := "()V" } : Jvm.MethodName) jdk_71_method_1_code (1 : Nat) (Option.none : Option Jvm.ClassFile.FieldType)).before args0 about1 = true := code_word (m := ⟨24, 0⟩) (meth := k24m0) (c := k24c0) (by decide +kernel) rfl rfl rfl (by decide +kernel)
set_option maxRecDepth 65536 in
theorem w_c19 : (Jvm.Cond.code ({ cls := "com/example/crud4/crud4/SqlBuilder", name := "<init>", desc := "(Lcom/example/crud4/crud4/StatementParameter;)V" } : Jvm.MethodName) prog_24_method_1_code (2 : Nat) (Option.none : Option Jvm.ClassFile.FieldType)).before args0 about1 = true := code_word (m := ⟨26, 0⟩) (meth := k26m0) (c := k26c0) (by decide +kernel) rfl rfl rfl (by decide +kernel)
set_option maxRecDepth 65536 in
theorem w_c20 : (Jvm.Cond.code ({ cls := "java/lang/StringBuilder", name := "<init>", desc := "()V" } : Jvm.MethodName) jdk_67_method_1_code (1 : Nat) (Option.none : Option Jvm.ClassFile.FieldType)).before args0 about1 = true := code_word (m := ⟨29, 0⟩) (meth := k29m0) (c := k29c0) (by decide +kernel) rfl rfl rfl (by decide +kernel)
set_option maxRecDepth 65536 in
theorem w_c21 : (Jvm.Cond.code ({ cls := "java/lang/AbstractStringBuilder", name := "<init>", desc := "(I)V" } : Jvm.MethodName) jdk_68_method_2_code (2 : Nat) (Option.none : Option Jvm.ClassFile.FieldType)).before args0 about1 = true := code_word (m := ⟨28, 1⟩) (meth := k28m1) (c := k28c1) (by decide +kernel) rfl rfl rfl (by decide +kernel)
set_option maxRecDepth 65536 in
theorem w_c22 : (Jvm.Cond.code ({ cls := "com/example/crud4/crud4/SqlBuilder", name := "nested", desc := "()Lcom/example/crud4/crud4/SqlBuilder;" } : Jvm.MethodName) prog_24_method_3_code (1 : Nat) (Option.some (Jvm.ClassFile.FieldType.object "com/example/crud4/crud4/SqlBuilder"))).before args0 about1 = true := code_word (m := ⟨26, 2⟩) (meth := k26m2) (c := k26c2) (by decide +kernel) rfl rfl rfl (by decide +kernel)
set_option maxRecDepth 65536 in
theorem w_c23 : (Jvm.Cond.code ({ cls := "com/example/crud4/crud4/SqlBuilder", name := "parameter", desc := "()Lcom/example/crud4/crud4/StatementParameter;" } : Jvm.MethodName) prog_24_method_2_code (1 : Nat) (Option.some (Jvm.ClassFile.FieldType.object "com/example/crud4/crud4/StatementParameter"))).before args0 about1 = true := code_word (m := ⟨26, 1⟩) (meth := k26m1) (c := k26c1) (by decide +kernel) rfl rfl rfl (by decide +kernel)
set_option maxRecDepth 65536 in
theorem w_c24 : (Jvm.Cond.code ({ cls := "com/example/crud4/crud4/SqlBuilder", name := "text", desc := "()Ljava/lang/String;" } : Jvm.MethodName) prog_24_method_7_code (1 : Nat) (Option.some (Jvm.ClassFile.FieldType.object "java/lang/String"))).before args0 about1 = true := code_word (m := ⟨26, 4⟩) (meth := k26m4) (c := k26c4) (by decide +kernel) rfl rfl rfl (by decide +kernel)
set_option maxRecDepth 65536 in
theorem w_c25 : (Jvm.Cond.code ({ cls := "java/lang/StringBuilder", name := "toString", desc := "()Ljava/lang/String;" } : Jvm.MethodName) jdk_67_method_42_code (1 : Nat) (Option.some (Jvm.ClassFile.FieldType.object "java/lang/String"))).before args0 about1 = true := code_word (m := ⟨29, 2⟩) (meth := k29m2) (c := k29c2) (by decide +kernel) rfl rfl rfl (by decide +kernel)
set_option maxRecDepth 65536 in
theorem w_c26 : (Jvm.Cond.code ({ cls := "java/lang/String", name := "<init>", desc := "(Ljava/lang/StringBuilder;)V" } : Jvm.MethodName) jdk_42_method_53_code (2 : Nat) (Option.none : Option Jvm.ClassFile.FieldType)).before args0 about1 = true := code_word (m := ⟨10, 2⟩) (meth := k10m2) (c := k10c2) (by decide +kernel) rfl rfl rfl (by decide +kernel)
set_option maxRecDepth 65536 in
theorem w_c27 : (Jvm.Cond.code ({ cls := "java/lang/String", name := "<init>", desc := "(Ljava/lang/AbstractStringBuilder;Ljava/lang/Void;)V" } : Jvm.MethodName) jdk_42_method_150_code (5 : Nat) (Option.none : Option Jvm.ClassFile.FieldType)).before args0 about1 = true := code_word (m := ⟨10, 8⟩) (meth := k10m8) (c := k10c8) (by decide +kernel) rfl rfl rfl (by decide +kernel)
set_option maxRecDepth 65536 in
theorem w_c28 : (Jvm.Cond.code ({ cls := "java/lang/AbstractStringBuilder", name := "getValue", desc := "()[B" } : Jvm.MethodName) jdk_68_method_64_code (1 : Nat) (Option.some (Jvm.ClassFile.FieldType.array Jvm.ClassFile.FieldType.byte))).before args0 about1 = true := code_word (m := ⟨28, 5⟩) (meth := k28m5) (c := k28c5) (by decide +kernel) rfl rfl rfl (by decide +kernel)
set_option maxRecDepth 65536 in
theorem w_c29 : (Jvm.Cond.code ({ cls := "java/lang/StringBuilder", name := "length", desc := "()I" } : Jvm.MethodName) jdk_67_method_93_code (1 : Nat) (Option.some Jvm.ClassFile.FieldType.int)).before args0 about1 = true := code_word (m := ⟨29, 3⟩) (meth := k29m3) (c := k29c3) (by decide +kernel) rfl rfl rfl (by decide +kernel)
set_option maxRecDepth 65536 in
theorem w_c30 : (Jvm.Cond.code ({ cls := "java/lang/AbstractStringBuilder", name := "length", desc := "()I" } : Jvm.MethodName) jdk_68_method_6_code (1 : Nat) (Option.some Jvm.ClassFile.FieldType.int)).before args0 about1 = true := code_word (m := ⟨28, 2⟩) (meth := k28m2) (c := k28c2) (by decide +kernel) rfl rfl rfl (by decide +kernel)
set_option maxRecDepth 65536 in
theorem w_c31 : (Jvm.Cond.code ({ cls := "java/lang/AbstractStringBuilder", name := "isLatin1", desc := "()Z" } : Jvm.MethodName) jdk_68_method_68_code (1 : Nat) (Option.some Jvm.ClassFile.FieldType.boolean)).before args0 about1 = true := code_word (m := ⟨28, 6⟩) (meth := k28m6) (c := k28c6) (by decide +kernel) rfl rfl rfl (by decide +kernel)
set_option maxRecDepth 65536 in
theorem w_c32 : (Jvm.Cond.code ({ cls := "java/util/Arrays", name := "copyOfRange", desc := "([BII)[B" } : Jvm.MethodName) jdk_65_method_132_code (3 : Nat) (Option.some (Jvm.ClassFile.FieldType.array Jvm.ClassFile.FieldType.byte))).before args0 about1 = true := code_word (m := ⟨30, 4⟩) (meth := k30m4) (c := k30c4) (by decide +kernel) rfl rfl rfl (by decide +kernel)
set_option maxRecDepth 65536 in
theorem w_c33 : (Jvm.Cond.code ({ cls := "java/util/Arrays", name := "copyOfRangeByte", desc := "([BII)[B" } : Jvm.MethodName) jdk_65_method_133_code (5 : Nat) (Option.some (Jvm.ClassFile.FieldType.array Jvm.ClassFile.FieldType.byte))).before args0 about1 = true := code_word (m := ⟨30, 5⟩) (meth := k30m5) (c := k30c5) (by decide +kernel) rfl rfl rfl (by decide +kernel)
set_option maxRecDepth 65536 in
theorem w_c34 : (Jvm.Cond.code ({ cls := "java/util/Arrays", name := "checkLength", desc := "(II)V" } : Jvm.MethodName) jdk_65_method_131_code (2 : Nat) (Option.none : Option Jvm.ClassFile.FieldType)).before args0 about1 = true := code_word (m := ⟨30, 3⟩) (meth := k30m3) (c := k30c3) (by decide +kernel) rfl rfl rfl (by decide +kernel)
set_option maxRecDepth 65536 in
theorem w_c35 : (Jvm.Cond.code ({ cls := "java/lang/Math", name := "min", desc := "(II)I" } : Jvm.MethodName) jdk_29_method_69_code (2 : Nat) (Option.some Jvm.ClassFile.FieldType.int)).before args0 about1 = true := code_word (m := ⟨21, 2⟩) (meth := k21m2) (c := k21c2) (by decide +kernel) rfl rfl rfl (by decide +kernel)
set_option maxRecDepth 65536 in
theorem w_c36 : (Jvm.Cond.code ({ cls := "java/lang/String", name := "isEmpty", desc := "()Z" } : Jvm.MethodName) jdk_42_method_55_code (1 : Nat) (Option.some Jvm.ClassFile.FieldType.boolean)).before args0 about1 = true := code_word (m := ⟨10, 4⟩) (meth := k10m4) (c := k10c4) (by decide +kernel) rfl rfl rfl (by decide +kernel)
set_option maxRecDepth 65536 in
theorem w_c37 : (Jvm.Cond.code ({ cls := "com/example/crud4/crud4/SqlBuilder", name := "placeholders", desc := "()Ljava/util/List;" } : Jvm.MethodName) prog_24_method_8_code (1 : Nat) (Option.some (Jvm.ClassFile.FieldType.object "java/util/List"))).before args0 about1 = true := code_word (m := ⟨26, 5⟩) (meth := k26m5) (c := k26c5) (by decide +kernel) rfl rfl rfl (by decide +kernel)
set_option maxRecDepth 65536 in
theorem w_c38 : (Jvm.Cond.code ({ cls := "java/util/ArrayList", name := "size", desc := "()I" } : Jvm.MethodName) jdk_38_method_8_code (1 : Nat) (Option.some Jvm.ClassFile.FieldType.int)).before args0 about1 = true := code_word (m := ⟨20, 3⟩) (meth := k20m3) (c := k20c3) (by decide +kernel) rfl rfl rfl (by decide +kernel)
set_option maxRecDepth 65536 in
theorem w_c39 : (Jvm.Cond.code ({ cls := "com/example/crud4/crud4/SqlBuilder", name := "values", desc := "()Ljava/util/List;" } : Jvm.MethodName) prog_24_method_9_code (1 : Nat) (Option.some (Jvm.ClassFile.FieldType.object "java/util/List"))).before args0 about1 = true := code_word (m := ⟨26, 6⟩) (meth := k26m6) (c := k26c6) (by decide +kernel) rfl rfl rfl (by decide +kernel)
set_option maxRecDepth 65536 in
theorem w_c40 : (Jvm.Cond.code ({ cls := "com/example/crud4/crud4/SqlBuilder", name := "add", desc := "(Ljava/lang/String;Ljava/util/List;Ljava/util/List;)V" } : Jvm.MethodName) prog_24_method_6_code (5 : Nat) (Option.none : Option Jvm.ClassFile.FieldType)).before args0 about1 = true := code_word (m := ⟨26, 3⟩) (meth := k26m3) (c := k26c3) (by decide +kernel) rfl rfl rfl (by decide +kernel)
set_option maxRecDepth 65536 in
theorem w_c41 : (Jvm.Cond.code ({ cls := "java/lang/StringBuilder", name := "append", desc := "(Ljava/lang/String;)Ljava/lang/StringBuilder;" } : Jvm.MethodName) jdk_67_method_7_code (2 : Nat) (Option.some (Jvm.ClassFile.FieldType.object "java/lang/StringBuilder"))).before args0 about1 = true := code_word (m := ⟨29, 1⟩) (meth := k29m1) (c := k29c1) (by decide +kernel) rfl rfl rfl (by decide +kernel)
set_option maxRecDepth 65536 in
theorem w_c42 : (Jvm.Cond.code ({ cls := "java/lang/AbstractStringBuilder", name := "append", desc := "(Ljava/lang/String;)Ljava/lang/AbstractStringBuilder;" } : Jvm.MethodName) jdk_68_method_22_code (3 : Nat) (Option.some (Jvm.ClassFile.FieldType.object "java/lang/AbstractStringBuilder"))).before args0 about1 = true := code_word (m := ⟨28, 4⟩) (meth := k28m4) (c := k28c4) (by decide +kernel) rfl rfl rfl (by decide +kernel)
set_option maxRecDepth 65536 in
theorem w_c43 : (Jvm.Cond.code ({ cls := "java/lang/String", name := "length", desc := "()I" } : Jvm.MethodName) jdk_42_method_54_code (1 : Nat) (Option.some Jvm.ClassFile.FieldType.int)).before args0 about1 = true := code_word (m := ⟨10, 3⟩) (meth := k10m3) (c := k10c3) (by decide +kernel) rfl rfl rfl (by decide +kernel)
set_option maxRecDepth 65536 in
theorem w_c44 : (Jvm.Cond.code ({ cls := "java/lang/String", name := "coder", desc := "()B" } : Jvm.MethodName) jdk_42_method_152_code (1 : Nat) (Option.some Jvm.ClassFile.FieldType.byte)).before args0 about1 = true := code_word (m := ⟨10, 9⟩) (meth := k10m9) (c := k10c9) (by decide +kernel) rfl rfl rfl (by decide +kernel)
set_option maxRecDepth 65536 in
theorem w_c45 : (Jvm.Cond.code ({ cls := "java/lang/AbstractStringBuilder", name := "ensureCapacityInternal", desc := "(I)V" } : Jvm.MethodName) jdk_68_method_9_code (3 : Nat) (Option.none : Option Jvm.ClassFile.FieldType)).before args0 about1 = true := code_word (m := ⟨28, 3⟩) (meth := k28m3) (c := k28c3) (by decide +kernel) rfl rfl rfl (by decide +kernel)
set_option maxRecDepth 65536 in
theorem w_c46 : (Jvm.Cond.code ({ cls := "java/lang/AbstractStringBuilder", name := "putStringAt", desc := "(ILjava/lang/String;)V" } : Jvm.MethodName) jdk_68_method_73_code (3 : Nat) (Option.none : Option Jvm.ClassFile.FieldType)).before args0 about1 = true := code_word (m := ⟨28, 8⟩) (meth := k28m8) (c := k28c8) (by decide +kernel) rfl rfl rfl (by decide +kernel)
set_option maxRecDepth 65536 in
theorem w_c47 : (Jvm.Cond.code ({ cls := "java/lang/AbstractStringBuilder", name := "inflateIfNeededFor", desc := "(Ljava/lang/String;)V" } : Jvm.MethodName) jdk_68_method_71_code (2 : Nat) (Option.none : Option Jvm.ClassFile.FieldType)).before args0 about1 = true := code_word (m := ⟨28, 7⟩) (meth := k28m7) (c := k28c7) (by decide +kernel) rfl rfl rfl (by decide +kernel)
set_option maxRecDepth 65536 in
theorem w_c48 : (Jvm.Cond.code ({ cls := "java/lang/String", name := "getBytes", desc := "([BIB)V" } : Jvm.MethodName) jdk_42_method_147_code (4 : Nat) (Option.none : Option Jvm.ClassFile.FieldType)).before args0 about1 = true := code_word (m := ⟨10, 6⟩) (meth := k10m6) (c := k10c6) (by decide +kernel) rfl rfl rfl (by decide +kernel)
set_option maxRecDepth 65536 in
theorem w_c49 : (Jvm.Cond.code ({ cls := "java/util/ArrayList", name := "addAll", desc := "(Ljava/util/Collection;)Z" } : Jvm.MethodName) jdk_38_method_41_code (6 : Nat) (Option.some Jvm.ClassFile.FieldType.boolean)).before args0 about1 = true := code_word (m := ⟨20, 9⟩) (meth := k20m9) (c := k20c9) (by decide +kernel) rfl rfl rfl (by decide +kernel)
set_option maxRecDepth 65536 in
theorem w_c50 : (Jvm.Cond.code ({ cls := "java/util/ArrayList", name := "toArray", desc := "()[Ljava/lang/Object;" } : Jvm.MethodName) jdk_38_method_16_code (1 : Nat) (Option.some (Jvm.ClassFile.FieldType.array (Jvm.ClassFile.FieldType.object "java/lang/Object")))).before args0 about1 = true := code_word (m := ⟨20, 4⟩) (meth := k20m4) (c := k20c4) (by decide +kernel) rfl rfl rfl (by decide +kernel)
set_option maxRecDepth 65536 in
theorem w_c51 : (Jvm.Cond.code ({ cls := "java/util/Arrays", name := "copyOf", desc := "([Ljava/lang/Object;I)[Ljava/lang/Object;" } : Jvm.MethodName) jdk_65_method_119_code (2 : Nat) (Option.some (Jvm.ClassFile.FieldType.array (Jvm.ClassFile.FieldType.object "java/lang/Object")))).before args0 about1 = true := code_word (m := ⟨30, 1⟩) (meth := k30m1) (c := k30c1) (by decide +kernel) rfl rfl rfl (by decide +kernel)
set_option maxRecDepth 65536 in
theorem w_c52 : (Jvm.Cond.code ({ cls := "java/util/Arrays", name := "copyOf", desc := "([Ljava/lang/Object;ILjava/lang/Class;)[Ljava/lang/Object;" } : Jvm.MethodName) jdk_65_method_120_code (4 : Nat) (Option.some (Jvm.ClassFile.FieldType.array (Jvm.ClassFile.FieldType.object "java/lang/Object")))).before args0 about1 = true := code_word (m := ⟨30, 2⟩) (meth := k30m2) (c := k30c2) (by decide +kernel) rfl rfl rfl (by decide +kernel)
set_option maxRecDepth 65536 in
theorem w_c53 : (Jvm.Cond.code ({ cls := "java/lang/String", name := "equals", desc := "(Ljava/lang/Object;)Z" } : Jvm.MethodName) jdk_42_method_66_code (3 : Nat) (Option.some Jvm.ClassFile.FieldType.boolean)).before args0 about1 = true := code_word (m := ⟨10, 5⟩) (meth := k10m5) (c := k10c5) (by decide +kernel) rfl rfl rfl (by decide +kernel)
set_option maxRecDepth 65536 in
theorem w_c54 : (Jvm.Cond.code ({ cls := "java/lang/StringLatin1", name := "equals", desc := "([B[B)Z" } : Jvm.MethodName) jdk_43_method_13_code (3 : Nat) (Option.some Jvm.ClassFile.FieldType.boolean)).before args0 about1 = true := code_word (m := ⟨32, 1⟩) (meth := k32m1) (c := k32c1) (by decide +kernel) rfl rfl rfl (by decide +kernel)
set_option maxRecDepth 65536 in
theorem w_c55 : (Jvm.Cond.code ({ cls := "java/util/ArrayList", name := "get", desc := "(I)Ljava/lang/Object;" } : Jvm.MethodName) jdk_38_method_20_code (2 : Nat) (Option.some (Jvm.ClassFile.FieldType.object "java/lang/Object"))).before args0 about1 = true := code_word (m := ⟨20, 6⟩) (meth := k20m6) (c := k20c6) (by decide +kernel) rfl rfl rfl (by decide +kernel)
set_option maxRecDepth 65536 in
theorem w_c56 : (Jvm.Cond.code ({ cls := "java/util/Objects", name := "checkIndex", desc := "(II)I" } : Jvm.MethodName) jdk_31_method_17_code (2 : Nat) (Option.some Jvm.ClassFile.FieldType.int)).before args0 about1 = true := code_word (m := ⟨33, 1⟩) (meth := k33m1) (c := k33c1) (by decide +kernel) rfl rfl rfl (by decide +kernel)
set_option maxRecDepth 65536 in
theorem w_c57 : (Jvm.Cond.code ({ cls := "jdk/internal/util/Preconditions", name := "checkIndex", desc := "(IILjava/util/function/BiFunction;)I" } : Jvm.MethodName) jdk_41_method_11_code (3 : Nat) (Option.some Jvm.ClassFile.FieldType.int)).before args0 about1 = true := code_word (m := ⟨34, 1⟩) (meth := k34m1) (c := k34c1) (by decide +kernel) rfl rfl rfl (by decide +kernel)
set_option maxRecDepth 65536 in
theorem w_c58 : (Jvm.Cond.code ({ cls := "java/util/ArrayList", name := "elementData", desc := "(I)Ljava/lang/Object;" } : Jvm.MethodName) jdk_38_method_18_code (2 : Nat) (Option.some (Jvm.ClassFile.FieldType.object "java/lang/Object"))).before args0 about1 = true := code_word (m := ⟨20, 5⟩) (meth := k20m5) (c := k20c5) (by decide +kernel) rfl rfl rfl (by decide +kernel)
set_option maxRecDepth 65536 in
theorem w_c59 : (Jvm.Cond.code ({ cls := "java/lang/Integer", name := "intValue", desc := "()I" } : Jvm.MethodName) jdk_33_method_27_code (1 : Nat) (Option.some Jvm.ClassFile.FieldType.int)).before args0 about1 = true := code_word (m := ⟨7, 2⟩) (meth := k7m2) (c := k7c2) (by decide +kernel) rfl rfl rfl (by decide +kernel)
set_option maxRecDepth 65536 in
theorem w_c60 : (Jvm.Cond.code ({ cls := "java/lang/Integer", name := "<init>", desc := "(I)V" } : Jvm.MethodName) jdk_33_method_23_code (2 : Nat) (Option.none : Option Jvm.ClassFile.FieldType)).before args0 about1 = true := code_word (m := ⟨7, 1⟩) (meth := k7m1) (c := k7c1) (by decide +kernel) rfl rfl rfl (by decide +kernel)
set_option maxRecDepth 65536 in
theorem w_c61 : (Jvm.Cond.code ({ cls := "java/lang/Number", name := "<init>", desc := "()V" } : Jvm.MethodName) jdk_18_method_1_code (1 : Nat) (Option.none : Option Jvm.ClassFile.FieldType)).before args0 about1 = true := code_word (m := ⟨3, 0⟩) (meth := k3m0) (c := k3c0) (by decide +kernel) rfl rfl rfl (by decide +kernel)
def codes1 : List Jvm.Cond := [Jvm.Cond.code x code maxLocals ret, Jvm.Cond.code ({ cls := "java/lang/Integer", name := "valueOf", desc := "(I)Ljava/lang/Integer;" } : Jvm.MethodName) jdk_33_method_22_code (1 : Nat) (Option.some (Jvm.ClassFile.FieldType.object "java/lang/Integer")), Jvm.Cond.code ({ cls := "java/lang/String", name := "<init>", desc := "([C)V" } : Jvm.MethodName) jdk_42_method_3_code (2 : Nat) (Option.none : Option Jvm.ClassFile.FieldType), Jvm.Cond.code ({ cls := "java/lang/String", name := "<init>", desc := "([CIILjava/lang/Void;)V" } : Jvm.MethodName) jdk_42_method_149_code (6 : Nat) (Option.none : Option Jvm.ClassFile.FieldType), Jvm.Cond.code ({ cls := "java/lang/Object", name := "<init>", desc := "()V" } : Jvm.MethodName) object_method_1_code (1 : Nat) (Option.none : Option Jvm.ClassFile.FieldType), Jvm.Cond.code ({ cls := "java/lang/StringUTF16", name := "compress", desc := "([CII)[B" } : Jvm.MethodName) jdk_52_method_16_code (6 : Nat) (Option.some (Jvm.ClassFile.FieldType.array Jvm.ClassFile.FieldType.byte)), Jvm.Cond.code ({ cls := "java/lang/StringUTF16", name := "compress", desc := "([CI[BII)I" } : Jvm.MethodName) jdk_52_method_21_code (7 : Nat) (Option.some Jvm.ClassFile.FieldType.int), Jvm.Cond.code ({ cls := "java/lang/StringUTF16", name := "coderFromArrayLen", desc := "([BI)B" } : Jvm.MethodName) jdk_52_method_15_code (2 : Nat) (Option.some Jvm.ClassFile.FieldType.byte), Jvm.Cond.code ({ cls := "java/util/ArrayList", name := "<init>", desc := "()V" } : Jvm.MethodName) jdk_38_method_2_code (1 : Nat) (Option.none : Option Jvm.ClassFile.FieldType), Jvm.Cond.code ({ cls := "java/util/AbstractList", name := "<init>", desc := "()V" } : Jvm.MethodName) jdk_39_method_1_code (1 : Nat) (Option.none : Option Jvm.ClassFile.FieldType), Jvm.Cond.code ({ cls := "java/util/AbstractCollection", name := "<init>", desc := "()V" } : Jvm.MethodName) jdk_22_method_1_code (1 : Nat) (Option.none : Option Jvm.ClassFile.FieldType), Jvm.Cond.code ({ cls := "java/util/ArrayList", name := "add", desc := "(Ljava/lang/Object;)Z" } : Jvm.MethodName) jdk_38_method_25_code (2 : Nat) (Option.some Jvm.ClassFile.FieldType.boolean), Jvm.Cond.code ({ cls := "java/util/ArrayList", name := "add", desc := "(Ljava/lang/Object;[Ljava/lang/Object;I)V" } : Jvm.MethodName) jdk_38_method_24_code (4 : Nat) (Option.none : Option Jvm.ClassFile.FieldType), Jvm.Cond.code ({ cls := "java/util/ArrayList", name := "grow", desc := "()[Ljava/lang/Object;" } : Jvm.MethodName) jdk_38_method_7_code (1 : Nat) (Option.some (Jvm.ClassFile.FieldType.array (Jvm.ClassFile.FieldType.object "java/lang/Object"))), Jvm.Cond.code ({ cls := "java/util/ArrayList", name := "grow", desc := "(I)[Ljava/lang/Object;" } : Jvm.MethodName) jdk_38_method_6_code (4 : Nat) (Option.some (Jvm.ClassFile.FieldType.array (Jvm.ClassFile.FieldType.object "java/lang/Object"))), Jvm.Cond.code ({ cls := "java/lang/Math", name := "max", desc := "(II)I" } : Jvm.MethodName) jdk_29_method_65_code (2 : Nat) (Option.some Jvm.ClassFile.FieldType.int), Jvm.Cond.code ({ cls := "com/example/crud4/crud4/StatementParameter", name := "<init>", desc := "(Ljava/lang/String;Ljava/lang/Object;)V" } : Jvm.MethodName) prog_40_method_1_code (3 : Nat) (Option.none : Option Jvm.ClassFile.FieldType), Jvm.Cond.code ({ cls := "java/util/HashMap", name := "<init>", desc := "()V" } : Jvm.MethodName) jdk_69_method_7_code (1 : Nat) (Option.none : Option Jvm.ClassFile.FieldType), Jvm.Cond.code ({ cls := "java/util/AbstractMap", name := "<init>", desc := "()V" } : Jvm.MethodName) jdk_71_method_1_code (1 : Nat) (Option.none : Option Jvm.ClassFile.FieldType), Jvm.Cond.code ({ cls := "com/example/crud4/crud4/SqlBuilder", name := "<init>", desc := "(Lcom/example/crud4/crud4/StatementParameter;)V" } : Jvm.MethodName) prog_24_method_1_code (2 : Nat) (Option.none : Option Jvm.ClassFile.FieldType), Jvm.Cond.code ({ cls := "java/lang/StringBuilder", name := "<init>", desc := "()V" } : Jvm.MethodName) jdk_67_method_1_code (1 : Nat) (Option.none : Option Jvm.ClassFile.FieldType), Jvm.Cond.code ({ cls := "java/lang/AbstractStringBuilder", name := "<init>", desc := "(I)V" } : Jvm.MethodName) jdk_68_method_2_code (2 : Nat) (Option.none : Option Jvm.ClassFile.FieldType), Jvm.Cond.code ({ cls := "com/example/crud4/crud4/SqlBuilder", name := "nested", desc := "()Lcom/example/crud4/crud4/SqlBuilder;" } : Jvm.MethodName) prog_24_method_3_code (1 : Nat) (Option.some (Jvm.ClassFile.FieldType.object "com/example/crud4/crud4/SqlBuilder")), Jvm.Cond.code ({ cls := "com/example/crud4/crud4/SqlBuilder", name := "parameter", desc := "()Lcom/example/crud4/crud4/StatementParameter;" } : Jvm.MethodName) prog_24_method_2_code (1 : Nat) (Option.some (Jvm.ClassFile.FieldType.object "com/example/crud4/crud4/StatementParameter")), Jvm.Cond.code ({ cls := "com/example/crud4/crud4/SqlBuilder", name := "text", desc := "()Ljava/lang/String;" } : Jvm.MethodName) prog_24_method_7_code (1 : Nat) (Option.some (Jvm.ClassFile.FieldType.object "java/lang/String")), Jvm.Cond.code ({ cls := "java/lang/StringBuilder", name := "toString", desc := "()Ljava/lang/String;" } : Jvm.MethodName) jdk_67_method_42_code (1 : Nat) (Option.some (Jvm.ClassFile.FieldType.object "java/lang/String")), Jvm.Cond.code ({ cls := "java/lang/String", name := "<init>", desc := "(Ljava/lang/StringBuilder;)V" } : Jvm.MethodName) jdk_42_method_53_code (2 : Nat) (Option.none : Option Jvm.ClassFile.FieldType), Jvm.Cond.code ({ cls := "java/lang/String", name := "<init>", desc := "(Ljava/lang/AbstractStringBuilder;Ljava/lang/Void;)V" } : Jvm.MethodName) jdk_42_method_150_code (5 : Nat) (Option.none : Option Jvm.ClassFile.FieldType), Jvm.Cond.code ({ cls := "java/lang/AbstractStringBuilder", name := "getValue", desc := "()[B" } : Jvm.MethodName) jdk_68_method_64_code (1 : Nat) (Option.some (Jvm.ClassFile.FieldType.array Jvm.ClassFile.FieldType.byte)), Jvm.Cond.code ({ cls := "java/lang/StringBuilder", name := "length", desc := "()I" } : Jvm.MethodName) jdk_67_method_93_code (1 : Nat) (Option.some Jvm.ClassFile.FieldType.int), Jvm.Cond.code ({ cls := "java/lang/AbstractStringBuilder", name := "length", desc := "()I" } : Jvm.MethodName) jdk_68_method_6_code (1 : Nat) (Option.some Jvm.ClassFile.FieldType.int), Jvm.Cond.code ({ cls := "java/lang/AbstractStringBuilder", name := "isLatin1", desc := "()Z" } : Jvm.MethodName) jdk_68_method_68_code (1 : Nat) (Option.some Jvm.ClassFile.FieldType.boolean), Jvm.Cond.code ({ cls := "java/util/Arrays", name := "copyOfRange", desc := "([BII)[B" } : Jvm.MethodName) jdk_65_method_132_code (3 : Nat) (Option.some (Jvm.ClassFile.FieldType.array Jvm.ClassFile.FieldType.byte)), Jvm.Cond.code ({ cls := "java/util/Arrays", name := "copyOfRangeByte", desc := "([BII)[B" } : Jvm.MethodName) jdk_65_method_133_code (5 : Nat) (Option.some (Jvm.ClassFile.FieldType.array Jvm.ClassFile.FieldType.byte)), Jvm.Cond.code ({ cls := "java/util/Arrays", name := "checkLength", desc := "(II)V" } : Jvm.MethodName) jdk_65_method_131_code (2 : Nat) (Option.none : Option Jvm.ClassFile.FieldType), Jvm.Cond.code ({ cls := "java/lang/Math", name := "min", desc := "(II)I" } : Jvm.MethodName) jdk_29_method_69_code (2 : Nat) (Option.some Jvm.ClassFile.FieldType.int), Jvm.Cond.code ({ cls := "java/lang/String", name := "isEmpty", desc := "()Z" } : Jvm.MethodName) jdk_42_method_55_code (1 : Nat) (Option.some Jvm.ClassFile.FieldType.boolean), Jvm.Cond.code ({ cls := "com/example/crud4/crud4/SqlBuilder", name := "placeholders", desc := "()Ljava/util/List;" } : Jvm.MethodName) prog_24_method_8_code (1 : Nat) (Option.some (Jvm.ClassFile.FieldType.object "java/util/List")), Jvm.Cond.code ({ cls := "java/util/ArrayList", name := "size", desc := "()I" } : Jvm.MethodName) jdk_38_method_8_code (1 : Nat) (Option.some Jvm.ClassFile.FieldType.int), Jvm.Cond.code ({ cls := "com/example/crud4/crud4/SqlBuilder", name := "values", desc := "()Ljava/util/List;" } : Jvm.MethodName) prog_24_method_9_code (1 : Nat) (Option.some (Jvm.ClassFile.FieldType.object "java/util/List")), Jvm.Cond.code ({ cls := "com/example/crud4/crud4/SqlBuilder", name := "add", desc := "(Ljava/lang/String;Ljava/util/List;Ljava/util/List;)V" } : Jvm.MethodName) prog_24_method_6_code (5 : Nat) (Option.none : Option Jvm.ClassFile.FieldType), Jvm.Cond.code ({ cls := "java/lang/StringBuilder", name := "append", desc := "(Ljava/lang/String;)Ljava/lang/StringBuilder;" } : Jvm.MethodName) jdk_67_method_7_code (2 : Nat) (Option.some (Jvm.ClassFile.FieldType.object "java/lang/StringBuilder")), Jvm.Cond.code ({ cls := "java/lang/AbstractStringBuilder", name := "append", desc := "(Ljava/lang/String;)Ljava/lang/AbstractStringBuilder;" } : Jvm.MethodName) jdk_68_method_22_code (3 : Nat) (Option.some (Jvm.ClassFile.FieldType.object "java/lang/AbstractStringBuilder")), Jvm.Cond.code ({ cls := "java/lang/String", name := "length", desc := "()I" } : Jvm.MethodName) jdk_42_method_54_code (1 : Nat) (Option.some Jvm.ClassFile.FieldType.int), Jvm.Cond.code ({ cls := "java/lang/String", name := "coder", desc := "()B" } : Jvm.MethodName) jdk_42_method_152_code (1 : Nat) (Option.some Jvm.ClassFile.FieldType.byte), Jvm.Cond.code ({ cls := "java/lang/AbstractStringBuilder", name := "ensureCapacityInternal", desc := "(I)V" } : Jvm.MethodName) jdk_68_method_9_code (3 : Nat) (Option.none : Option Jvm.ClassFile.FieldType), Jvm.Cond.code ({ cls := "java/lang/AbstractStringBuilder", name := "putStringAt", desc := "(ILjava/lang/String;)V" } : Jvm.MethodName) jdk_68_method_73_code (3 : Nat) (Option.none : Option Jvm.ClassFile.FieldType), Jvm.Cond.code ({ cls := "java/lang/AbstractStringBuilder", name := "inflateIfNeededFor", desc := "(Ljava/lang/String;)V" } : Jvm.MethodName) jdk_68_method_71_code (2 : Nat) (Option.none : Option Jvm.ClassFile.FieldType), Jvm.Cond.code ({ cls := "java/lang/String", name := "getBytes", desc := "([BIB)V" } : Jvm.MethodName) jdk_42_method_147_code (4 : Nat) (Option.none : Option Jvm.ClassFile.FieldType), Jvm.Cond.code ({ cls := "java/util/ArrayList", name := "addAll", desc := "(Ljava/util/Collection;)Z" } : Jvm.MethodName) jdk_38_method_41_code (6 : Nat) (Option.some Jvm.ClassFile.FieldType.boolean), Jvm.Cond.code ({ cls := "java/util/ArrayList", name := "toArray", desc := "()[Ljava/lang/Object;" } : Jvm.MethodName) jdk_38_method_16_code (1 : Nat) (Option.some (Jvm.ClassFile.FieldType.array (Jvm.ClassFile.FieldType.object "java/lang/Object"))), Jvm.Cond.code ({ cls := "java/util/Arrays", name := "copyOf", desc := "([Ljava/lang/Object;I)[Ljava/lang/Object;" } : Jvm.MethodName) jdk_65_method_119_code (2 : Nat) (Option.some (Jvm.ClassFile.FieldType.array (Jvm.ClassFile.FieldType.object "java/lang/Object"))), Jvm.Cond.code ({ cls := "java/util/Arrays", name := "copyOf", desc := "([Ljava/lang/Object;ILjava/lang/Class;)[Ljava/lang/Object;" } : Jvm.MethodName) jdk_65_method_120_code (4 : Nat) (Option.some (Jvm.ClassFile.FieldType.array (Jvm.ClassFile.FieldType.object "java/lang/Object"))), Jvm.Cond.code ({ cls := "java/lang/String", name := "equals", desc := "(Ljava/lang/Object;)Z" } : Jvm.MethodName) jdk_42_method_66_code (3 : Nat) (Option.some Jvm.ClassFile.FieldType.boolean), Jvm.Cond.code ({ cls := "java/lang/StringLatin1", name := "equals", desc := "([B[B)Z" } : Jvm.MethodName) jdk_43_method_13_code (3 : Nat) (Option.some Jvm.ClassFile.FieldType.boolean), Jvm.Cond.code ({ cls := "java/util/ArrayList", name := "get", desc := "(I)Ljava/lang/Object;" } : Jvm.MethodName) jdk_38_method_20_code (2 : Nat) (Option.some (Jvm.ClassFile.FieldType.object "java/lang/Object")), Jvm.Cond.code ({ cls := "java/util/Objects", name := "checkIndex", desc := "(II)I" } : Jvm.MethodName) jdk_31_method_17_code (2 : Nat) (Option.some Jvm.ClassFile.FieldType.int), Jvm.Cond.code ({ cls := "jdk/internal/util/Preconditions", name := "checkIndex", desc := "(IILjava/util/function/BiFunction;)I" } : Jvm.MethodName) jdk_41_method_11_code (3 : Nat) (Option.some Jvm.ClassFile.FieldType.int), Jvm.Cond.code ({ cls := "java/util/ArrayList", name := "elementData", desc := "(I)Ljava/lang/Object;" } : Jvm.MethodName) jdk_38_method_18_code (2 : Nat) (Option.some (Jvm.ClassFile.FieldType.object "java/lang/Object")), Jvm.Cond.code ({ cls := "java/lang/Integer", name := "intValue", desc := "()I" } : Jvm.MethodName) jdk_33_method_27_code (1 : Nat) (Option.some Jvm.ClassFile.FieldType.int), Jvm.Cond.code ({ cls := "java/lang/Integer", name := "<init>", desc := "(I)V" } : Jvm.MethodName) jdk_33_method_23_code (2 : Nat) (Option.none : Option Jvm.ClassFile.FieldType), Jvm.Cond.code ({ cls := "java/lang/Number", name := "<init>", desc := "()V" } : Jvm.MethodName) jdk_18_method_1_code (1 : Nat) (Option.none : Option Jvm.ClassFile.FieldType)]
set_option maxRecDepth 65536 in
theorem codes_eq : words1.filter isCode = codes1 := rfl
theorem w_codes : ∀ c ∈ words1.filter isCode, c.before args0 about1 = true := by
  rw [codes_eq]
  intro c hc
  simp only [codes1, List.mem_cons, List.not_mem_nil, or_false] at hc
  rcases hc with rfl | rfl | rfl | rfl | rfl | rfl | rfl | rfl | rfl | rfl | rfl | rfl | rfl | rfl | rfl | rfl | rfl | rfl | rfl | rfl | rfl | rfl | rfl | rfl | rfl | rfl | rfl | rfl | rfl | rfl | rfl | rfl | rfl | rfl | rfl | rfl | rfl | rfl | rfl | rfl | rfl | rfl | rfl | rfl | rfl | rfl | rfl | rfl | rfl | rfl | rfl | rfl | rfl | rfl | rfl | rfl | rfl | rfl | rfl | rfl | rfl | rfl
  · exact w_c0
  · exact w_c1
  · exact w_c2
  · exact w_c3
  · exact w_c4
  · exact w_c5
  · exact w_c6
  · exact w_c7
  · exact w_c8
  · exact w_c9
  · exact w_c10
  · exact w_c11
  · exact w_c12
  · exact w_c13
  · exact w_c14
  · exact w_c15
  · exact w_c16
  · exact w_c17
  · exact w_c18
  · exact w_c19
  · exact w_c20
  · exact w_c21
  · exact w_c22
  · exact w_c23
  · exact w_c24
  · exact w_c25
  · exact w_c26
  · exact w_c27
  · exact w_c28
  · exact w_c29
  · exact w_c30
  · exact w_c31
  · exact w_c32
  · exact w_c33
  · exact w_c34
  · exact w_c35
  · exact w_c36
  · exact w_c37
  · exact w_c38
  · exact w_c39
  · exact w_c40
  · exact w_c41
  · exact w_c42
  · exact w_c43
  · exact w_c44
  · exact w_c45
  · exact w_c46
  · exact w_c47
  · exact w_c48
  · exact w_c49
  · exact w_c50
  · exact w_c51
  · exact w_c52
  · exact w_c53
  · exact w_c54
  · exact w_c55
  · exact w_c56
  · exact w_c57
  · exact w_c58
  · exact w_c59
  · exact w_c60
  · exact w_c61
set_option maxRecDepth 65536 in
theorem w_t1 : (words1.take 24).all (fun c => isCode c || c.before args0 about1) = true := by decide +kernel
set_option maxRecDepth 65536 in
theorem w_t2 : ((words1.drop 24).take 24).all (fun c => isCode c || c.before args0 about1) = true := by decide +kernel
set_option maxRecDepth 65536 in
theorem w_t3 : (((words1.drop 24).drop 24).take 24).all (fun c => isCode c || c.before args0 about1) = true := by decide +kernel
set_option maxRecDepth 65536 in
theorem w_t4 : ((((words1.drop 24).drop 24).drop 24).take 24).all (fun c => isCode c || c.before args0 about1) = true := by decide +kernel
set_option maxRecDepth 65536 in
theorem w_t5 : (((((words1.drop 24).drop 24).drop 24).drop 24).take 24).all (fun c => isCode c || c.before args0 about1) = true := by decide +kernel
set_option maxRecDepth 65536 in
theorem w_t6 : ((((((words1.drop 24).drop 24).drop 24).drop 24).drop 24).take 24).all (fun c => isCode c || c.before args0 about1) = true := by decide +kernel
set_option maxRecDepth 65536 in
theorem w_t7 : (((((((words1.drop 24).drop 24).drop 24).drop 24).drop 24).drop 24).take 24).all (fun c => isCode c || c.before args0 about1) = true := by decide +kernel
set_option maxRecDepth 65536 in
theorem w_t8 : ((((((((words1.drop 24).drop 24).drop 24).drop 24).drop 24).drop 24).drop 24).take 24).all (fun c => isCode c || c.before args0 about1) = true := by decide +kernel
set_option maxRecDepth 65536 in
theorem w_t9 : (((((((((words1.drop 24).drop 24).drop 24).drop 24).drop 24).drop 24).drop 24).drop 24).take 24).all (fun c => isCode c || c.before args0 about1) = true := by decide +kernel
set_option maxRecDepth 65536 in
theorem w_t10 : ((((((((((words1.drop 24).drop 24).drop 24).drop 24).drop 24).drop 24).drop 24).drop 24).drop 24).take 24).all (fun c => isCode c || c.before args0 about1) = true := by decide +kernel
set_option maxRecDepth 65536 in
theorem w_t11 : (((((((((((words1.drop 24).drop 24).drop 24).drop 24).drop 24).drop 24).drop 24).drop 24).drop 24).drop 24).take 24).all (fun c => isCode c || c.before args0 about1) = true := by decide +kernel
set_option maxRecDepth 65536 in
theorem w_t12 : ((((((((((((words1.drop 24).drop 24).drop 24).drop 24).drop 24).drop 24).drop 24).drop 24).drop 24).drop 24).drop 24).take 24).all (fun c => isCode c || c.before args0 about1) = true := by decide +kernel
set_option maxRecDepth 65536 in
theorem w_t13 : (((((((((((((words1.drop 24).drop 24).drop 24).drop 24).drop 24).drop 24).drop 24).drop 24).drop 24).drop 24).drop 24).drop 24).take 24).all (fun c => isCode c || c.before args0 about1) = true := by decide +kernel
set_option maxRecDepth 65536 in
theorem w_t14 : ((((((((((((((words1.drop 24).drop 24).drop 24).drop 24).drop 24).drop 24).drop 24).drop 24).drop 24).drop 24).drop 24).drop 24).drop 24).take 24).all (fun c => isCode c || c.before args0 about1) = true := by decide +kernel
set_option maxRecDepth 65536 in
theorem w_t15 : (((((((((((((((words1.drop 24).drop 24).drop 24).drop 24).drop 24).drop 24).drop 24).drop 24).drop 24).drop 24).drop 24).drop 24).drop 24).drop 24).take 24).all (fun c => isCode c || c.before args0 about1) = true := by decide +kernel
set_option maxRecDepth 65536 in
theorem w_t16 : ((((((((((((((((words1.drop 24).drop 24).drop 24).drop 24).drop 24).drop 24).drop 24).drop 24).drop 24).drop 24).drop 24).drop 24).drop 24).drop 24).drop 24).take 24).all (fun c => isCode c || c.before args0 about1) = true := by decide +kernel
set_option maxRecDepth 65536 in
theorem w_t17 : ((((((((((((((((words1.drop 24).drop 24).drop 24).drop 24).drop 24).drop 24).drop 24).drop 24).drop 24).drop 24).drop 24).drop 24).drop 24).drop 24).drop 24).drop 24).all (fun c => isCode c || c.before args0 about1) = true := by decide +kernel
theorem w_tables : (allAtoms (Jvm.Cond.code x code maxLocals ret :: tables_1)).before args0 about1 = true := by
  rw [allAtoms_all]
  show words1.all (fun c => c.before args0 about1) = true
  refine all_split ?_ w_codes
  rw [← List.take_append_drop 24 words1, List.all_append, w_t1, ← List.take_append_drop 24 (words1.drop 24), List.all_append, w_t2, ← List.take_append_drop 24 ((words1.drop 24).drop 24), List.all_append, w_t3, ← List.take_append_drop 24 (((words1.drop 24).drop 24).drop 24), List.all_append, w_t4, ← List.take_append_drop 24 ((((words1.drop 24).drop 24).drop 24).drop 24), List.all_append, w_t5, ← List.take_append_drop 24 (((((words1.drop 24).drop 24).drop 24).drop 24).drop 24), List.all_append, w_t6, ← List.take_append_drop 24 ((((((words1.drop 24).drop 24).drop 24).drop 24).drop 24).drop 24), List.all_append, w_t7, ← List.take_append_drop 24 (((((((words1.drop 24).drop 24).drop 24).drop 24).drop 24).drop 24).drop 24), List.all_append, w_t8, ← List.take_append_drop 24 ((((((((words1.drop 24).drop 24).drop 24).drop 24).drop 24).drop 24).drop 24).drop 24), List.all_append, w_t9, ← List.take_append_drop 24 (((((((((words1.drop 24).drop 24).drop 24).drop 24).drop 24).drop 24).drop 24).drop 24).drop 24), List.all_append, w_t10, ← List.take_append_drop 24 ((((((((((words1.drop 24).drop 24).drop 24).drop 24).drop 24).drop 24).drop 24).drop 24).drop 24).drop 24), List.all_append, w_t11, ← List.take_append_drop 24 (((((((((((words1.drop 24).drop 24).drop 24).drop 24).drop 24).drop 24).drop 24).drop 24).drop 24).drop 24).drop 24), List.all_append, w_t12, ← List.take_append_drop 24 ((((((((((((words1.drop 24).drop 24).drop 24).drop 24).drop 24).drop 24).drop 24).drop 24).drop 24).drop 24).drop 24).drop 24), List.all_append, w_t13, ← List.take_append_drop 24 (((((((((((((words1.drop 24).drop 24).drop 24).drop 24).drop 24).drop 24).drop 24).drop 24).drop 24).drop 24).drop 24).drop 24).drop 24), List.all_append, w_t14, ← List.take_append_drop 24 ((((((((((((((words1.drop 24).drop 24).drop 24).drop 24).drop 24).drop 24).drop 24).drop 24).drop 24).drop 24).drop 24).drop 24).drop 24).drop 24), List.all_append, w_t15, ← List.take_append_drop 24 (((((((((((((((words1.drop 24).drop 24).drop 24).drop 24).drop 24).drop 24).drop 24).drop 24).drop 24).drop 24).drop 24).drop 24).drop 24).drop 24).drop 24), List.all_append, w_t16, w_t17]
  rfl
set_option maxRecDepth 65536 in
theorem w_rest : rest_1_c.before args0 about1 = true := by decide +kernel
set_option maxRecDepth 65536 in
theorem w_case : (Jvm.Cond.and given_1 narrow_1).before args0 about1 = true := by decide +kernel
set_option maxRecDepth 65536 in
theorem w_consts : constsHeld consts_1 about1 := Jvm.Lit.constsHeldB_iff.mp (by decide +kernel)
theorem w_applies : (headSpec (Jvm.Cond.code x code maxLocals ret :: tables_1) room_1).applies x e0.platform about1 = true :=
  (Spec.applies_iff w_frames).mpr ⟨w_running, w_runnable, w_alone, w_named, w_hears, w_ripe, w_room, w_tables⟩
set_option maxRecDepth 65536 in
theorem atStart : AtStart classFile x code maxLocals ret World_1 tables_1 room_1 Calls_1 rest_1 Pre_1 launch0 p0 e0 about1 theMethod args0 below0 :=
  ⟨lists_1, trivial, launch0.admits_env _ _ _, launch0.least_env, fairChoices_fair.cas, fairChoices_fair.clock, w_frames, w_args, w_heap, w_applies, ⟨⟨44, k44, 4, by decide +kernel, rfl, rfl, _, rfl, rfl⟩, ⟨w_consts, trivial⟩⟩, w_rest, w_case⟩
end start1
theorem witness_1 : WitnessClaimed_1 := ⟨start1.p0, start1.e0, start1.about1, start1.theMethod, start1.args0, start1.below0, start1.atStart⟩
end Jvm.Pilot.@@N@@
