import JvmDerived
import JvmDerived.Pilot.@@N@@Statement
import JvmDerived.Pilot.@@N@@Code
set_option linter.unusedVariables false
set_option linter.unusedSimpArgs false
namespace Jvm.RoadKit
open Sem ClassFile Op Lib Jvm.Stand Jvm.Free Jvm.LawKit
section New
variable {p : Program} {l : Launch} {e : Env} {R : Room} {s : State} {m : MethodId} {args : Array Value} {below : List Frame} {meth : Method} {c : Code} {T : State} {locs : List Loc} {cells slots : Nat}
theorem retI (X : Stand p l e R s m args below meth c T locs cells slots) (hx : p.tables.exec = Jvm.exec) {pc : Nat} {Ls : Array Slot} {z : Int32} {rest : List Value} (hret : meth.sig.returnType = some .int) (hd : decode c.code pc = .ok (.ireturn, 1)) {fs : List Frame}
    (hl : ∀ (f : JFrame) (acts : List Action), f.method = m → f.locked = none → f.entered = [] → (doReturn e (T.setTop f) acts (some (.int z))).1 = T.setFrames fs) : Steps p.tables e below (T.setTop (mkF m pc Ls (.int z :: rest))) (T.setFrames fs) := by
  have hm' : T.vm.method? m = some meth := X.method'
  have hn : narrow .int (.int z) = .int z := rfl
  show Steps p.tables e below (T.setTop { method := m, pc := pc, locals := Ls, stack := _ :: rest, locked := none }) _
  jvm_step X.here [X.here.top, hx, hd, hm', hret, hn]
  first | (intro acts; rw [hl _ acts rfl rfl rfl]) | rw [hl _ _ rfl rfl rfl]
  exact Steps.refl _
end New
end Jvm.RoadKit
/- laws to paste: Road.backV, Road.chN, Road.codOf (cut by pick.py; bodies as the Statement names them) -/
namespace Jvm.Pilot.@@N@@
namespace StrChars
open Jvm Sem ClassFile Op Lib Jvm.Stand Jvm.Free.XT Jvm.Free.ALB Jvm.Free.JM Jvm.Free
open Jvm.Lib.Cold (StaticIs)
/-- a char array whose places are chars -/
def Ch (a : Addr) (A : Cell) (U : State) : Prop := Arr .char a A U ∧ Typed .char A
theorem Ch.mv {a : Addr} {A : Cell} {U U' : State} (h : Ch a A U) (hal : U.vm.Alike U'.vm) (hh : U'.heap = U.heap) : Ch a A U' := ⟨h.1.mv hal hh, h.2⟩
theorem Ch.keep {a : Addr} {A : Cell} {U U' : State} (h : Ch a A U) (hal : U.vm.Alike U'.vm) (hk : U'.heap[a]? = some A) : Ch a A U' := ⟨h.1.keep hal hk, h.2⟩
/-- what place i of a char[]'s cell holds -/
def cv (A : Cell) (i : Nat) : Int32 := match A.slots[i]? with | some (.int x) => x | _ => 0
theorem Ch.get {a : Addr} {A : Cell} {U : State} (h : Ch a A U) {i : Nat} (hi : i < A.slots.size) : A.slots[i]? = some (.int (cv A i)) := by
  have e := Array.getElem?_eq_getElem hi
  have f := h.2 i _ e
  unfold cv; rw [e]
  generalize A.slots[i] = v at f
  cases v <;> simp [fits] at f ⊢
/-- the byte that i2b leaves of a char -/
def lo8 (x : Int32) : Int32 := x.toInt8.toInt32
theorem fits_lo8 (y : Int32) : fits .byte (.int (lo8 y)) = true := by
  have h1 := y.toInt8.le_toInt
  have h2 := y.toInt8.toInt_lt
  simp only [lo8, fits, Bool.and_eq_true, decide_eq_true_eq, Int32.le_iff_toInt_le, Int8.toInt_toInt32, show (-128 : Int32).toInt = -128 from by decide, show (127 : Int32).toInt = 127 from by decide]
  omega
/-- A' is A but that each place j of lo .. hi - 1 holds f j -/
def Laid (A A' : Cell) (lo hi : Nat) (f : Nat → Value) : Prop := A'.cls = A.cls ∧ A'.vm = A.vm ∧ A'.slots.size = A.slots.size ∧ ∀ i, A'.slots[i]? = if lo ≤ i ∧ i < hi then some (f i) else A.slots[i]?
theorem Laid.zero (A : Cell) (lo : Nat) (f : Nat → Value) : Laid A A lo (lo + 0) f := ⟨rfl, rfl, rfl, fun i => by rw [if_neg (by omega)]⟩
theorem Laid.step {A Ak : Cell} {lo k : Nat} {f : Nat → Value} {v : Value} (h : Laid A Ak lo k f) (hlo : lo ≤ k) (hk : k < Ak.slots.size) (hv : v = f k) : Laid A (Ak.setSlot k v) lo (k + 1) f := by
  refine ⟨h.1, h.2.1, by simpa [Cell.setSlot] using h.2.2.1, fun i => ?_⟩
  by_cases e : k = i
  · subst e; rw [Cell.slots_setSlot_self v hk, if_pos (by omega), hv]
  · rw [Cell.slots_setSlot_ne v e, h.2.2.2 i]
    by_cases q : lo ≤ i ∧ i < k
    · rw [if_pos q, if_pos (by omega)]
    · rw [if_neg q, if_neg (by omega)]
def U16 : String := "java/lang/StringUTF16"
namespace Cmp5
def yN : MethodName := ⟨"java/lang/StringUTF16", "compress", "([CI[BII)I"⟩
abbrev yB : ByteArray := jdk_52_method_21_code
theorem d0 : decode yB 0 = .ok (.iconst 0, 1) := by decide +kernel
theorem d1 : decode yB 1 = .ok (.istore 5, 2) := by decide +kernel
theorem d3 : decode yB 3 = .ok (.iload 5, 2) := by decide +kernel
theorem d5 : decode yB 5 = .ok (.iload 4, 2) := by decide +kernel
theorem d7 : decode yB 7 = .ok (.if_icmp (.ge) 37, 3) := by decide +kernel
theorem d10 : decode yB 10 = .ok (.aload_n 0, 1) := by decide +kernel
theorem d11 : decode yB 11 = .ok (.iload_n 1, 1) := by decide +kernel
theorem d12 : decode yB 12 = .ok (.caload, 1) := by decide +kernel
theorem d13 : decode yB 13 = .ok (.istore 6, 2) := by decide +kernel
theorem d15 : decode yB 15 = .ok (.iload 6, 2) := by decide +kernel
theorem d17 : decode yB 17 = .ok (.sipush 255, 3) := by decide +kernel
theorem d20 : decode yB 20 = .ok (.if_icmp (.le) 6, 3) := by decide +kernel
theorem d26 : decode yB 26 = .ok (.aload_n 2, 1) := by decide +kernel
theorem d27 : decode yB 27 = .ok (.iload_n 3, 1) := by decide +kernel
theorem d28 : decode yB 28 = .ok (.iload 6, 2) := by decide +kernel
theorem d30 : decode yB 30 = .ok (.i2b, 1) := by decide +kernel
theorem d31 : decode yB 31 = .ok (.bastore, 1) := by decide +kernel
theorem d32 : decode yB 32 = .ok (.iinc 1 1, 3) := by decide +kernel
theorem d35 : decode yB 35 = .ok (.iinc 3 1, 3) := by decide +kernel
theorem d38 : decode yB 38 = .ok (.iinc 5 1, 3) := by decide +kernel
theorem d41 : decode yB 41 = .ok (.goto (-38), 3) := by decide +kernel
theorem d44 : decode yB 44 = .ok (.iload 4, 2) := by decide +kernel
theorem d46 : decode yB 46 = .ok (.ireturn, 1) := by decide +kernel
def site : List Cond := []
def tab : Cond := tabOf yN yB 7 (some .int) site
def P (b : Addr) (A : Cell) (d : Addr) (B : Cell) (o q len : Nat) (args : Array Value) (s : State) : Prop := args = #[.ref b, .int (Int32.ofNat o), .ref d, .int (Int32.ofNat q), .int (Int32.ofNat len)] ∧ Ch b A s ∧ Arr .byte d B s ∧ b ≠ d ∧ o + len ≤ A.slots.size ∧ q + len ≤ B.slots.size ∧ ∀ i, i < len → ¬ 255 < cv A (o + i)
def E (b : Addr) (A : Cell) (d : Addr) (B : Cell) (o q len : Nat) (r : Option Value) (s u : State) : Prop := r = some (.int (Int32.ofNat len)) ∧ ∃ B', Put d B' s u ∧ Laid B B' q (q + len) (fun j => Value.int (lo8 (cv A (o + (j - q)))))
/-- no char of the range above 255: len; the places written hold each char's low byte -/
theorem law (l : Launch) (b : Addr) (A : Cell) (d : Addr) (B : Cell) (o q len : Nat) : Law l yN 5 5 0 0 yB 7 (some .int) site (P b A d B o q len) (E b A d B o q len) (copyLocs d q len) 0 0 := by
  refine Law.of_walk (plainFor_of_name (by decide +kernel)) (by decide +kernel) (by decide +kernel) (by decide) (fun _ _ h => by rw [h.1]; rfl) (fun _ U U' hal hh h => ⟨h.1, h.2.1.mv hal hh, h.2.2.1.mv hal hh, h.2.2.2⟩) (fun r U U' V V' h1 hal h2 h => ⟨h.1, h.2.elim fun B' q => ⟨B', q.1.mv h1 h2, q.2⟩⟩) ?_
  intro p e s m args below meth c s₁ X0 hexec hbytes hml hret hlk hnm hown hh0 W hP
  obtain ⟨rfl, hA, hB, hne, l1, l2, hp⟩ := hP
  have c1 : Steps p.tables e below (s₁.setTop (entryFrame m #[.ref b, .int (Int32.ofNat o), .ref d, .int (Int32.ofNat q), .int (Int32.ofNat len)] 7)) (s₁.setTop (mkF m 0 #[.val (.ref b), .val (.int (Int32.ofNat o)), .val (.ref d), .val (.int (Int32.ofNat q)), .val (.int (Int32.ofNat len)), .unset, .unset] [])) := entry rfl
  have hA0 := hA.1.mv X0.warmed.alike hh0
  have hB0 := hB.mv X0.warmed.alike hh0
  have a31 := hA.1.2.2.2
  have c2 : Steps p.tables e below (s₁.setTop (entryFrame m #[.ref b, .int (Int32.ofNat o), .ref d, .int (Int32.ofNat q), .int (Int32.ofNat len)] 7)) (s₁.setTop (mkF m 3 #[.val (.ref b), .val (.int (Int32.ofNat o)), .val (.ref d), .val (.int (Int32.ofNat q)), .val (.int (Int32.ofNat len)), .val (.int 0), .unset] [])) := c1.trans (by
    refine iconstV X0.here hexec rfl 0 (hb hbytes d0) (by decide) ?_
    refine XS.istore X0.here hexec rfl (hb hbytes d1) rfl rfl ?_
    exact Steps.refl _)
  have loop : ∀ (r i : Nat), i + r = len → ∀ (z : Slot), (z = .unset ∨ ∃ w, z = .val w ∧ w.category = 1) → ∀ (Tl : State) (Bk : Cell), Stand p l e { frames := 0, locals := 0, cells := 0, slots := 0 } s m #[.ref b, .int (Int32.ofNat o), .ref d, .int (Int32.ofNat q), .int (Int32.ofNat len)] below meth c Tl ([] ++ copyLocs d q i) 0 0 → Put d Bk s₁ Tl → Laid B Bk q (q + i) (fun j => Value.int (lo8 (cv A (o + (j - q))))) →
      Steps p.tables e below (s₁.setTop (entryFrame m #[.ref b, .int (Int32.ofNat o), .ref d, .int (Int32.ofNat q), .int (Int32.ofNat len)] 7)) (Tl.setTop (mkF m 3 #[.val (.ref b), .val (.int (Int32.ofNat (o + i))), .val (.ref d), .val (.int (Int32.ofNat (q + i))), .val (.int (Int32.ofNat len)), .val (.int (Int32.ofNat i)), z] [])) → ∃ (T' : State) (B' : Cell) (z' : Slot), Stand p l e { frames := 0, locals := 0, cells := 0, slots := 0 } s m #[.ref b, .int (Int32.ofNat o), .ref d, .int (Int32.ofNat q), .int (Int32.ofNat len)] below meth c T' ([] ++ copyLocs d q len) 0 0 ∧ Put d B' s₁ T' ∧ Laid B B' q (q + len) (fun j => Value.int (lo8 (cv A (o + (j - q))))) ∧
      Steps p.tables e below (s₁.setTop (entryFrame m #[.ref b, .int (Int32.ofNat o), .ref d, .int (Int32.ofNat q), .int (Int32.ofNat len)] 7)) (T'.setTop (mkF m 3 #[.val (.ref b), .val (.int (Int32.ofNat (o + len))), .val (.ref d), .val (.int (Int32.ofNat (q + len))), .val (.int (Int32.ofNat len)), .val (.int (Int32.ofNat len)), z'] [])) := by
    intro r
    induction r with
    | zero =>
      intro i hi z hz Tl Bk Xl pl fl cl
      have hil : i = len := by omega
      rw [hil] at Xl fl cl
      exact ⟨Tl, Bk, z, Xl, pl, fl, cl⟩
    | succ r ih =>
      intro i hi z hz Tl Bk Xl pl fl cl
      have all := X0.warmed.alike.symm.trans Xl.warmed.alike
      have hAl := hA0.keep all (pl.other hne hA0.1)
      have hBk := hB0.like all pl.1 fl.1 fl.2.1 fl.2.2.1
      have hlt : q + i < Bk.slots.size := by rw [fl.2.2.1]; omega
      have c3 : Steps p.tables e below (s₁.setTop (entryFrame m #[.ref b, .int (Int32.ofNat o), .ref d, .int (Int32.ofNat q), .int (Int32.ofNat len)] 7)) (Tl.setTop (mkF m 12 #[.val (.ref b), .val (.int (Int32.ofNat (o + i))), .val (.ref d), .val (.int (Int32.ofNat (q + i))), .val (.int (Int32.ofNat len)), .val (.int (Int32.ofNat i)), z] [.int (Int32.ofNat (o + i)), .ref b])) := cl.trans (by
        refine XS.iload Xl.here hexec rfl (hb hbytes d3) rfl ?_
        refine XS.iload Xl.here hexec rfl (hb hbytes d5) rfl ?_
        refine XS.icmpNo Xl.here hexec rfl (hb hbytes d7) rfl (ii_ge_f (lt32 (by omega) (by omega))) ?_
        refine XS.aloadN Xl.here hexec rfl (hb hbytes d10) rfl rfl ?_
        refine XS.iloadN Xl.here hexec rfl (hb hbytes d11) rfl ?_
        exact Steps.refl _)
      have c4 : Steps p.tables e below (s₁.setTop (entryFrame m #[.ref b, .int (Int32.ofNat o), .ref d, .int (Int32.ofNat q), .int (Int32.ofNat len)] 7)) (Tl.setTop (mkF m 13 #[.val (.ref b), .val (.int (Int32.ofNat (o + i))), .val (.ref d), .val (.int (Int32.ofNat (q + i))), .val (.int (Int32.ofNat len)), .val (.int (Int32.ofNat i)), z] [.int (cv A (o + i))])) := c3.trans (by
        refine Xl.aget hexec hAl rfl (hA.get (i := o + i) (by omega)) rfl rfl (hb hbytes d12) ?_
        exact Steps.refl _)
      have c5 : Steps p.tables e below (s₁.setTop (entryFrame m #[.ref b, .int (Int32.ofNat o), .ref d, .int (Int32.ofNat q), .int (Int32.ofNat len)] 7)) (Tl.setTop (mkF m 15 #[.val (.ref b), .val (.int (Int32.ofNat (o + i))), .val (.ref d), .val (.int (Int32.ofNat (q + i))), .val (.int (Int32.ofNat len)), .val (.int (Int32.ofNat i)), .val (.int (cv A (o + i)))] [])) := c4.trans (by
        refine XS.istoreS Xl.here hexec rfl (hb hbytes d13) rfl rfl hz ?_
        exact Steps.refl _)
      have c6 : Steps p.tables e below (s₁.setTop (entryFrame m #[.ref b, .int (Int32.ofNat o), .ref d, .int (Int32.ofNat q), .int (Int32.ofNat len)] 7)) (Tl.setTop (mkF m 31 #[.val (.ref b), .val (.int (Int32.ofNat (o + i))), .val (.ref d), .val (.int (Int32.ofNat (q + i))), .val (.int (Int32.ofNat len)), .val (.int (Int32.ofNat i)), .val (.int (cv A (o + i)))] [.int (lo8 (cv A (o + i))), .int (Int32.ofNat (q + i)), .ref d])) := c5.trans (by
        refine XS.iload Xl.here hexec rfl (hb hbytes d15) rfl ?_
        refine sipushV Xl.here hexec rfl 255 (hb hbytes d17) (by decide) ?_
        refine XS.icmpYes Xl.here hexec rfl (pc0 := 20) rfl (hb hbytes d20) rfl (ii_le_t (hp i (by omega))) (by decide) rfl ?_
        refine XS.aloadN Xl.here hexec rfl (hb hbytes d26) rfl rfl ?_
        refine XS.iloadN Xl.here hexec rfl (hb hbytes d27) rfl ?_
        refine XS.iload Xl.here hexec rfl (hb hbytes d28) rfl ?_
        refine i2b Xl.here hexec rfl (hb hbytes d30) rfl ?_
        exact Steps.refl _)
      obtain ⟨T7, X7, p7, st7⟩ := Xl.aput hexec hBk rfl hlt rfl (fits_lo8 (cv A (o + i))) (g := (mkF m 31 #[.val (.ref b), .val (.int (Int32.ofNat (o + i))), .val (.ref d), .val (.int (Int32.ofNat (q + i))), .val (.int (Int32.ofNat len)), .val (.int (Int32.ofNat i)), .val (.int (cv A (o + i)))] [.int (lo8 (cv A (o + i))), .int (Int32.ofNat (q + i)), .ref d])) rfl (rest := []) rfl (hb hbytes d31)
      have c8 : Steps p.tables e below (s₁.setTop (entryFrame m #[.ref b, .int (Int32.ofNat o), .ref d, .int (Int32.ofNat q), .int (Int32.ofNat len)] 7)) (T7.setTop (mkF m 32 #[.val (.ref b), .val (.int (Int32.ofNat (o + i))), .val (.ref d), .val (.int (Int32.ofNat (q + i))), .val (.int (Int32.ofNat len)), .val (.int (Int32.ofNat i)), .val (.int (cv A (o + i)))] [])) := c6.trans (st7 _ (Steps.refl _))
      have c9 : Steps p.tables e below (s₁.setTop (entryFrame m #[.ref b, .int (Int32.ofNat o), .ref d, .int (Int32.ofNat q), .int (Int32.ofNat len)] 7)) (T7.setTop (mkF m 3 #[.val (.ref b), .val (.int (Int32.ofNat (o + i) + 1)), .val (.ref d), .val (.int (Int32.ofNat (q + i) + 1)), .val (.int (Int32.ofNat len)), .val (.int (Int32.ofNat i + 1)), .val (.int (cv A (o + i)))] [])) := c8.trans (by
        refine iincV X7.here hexec rfl 1 (hb hbytes d32) (by decide) rfl rfl ?_
        refine iincV X7.here hexec rfl 1 (hb hbytes d35) (by decide) rfl rfl ?_
        refine iincV X7.here hexec rfl 1 (hb hbytes d38) (by decide) rfl rfl ?_
        refine XS.goto X7.here hexec rfl (pc0 := 41) rfl (hb hbytes d41) (by decide) rfl ?_
        exact Steps.refl _)
      have c10 : Steps p.tables e below (s₁.setTop (entryFrame m #[.ref b, .int (Int32.ofNat o), .ref d, .int (Int32.ofNat q), .int (Int32.ofNat len)] 7)) (T7.setTop (mkF m 3 #[.val (.ref b), .val (.int (Int32.ofNat (o + (i + 1)))), .val (.ref d), .val (.int (Int32.ofNat (q + (i + 1)))), .val (.int (Int32.ofNat len)), .val (.int (Int32.ofNat (i + 1))), .val (.int (cv A (o + i)))] [])) := by
        have := c9
        rw [succ32, succ32, succ32] at this
        exact this
      exact ih (i + 1) (by omega) _ (Or.inr ⟨_, rfl, rfl⟩) T7 _ (by rw [copyLocs_step, ← List.append_assoc]; exact X7) (pl.trans p7) (fl.step (by omega) hlt (by simp)) c10
  obtain ⟨T9, B9, z9, X9, p9, f9, g9⟩ := loop len 0 (by omega) .unset (Or.inl rfl) s₁ B (by simpa [copyLocs] using X0) ⟨hB0.1, fun _ _ => rfl, rfl⟩ (Laid.zero _ _ _) c2
  have c11 : Steps p.tables e below (s₁.setTop (entryFrame m #[.ref b, .int (Int32.ofNat o), .ref d, .int (Int32.ofNat q), .int (Int32.ofNat len)] 7)) (T9.setTop (mkF m 46 #[.val (.ref b), .val (.int (Int32.ofNat (o + len))), .val (.ref d), .val (.int (Int32.ofNat (q + len))), .val (.int (Int32.ofNat len)), .val (.int (Int32.ofNat len)), z9] [.int (Int32.ofNat len)])) := g9.trans (by
    refine XS.iload X9.here hexec rfl (hb hbytes d3) rfl ?_
    refine XS.iload X9.here hexec rfl (hb hbytes d5) rfl ?_
    refine XS.icmpYes X9.here hexec rfl (pc0 := 7) rfl (hb hbytes d7) rfl (ii_ge_t (nlt32 (by omega) (Nat.le_refl _))) (by decide) rfl ?_
    refine XS.iload X9.here hexec rfl (hb hbytes d44) rfl ?_
    exact Steps.refl _)
  exact ⟨T9, some (.int (Int32.ofNat len)), _, _, _, X9, by simp, rfl, rfl, (fun h => by cases h), ⟨rfl, B9, p9.from hh0, f9⟩, fun fs hl => c11.trans (X9.ireturnOut hexec hret rfl (Or.inl rfl) (hb hbytes d46) hl)⟩
end Cmp5
namespace Cmp3
def yN : MethodName := ⟨"java/lang/StringUTF16", "compress", "([CII)[B"⟩
abbrev yB : ByteArray := jdk_52_method_16_code
theorem d0 : decode yB 0 = .ok (.iload_n 2, 1) := by decide +kernel
theorem d1 : decode yB 1 = .ok (.newarray .byte, 2) := by decide +kernel
theorem d3 : decode yB 3 = .ok (.astore_n 3, 1) := by decide +kernel
theorem d4 : decode yB 4 = .ok (.aload_n 0, 1) := by decide +kernel
theorem d5 : decode yB 5 = .ok (.iload_n 1, 1) := by decide +kernel
theorem d6 : decode yB 6 = .ok (.aload_n 3, 1) := by decide +kernel
theorem d7 : decode yB 7 = .ok (.iconst 0, 1) := by decide +kernel
theorem d8 : decode yB 8 = .ok (.iload_n 2, 1) := by decide +kernel
theorem d9 : decode yB 9 = .ok (.invokestatic 115, 3) := by decide +kernel
theorem d12 : decode yB 12 = .ok (.istore 4, 2) := by decide +kernel
theorem d14 : decode yB 14 = .ok (.iload 4, 2) := by decide +kernel
theorem d16 : decode yB 16 = .ok (.iload_n 2, 1) := by decide +kernel
theorem d17 : decode yB 17 = .ok (.if_icmp (.eq) 40, 3) := by decide +kernel
theorem d57 : decode yB 57 = .ok (.aload_n 3, 1) := by decide +kernel
theorem d58 : decode yB 58 = .ok (.areturn, 1) := by decide +kernel
def site : List Cond := [.arrayClass .byte, Cmp5.tab] ++ staticW U16 115 Cmp5.yN
def tab : Cond := tabOf yN yB 6 (some (.array .byte)) site
def P (b : Addr) (A : Cell) (o len : Nat) (args : Array Value) (s : State) : Prop := args = #[.ref b, .int (Int32.ofNat o), .int (Int32.ofNat len)] ∧ Ch b A s ∧ o + len ≤ A.slots.size ∧ len ≤ 536870912 ∧ ∀ i, i < len → ¬ 255 < cv A (o + i)
def E (b : Addr) (A : Cell) (o len : Nat) (r : Option Value) (s u : State) : Prop := NewArr .byte "[B" len (fun j => .int (lo8 (cv A (o + j)))) r s u ∧ u.heap.size = s.heap.size + 1
/-- no char of the range above 255: a new byte[] of their low bytes -/
theorem law (l : Launch) (b : Addr) (A : Cell) (o len : Nat) : Law l yN 3 3 1 18 yB 6 (some (.array .byte)) site (P b A o len) (E b A o len) [] 1 len := by
  refine Law.of_walk (plainFor_of_name (by decide +kernel)) (by decide +kernel) (by decide +kernel) (by decide) (fun _ _ h => by rw [h.1]; rfl) (fun _ U U' hal hh h => ⟨h.1, h.2.1.mv hal hh, h.2.2⟩) (fun r U U' V V' h1 hal h2 h => ⟨NewArr.mv r U U' V V' h1 hal h2 h.1, by rw [h1, h2]; exact h.2⟩) ?_
  intro p e s m args below meth c s₁ X0 hexec hbytes hml hret hlk hnm hown hh0 W hP
  obtain ⟨rfl, hA, l1, l2, hp⟩ := hP
  have a31 := hA.1.2.2.2
  have c1 : Steps p.tables e below (s₁.setTop (entryFrame m #[.ref b, .int (Int32.ofNat o), .int (Int32.ofNat len)] 6)) (s₁.setTop (mkF m 0 #[.val (.ref b), .val (.int (Int32.ofNat o)), .val (.int (Int32.ofNat len)), .unset, .unset, .unset] [])) := entry rfl
  have c2 : Steps p.tables e below (s₁.setTop (entryFrame m #[.ref b, .int (Int32.ofNat o), .int (Int32.ofNat len)] 6)) (s₁.setTop (mkF m 1 #[.val (.ref b), .val (.int (Int32.ofNat o)), .val (.int (Int32.ofNat len)), .unset, .unset, .unset] [.int (Int32.ofNat len)])) := c1.trans (by
    refine XS.iloadN X0.here hexec rfl (hb hbytes d0) rfl ?_
    exact Steps.refl _)
  obtain ⟨T3, B3, X3, ba3, bs3, bv3, bh3, bf3, st3⟩ := X0.anew hexec (atype := .byte) (wk W (.arrayClass .byte)) rfl (by show len * 1 ≤ _; omega) (by omega) (g := (mkF m 1 #[.val (.ref b), .val (.int (Int32.ofNat o)), .val (.int (Int32.ofNat len)), .unset, .unset, .unset] [.int (Int32.ofNat len)])) rfl (hb hbytes d1) (rest := []) rfl (Nat.le_refl _) (by show 0 + len ≤ len; omega)
  rw [hh0] at ba3 st3
  have kp3 : XT.Kept s T3 := (XT.Kept.of_eq hh0).push bh3
  have hA3 := hA.keep X3.warmed.alike (kp3 _ _ hA.1.1)
  have hne : b ≠ s.heap.size := hA.1.ne
  have c4 : Steps p.tables e below (s₁.setTop (entryFrame m #[.ref b, .int (Int32.ofNat o), .int (Int32.ofNat len)] 6)) (T3.setTop (mkF m 3 #[.val (.ref b), .val (.int (Int32.ofNat o)), .val (.int (Int32.ofNat len)), .unset, .unset, .unset] [.ref s.heap.size])) := c2.trans (st3 _ (Steps.refl _))
  have c5 : Steps p.tables e below (s₁.setTop (entryFrame m #[.ref b, .int (Int32.ofNat o), .int (Int32.ofNat len)] 6)) (T3.setTop (mkF m 9 #[.val (.ref b), .val (.int (Int32.ofNat o)), .val (.int (Int32.ofNat len)), .val (.ref s.heap.size), .unset, .unset] [.int (Int32.ofNat len), .int 0, .ref s.heap.size, .int (Int32.ofNat o), .ref b])) := c4.trans (by
    refine XS.astoreN X3.here hexec rfl (hb hbytes d3) rfl rfl rfl ?_
    refine XS.aloadN X3.here hexec rfl (hb hbytes d4) rfl rfl ?_
    refine XS.iloadN X3.here hexec rfl (hb hbytes d5) rfl ?_
    refine XS.aloadN X3.here hexec rfl (hb hbytes d6) rfl rfl ?_
    refine iconstV X3.here hexec rfl 0 (hb hbytes d7) (by decide) ?_
    refine XS.iloadN X3.here hexec rfl (hb hbytes d8) rfl ?_
    exact Steps.refl _)
  obtain ⟨v6, T6, X6, E6, g6⟩ := X3.callS hexec (Cmp5.law l b A s.heap.size B3 o 0 len) hown (wks W (staticW U16 115 Cmp5.yN)) (wk W Cmp5.tab) (W := 0) (Nat.le_of_ble_eq_true rfl) (Nat.le_of_ble_eq_true rfl) (Nat.le_refl _) (by show 0 + len + 0 ≤ len; omega) (g := (mkF m 9 #[.val (.ref b), .val (.int (Int32.ofNat o)), .val (.int (Int32.ofNat len)), .val (.ref s.heap.size), .unset, .unset] [.int (Int32.ofNat len), .int (Int32.ofNat 0), .ref s.heap.size, .int (Int32.ofNat o), .ref b])) rfl (by rw [hml]; rfl) c5 (argsL := [.ref b, .int (Int32.ofNat o), .ref s.heap.size, .int (Int32.ofNat 0), .int (Int32.ofNat len)]) (rest := []) rfl rfl (by show 2 * 0 + 0 ≤ _; decide) (hb hbytes d9) (⟨rfl, hA3, ba3, hne, l1, by rw [bs3]; simp, hp⟩)
  obtain ⟨rfl, B6, p6, f6⟩ := E6
  have c7 : Steps p.tables e below (s₁.setTop (entryFrame m #[.ref b, .int (Int32.ofNat o), .int (Int32.ofNat len)] 6)) (T6.setTop (mkF m 12 #[.val (.ref b), .val (.int (Int32.ofNat o)), .val (.int (Int32.ofNat len)), .val (.ref s.heap.size), .unset, .unset] [.int (Int32.ofNat len)])) := g6
  have c8 : Steps p.tables e below (s₁.setTop (entryFrame m #[.ref b, .int (Int32.ofNat o), .int (Int32.ofNat len)] 6)) (T6.setTop (mkF m 58 #[.val (.ref b), .val (.int (Int32.ofNat o)), .val (.int (Int32.ofNat len)), .val (.ref s.heap.size), .val (.int (Int32.ofNat len)), .unset] [.ref s.heap.size])) := c7.trans (by
    refine XS.istore X6.here hexec rfl (hb hbytes d12) rfl rfl ?_
    refine XS.iload X6.here hexec rfl (hb hbytes d14) rfl ?_
    refine XS.iloadN X6.here hexec rfl (hb hbytes d16) rfl ?_
    refine XS.icmpYes X6.here hexec rfl (pc0 := 17) rfl (hb hbytes d17) rfl (ii_eq_t rfl) (by decide) rfl ?_
    refine XS.aloadN X6.here hexec rfl (hb hbytes d57) rfl rfl ?_
    exact Steps.refl _)
  have X8 := X6.wide (L' := []) (cells' := 1) (slots' := len) (fun x hx hlt => by
    simp only [List.nil_append, copyLocs, List.mem_map, List.mem_range] at hx
    obtain ⟨i, -, rfl⟩ := hx
    exact absurd hlt (Nat.lt_irrefl _)) (Nat.le_refl _) (by omega)
  exact ⟨T6, some (.ref s.heap.size), _, _, _, X8, rfl, rfl, rfl, (fun h => by cases h), ⟨⟨rfl, B6, ba3.like (X3.warmed.alike.symm.trans X6.warmed.alike) p6.1 f6.1 f6.2.1 f6.2.2.1, f6.2.1.trans bv3, by rw [X6.warmed.alike.findClass, f6.1]; exact bf3, by rw [f6.2.2.1, bs3]; simp, fun j hj => by rw [f6.2.2.2 j, if_pos (by omega)]; rfl, kp3.put p6 (Nat.le_refl _)⟩, by rw [p6.2.2, bh3, hh0]; simp⟩, fun fs hl => c8.trans (X8.areturnOut hexec rfl hret rfl (hb hbytes d58) hl)⟩
end Cmp3
namespace CodL
def yN : MethodName := ⟨"java/lang/StringUTF16", "coderFromArrayLen", "([BI)B"⟩
abbrev yB : ByteArray := jdk_52_method_15_code
theorem d0 : decode yB 0 = .ok (.iload_n 1, 1) := by decide +kernel
theorem d1 : decode yB 1 = .ok (.aload_n 0, 1) := by decide +kernel
theorem d2 : decode yB 2 = .ok (.arraylength, 1) := by decide +kernel
theorem d3 : decode yB 3 = .ok (.isub, 1) := by decide +kernel
theorem d4 : decode yB 4 = .ok (.bipush 31, 2) := by decide +kernel
theorem d6 : decode yB 6 = .ok (.iushr, 1) := by decide +kernel
theorem d7 : decode yB 7 = .ok (.i2b, 1) := by decide +kernel
theorem d8 : decode yB 8 = .ok (.ireturn, 1) := by decide +kernel
def site : List Cond := []
def tab : Cond := tabOf yN yB 2 (some .byte) site
def P (d : Addr) (B : Cell) (args : Array Value) (s : State) : Prop := args = #[.ref d, .int (Int32.ofNat B.slots.size)] ∧ Arr .byte d B s
def E (r : Option Value) (s u : State) : Prop := XT.PureE (some (.int 0)) r s u
/-- an array as long as the number of chars: LATIN1 -/
theorem law (l : Launch) (d : Addr) (B : Cell) : Law l yN 2 2 0 0 yB 2 (some .byte) site (P d B) E [] 0 0 := by
  refine Law.of_walk (plainFor_of_name (by decide +kernel)) (by decide +kernel) (by decide +kernel) (by decide) (fun _ _ h => by rw [h.1]; rfl) (fun _ U U' hal hh h => ⟨h.1, h.2.mv hal hh⟩) (fun r U U' V V' h1 hal h2 h => XT.PureE.mv r U U' V V' h1 hal h2 h) ?_
  intro p e s m args below meth c s₁ X0 hexec hbytes hml hret hlk hnm hown hh0 W hP
  obtain ⟨rfl, hB⟩ := hP
  have hB0 := hB.mv X0.warmed.alike hh0
  have c1 : Steps p.tables e below (s₁.setTop (entryFrame m #[.ref d, .int (Int32.ofNat B.slots.size)] 2)) (s₁.setTop (mkF m 0 #[.val (.ref d), .val (.int (Int32.ofNat B.slots.size))] [])) := entry rfl
  have c2 : Steps p.tables e below (s₁.setTop (entryFrame m #[.ref d, .int (Int32.ofNat B.slots.size)] 2)) (s₁.setTop (mkF m 2 #[.val (.ref d), .val (.int (Int32.ofNat B.slots.size))] [.ref d, .int (Int32.ofNat B.slots.size)])) := c1.trans (by
    refine XS.iloadN X0.here hexec rfl (hb hbytes d0) rfl ?_
    refine XS.aloadN X0.here hexec rfl (hb hbytes d1) rfl rfl ?_
    exact Steps.refl _)
  have c3 : Steps p.tables e below (s₁.setTop (entryFrame m #[.ref d, .int (Int32.ofNat B.slots.size)] 2)) (s₁.setTop (mkF m 8 #[.val (.ref d), .val (.int (Int32.ofNat B.slots.size))] [.int (lo8 (ushr (Int32.ofNat B.slots.size - Int32.ofNat B.slots.size) 31))])) := c2.trans (by
    refine X0.alen hexec hB0 rfl rfl (hb hbytes d2) ?_
    refine XS.isub X0.here hexec rfl (hb hbytes d3) rfl ?_
    refine bipushV X0.here hexec rfl 31 (hb hbytes d4) (by decide) ?_
    refine iushr X0.here hexec rfl (hb hbytes d6) rfl ?_
    refine i2b X0.here hexec rfl (hb hbytes d7) rfl ?_
    exact Steps.refl _)
  have e0 : lo8 (ushr (Int32.ofNat B.slots.size - Int32.ofNat B.slots.size) 31) = 0 := by rw [Int32.sub_self]; decide
  rw [e0] at c3
  exact ⟨s₁, some (.int 0), _, _, _, X0, rfl, rfl, rfl, (fun h => by cases h), ⟨rfl, hh0⟩, fun fs hl => c3.trans (X0.ireturnOut hexec hret rfl (Or.inr (Or.inr (Or.inl rfl))) (hb hbytes d8) hl)⟩
end CodL
/-- the String at a is Latin-1 over a new byte[] (the heap's one new cell): the low bytes of the len chars of A from o on; every cell but a is kept -/
def Got (a : Addr) (D : Cell) (fV fC : Field) (A : Cell) (o len : Nat) (r : Option Value) (s u : State) : Prop := r = none ∧ ∃ D' V : Cell, Blank "java/lang/String" a D' u ∧ Same D D' [fV.slot, fC.slot] ∧ D'.slots[fV.slot]? = some (.ref s.heap.size) ∧ D'.slots[fC.slot]? = some (.int 0) ∧ Arr .byte s.heap.size V u ∧ V.vm = .none ∧ u.vm.findClass "[B" = some V.cls ∧ V.slots.size = len ∧ (∀ j, j < len → V.slots[j]? = some (.int (lo8 (cv A (o + j))))) ∧ (∀ (y : Addr) (c : Cell), y ≠ a → s.heap[y]? = some c → u.heap[y]? = some c) ∧ u.heap.size = s.heap.size + 1
theorem Got.mv {a : Addr} {D A : Cell} {fV fC : Field} {o len : Nat} : ∀ r (U U' V V' : State), U'.heap = U.heap → V.vm.Alike V'.vm → V'.heap = V.heap → Got a D fV fC A o len r U V → Got a D fV fC A o len r U' V' :=
  fun r U U' V V' h1 hal h2 ⟨e0, D', X, a1, a2, a3, a4, a5, a6, a7, a8, a9, a10, a11⟩ => ⟨e0, D', X, a1.mv hal h2, a2, by rw [h1]; exact a3, a4, by rw [h1]; exact a5.mv hal h2, a6, by rw [hal.findClass]; exact a7, a8, a9, by rw [h1, h2]; exact a10, by rw [h1, h2]; exact a11⟩
namespace New4
def yN : MethodName := ⟨"java/lang/String", "<init>", "([CIILjava/lang/Void;)V"⟩
abbrev yB : ByteArray := jdk_42_method_149_code
theorem d0 : decode yB 0 = .ok (.aload_n 0, 1) := by decide +kernel
theorem d1 : decode yB 1 = .ok (.invokespecial 1, 3) := by decide +kernel
theorem d4 : decode yB 4 = .ok (.iload_n 3, 1) := by decide +kernel
theorem d5 : decode yB 5 = .ok (.ifCond (.ne) 22, 3) := by decide +kernel
theorem d27 : decode yB 27 = .ok (.getstatic 38, 3) := by decide +kernel
theorem d30 : decode yB 30 = .ok (.ifCond (.eq) 28, 3) := by decide +kernel
theorem d33 : decode yB 33 = .ok (.aload_n 1, 1) := by decide +kernel
theorem d34 : decode yB 34 = .ok (.iload_n 2, 1) := by decide +kernel
theorem d35 : decode yB 35 = .ok (.iload_n 3, 1) := by decide +kernel
theorem d36 : decode yB 36 = .ok (.invokestatic 177, 3) := by decide +kernel
theorem d39 : decode yB 39 = .ok (.astore 5, 2) := by decide +kernel
theorem d41 : decode yB 41 = .ok (.aload_n 0, 1) := by decide +kernel
theorem d42 : decode yB 42 = .ok (.aload 5, 2) := by decide +kernel
theorem d44 : decode yB 44 = .ok (.iload_n 3, 1) := by decide +kernel
theorem d45 : decode yB 45 = .ok (.invokestatic 47, 3) := by decide +kernel
theorem d48 : decode yB 48 = .ok (.putfield 15, 3) := by decide +kernel
theorem d51 : decode yB 51 = .ok (.aload_n 0, 1) := by decide +kernel
theorem d52 : decode yB 52 = .ok (.aload 5, 2) := by decide +kernel
theorem d54 : decode yB 54 = .ok (.putfield 9, 3) := by decide +kernel
theorem d57 : decode yB 57 = .ok (.return_, 1) := by decide +kernel
def site : List Cond := [.fieldLink "java/lang/String" 38 "java/lang/String" "COMPACT_STRINGS" "Z", Cmp3.tab, CodL.tab, .laysFinal "java/lang/String" "java/lang/String" "value" "[B", .fieldLink "java/lang/String" 9 "java/lang/String" "value" "[B", .laysFinal "java/lang/String" "java/lang/String" "coder" "B", .fieldLink "java/lang/String" 15 "java/lang/String" "coder" "B"] ++ objW "java/lang/String" 1 ++ staticW "java/lang/String" 177 Cmp3.yN ++ staticW "java/lang/String" 47 CodL.yN
def tab : Cond := tabOf yN yB 6 none site
def P (a : Addr) (D : Cell) (fV fC : Field) (b : Addr) (A : Cell) (z : Int32) (o len : Nat) (args : Array Value) (s : State) : Prop := args = #[.ref a, .ref b, .int (Int32.ofNat o), .int (Int32.ofNat len), .null] ∧ Blank "java/lang/String" a D s ∧ Found "java/lang/String" "value" "[B" fV s ∧ Found "java/lang/String" "coder" "B" fC s ∧ Ch b A s ∧ StaticIs s "java/lang/String" "COMPACT_STRINGS" "Z" (.int z) ∧ ¬ z = 0 ∧ 0 < len ∧ o + len ≤ A.slots.size ∧ len ≤ 536870912 ∧ ∀ i, i < len → ¬ 255 < cv A (o + i)
def E (a : Addr) (D : Cell) (fV fC : Field) (A : Cell) (o len : Nat) (r : Option Value) (s u : State) : Prop := Got a D fV fC A o len r s u
/-- len > 0, no char of the range above 255: a Latin-1 String of their low bytes -/
theorem law (l : Launch) (a : Addr) (D : Cell) (fV fC : Field) (b : Addr) (A : Cell) (z : Int32) (o len : Nat) : Law l yN 5 4 2 35 yB 6 none site (P a D fV fC b A z o len) (E a D fV fC A o len) [⟨a, fC.slot⟩, ⟨a, fV.slot⟩] 1 len := by
  refine Law.of_walk (plainFor_of_name (by decide +kernel)) (by decide +kernel) (by decide +kernel) (by decide) (fun _ _ h => by rw [h.1]; rfl) (fun _ U U' hal hh h => ⟨h.1, h.2.1.mv hal hh, h.2.2.1.al hal, h.2.2.2.1.al hal, h.2.2.2.2.1.mv hal hh, h.2.2.2.2.2.1.there hal hh, h.2.2.2.2.2.2⟩) (fun r U U' V V' h1 hal h2 h => Got.mv r U U' V V' h1 hal h2 h) ?_
  intro p e s m args below meth c s₁ X0 hexec hbytes hml hret hlk hnm hown hh0 W hP
  obtain ⟨rfl, hB, f1, f2, hA, s1, hz, l0, l1, l2, hp⟩ := hP
  have a31 := hA.1.2.2.2
  have c1 : Steps p.tables e below (s₁.setTop (entryFrame m #[.ref a, .ref b, .int (Int32.ofNat o), .int (Int32.ofNat len), .null] 6)) (s₁.setTop (mkF m 0 #[.val (.ref a), .val (.ref b), .val (.int (Int32.ofNat o)), .val (.int (Int32.ofNat len)), .val .null, .unset] [])) := entry rfl
  have c2 : Steps p.tables e below (s₁.setTop (entryFrame m #[.ref a, .ref b, .int (Int32.ofNat o), .int (Int32.ofNat len), .null] 6)) (s₁.setTop (mkF m 1 #[.val (.ref a), .val (.ref b), .val (.int (Int32.ofNat o)), .val (.int (Int32.ofNat len)), .val .null, .unset] [.ref a])) := c1.trans (by
    refine XS.aloadN X0.here hexec rfl (hb hbytes d0) rfl rfl ?_
    exact Steps.refl _)
  obtain ⟨T3, X3, q3, st3⟩ := X0.oinit hexec hown (wks W (objW "java/lang/String" 1)) (g := (mkF m 1 #[.val (.ref a), .val (.ref b), .val (.int (Int32.ofNat o)), .val (.int (Int32.ofNat len)), .val .null, .unset] [.ref a])) rfl (by rw [hml]; rfl) (rest := []) rfl (hb hbytes d1) (W := 0) (by show 2 * 0 + 0 ≤ _; decide) (Nat.le_of_ble_eq_true rfl) (Nat.le_of_ble_eq_true rfl)
  have hh3 := q3.trans hh0
  have c4 : Steps p.tables e below (s₁.setTop (entryFrame m #[.ref a, .ref b, .int (Int32.ofNat o), .int (Int32.ofNat len), .null] 6)) (T3.setTop (mkF m 27 #[.val (.ref a), .val (.ref b), .val (.int (Int32.ofNat o)), .val (.int (Int32.ofNat len)), .val .null, .unset] [])) := (c2.trans (st3 _ (Steps.refl _))).trans (by
    refine XS.iloadN X3.here hexec rfl (hb hbytes d4) rfl ?_
    refine XS.ifYes X3.here hexec rfl (pc0 := 5) rfl (hb hbytes d5) rfl (i0_ne_t (nz32 (by omega) l0)) (by decide) rfl ?_
    exact Steps.refl _)
  obtain ⟨T5, X5, q5, st5⟩ := X3.sget hexec hown (wk W (.fieldLink "java/lang/String" 38 "java/lang/String" "COMPACT_STRINGS" "Z")) s1 (fun _ _ h => by rw [hh3]; exact h) (g := (mkF m 27 #[.val (.ref a), .val (.ref b), .val (.int (Int32.ofNat o)), .val (.int (Int32.ofNat len)), .val .null, .unset] [])) rfl (hb hbytes d27)
  have hh5 := q5.trans hh3
  have c6 : Steps p.tables e below (s₁.setTop (entryFrame m #[.ref a, .ref b, .int (Int32.ofNat o), .int (Int32.ofNat len), .null] 6)) (T5.setTop (mkF m 30 #[.val (.ref a), .val (.ref b), .val (.int (Int32.ofNat o)), .val (.int (Int32.ofNat len)), .val .null, .unset] [.int z])) := c4.trans (st5 _ (Steps.refl _))
  have c7 : Steps p.tables e below (s₁.setTop (entryFrame m #[.ref a, .ref b, .int (Int32.ofNat o), .int (Int32.ofNat len), .null] 6)) (T5.setTop (mkF m 36 #[.val (.ref a), .val (.ref b), .val (.int (Int32.ofNat o)), .val (.int (Int32.ofNat len)), .val .null, .unset] [.int (Int32.ofNat len), .int (Int32.ofNat o), .ref b])) := c6.trans (by
    refine XS.ifNo X5.here hexec rfl (hb hbytes d30) rfl (i0_eq_f hz) ?_
    refine XS.aloadN X5.here hexec rfl (hb hbytes d33) rfl rfl ?_
    refine XS.iloadN X5.here hexec rfl (hb hbytes d34) rfl ?_
    refine XS.iloadN X5.here hexec rfl (hb hbytes d35) rfl ?_
    exact Steps.refl _)
  obtain ⟨v8, T8, X8, E8, g8⟩ := X5.callS hexec (Cmp3.law l b A o len) hown (wks W (staticW "java/lang/String" 177 Cmp3.yN)) (wk W Cmp3.tab) (W := 0) (Nat.le_of_ble_eq_true rfl) (Nat.le_of_ble_eq_true rfl) (Nat.le_refl _) (by show 0 + len ≤ len; omega) (g := (mkF m 36 #[.val (.ref a), .val (.ref b), .val (.int (Int32.ofNat o)), .val (.int (Int32.ofNat len)), .val .null, .unset] [.int (Int32.ofNat len), .int (Int32.ofNat o), .ref b])) rfl (by rw [hml]; rfl) c7 (argsL := [.ref b, .int (Int32.ofNat o), .int (Int32.ofNat len)]) (rest := []) rfl rfl (by show 2 * 0 + 0 ≤ _; decide) (hb hbytes d36) (⟨rfl, hA.mv X5.warmed.alike hh5, l1, l2, hp⟩)
  obtain ⟨e8, z8⟩ := E8
  obtain ⟨rfl, N, n1, n2, n3, n4, n5, n6⟩ := NewArr.mv _ T5 s _ _ hh5.symm (Vm.Alike.refl _) rfl e8
  rw [hh5] at z8
  have hB1 := hB.keep X8.warmed.alike (n6 _ _ hB.1)
  have hne : s.heap.size ≠ a := (Nat.ne_of_lt (Array.getElem?_eq_some_iff.mp hB.1).1).symm
  have c9 : Steps p.tables e below (s₁.setTop (entryFrame m #[.ref a, .ref b, .int (Int32.ofNat o), .int (Int32.ofNat len), .null] 6)) (T8.setTop (mkF m 39 #[.val (.ref a), .val (.ref b), .val (.int (Int32.ofNat o)), .val (.int (Int32.ofNat len)), .val .null, .unset] [.ref s.heap.size])) := g8
  have c10 : Steps p.tables e below (s₁.setTop (entryFrame m #[.ref a, .ref b, .int (Int32.ofNat o), .int (Int32.ofNat len), .null] 6)) (T8.setTop (mkF m 45 #[.val (.ref a), .val (.ref b), .val (.int (Int32.ofNat o)), .val (.int (Int32.ofNat len)), .val .null, .val (.ref s.heap.size)] [.int (Int32.ofNat N.slots.size), .ref s.heap.size, .ref a])) := by
    have hc : Steps p.tables e below (s₁.setTop (entryFrame m #[.ref a, .ref b, .int (Int32.ofNat o), .int (Int32.ofNat len), .null] 6)) (T8.setTop (mkF m 45 #[.val (.ref a), .val (.ref b), .val (.int (Int32.ofNat o)), .val (.int (Int32.ofNat len)), .val .null, .val (.ref s.heap.size)] [.int (Int32.ofNat len), .ref s.heap.size, .ref a])) := c9.trans (by
      refine XS.astore X8.here hexec rfl (hb hbytes d39) rfl rfl rfl ?_
      refine XS.aloadN X8.here hexec rfl (hb hbytes d41) rfl rfl ?_
      refine XS.aload X8.here hexec rfl (hb hbytes d42) rfl rfl ?_
      refine XS.iloadN X8.here hexec rfl (hb hbytes d44) rfl ?_
      exact Steps.refl _)
    rw [n4]; exact hc
  obtain ⟨v11, T11, X11, E11, g11⟩ := X8.callS hexec (CodL.law l s.heap.size N) hown (wks W (staticW "java/lang/String" 47 CodL.yN)) (wk W CodL.tab) (W := 1) (Nat.le_of_ble_eq_true rfl) (Nat.le_of_ble_eq_true rfl) (Nat.le_refl _) (by show 0 + len + 0 ≤ len; omega) (g := (mkF m 45 #[.val (.ref a), .val (.ref b), .val (.int (Int32.ofNat o)), .val (.int (Int32.ofNat len)), .val .null, .val (.ref s.heap.size)] [.int (Int32.ofNat N.slots.size), .ref s.heap.size, .ref a])) rfl (by rw [hml]; rfl) c10 (argsL := [.ref s.heap.size, .int (Int32.ofNat N.slots.size)]) (rest := [.ref a]) rfl rfl (by show 2 * 0 + (1 + 0) ≤ _; decide) (hb hbytes d45) (⟨rfl, n1⟩)
  obtain ⟨rfl, q11⟩ := E11
  have hB11 := hB1.mv (X8.warmed.alike.symm.trans X11.warmed.alike) q11
  have c12 : Steps p.tables e below (s₁.setTop (entryFrame m #[.ref a, .ref b, .int (Int32.ofNat o), .int (Int32.ofNat len), .null] 6)) (T11.setTop (mkF m 48 #[.val (.ref a), .val (.ref b), .val (.int (Int32.ofNat o)), .val (.int (Int32.ofNat len)), .val .null, .val (.ref s.heap.size)] [.int 0, .ref a])) := g11
  obtain ⟨T13, X13, p13, bl13, sl13, st13⟩ := X11.finit hexec hown (wk W (.fieldLink "java/lang/String" 15 "java/lang/String" "coder" "B")) (Or.inr ⟨_, (wk W (.laysFinal "java/lang/String" "java/lang/String" "coder" "B"))⟩) (Or.inl ⟨rfl, hnm⟩) f2 (Or.inl rfl) hB11 (t := .byte) (by decide +kernel) rfl (g := (mkF m 48 #[.val (.ref a), .val (.ref b), .val (.int (Int32.ofNat o)), .val (.int (Int32.ofNat len)), .val .null, .val (.ref s.heap.size)] [.int 0, .ref a])) rfl (rest := []) rfl (hb hbytes d48)
  have c14 : Steps p.tables e below (s₁.setTop (entryFrame m #[.ref a, .ref b, .int (Int32.ofNat o), .int (Int32.ofNat len), .null] 6)) (T13.setTop (mkF m 54 #[.val (.ref a), .val (.ref b), .val (.int (Int32.ofNat o)), .val (.int (Int32.ofNat len)), .val .null, .val (.ref s.heap.size)] [.ref s.heap.size, .ref a])) := (c12.trans (st13 _ (Steps.refl _))).trans (by
    refine XS.aloadN X13.here hexec rfl (hb hbytes d51) rfl rfl ?_
    refine XS.aload X13.here hexec rfl (hb hbytes d52) rfl rfl ?_
    exact Steps.refl _)
  obtain ⟨T15, X15, p15, bl15, sl15, st15⟩ := X13.finit hexec hown (wk W (.fieldLink "java/lang/String" 9 "java/lang/String" "value" "[B")) (Or.inr ⟨_, (wk W (.laysFinal "java/lang/String" "java/lang/String" "value" "[B"))⟩) (Or.inl ⟨rfl, hnm⟩) f1 (Or.inl rfl) bl13 (t := (.array .byte)) (by decide +kernel) rfl (g := (mkF m 54 #[.val (.ref a), .val (.ref b), .val (.int (Int32.ofNat o)), .val (.int (Int32.ofNat len)), .val .null, .val (.ref s.heap.size)] [.ref s.heap.size, .ref a])) rfl (rest := []) rfl (hb hbytes d54)
  have c16 : Steps p.tables e below (s₁.setTop (entryFrame m #[.ref a, .ref b, .int (Int32.ofNat o), .int (Int32.ofNat len), .null] 6)) (T15.setTop (mkF m 57 #[.val (.ref a), .val (.ref b), .val (.int (Int32.ofNat o)), .val (.int (Int32.ofNat len)), .val .null, .val (.ref s.heap.size)] [])) := c14.trans (st15 _ (Steps.refl _))
  have ap := apart (Or.inr ⟨_, (wk W (.laysFinal "java/lang/String" "java/lang/String" "value" "[B"))⟩) (Or.inr ⟨_, (wk W (.laysFinal "java/lang/String" "java/lang/String" "coder" "B"))⟩) f1 f2 (t₁ := .array .byte) (t₂ := .byte) (by decide +kernel) (by decide +kernel) (by decide)
  have al := X8.warmed.alike.symm.trans X15.warmed.alike
  have n7 : T11.heap[s.heap.size]? = some N := by rw [q11]; exact n1.1
  exact ⟨T15, none, _, _, _, X15, by simp, rfl, by omega, (fun _ => rfl), ⟨rfl, _, N, bl15, ((Same.refl D _).set _ (by simp)).set _ (by simp), sl15, (Cell.slots_setSlot_ne _ ap).trans sl13, n1.keep al (p15.other hne (p13.other hne n7)), n2, by rw [al.findClass]; exact n3, n4, n5, fun y c h1 h2 => p15.other h1 (p13.other h1 (by rw [q11]; exact n6 y c h2)), by rw [p15.2.2, p13.2.2, q11]; exact z8⟩, fun fs hl => c16.trans (X15.returnOut hexec hret (hb hbytes d57) hl)⟩
end New4
namespace New1
def yN : MethodName := ⟨"java/lang/String", "<init>", "([C)V"⟩
abbrev yB : ByteArray := jdk_42_method_3_code
theorem d0 : decode yB 0 = .ok (.aload_n 0, 1) := by decide +kernel
theorem d1 : decode yB 1 = .ok (.aload_n 1, 1) := by decide +kernel
theorem d2 : decode yB 2 = .ok (.iconst 0, 1) := by decide +kernel
theorem d3 : decode yB 3 = .ok (.aload_n 1, 1) := by decide +kernel
theorem d4 : decode yB 4 = .ok (.arraylength, 1) := by decide +kernel
theorem d5 : decode yB 5 = .ok (.aconst_null, 1) := by decide +kernel
theorem d6 : decode yB 6 = .ok (.invokespecial 27, 3) := by decide +kernel
theorem d9 : decode yB 9 = .ok (.return_, 1) := by decide +kernel
def site : List Cond := [New4.tab] ++ initW "java/lang/String" 27 New4.yN
def tab : Cond := tabOf yN yB 2 none site
def P (a : Addr) (D : Cell) (fV fC : Field) (b : Addr) (A : Cell) (z : Int32) (args : Array Value) (s : State) : Prop := args = #[.ref a, .ref b] ∧ Blank "java/lang/String" a D s ∧ Found "java/lang/String" "value" "[B" fV s ∧ Found "java/lang/String" "coder" "B" fC s ∧ Ch b A s ∧ StaticIs s "java/lang/String" "COMPACT_STRINGS" "Z" (.int z) ∧ ¬ z = 0 ∧ 0 < A.slots.size ∧ A.slots.size ≤ 536870912 ∧ ∀ i, i < A.slots.size → ¬ 255 < cv A i
def E (a : Addr) (D : Cell) (fV fC : Field) (A : Cell) (r : Option Value) (s u : State) : Prop := Got a D fV fC A 0 A.slots.size r s u
/-- new String(chars), not empty, no char above 255: a Latin-1 String of their low bytes -/
theorem law (l : Launch) (a : Addr) (D : Cell) (fV fC : Field) (b : Addr) (A : Cell) (z : Int32) : Law l yN 2 1 3 52 yB 2 none site (P a D fV fC b A z) (E a D fV fC A) [⟨a, fC.slot⟩, ⟨a, fV.slot⟩] 1 A.slots.size := by
  refine Law.of_walk (plainFor_of_name (by decide +kernel)) (by decide +kernel) (by decide +kernel) (by decide) (fun _ _ h => by rw [h.1]; rfl) (fun _ U U' hal hh h => ⟨h.1, h.2.1.mv hal hh, h.2.2.1.al hal, h.2.2.2.1.al hal, h.2.2.2.2.1.mv hal hh, h.2.2.2.2.2.1.there hal hh, h.2.2.2.2.2.2⟩) (fun r U U' V V' h1 hal h2 h => Got.mv r U U' V V' h1 hal h2 h) ?_
  intro p e s m args below meth c s₁ X0 hexec hbytes hml hret hlk hnm hown hh0 W hP
  obtain ⟨rfl, hB, f1, f2, hA, s1, hz, l0, l2, hp⟩ := hP
  have c1 : Steps p.tables e below (s₁.setTop (entryFrame m #[.ref a, .ref b] 2)) (s₁.setTop (mkF m 0 #[.val (.ref a), .val (.ref b)] [])) := entry rfl
  have c2 : Steps p.tables e below (s₁.setTop (entryFrame m #[.ref a, .ref b] 2)) (s₁.setTop (mkF m 6 #[.val (.ref a), .val (.ref b)] [.null, .int (Int32.ofNat A.slots.size), .int 0, .ref b, .ref a])) := c1.trans (by
    refine XS.aloadN X0.here hexec rfl (hb hbytes d0) rfl rfl ?_
    refine XS.aloadN X0.here hexec rfl (hb hbytes d1) rfl rfl ?_
    refine iconstV X0.here hexec rfl 0 (hb hbytes d2) (by decide) ?_
    refine XS.aloadN X0.here hexec rfl (hb hbytes d3) rfl rfl ?_
    refine X0.alen hexec (hA.1.mv X0.warmed.alike hh0) rfl rfl (hb hbytes d4) ?_
    refine XS.aconstNull X0.here hexec rfl (hb hbytes d5) ?_
    exact Steps.refl _)
  obtain ⟨v3, T3, X3, E3, g3⟩ := X0.callN hexec (New4.law l a D fV fC b A z 0 A.slots.size) rfl hown (wks W (initW "java/lang/String" 27 New4.yN)) (W New4.tab (by simp only [site, List.mem_cons, List.mem_append, true_or, or_true])) (W := 0) (Nat.le_of_ble_eq_true rfl) (Nat.le_of_ble_eq_true rfl) (Nat.le_refl _) (by show 0 + A.slots.size ≤ A.slots.size; omega) (g := (mkF m 6 #[.val (.ref a), .val (.ref b)] [.null, .int (Int32.ofNat A.slots.size), .int (Int32.ofNat 0), .ref b, .ref a])) rfl (by rw [hml]; rfl) c2 (argsL := [.ref b, .int (Int32.ofNat 0), .int (Int32.ofNat A.slots.size), .null]) (rest := []) rfl rfl (by show 2 * 0 + 0 ≤ _; decide) (hb hbytes d6) (⟨rfl, hB.mv X0.warmed.alike hh0, f1.al X0.warmed.alike, f2.al X0.warmed.alike, hA.mv X0.warmed.alike hh0, s1.there X0.warmed.alike hh0, hz, l0, by omega, l2, fun i hi => by rw [Nat.zero_add]; exact hp i hi⟩)
  have e0 := Got.mv _ s₁ s _ _ hh0.symm (Vm.Alike.refl _) rfl E3
  obtain rfl := e0.1
  have c4 : Steps p.tables e below (s₁.setTop (entryFrame m #[.ref a, .ref b] 2)) (T3.setTop (mkF m 9 #[.val (.ref a), .val (.ref b)] [])) := g3
  exact ⟨T3, none, _, _, _, X3, by simp, rfl, by omega, (fun _ => rfl), e0, fun fs hl => c4.trans (X3.returnOut hexec hret (hb hbytes d9) hl)⟩
theorem pays {l : Launch} {R : Room} {p : Program} {e : Env} {below : List Frame} {s : State} {sargs : Array Value} {len W : Nat} (a : Addr) (D : Cell) (fV fC : Field) (b : Addr) (A : Cell) (z : Int32) (htab : tab.before sargs s = true) (hfr : 4 ≤ R.frames) (hlo : W + 65 ≤ R.locals) :
    Back l R p e below s sargs yN len W (fun A₁ a₁ => A₁.cells + 1 ≤ R.cells ∧ A₁.slots + A.slots.size ≤ R.slots ∧ P a D fV fC b A z a₁ A₁.U) (fun A₁ _ v₁ B₁ => E a D fV fC A v₁ A₁.U B₁.U ∧ B₁.locs = A₁.locs ++ [⟨a, fC.slot⟩, ⟨a, fV.slot⟩] ∧ B₁.cells = A₁.cells + 1 ∧ B₁.slots = A₁.slots + A.slots.size) :=
  (law l a D fV fC b A z).pays htab hfr (by omega)
end New1
/-- the byte, read back as charAt reads it, is the char -/
theorem lo8_mask {x : Int32} (h0 : ¬ x < 0) (h1 : ¬ 255 < x) : lo8 x &&& 255 = x := by
  have t : ∀ k : Fin 256, lo8 (Int32.ofNat k.val) &&& 255 = Int32.ofNat k.val := by decide +kernel
  rw [Int32.lt_iff_toInt_lt] at h0 h1
  have e0 : (0 : Int32).toInt = 0 := rfl
  have e1 : (255 : Int32).toInt = 255 := rfl
  obtain ⟨k, hk⟩ : ∃ k : Nat, x.toInt = k := ⟨x.toInt.toNat, by omega⟩
  have hx : x = Int32.ofNat k := Int32.toInt_inj.mp (by rw [hk, Int32.toInt_ofNat_small (by omega)])
  rw [hx]
  exact t ⟨k, by omega⟩
end StrChars
namespace StrChars.Road
open Jvm Sem ClassFile Op Lib Jvm.Stand Jvm.Free Jvm.Free.XT
open Jvm.Lib.Cold (StaticIs)
abbrev ST : String := "java/lang/String"
/-- every table word that New1's law asks, flat -/
abbrev words : List Jvm.Cond := [.code New1.yN New1.yB 2 none, .initialized ST, .methodLink ST 27 New4.yN, .instanceMethod New4.yN,
  .code New4.yN New4.yB 6 none, .fieldLink ST 38 ST "COMPACT_STRINGS" "Z", .laysFinal ST ST "value" "[B", .fieldLink ST 9 ST "value" "[B", .laysFinal ST ST "coder" "B", .fieldLink ST 15 ST "coder" "B",
  .methodLink ST 1 Lib.objectInit, .instanceMethod Lib.objectInit, .code Lib.objectInit ⟨#[0xb1]⟩ 1 none, .methodLink ST 177 Cmp3.yN, .static Cmp3.yN, .methodLink ST 47 CodL.yN, .static CodL.yN,
  .code Cmp3.yN Cmp3.yB 6 (some (.array .byte)), .initialized U16, .arrayClass .byte, .methodLink U16 115 Cmp5.yN, .static Cmp5.yN, .code Cmp5.yN Cmp5.yB 7 (some .int), .code CodL.yN CodL.yB 2 (some .byte)]
theorem tab_of {a : Array Value} {s : State} (h : ∀ w ∈ words, w.before a s = true) : New1.tab.before a s = true := by
  have h5 : Cmp5.tab.before a s = true := unparts (wk h (.code Cmp5.yN Cmp5.yB 7 (some .int))) (wks h (.initialized Cmp5.yN.cls :: Cmp5.site))
  have hc : CodL.tab.before a s = true := unparts (wk h (.code CodL.yN CodL.yB 2 (some .byte))) (wks h (.initialized CodL.yN.cls :: CodL.site))
  have q5 : ∀ w ∈ Cmp5.tab :: words, w.before a s = true := fun w hw => (List.mem_cons.mp hw).elim (fun e => e ▸ h5) (h w)
  have h3 : Cmp3.tab.before a s = true := unparts (wk q5 (.code Cmp3.yN Cmp3.yB 6 (some (.array .byte)))) (wks q5 (.initialized Cmp3.yN.cls :: Cmp3.site))
  have q3 : ∀ w ∈ Cmp3.tab :: CodL.tab :: words, w.before a s = true := fun w hw => (List.mem_cons.mp hw).elim (fun e => e ▸ h3) fun hw => (List.mem_cons.mp hw).elim (fun e => e ▸ hc) (h w)
  have h4 : New4.tab.before a s = true := unparts (wk q3 (.code New4.yN New4.yB 6 none)) (wks q3 (.initialized New4.yN.cls :: New4.site))
  have q4 : ∀ w ∈ New4.tab :: words, w.before a s = true := fun w hw => (List.mem_cons.mp hw).elim (fun e => e ▸ h4) (h w)
  exact unparts (wk q4 (.code New1.yN New1.yB 2 none)) (wks q4 (.initialized New1.yN.cls :: New1.site))
/-- the words ride from the start Z to the walk's own state -/
theorem moved {Z s : State} {a0 args : Array Value} (hZ : Z.Warmed39 s.vm) (hw : ∀ d ∈ words, d.before a0 Z = true) : ∀ d ∈ words, d.before args s = true := fun d hd => by
  have q := hw d hd
  have t : ∀ d ∈ words, d = .arrayClass .byte ∨ (d.onTables && d.keepsFace) = true := by decide +kernel
  rcases t d hd with rfl | t
  · exact RoadKit.mvA hZ q
  · exact RoadKit.mv hZ q t
/-- WHAT COMES BACK, over the tables of the start Z: h the heap at the call, h' behind it -/
def Q (Z : State) (x : Addr) (A : Cell) (h : Heap) (v : Option Value) (h' : Heap) (L : List Loc) : Prop := v = none ∧ (∀ y ∈ L, y.base = x) ∧ RoadKit.Keep h h' [x] ∧ h'.size = h.size + 1 ∧ RoadKit.Exa Z h' x ST ∧ RoadKit.Fld Z h' x ST "value" "[B" (.ref h.size) ∧ RoadKit.Fld Z h' x ST "coder" "B" (.int 0) ∧
  (∃ V : Cell, RoadKit.Arr Z h' h.size V .byte ∧ V.vm = .none ∧ Z.vm.findClass "[B" = some V.cls ∧ V.slots.size = A.slots.size ∧ ∀ j, j < A.slots.size → V.slots[j]? = some (.int (lo8 (cv A j)))) ∧
  ∀ (O n d : String) (w : Value), RoadKit.Fld Z h x O n d w → RoadKit.slotOf Z O n d ≠ RoadKit.slotOf Z ST "value" "[B" → RoadKit.slotOf Z O n d ≠ RoadKit.slotOf Z ST "coder" "B" → RoadKit.Fld Z h' x O n d w
/-- **new String(chars) AT A CALL, IN THE ROAD'S FORM**: for specialBack behind newO: x the fresh String, b the char[] with the cell A -/
theorem back {p : Program} {l : Launch} {e : Env} {R : Room} {s : State} {args : Array Value} {below : List Frame} {len W : Nat} {Z : State} {a0 : Array Value} {h : Heap} (hZ : Z.Warmed39 s.vm) (hw : ∀ d ∈ words, d.before a0 Z = true) {kI : Nat} (wi : (Jvm.Cond.instantiable ST kI).before a0 Z = true)
    {x b : Addr} {A : Cell} {z : Int32} {v0 c0 : Value} (E : RoadKit.Exa Z h x ST) (V : RoadKit.Fld Z h x ST "value" "[B" v0) (C : RoadKit.Fld Z h x ST "coder" "B" c0) (K : RoadKit.Arr Z h b A .char) (hty : Typed .char A) (S : RoadKit.Sta Z h ST "COMPACT_STRINGS" "Z" (.int z)) (hz : ¬ z = 0)
    (l0 : 0 < A.slots.size) (l2 : A.slots.size ≤ 536870912) (hp : ∀ i, i < A.slots.size → ¬ 255 < cv A i) (hfr : 4 ≤ R.frames) (hlo : W + 65 ≤ R.locals) :
    Back l R p e below s args New1.yN len W (fun P a => a = #[.ref x, .ref b] ∧ P.U.heap = h ∧ P.cells + 1 ≤ R.cells ∧ P.slots + A.slots.size ≤ R.slots)
      (fun P _ v B => ∃ L, Q Z x A h v B.U.heap L ∧ B.locs = P.locs ++ L ∧ B.cells = P.cells + 1 ∧ B.slots = P.slots + A.slots.size) := by
  intro m meth c P g ig mk a X hg hsize hdg hW hn hp'
  obtain ⟨rfl, rfl, r1, r2⟩ := hp'
  have al : Z.vm.Alike P.U.vm := hZ.alike.trans X.warmed.alike
  obtain ⟨D, cfV, kV, iV, fV, hD, gV, stV, knV, obV, asV, slV⟩ := id V
  obtain ⟨D', cfC, kC, iC, fC, hD', gC, stC, -, -, asC, slC⟩ := id C
  cases hD.symm.trans hD'
  obtain ⟨D2, kD, e1, e2, e3, e4, e5⟩ := id E
  cases hD.symm.trans e1
  obtain ⟨c2, k2, i1, i2, i3, -⟩ := Cond.instantiable_spec wi
  cases e2.symm.trans i1
  cases e3.symm.trans i2
  obtain ⟨kU, u1, u2⟩ := al.2.2 _ _ e3
  have hB : Blank ST x D P.U := ⟨hD, ⟨knV, fun q hq => by rw [hq] at obV; cases obV⟩, by rw [al.findClass]; exact e2, kU, u1, by rw [u2]; exact i3, by rw [u2]; exact e5 i3⟩
  have F1 : Found ST "value" "[B" fV P.U := ⟨SBG.found_only al ⟨cfV, kV, iV, gV⟩, stV⟩
  have F2 : Found ST "coder" "B" fC P.U := ⟨SBG.found_only al ⟨cfC, kC, iC, gC⟩, stC⟩
  have hA : Ch b A P.U := ⟨⟨K.1, State.isArrayOf_alike al K.2.1, K.2.2, by omega⟩, hty⟩
  have hS : StaticIs P.U ST "COMPACT_STRINGS" "Z" (.int z) := by
    obtain ⟨cfS, iS, kS, fS, st, cS, t1, t2, t3, t4, t5, t6, t7⟩ := S
    exact StaticIs.there (s := { Z with heap := P.U.heap }) ⟨cfS, iS, kS, fS, st, cS, t1, t2, t3, t4, t5, (fun q => by rw [q] at t6; cases t6), t7⟩ al rfl
  obtain ⟨v, B, X', ⟨⟨hv, E', V', q1, q2, q3, q4, q5, q6, q7, q8, q9, q10, q11⟩, hl, hc, hs⟩, st⟩ := New1.pays x D fV fC b A z (tab_of (moved hZ hw)) hfr hlo m meth c P g ig mk _ X hg hsize hdg hW hn ⟨r1, r2, rfl, hB, F1, F2, hA, hS, hz, l0, l2, hp⟩
  have al' : Z.vm.Alike B.U.vm := hZ.alike.trans X'.warmed.alike
  have hsz : E'.slots.size = D.slots.size := by
    obtain ⟨-, -, -, kB, w1, w2, w3⟩ := q1
    obtain ⟨kB', y1, y2⟩ := al'.2.2 _ _ e3
    rw [q2.2.1] at w1
    cases w1.symm.trans y1
    rw [w3, e5 i3, y2]
  refine ⟨v, B, X', ⟨_, ⟨hv, ?_, ⟨by omega, fun y cy hy hn' => q10 y cy (by simpa using hn') hy, fun y cy hy => ?_⟩, q11, ⟨E', _, q1.1, by rw [q2.2.1]; exact e2, by rw [q2.2.1]; exact e3, by rw [q2.1]; exact obV, fun _ => by rw [hsz]; exact e5 i3⟩,
    ⟨E', cfV, kV, iV, fV, q1.1, gV, stV, by rw [q2.1]; exact knV, by rw [q2.1]; exact obV, by rw [q2.2.1]; exact asV, q3⟩, ⟨E', cfC, kC, iC, fC, q1.1, gC, stC, by rw [q2.1]; exact knV, by rw [q2.1]; exact obV, by rw [q2.2.1]; exact asC, q4⟩,
    ⟨V', ⟨q5.1, State.isArrayOf_alike al'.symm q5.2.1, q5.2.2.1⟩, q6, by rw [← al'.findClass]; exact q7, q8, fun j hj => by have := q9 j hj; rwa [Nat.zero_add] at this⟩, fun O n d w F n1 n2 => ?_⟩, hl, hc, hs⟩, st⟩
  · intro y hy
    simp only [List.mem_cons, List.not_mem_nil, or_false] at hy
    rcases hy with rfl | rfl <;> rfl
  · by_cases q : y = x
    · subst q
      cases hD.symm.trans hy
      exact ⟨E', q1.1, q2.2.1, q2.1, hsz⟩
    · exact ⟨cy, q10 y cy q hy, rfl, rfl, rfl⟩
  · obtain ⟨D3, cf, k, i, f, g1, g2, g3, g4, g5, g6, g7⟩ := F
    cases hD.symm.trans g1
    simp only [RoadKit.slotOf, g2, gV, gC, Option.map_some, Option.getD_some] at n1 n2
    exact ⟨E', cf, k, i, f, q1.1, g2, g3, by rw [q2.1]; exact g4, by rw [q2.1]; exact g5, by rw [q2.2.1]; exact g6, by rw [q2.2.2 f.slot (by simp [n1, n2])]; exact g7⟩
end StrChars.Road
namespace StrChars.Road
open Jvm Sem ClassFile Op Lib Jvm.Stand Jvm.Free Jvm.Free.XT
/-- WHAT COMES BACK, the byte[] as a list of values -/
def QA (Z : State) (x : Addr) (zn : Int32) (cs : List Int32) (h : Heap) (v : Option Value) (h' : Heap) (L : List Loc) : Prop := v = none ∧ (∀ y ∈ L, y.base = x) ∧ RoadKit.Keep h h' [x] ∧ h'.size = h.size + 1 ∧ RoadKit.Exa Z h' x ST ∧ RoadKit.Fld Z h' x ST "value" "[B" (.ref h.size) ∧ RoadKit.Fld Z h' x ST "coder" "B" (.int 0) ∧
  (∃ kb, Z.vm.findClass "[B" = some kb ∧ RoadKit.Arv Z h' h.size kb .byte zn (cs.map fun c => .int (lo8 c)) (.int 0)) ∧
  ∀ (O n d : String) (w : Value), RoadKit.Fld Z h x O n d w → RoadKit.slotOf Z O n d ≠ RoadKit.slotOf Z ST "value" "[B" → RoadKit.slotOf Z O n d ≠ RoadKit.slotOf Z ST "coder" "B" → RoadKit.Fld Z h' x O n d w
/-- **new String(chars) AT A CALL, THE ARRAYS AS LISTS**: the char[] at b holds cs, not empty, no char above 255 -/
theorem backArv {p : Program} {l : Launch} {e : Env} {R : Room} {s : State} {args : Array Value} {below : List Frame} {len W : Nat} {Z : State} {a0 : Array Value} {h : Heap} (hZ : Z.Warmed39 s.vm) (hw : ∀ d ∈ words, d.before a0 Z = true) {kI : Nat} (wi : (Jvm.Cond.instantiable ST kI).before a0 Z = true)
    {x b : Addr} {k : ClassId} {zn z : Int32} {cs : List Int32} {dv v0 c0 : Value} (E : RoadKit.Exa Z h x ST) (V : RoadKit.Fld Z h x ST "value" "[B" v0) (C : RoadKit.Fld Z h x ST "coder" "B" c0) (K : RoadKit.Arv Z h b k .char zn (cs.map Value.int) dv) (S : RoadKit.Sta Z h ST "COMPACT_STRINGS" "Z" (.int z)) (hz : ¬ z = 0)
    (hlen : zn.toNatClampNeg = cs.length) (h0 : 0 < cs.length) (hbig : cs.length ≤ 536870912) (hall : ∀ c ∈ cs, ¬ 255 < c) (hfr : 4 ≤ R.frames) (hlo : W + 65 ≤ R.locals) :
    Back l R p e below s args New1.yN len W (fun P a => a = #[.ref x, .ref b] ∧ P.U.heap = h ∧ P.cells + 1 ≤ R.cells ∧ P.slots + cs.length ≤ R.slots)
      (fun P _ v B => ∃ L, QA Z x zn cs h v B.U.heap L ∧ B.locs = P.locs ++ L ∧ B.cells = P.cells + 1 ∧ B.slots = P.slots + cs.length) := by
  obtain ⟨A, K1, K2, K3, K4, K5, K6⟩ := K
  have e : A.slots.size = cs.length := K3.trans hlen
  have hat : ∀ (i : Nat) (hi : i < cs.length), A.slots[i]? = some (.int cs[i]) := fun i hi => by rw [K5 i (by omega)]; simp [List.getD_eq_getElem?_getD, hi]
  have hcv : ∀ (i : Nat) (hi : i < cs.length), cv A i = cs[i] := fun i hi => by unfold cv; rw [hat i hi]
  have hty : Typed .char A := fun i v hv => by
    have hi : i < A.slots.size := (Array.getElem?_eq_some_iff.mp hv).1
    have q := K5 i hi
    rw [hv] at q
    rw [Option.some.inj q]
    exact K6 i hi
  refine Back.mono (back hZ hw wi E V C K1 hty S hz (by omega) (by omega) (fun i hi => by rw [hcv i (by omega)]; exact hall _ (List.getElem_mem _)) hfr hlo) (fun P a hp => ⟨hp.1, hp.2.1, hp.2.2.1, by rw [e]; exact hp.2.2.2⟩) (fun P a v B hp hq => ?_)
  obtain ⟨L, ⟨q1, q2, q3, q4, q5, q6, q7, ⟨V', v1, v2, v3, v4, v5⟩, q9⟩, hl, hc, hs⟩ := hq
  refine ⟨L, ⟨q1, q2, q3, q4, q5, q6, q7, ⟨V'.cls, v3, V', v1, rfl, by rw [v4, e, hlen], K4, fun i hi => ?_, fun i hi => ?_⟩, q9⟩, hl, hc, by rw [hs, e]⟩
  · have hi' : i < cs.length := by omega
    rw [v5 i (by omega), hcv i hi']; simp [List.getD_eq_getElem?_getD, hi']
  · have hi' : i < cs.length := by omega
    simp only [List.getD_eq_getElem?_getD, List.getElem?_map, List.getElem?_eq_getElem hi', Option.map_some, Option.getD_some]
    exact fits_lo8 _
end StrChars.Road
namespace StrChars.Road
open Jvm Sem ClassFile Op Lib Jvm.Stand Jvm.Free Jvm.Free.XT
/-- WHAT COMES BACK, in the writer's own shape -/
def QV (Z : State) (x : Addr) (N : Int32) (bs : List Int32) (h : Heap) (n0 : Nat) (v : Option Value) (h' : Heap) (L : List Loc) : Prop := v = none ∧ RoadKit.Fr n0 L ∧ RoadKit.Keep h h' [x] ∧ RoadKit.Exa Z h' x ST ∧ RoadKit.Fld Z h' x ST "coder" "B" (.int 0) ∧
  ∃ (t : Addr) (kb : ClassId), n0 ≤ t ∧ h.size ≤ t ∧ ¬ t = x ∧ RoadKit.Fld Z h' x ST "value" "[B" (.ref t) ∧ RoadKit.Arv Z h' t kb .byte N (bs.map Value.int) (.int 0)
/-- **new String(chars) AT A CALL, FOR THE WRITER**: a char[] of n known ints, each 0 to 255 -/
theorem backV {p : Program} {l : Launch} {e : Env} {R : Room} {s : State} {args : Array Value} {below : List Frame} {len W : Nat} {Z : State} {a0 : Array Value} {h : Heap} (hZ : Z.Warmed39 s.vm) (hw : ∀ d ∈ words, d.before a0 Z = true) {kI : Nat} (wi : (Jvm.Cond.instantiable ST kI).before a0 Z = true)
    {x b : Addr} {kC : ClassId} {cs bs : List Int32} {d v0 c0 : Value} {z N : Int32} {n n0 : Nat} (hx0 : n0 ≤ x) (hh0 : n0 ≤ h.size) (E : RoadKit.Exa Z h x ST) (V : RoadKit.Fld Z h x ST "value" "[B" v0) (C : RoadKit.Fld Z h x ST "coder" "B" c0) (K : RoadKit.Arv Z h b kC .char N (cs.map Value.int) d) (S : RoadKit.Sta Z h ST "COMPACT_STRINGS" "Z" (.int z)) (hz : ¬ z = 0)
    (hn : cs.length = n) (hN : N = Int32.ofNat n) (l0 : 0 < n) (l2 : n ≤ 4000) (hp : ∀ c ∈ cs, ¬ c < 0 ∧ ¬ (255 : Int32) < c) (hb : bs = cs.map (fun c => c.toInt8.toInt32)) (hfr : 4 ≤ R.frames) (hlo : W + 65 ≤ R.locals) :
    Back l R p e below s args (⟨"java/lang/String", "<init>", "([C)V"⟩ : MethodName) len W (fun P a => a = #[.ref x, .ref b] ∧ P.U.heap = h ∧ P.cells + 1 ≤ R.cells ∧ P.slots + n ≤ R.slots)
      (fun P _ v B => ∃ L, QV Z x N bs h n0 v B.U.heap L ∧ B.locs = P.locs ++ L ∧ B.cells = P.cells + 1 ∧ B.slots = P.slots + n) := by
  subst hn hN hb
  refine Back.mono (backArv hZ hw wi E V C K S hz (n32 (by omega)) l0 (by omega) (fun c hc => (hp c hc).2) hfr hlo) (fun P a hp => hp) (fun P a v B hp hq => ?_)
  obtain ⟨L, ⟨q1, q2, q3, q4, q5, q6, q7, ⟨kb, v1, v2⟩, q9⟩, hl, hc, hs⟩ := hq
  exact ⟨L, ⟨q1, fun y hy => by rw [q2 y hy]; exact hx0, q3, q5, q7, h.size, kb, hh0, Nat.le_refl _, Nat.ne_of_gt E.lt, q6, by rw [List.map_map]; exact v2⟩, hl, hc, hs⟩
end StrChars.Road
namespace StrChars
open Jvm Sem ClassFile Op Lib Jvm.Stand Jvm.Free.XT Jvm.Free.ALB Jvm.Free.JM Jvm.Free
open Jvm.Lib.Cold (StaticIs)
def hi8 (x : Int32) : Int32 := lo8 (x >>> ((8 : Int32) &&& 31))
/-- what StringUTF16.getChar makes of two bytes -/
def pairCh (u v : Int32) : Int32 := (((u &&& 255) <<< ((0 : Int32) &&& 31)) ||| ((v &&& 255) <<< ((8 : Int32) &&& 31))).toUInt32.toUInt16.toUInt32.toInt32
theorem lo8_and (x : Int32) : (lo8 x &&& 255).toBitVec.toNat = x.toBitVec.toNat % 256 := by
  have h : (lo8 x).toBitVec = (x.toBitVec.signExtend 8).signExtend 32 := by rw [lo8, Int8.toBitVec_toInt32, Int32.toBitVec_toInt8]
  rw [Int32.toBitVec_and, BitVec.toNat_and, h]
  have e : ((x.toBitVec.signExtend 8).signExtend 32).toNat % 256 = x.toBitVec.toNat % 256 := by
    rw [BitVec.toNat_signExtend]
    have hlt := x.toBitVec.isLt
    simp only [BitVec.toNat_setWidth, BitVec.toNat_signExtend]
    split <;> split <;> omega
  rw [← e]
  exact Nat.and_two_pow_sub_one_eq_mod _ 8
theorem pair_says {c : Int32} (h0 : ¬ c < 0) (h1 : ¬ 65535 < c) : pairCh (lo8 c) (hi8 c) = c := by
  rw [Int32.lt_iff_toInt_lt] at h0 h1
  have e0 : (0 : Int32).toInt = 0 := rfl
  have e1 : (65535 : Int32).toInt = 65535 := rfl
  have hc : c.toInt = c.toBitVec.toNat := by
    have := c.toBitVec.isLt
    have e : c.toInt = c.toBitVec.toInt := rfl
    rw [e] at h0 h1
    rw [e]
    rw [BitVec.toInt_eq_toNat_cond] at h0 h1 ⊢
    split at h0 <;> split <;> omega
  have hn : c.toBitVec.toNat < 65536 := by omega
  have a1 := lo8_and c
  have a2 : (hi8 c &&& 255).toBitVec.toNat = c.toBitVec.toNat / 256 := by
    rw [hi8, lo8_and]
    have e : ((8 : Int32) &&& 31) = 8 := by decide
    rw [e, Int32.toBitVec_shiftRight]
    have e2 : ((8 : Int32).toBitVec.smod 32) = 8#32 := by decide
    rw [e2, BitVec.sshiftRight_eq', BitVec.toNat_sshiftRight_of_msb_false (by rw [BitVec.msb_eq_false_iff_two_mul_lt]; omega)]
    show c.toBitVec.toNat >>> 8 % 256 = _
    rw [Nat.shiftRight_eq_div_pow]
    omega
  unfold pairCh
  apply Int32.toBitVec_inj.mp
  apply BitVec.eq_of_toNat_eq
  have f0 : ((0 : Int32) &&& 31) = 0 := by decide
  have f8 : ((8 : Int32) &&& 31) = 8 := by decide
  rw [f0, f8]
  have g : (((lo8 c &&& 255) <<< (0 : Int32)) ||| ((hi8 c &&& 255) <<< (8 : Int32))).toBitVec.toNat = c.toBitVec.toNat := by
    rw [Int32.toBitVec_or, Int32.toBitVec_shiftLeft, Int32.toBitVec_shiftLeft]
    have s0 : ((0 : Int32).toBitVec.smod 32) = 0#32 := by decide
    have s8 : ((8 : Int32).toBitVec.smod 32) = 8#32 := by decide
    rw [s0, s8, BitVec.toNat_or]
    simp only [BitVec.shiftLeft_eq', BitVec.toNat_shiftLeft, a1, a2]
    show (c.toBitVec.toNat % 256) <<< 0 % 2 ^ 32 ||| (c.toBitVec.toNat / 256) <<< 8 % 2 ^ 32 = _
    rw [Nat.shiftLeft_zero, Nat.mod_eq_of_lt (show c.toBitVec.toNat % 256 < 2 ^ 32 by omega), Nat.mod_eq_of_lt (show (c.toBitVec.toNat / 256) <<< 8 < 2 ^ 32 by rw [Nat.shiftLeft_eq]; omega), Nat.or_comm, ← Nat.shiftLeft_add_eq_or_of_lt (by omega), Nat.shiftLeft_eq]
    omega
  show BitVec.toNat (((((lo8 c &&& 255) <<< (0 : Int32)) ||| ((hi8 c &&& 255) <<< (8 : Int32))).toBitVec.setWidth 16).setWidth 32) = _
  rw [BitVec.toNat_setWidth, BitVec.toNat_setWidth, g]
  omega
end StrChars
namespace StrChars
open Jvm Sem ClassFile Op Lib Jvm.Stand Jvm.Free.XT Jvm.Free.ALB Jvm.Free.JM Jvm.Free
open Jvm.Lib.Cold (StaticIs)
/-- charAt's cast of a byte read back -/
def chr8 (u : Int32) : Int32 := (u &&& 255).toUInt32.toUInt16.toUInt32.toInt32
theorem chr8_lo8 {c : Int32} (h0 : ¬ c < 0) (h1 : ¬ 255 < c) : chr8 (lo8 c) = c := by
  have t : ∀ k : Fin 256, (Int32.ofNat k.val).toUInt32.toUInt16.toUInt32.toInt32 = Int32.ofNat k.val := by decide +kernel
  unfold chr8
  rw [lo8_mask h0 h1]
  rw [Int32.lt_iff_toInt_lt] at h0 h1
  have e0 : (0 : Int32).toInt = 0 := rfl
  have e1 : (255 : Int32).toInt = 255 := rfl
  obtain ⟨k, hk⟩ : ∃ k : Nat, c.toInt = k := ⟨c.toInt.toNat, by omega⟩
  have hx : c = Int32.ofNat k := Int32.toInt_inj.mp (by rw [hk, Int32.toInt_ofNat_small (by omega)])
  rw [hx]
  exact t ⟨k, by omega⟩
theorem narrow_ch {c : Int32} (h0 : ¬ c < 0) (h1 : ¬ 65535 < c) : narrow .char (.int c) = .int c := by
  have q : narrow .char (.int (pairCh (lo8 c) (hi8 c))) = .int (pairCh (lo8 c) (hi8 c)) := narrow_c _
  rwa [pair_says h0 h1] at q
/-- the array's cell V codes the n chars f 0 .. f (n - 1) by the coder cd, as the JDK does: coder 1 just where some char is above 255 -/
def Cod (cd : Int32) (n : Nat) (f : Nat → Int32) (V : Cell) : Prop := (cd = 0 ∧ V.slots.size = n ∧ ∀ j, j < n → V.slots[j]? = some (.int (lo8 (f j))) ∧ ¬ 255 < f j) ∨ (cd = 1 ∧ V.slots.size = 2 * n ∧ (∀ j, j < n → V.slots[2 * j]? = some (.int (lo8 (f j))) ∧ V.slots[2 * j + 1]? = some (.int (hi8 (f j)))) ∧ ∃ j, j < n ∧ 255 < f j)
theorem Cod.cd {cd : Int32} {n : Nat} {f : Nat → Int32} {V : Cell} (h : Cod cd n f V) : cd = 0 ∨ cd = 1 := h.imp (fun q => q.1) fun q => q.1
/-- **x is a String of the n chars f 0 .. f (n - 1)**, Latin-1 or UTF-16; its array at t has the cell V -/
def Txt (x t : Addr) (V : Cell) (cd : Int32) (n : Nat) (f : Nat → Int32) (U : State) : Prop := Exact "java/lang/String" x U ∧ Has x "java/lang/String" "value" "[B" (.ref t) U ∧ Has x "java/lang/String" "coder" "B" (.int cd) U ∧ XT.Arr .byte t V U ∧ Cod cd n f V ∧ ∀ j, j < n → ¬ f j < 0 ∧ ¬ 65535 < f j
theorem Txt.mv {x t : Addr} {V : Cell} {cd : Int32} {n : Nat} {f : Nat → Int32} {U U' : State} (h : Txt x t V cd n f U) (hal : U.vm.Alike U'.vm) (hh : U'.heap = U.heap) : Txt x t V cd n f U' := ⟨h.1.mv hal hh, h.2.1.mv hal hh, h.2.2.1.mv hal hh, h.2.2.2.1.mv hal hh, h.2.2.2.2⟩
namespace IsL
def yN : MethodName := ⟨"java/lang/String", "isLatin1", "()Z"⟩
abbrev yB : ByteArray := jdk_42_method_154_code
theorem d0 : decode yB 0 = .ok (.getstatic 38, 3) := by decide +kernel
theorem d3 : decode yB 3 = .ok (.ifCond (.eq) 14, 3) := by decide +kernel
theorem d6 : decode yB 6 = .ok (.aload_n 0, 1) := by decide +kernel
theorem d7 : decode yB 7 = .ok (.getfield 15, 3) := by decide +kernel
theorem d10 : decode yB 10 = .ok (.ifCond (.ne) 7, 3) := by decide +kernel
theorem d13 : decode yB 13 = .ok (.iconst 1, 1) := by decide +kernel
theorem d14 : decode yB 14 = .ok (.goto 4, 3) := by decide +kernel
theorem d17 : decode yB 17 = .ok (.iconst 0, 1) := by decide +kernel
theorem d18 : decode yB 18 = .ok (.ireturn, 1) := by decide +kernel
def site : List Cond := [.fieldLink "java/lang/String" 38 "java/lang/String" "COMPACT_STRINGS" "Z", .fieldLink "java/lang/String" 15 "java/lang/String" "coder" "B"]
def tab : Cond := tabOf yN yB 1 (some .boolean) site
def P (x : Addr) (cd z : Int32) (args : Array Value) (s : State) : Prop := args = #[.ref x] ∧ Has x "java/lang/String" "coder" "B" (.int cd) s ∧ (cd = 0 ∨ cd = 1) ∧ StaticIs s "java/lang/String" "COMPACT_STRINGS" "Z" (.int z) ∧ ¬ z = 0
def E (cd : Int32) (r : Option Value) (s u : State) : Prop := XT.PureE (some (.int (1 - cd))) r s u
theorem law (l : Launch) (x : Addr) (cd z : Int32) : Law l yN 1 0 0 0 yB 1 (some .boolean) site (P x cd z) (E cd) [] 0 0 := by
  refine Law.of_walk (plainFor_of_name (by decide +kernel)) (by decide +kernel) (by decide +kernel) (by decide) (fun _ _ h => by rw [h.1]; rfl) (fun _ U U' hal hh h => ⟨h.1, h.2.1.mv hal hh, h.2.2.1, h.2.2.2.1.there hal hh, h.2.2.2.2⟩) (fun r U U' V V' h1 hal h2 h => XT.PureE.mv r U U' V V' h1 hal h2 h) ?_
  intro p e s m args below meth c s₁ X0 hexec hbytes hml hret hlk hnm hown hh0 W hP
  obtain ⟨rfl, hx, hc, s1, hz⟩ := hP
  have c1 : Steps p.tables e below (s₁.setTop (entryFrame m #[.ref x] 1)) (s₁.setTop (mkF m 0 #[.val (.ref x)] [])) := entry rfl
  obtain ⟨T2, X2, q2, st2⟩ := X0.sget hexec hown (wk W (.fieldLink "java/lang/String" 38 "java/lang/String" "COMPACT_STRINGS" "Z")) s1 (fun _ _ h => by rw [hh0]; exact h) (g := (mkF m 0 #[.val (.ref x)] [])) rfl (hb hbytes d0)
  have hh2 := q2.trans hh0
  have c3 : Steps p.tables e below (s₁.setTop (entryFrame m #[.ref x] 1)) (T2.setTop (mkF m 7 #[.val (.ref x)] [.ref x])) := (c1.trans (st2 _ (Steps.refl _))).trans (by
    refine XS.ifNo X2.here hexec rfl (hb hbytes d3) rfl (i0_eq_f hz) ?_
    refine XS.aloadN X2.here hexec rfl (hb hbytes d6) rfl rfl ?_
    exact Steps.refl _)
  obtain ⟨T4, X4, q4, st4⟩ := X2.hget hexec hown (wk W (.fieldLink "java/lang/String" 15 "java/lang/String" "coder" "B")) (hx.mv X2.warmed.alike hh2) (g := (mkF m 7 #[.val (.ref x)] [.ref x])) rfl (rest := []) rfl (hb hbytes d7)
  have c5 : Steps p.tables e below (s₁.setTop (entryFrame m #[.ref x] 1)) (T4.setTop (mkF m 10 #[.val (.ref x)] [.int cd])) := c3.trans (st4 _ (Steps.refl _))
  have c6 : Steps p.tables e below (s₁.setTop (entryFrame m #[.ref x] 1)) (T4.setTop (mkF m 18 #[.val (.ref x)] [.int (1 - cd)])) := by
    rcases hc with rfl | rfl
    · exact c5.trans (by
        refine XS.ifNo X4.here hexec rfl (hb hbytes d10) rfl (i0_ne_f rfl) ?_
        refine iconstV X4.here hexec rfl 1 (hb hbytes d13) (by decide) ?_
        refine XS.goto X4.here hexec rfl (pc0 := 14) rfl (hb hbytes d14) (by decide) rfl ?_
        exact Steps.refl _)
    · exact c5.trans (by
        refine XS.ifYes X4.here hexec rfl (pc0 := 10) rfl (hb hbytes d10) rfl (i0_ne_t (by decide)) (by decide) rfl ?_
        refine iconstV X4.here hexec rfl 0 (hb hbytes d17) (by decide) ?_
        exact Steps.refl _)
  exact ⟨T4, some (.int (1 - cd)), _, _, _, X4, rfl, rfl, rfl, (fun h => by cases h), ⟨rfl, q4.trans hh2⟩, fun fs hl => c6.trans (X4.ireturnOut hexec hret (by rcases hc with rfl | rfl <;> rfl) (Or.inr (Or.inl rfl)) (hb hbytes d18) hl)⟩
end IsL
namespace LChA
def yN : MethodName := ⟨"java/lang/StringLatin1", "charAt", "([BI)C"⟩
abbrev yB : ByteArray := jdk_43_method_2_code
theorem d0 : decode yB 0 = .ok (.iload_n 1, 1) := by decide +kernel
theorem d1 : decode yB 1 = .ok (.aload_n 0, 1) := by decide +kernel
theorem d2 : decode yB 2 = .ok (.arraylength, 1) := by decide +kernel
theorem d3 : decode yB 3 = .ok (.invokestatic 9, 3) := by decide +kernel
theorem d6 : decode yB 6 = .ok (.aload_n 0, 1) := by decide +kernel
theorem d7 : decode yB 7 = .ok (.iload_n 1, 1) := by decide +kernel
theorem d8 : decode yB 8 = .ok (.baload, 1) := by decide +kernel
theorem d9 : decode yB 9 = .ok (.sipush 255, 3) := by decide +kernel
theorem d12 : decode yB 12 = .ok (.iand, 1) := by decide +kernel
theorem d13 : decode yB 13 = .ok (.i2c, 1) := by decide +kernel
theorem d14 : decode yB 14 = .ok (.ireturn, 1) := by decide +kernel
def site : List Cond := [JO.Str_checkIndex.tab] ++ staticW "java/lang/StringLatin1" 9 JO.Str_checkIndex.yN
def tab : Cond := tabOf yN yB 2 (some .char) site
def P (t : Addr) (V : Cell) (i : Nat) (u : Int32) (fm : Value) (args : Array Value) (s : State) : Prop := args = #[.ref t, .int (Int32.ofNat i)] ∧ XT.Arr .byte t V s ∧ V.slots[i]? = some (.int u) ∧ (StaticIs s "jdk/internal/util/Preconditions" "SIOOBE_FORMATTER" "Ljava/util/function/BiFunction;" fm ∧ fm.isRef = true)
def E (u : Int32) (r : Option Value) (s w : State) : Prop := XT.PureE (some (.int (chr8 u))) r s w
theorem law (l : Launch) (t : Addr) (V : Cell) (i : Nat) (u : Int32) (fm : Value) : Law l yN 2 2 2 27 yB 2 (some .char) site (P t V i u fm) (E u) [] 0 0 := by
  refine Law.of_walk (plainFor_of_name (by decide +kernel)) (by decide +kernel) (by decide +kernel) (by decide) (fun _ _ h => by rw [h.1]; rfl) (fun _ U U' hal hh h => ⟨h.1, h.2.1.mv hal hh, h.2.2.1, h.2.2.2.1.there hal hh, h.2.2.2.2⟩) (fun r U U' V V' h1 hal h2 h => XT.PureE.mv r U U' V V' h1 hal h2 h) ?_
  intro p e s m args below meth c s₁ X0 hexec hbytes hml hret hlk hnm hown hh0 W hP
  obtain ⟨rfl, hV, hu, s1, rf⟩ := hP
  have v31 := hV.2.2.2
  have hi : i < V.slots.size := (Array.getElem?_eq_some_iff.mp hu).1
  have c1 : Steps p.tables e below (s₁.setTop (entryFrame m #[.ref t, .int (Int32.ofNat i)] 2)) (s₁.setTop (mkF m 0 #[.val (.ref t), .val (.int (Int32.ofNat i))] [])) := entry rfl
  have c2 : Steps p.tables e below (s₁.setTop (entryFrame m #[.ref t, .int (Int32.ofNat i)] 2)) (s₁.setTop (mkF m 3 #[.val (.ref t), .val (.int (Int32.ofNat i))] [.int (Int32.ofNat V.slots.size), .int (Int32.ofNat i)])) := c1.trans (by
    refine XS.iloadN X0.here hexec rfl (hb hbytes d0) rfl ?_
    refine XS.aloadN X0.here hexec rfl (hb hbytes d1) rfl rfl ?_
    refine X0.alen hexec (hV.mv X0.warmed.alike hh0) rfl rfl (hb hbytes d2) ?_
    exact Steps.refl _)
  obtain ⟨v3, T3, X3, E3, g3⟩ := X0.callS hexec (JO.Str_checkIndex.law l (Int32.ofNat i) (Int32.ofNat V.slots.size) fm) hown (wks W (staticW "java/lang/StringLatin1" 9 JO.Str_checkIndex.yN)) (wk W JO.Str_checkIndex.tab) (W := 0) (Nat.le_of_ble_eq_true rfl) (Nat.le_of_ble_eq_true rfl) (Nat.le_refl _) (Nat.le_refl _) (g := (mkF m 3 #[.val (.ref t), .val (.int (Int32.ofNat i))] [.int (Int32.ofNat V.slots.size), .int (Int32.ofNat i)])) rfl (by rw [hml]; rfl) c2 (argsL := [.int (Int32.ofNat i), .int (Int32.ofNat V.slots.size)]) (rest := []) rfl rfl (by show 2 * 0 + 0 ≤ _; decide) (hb hbytes d3) (⟨rfl, rf, s1.there X0.warmed.alike hh0, Int32.ofNat_not_neg (by omega), lt32 v31 hi⟩)
  obtain ⟨rfl, q3⟩ := E3
  have hh3 := q3.trans hh0
  have c4 : Steps p.tables e below (s₁.setTop (entryFrame m #[.ref t, .int (Int32.ofNat i)] 2)) (T3.setTop (mkF m 14 #[.val (.ref t), .val (.int (Int32.ofNat i))] [.int (chr8 u)])) := Steps.trans g3 (by
    refine XS.aloadN X3.here hexec rfl (hb hbytes d6) rfl rfl ?_
    refine XS.iloadN X3.here hexec rfl (hb hbytes d7) rfl ?_
    refine X3.aget hexec (hV.mv X3.warmed.alike hh3) rfl hu rfl rfl (hb hbytes d8) ?_
    refine sipushV X3.here hexec rfl 255 (hb hbytes d9) (by decide) ?_
    refine XS.iand X3.here hexec rfl (hb hbytes d12) rfl ?_
    refine i2c X3.here hexec rfl (hb hbytes d13) rfl ?_
    exact Steps.refl _)
  exact ⟨T3, some (.int (chr8 u)), _, _, _, X3, rfl, rfl, rfl, (fun h => by cases h), ⟨rfl, hh3⟩, fun fs hl => c4.trans (X3.ireturnOut hexec hret (narrow_c _) (Or.inr (Or.inr (Or.inr (Or.inl rfl)))) (hb hbytes d14) hl)⟩
end LChA
end StrChars
namespace StrChars.Road
open Jvm Sem ClassFile Op Lib Jvm.Stand Jvm.Free Jvm.Free.XT
open Jvm.Lib.Cold (StaticIs)
theorem consq {a : Array Value} {s : State} {c : Jvm.Cond} {L : List Jvm.Cond} (h0 : c.before a s = true) (h : ∀ w ∈ L, w.before a s = true) : ∀ w ∈ c :: L, w.before a s = true := fun w hw => (List.mem_cons.mp hw).elim (fun e => e ▸ h0) (h w)
/-- the bytes of the chars cs, low before high -/
def wideBytes : List Int32 → List Value
  | [] => []
  | c :: cs => .int (lo8 c) :: .int (hi8 c) :: wideBytes cs
theorem wide_lo (d : Value) : ∀ (cs : List Int32) (j : Nat), j < cs.length → (wideBytes cs).getD (2 * j) d = .int (lo8 (cs.getD j 0))
  | [], j, h => absurd h (Nat.not_lt_zero j)
  | c :: cs, 0, _ => rfl
  | c :: cs, j + 1, h => by
    have q := wide_lo d cs j (by simpa using h)
    rw [show 2 * (j + 1) = 2 * j + 1 + 1 from by omega]
    simpa [wideBytes] using q
theorem wide_hi (d : Value) : ∀ (cs : List Int32) (j : Nat), j < cs.length → (wideBytes cs).getD (2 * j + 1) d = .int (hi8 (cs.getD j 0))
  | [], j, h => absurd h (Nat.not_lt_zero j)
  | c :: cs, 0, _ => rfl
  | c :: cs, j + 1, h => by
    have q := wide_hi d cs j (by simpa using h)
    rw [show 2 * (j + 1) + 1 = 2 * j + 1 + 1 + 1 from by omega]
    simpa [wideBytes] using q
theorem low_at (d : Value) (cs : List Int32) (j : Nat) (h : j < cs.length) : (cs.map fun c => Value.int (lo8 c)).getD j d = .int (lo8 (cs.getD j 0)) := by
  simp [List.getD_eq_getElem?_getD, h]
/-- an array of N2 bytes vs codes the chars cs by the coder cd -/
def CodA (cs : List Int32) (cd N2 : Int32) (vs : List Value) : Prop := (cd = 0 ∧ N2 = Int32.ofNat cs.length ∧ vs = (cs.map fun c => Value.int (lo8 c)) ∧ ∀ c ∈ cs, ¬ 255 < c) ∨ (cd = 1 ∧ N2 = Int32.ofNat (2 * cs.length) ∧ vs = wideBytes cs ∧ ∃ c ∈ cs, 255 < c)
theorem CodA.cod {cs : List Int32} {cd N2 : Int32} {vs : List Value} {V : Cell} (h : CodA cs cd N2 vs) (hn : 2 * cs.length < 2 ^ 31) (hs : V.slots.size = N2.toNatClampNeg) (hv : RoadKit.Has V vs (.int 0)) : Cod cd cs.length (fun j => cs.getD j 0) V := by
  rcases h with ⟨rfl, rfl, rfl, h⟩ | ⟨rfl, rfl, rfl, c, hc, hw⟩
  · rw [n32 (by omega)] at hs
    exact Or.inl ⟨rfl, hs, fun j hj => ⟨by rw [hv j (by omega), low_at _ _ _ hj], by
      have e : cs.getD j 0 = cs[j] := by simp [List.getD_eq_getElem?_getD, hj]
      show ¬ 255 < cs.getD j 0
      rw [e]; exact h _ (List.getElem_mem _)⟩⟩
  · rw [n32 (by omega)] at hs
    obtain ⟨j, hj, rfl⟩ := List.getElem_of_mem hc
    exact Or.inr ⟨rfl, hs, fun j hj => ⟨by rw [hv _ (by omega), wide_lo _ _ _ hj], by rw [hv _ (by omega), wide_hi _ _ _ hj]⟩, j, hj, by
      have e : cs.getD j 0 = cs[j] := by simp [List.getD_eq_getElem?_getD, hj]
      show 255 < cs.getD j 0
      rw [e]; exact hw⟩
/-- an object of exactly java/lang/String, its two fields found: as the laws ask it -/
theorem strObj {Z U : State} {a0 : Array Value} {kI : Nat} (wi : (Jvm.Cond.instantiable ST kI).before a0 Z = true) (al : Z.vm.Alike U.vm) {x : Addr} {v0 c0 : Value} (E : RoadKit.Exa Z U.heap x ST) (V : RoadKit.Fld Z U.heap x ST "value" "[B" v0) (C : RoadKit.Fld Z U.heap x ST "coder" "B" c0) :
    ∃ (D : Cell) (fV fC : Field), Blank ST x D U ∧ Found ST "value" "[B" fV U ∧ Found ST "coder" "B" fC U ∧ D.slots[fV.slot]? = some v0 ∧ D.slots[fC.slot]? = some c0 ∧ RoadKit.slotOf Z ST "value" "[B" = fV.slot ∧ RoadKit.slotOf Z ST "coder" "B" = fC.slot := by
  obtain ⟨D, cfV, kV, iV, fV, hD, gV, stV, knV, obV, asV, slV⟩ := V
  obtain ⟨D', cfC, kC, iC, fC, hD', gC, stC, -, -, asC, slC⟩ := C
  cases hD.symm.trans hD'
  obtain ⟨D2, kD, e1, e2, e3, e4, e5⟩ := E
  cases hD.symm.trans e1
  obtain ⟨c2, k2, i1, i2, i3, -⟩ := Cond.instantiable_spec wi
  cases e2.symm.trans i1
  cases e3.symm.trans i2
  obtain ⟨kU, u1, u2⟩ := al.2.2 _ _ e3
  exact ⟨D, fV, fC, ⟨hD, ⟨knV, fun q hq => by rw [hq] at obV; cases obV⟩, by rw [al.findClass]; exact e2, kU, u1, by rw [u2]; exact i3, by rw [u2]; exact e5 i3⟩, ⟨SBG.found_only al ⟨cfV, kV, iV, gV⟩, stV⟩, ⟨SBG.found_only al ⟨cfC, kC, iC, gC⟩, stC⟩, slV, slC, by simp [RoadKit.slotOf, gV], by simp [RoadKit.slotOf, gC]⟩
theorem sta_is {Z U : State} (al : Z.vm.Alike U.vm) {C n d : String} {v : Value} (S : RoadKit.Sta Z U.heap C n d v) : StaticIs U C n d v := by
  obtain ⟨cfS, iS, kS, fS, st, cS, t1, t2, t3, t4, t5, t6, t7⟩ := S
  exact StaticIs.there (s := { Z with heap := U.heap }) ⟨cfS, iS, kS, fS, st, cS, t1, t2, t3, t4, t5, (fun q => by rw [q] at t6; cases t6), t7⟩ al rfl
end StrChars.Road
namespace StrChars.Road
open Jvm Sem ClassFile Op Lib Jvm.Stand Jvm.Free Jvm.Free.XT
open Jvm.Lib.Cold (StaticIs)
/-- the road's facts of a String, as the laws ask it -/
theorem txt_of {Z U : State} {a0 : Array Value} {kI : Nat} (wi : (Jvm.Cond.instantiable ST kI).before a0 Z = true) (al : Z.vm.Alike U.vm) {x t : Addr} {kb : ClassId} {cs : List Int32} {cd N2 : Int32} {vs : List Value} (E : RoadKit.Exa Z U.heap x ST) (V : RoadKit.Fld Z U.heap x ST "value" "[B" (.ref t)) (C : RoadKit.Fld Z U.heap x ST "coder" "B" (.int cd)) (K : RoadKit.Arv Z U.heap t kb .byte N2 vs (.int 0)) (hc : CodA cs cd N2 vs) (hb : ∀ c ∈ cs, ¬ c < 0 ∧ ¬ (65535 : Int32) < c) (l2 : cs.length ≤ 4000) :
    ∃ A, Txt x t A cd cs.length (fun j => cs.getD j 0) U := by
  obtain ⟨A, K1, K2, K3, K4, K5, K6⟩ := K
  have hcod := hc.cod (by omega) K3 K5
  obtain ⟨D, fV, fC, hB, F1, F2, g1, g2, -, -⟩ := strObj wi al E V C
  exact ⟨A, ⟨_, hB.2.2.1, D, hB.1, rfl, by cases q : D.vm <;> first | rfl | exact absurd q (hB.2.1.2 _)⟩, Has.of hB F1 g1, Has.of hB F2 g2, ⟨K1.1, State.isArrayOf_alike al K1.2.1, K1.2.2, by rcases hcod with ⟨-, q, -⟩ | ⟨-, q, -⟩ <;> omega⟩, hcod, fun j hj => by
    have e : cs.getD j 0 = cs[j] := by simp [List.getD_eq_getElem?_getD, hj]
    show ¬ cs.getD j 0 < 0 ∧ ¬ 65535 < cs.getD j 0
    rw [e]; exact hb _ (List.getElem_mem _)⟩
end StrChars.Road
namespace StrChars
open Jvm Sem ClassFile Op Lib Jvm.Stand Jvm.Free.XT Jvm.Free.ALB Jvm.Free.JM Jvm.Free
open Jvm.Lib.Cold (StaticIs)
namespace ChN
def yN : MethodName := ⟨"java/lang/String", "charAt", "(I)C"⟩
abbrev yB : ByteArray := jdk_42_method_56_code
theorem d0 : decode yB 0 = .ok (.aload_n 0, 1) := by decide +kernel
theorem d1 : decode yB 1 = .ok (.invokevirtual 492, 3) := by decide +kernel
theorem d4 : decode yB 4 = .ok (.ifCond (.eq) 12, 3) := by decide +kernel
theorem d7 : decode yB 7 = .ok (.aload_n 0, 1) := by decide +kernel
theorem d8 : decode yB 8 = .ok (.getfield 9, 3) := by decide +kernel
theorem d11 : decode yB 11 = .ok (.iload_n 1, 1) := by decide +kernel
theorem d12 : decode yB 12 = .ok (.invokestatic 495, 3) := by decide +kernel
theorem d15 : decode yB 15 = .ok (.ireturn, 1) := by decide +kernel
def site : List Cond := [.fieldLink "java/lang/String" 9 "java/lang/String" "value" "[B", IsL.tab, LChA.tab] ++ virtW "java/lang/String" 492 "java/lang/String" IsL.yN IsL.yN ++ staticW "java/lang/String" 495 LChA.yN
def tab : Cond := tabOf yN yB 2 (some .char) site
def P (x t : Addr) (V : Cell) (n : Nat) (f : Nat → Int32) (z : Int32) (fm : Value) (i : Nat) (args : Array Value) (s : State) : Prop := args = #[.ref x, .int (Int32.ofNat i)] ∧ Txt x t V 0 n f s ∧ i < n ∧ StaticIs s "java/lang/String" "COMPACT_STRINGS" "Z" (.int z) ∧ ¬ z = 0 ∧ StaticIs s "jdk/internal/util/Preconditions" "SIOOBE_FORMATTER" "Ljava/util/function/BiFunction;" fm ∧ fm.isRef = true
def E (f : Nat → Int32) (i : Nat) (r : Option Value) (s u : State) : Prop := XT.PureE (some (.int (f i))) r s u
/-- charAt(i) of a Latin-1 String of n chars, i < n: f i -/
theorem law (l : Launch) (x t : Addr) (V : Cell) (n : Nat) (f : Nat → Int32) (z : Int32) (fm : Value) (i : Nat) : Law l yN 2 1 3 40 yB 2 (some .char) site (P x t V n f z fm i) (E f i) [] 0 0 := by
  refine Law.of_walk (plainFor_of_name (by decide +kernel)) (by decide +kernel) (by decide +kernel) (by decide) (fun _ _ h => by rw [h.1]; rfl) (fun _ U U' hal hh h => ⟨h.1, h.2.1.mv hal hh, h.2.2.1, h.2.2.2.1.there hal hh, h.2.2.2.2.1, h.2.2.2.2.2.1.there hal hh, h.2.2.2.2.2.2⟩) (fun r U U' V V' h1 hal h2 h => XT.PureE.mv r U U' V V' h1 hal h2 h) ?_
  intro p e s m args below meth c s₁ X0 hexec hbytes hml hret hlk hnm hown hh0 W hP
  obtain ⟨rfl, hx, hi, s1, hz, s3, rf⟩ := hP
  have v31 := hx.2.2.2.1.2.2.2
  have hr := hx.2.2.2.2.2 i hi
  have hx0 := hx.mv X0.warmed.alike hh0
  have c1 : Steps p.tables e below (s₁.setTop (entryFrame m #[.ref x, .int (Int32.ofNat i)] 2)) (s₁.setTop (mkF m 1 #[.val (.ref x), .val (.int (Int32.ofNat i))] [.ref x])) := Steps.trans (entry rfl) (by
    show Steps p.tables e below (s₁.setTop (mkF m 0 #[.val (.ref x), .val (.int (Int32.ofNat i))] [])) _
    refine XS.aloadN X0.here hexec rfl (hb hbytes d0) rfl rfl ?_
    exact Steps.refl _)
  obtain ⟨v2, T2, X2, E2, g2⟩ := X0.callV hexec (IsL.law l x 0 z) hown (wks W (virtW "java/lang/String" 492 "java/lang/String" IsL.yN IsL.yN)) rfl (by decide) (wk W IsL.tab) (W := 0) (Nat.le_of_ble_eq_true rfl) (Nat.le_of_ble_eq_true rfl) (Nat.le_refl _) (Nat.le_refl _) (hx0.1.fc X0.warmed.alike) hx0.1.is (g := (mkF m 1 #[.val (.ref x), .val (.int (Int32.ofNat i))] [.ref x])) rfl (by rw [hml]; rfl) c1 (argsL := []) (rest := []) rfl rfl (by show 2 * 0 + 0 ≤ _; decide) (hb hbytes d1) (⟨rfl, hx0.2.2.1, hx.2.2.2.2.1.cd, s1.there X0.warmed.alike hh0, hz⟩)
  obtain ⟨rfl, q2⟩ := E2
  have hh2 := q2.trans hh0
  have hx2 := hx.mv X2.warmed.alike hh2
  obtain ⟨-, k1, k2⟩ | ⟨k0, -⟩ := hx.2.2.2.2.1
  · have c3 : Steps p.tables e below (s₁.setTop (entryFrame m #[.ref x, .int (Int32.ofNat i)] 2)) (T2.setTop (mkF m 8 #[.val (.ref x), .val (.int (Int32.ofNat i))] [.ref x])) := Steps.trans g2 (by
      refine XS.ifNo X2.here hexec rfl (hb hbytes d4) rfl (i0_eq_f (by decide)) ?_
      refine XS.aloadN X2.here hexec rfl (hb hbytes d7) rfl rfl ?_
      exact Steps.refl _)
    obtain ⟨T4, X4, q4, st4⟩ := X2.hget hexec hown (wk W (.fieldLink "java/lang/String" 9 "java/lang/String" "value" "[B")) hx2.2.1 (g := (mkF m 8 #[.val (.ref x), .val (.int (Int32.ofNat i))] [.ref x])) rfl (rest := []) rfl (hb hbytes d8)
    have hh4 := q4.trans hh2
    have c5 : Steps p.tables e below (s₁.setTop (entryFrame m #[.ref x, .int (Int32.ofNat i)] 2)) (T4.setTop (mkF m 12 #[.val (.ref x), .val (.int (Int32.ofNat i))] [.int (Int32.ofNat i), .ref t])) := (c3.trans (st4 _ (Steps.refl _))).trans (by
      refine XS.iloadN X4.here hexec rfl (hb hbytes d11) rfl ?_
      exact Steps.refl _)
    obtain ⟨v6, T6, X6, E6, g6⟩ := X4.callS hexec (LChA.law l t V i (lo8 (f i)) fm) hown (wks W (staticW "java/lang/String" 495 LChA.yN)) (wk W LChA.tab) (W := 0) (Nat.le_of_ble_eq_true rfl) (Nat.le_of_ble_eq_true rfl) (Nat.le_refl _) (Nat.le_refl _) (g := (mkF m 12 #[.val (.ref x), .val (.int (Int32.ofNat i))] [.int (Int32.ofNat i), .ref t])) rfl (by rw [hml]; rfl) c5 (argsL := [.ref t, .int (Int32.ofNat i)]) (rest := []) rfl rfl (by show 2 * 0 + 0 ≤ _; decide) (hb hbytes d12) (⟨rfl, hx.2.2.2.1.mv X4.warmed.alike hh4, (k2 i hi).1, s3.there X4.warmed.alike hh4, rf⟩)
    obtain ⟨rfl, q6⟩ := E6
    rw [chr8_lo8 hr.1 (k2 i hi).2] at g6
    exact ⟨T6, some (.int (f i)), _, _, _, X6, rfl, rfl, rfl, (fun h => by cases h), ⟨rfl, q6.trans hh4⟩, fun fs hl => Steps.trans g6 (X6.ireturnOut hexec hret (narrow_ch hr.1 hr.2) (Or.inr (Or.inr (Or.inr (Or.inl rfl)))) (hb hbytes d15) hl)⟩
  · exact absurd k0 (by decide)
theorem pays {l : Launch} {R : Room} {p : Program} {e : Env} {below : List Frame} {s : State} {sargs : Array Value} {len W : Nat} (x t : Addr) (V : Cell) (n : Nat) (f : Nat → Int32) (z : Int32) (fm : Value) (i : Nat) (htab : tab.before sargs s = true) (hfr : 4 ≤ R.frames) (hlo : W + 53 ≤ R.locals) :
    Back l R p e below s sargs yN len W (fun A₁ a₁ => A₁.cells + 0 ≤ R.cells ∧ A₁.slots + 0 ≤ R.slots ∧ P x t V n f z fm i a₁ A₁.U) (fun A₁ _ v₁ B₁ => E f i v₁ A₁.U B₁.U ∧ B₁.locs = A₁.locs ++ [] ∧ B₁.cells = A₁.cells + 0 ∧ B₁.slots = A₁.slots + 0) :=
  (law l x t V n f z fm i).pays htab hfr (by omega)
end ChN
end StrChars
namespace StrChars.Road
open Jvm Sem ClassFile Op Lib Jvm.Stand Jvm.Free Jvm.Free.XT
open Jvm.Lib.Cold (StaticIs)
/-- the words of String.charAt(int), the Latin-1 road alone -/
abbrev wordsChN : List Jvm.Cond := [.code ChN.yN ChN.yB 2 (some .char), .initialized ST, .fieldLink ST 9 ST "value" "[B", .fieldLink ST 38 ST "COMPACT_STRINGS" "Z", .fieldLink ST 15 ST "coder" "B", .code IsL.yN IsL.yB 1 (some .boolean), .methodLink ST 492 IsL.yN, .declares IsL.yN, .selects ST IsL.yN IsL.yN, .instanceMethod IsL.yN,
  .methodLink ST 495 LChA.yN, .static LChA.yN, .code LChA.yN LChA.yB 2 (some .char), .initialized "java/lang/StringLatin1", .methodLink "java/lang/StringLatin1" 9 JO.Str_checkIndex.yN, .static JO.Str_checkIndex.yN, .code JO.Str_checkIndex.yN JO.Str_checkIndex.yB 2 none,
  .fieldLink ST 1053 "jdk/internal/util/Preconditions" "SIOOBE_FORMATTER" "Ljava/util/function/BiFunction;", .methodLink ST 1059 JC.PreCheck.yN, .static JC.PreCheck.yN, .code JC.PreCheck.yN JC.PreCheck.yB 3 (some .int), .initialized "jdk/internal/util/Preconditions"]
theorem tabChN_of {a : Array Value} {s : State} (h : ∀ w ∈ wordsChN, w.before a s = true) : ChN.tab.before a s = true := by
  have hp : JC.PreCheck.tab.before a s = true := unparts (wk h (.code JC.PreCheck.yN JC.PreCheck.yB 3 (some .int))) (wks h (.initialized JC.PreCheck.yN.cls :: JC.PreCheck.site))
  have qk := consq hp h
  have hk : JO.Str_checkIndex.tab.before a s = true := unparts (wk qk (.code JO.Str_checkIndex.yN JO.Str_checkIndex.yB 2 none)) (wks qk (.initialized JO.Str_checkIndex.yN.cls :: JO.Str_checkIndex.site))
  have ql := consq hk h
  have hl : LChA.tab.before a s = true := unparts (wk ql (.code LChA.yN LChA.yB 2 (some .char))) (wks ql (.initialized LChA.yN.cls :: LChA.site))
  have hi : IsL.tab.before a s = true := unparts (wk h (.code IsL.yN IsL.yB 1 (some .boolean))) (wks h (.initialized IsL.yN.cls :: IsL.site))
  have q := consq hi (consq hl h)
  exact unparts (wk q (.code ChN.yN ChN.yB 2 (some .char))) (wks q (.initialized ChN.yN.cls :: ChN.site))
theorem movedChN {Z s : State} {a0 args : Array Value} (hZ : Z.Warmed39 s.vm) (hw : ∀ d ∈ wordsChN, d.before a0 Z = true) : ∀ d ∈ wordsChN, d.before args s = true := fun d hd => by
  have t : ∀ d ∈ wordsChN, (d.onTables && d.keepsFace) = true := by decide +kernel
  exact RoadKit.mv hZ (hw d hd) (t d hd)
/-- **charAt(i) OF A LATIN-1 STRING**, i < n: the char -/
theorem chN {p : Program} {l : Launch} {e : Env} {R : Room} {s : State} {args : Array Value} {below : List Frame} {len W : Nat} {Z : State} {a0 : Array Value} {h : Heap} (hZ : Z.Warmed39 s.vm) (hw : ∀ d ∈ wordsChN, d.before a0 Z = true) {kI : Nat} (wi : (Jvm.Cond.instantiable ST kI).before a0 Z = true)
    {x t : Addr} {kb : ClassId} {cs : List Int32} {N2 z : Int32} {vs : List Value} {fm : Value} {i : Nat} {j : Int32} (E : RoadKit.Exa Z h x ST) (V : RoadKit.Fld Z h x ST "value" "[B" (.ref t)) (C : RoadKit.Fld Z h x ST "coder" "B" (.int 0)) (K : RoadKit.Arv Z h t kb .byte N2 vs (.int 0)) (hc : CodA cs 0 N2 vs) (hb : ∀ c ∈ cs, ¬ c < 0 ∧ ¬ (65535 : Int32) < c)
    (S : RoadKit.Sta Z h ST "COMPACT_STRINGS" "Z" (.int z)) (hz : ¬ z = 0) (F : RoadKit.Sta Z h "jdk/internal/util/Preconditions" "SIOOBE_FORMATTER" "Ljava/util/function/BiFunction;" fm) (rf : fm.isRef = true) (l2 : cs.length ≤ 4000) (hi : i < cs.length) (hj : j = Int32.ofNat i) (hfr : 4 ≤ R.frames) (hlo : W + 53 ≤ R.locals) :
    Back l R p e below s args (⟨"java/lang/String", "charAt", "(I)C"⟩ : MethodName) len W (fun P a => a = #[.ref x, .int j] ∧ P.U.heap = h ∧ P.cells + 0 ≤ R.cells ∧ P.slots + 0 ≤ R.slots)
      (fun P _ v B => ∃ L, (v = some (.int (cs.getD i 0)) ∧ L = [] ∧ B.U.heap = h) ∧ B.locs = P.locs ++ L ∧ B.cells = P.cells + 0 ∧ B.slots = P.slots + 0) := by
  subst hj
  intro m meth c P g ig mk a X hg hsize hdg hW hn hp'
  obtain ⟨rfl, rfl, r1, r2⟩ := hp'
  have al : Z.vm.Alike P.U.vm := hZ.alike.trans X.warmed.alike
  obtain ⟨A, hx⟩ := txt_of wi al E V C K hc hb l2
  obtain ⟨v, B, X', ⟨⟨hv, hh⟩, hl, hk, hs⟩, st⟩ := ChN.pays x t A cs.length (fun j => cs.getD j 0) z fm i (tabChN_of (movedChN hZ hw)) hfr hlo m meth c P g ig mk _ X hg hsize hdg hW hn ⟨r1, r2, rfl, hx, hi, sta_is al S, hz, sta_is al F, rf⟩
  exact ⟨v, B, X', ⟨[], ⟨hv, rfl, hh⟩, hl, hk, hs⟩, st⟩
/-- what backV says of its String, as the contracts of this text ask it: cs's low bytes, coder 0 -/
theorem codOf {cs : List Int32} {n : Nat} (hn : cs.length = n) (hb : ∀ c ∈ cs, ¬ 255 < c) : CodA cs 0 (Int32.ofNat n) ((cs.map lo8).map Value.int) := Or.inl ⟨rfl, by rw [hn], by simp [List.map_map, Function.comp_def], hb⟩
end StrChars.Road
end Jvm.Pilot.@@N@@
namespace Jvm.Pilot.@@N@@
open Jvm Jvm.ClassFile Sem Op Lib Jvm.Free Jvm.Stand Jvm.LawKit Jvm.RoadKit Bundle Jvm.Pilot.@@N@@.Jvm.D
theorem wi {α : Type} {l : List α} {d : α} (i : Nat) (h : l[i]? = some d) : d ∈ l := List.mem_of_getElem? h
theorem wz {a b : Nat} (h : 2 * 0 + a = b) : 2 * 0 + a ≤ b := Nat.le_of_eq h
abbrev Sw {p : Program} {e : Env} {below : List Frame} (T : State) (m : MethodId) (pc : Nat) (L : Array Slot) (st : List Value) (t : State) : Prop := Steps p.tables e below (T.setTop (mkF m pc L st)) t
abbrev HW (a0 : Array Value) (Z : State) : Prop := ∀ d ∈ tables_1, d.before a0 Z = true
theorem ww {a0 : Array Value} {Z : State} {d : Jvm.Cond} (hw : HW a0 Z) (i : Nat) (h : tables_1[i]? = some d) : d.before a0 Z = true := hw d (List.mem_of_getElem? h)
abbrev cd00 : ByteArray := jdk_42_method_152_code
abbrev cd01 : ByteArray := jdk_42_method_54_code
abbrev cd02 : ByteArray := jdk_68_method_9_code
abbrev cd03 : ByteArray := jdk_68_method_71_code
abbrev cd04 : ByteArray := jdk_42_method_147_code
abbrev cd05 : ByteArray := jdk_68_method_73_code
abbrev cd06 : ByteArray := jdk_68_method_22_code
abbrev cd07 : ByteArray := jdk_67_method_7_code
abbrev cd08 : ByteArray := jdk_67_method_80_code
abbrev cd09 : ByteArray := jdk_68_method_68_code
abbrev cd10 : ByteArray := jdk_43_method_3_code
abbrev cd11 : ByteArray := jdk_68_method_31_code
abbrev cd12 : ByteArray := jdk_67_method_14_code
abbrev cd13 : ByteArray := jdk_29_method_65_code
abbrev cd14 : ByteArray := jdk_29_method_69_code
abbrev cd15 : ByteArray := jdk_48_method_27_code
abbrev cd16 : ByteArray := jdk_68_method_10_code
abbrev cd17 : ByteArray := jdk_65_method_121_code
abbrev cd18 : ByteArray := jdk_68_method_3_code
abbrev cd19 : ByteArray := jdk_67_method_3_code
abbrev cd20 : ByteArray := jdk_65_method_131_code
abbrev cd21 : ByteArray := jdk_68_method_64_code
abbrev cd22 : ByteArray := jdk_68_method_6_code
abbrev cd23 : ByteArray := jdk_67_method_93_code
abbrev cd24 : ByteArray := jdk_65_method_133_code
abbrev cd25 : ByteArray := jdk_65_method_132_code
abbrev cd26 : ByteArray := jdk_42_method_150_code
abbrev cd27 : ByteArray := jdk_42_method_53_code
abbrev cd28 : ByteArray := jdk_67_method_42_code
abbrev cd29 : ByteArray := jdk_22_method_1_code
abbrev cd30 : ByteArray := jdk_21_method_3_code
abbrev cd31 : ByteArray := jdk_21_method_7_code
abbrev cd32 : ByteArray := jdk_21_method_6_code
abbrev cd33 : ByteArray := jdk_21_method_38_code
abbrev cd34 : ByteArray := jdk_21_method_10_code
abbrev cd35 : ByteArray := jdk_21_method_12_code
abbrev cd36 : ByteArray := jdk_21_method_34_code
abbrev cd37 : ByteArray := jdk_21_method_20_code
abbrev cd38 : ByteArray := jdk_21_method_18_code
abbrev cd39 : ByteArray := jdk_21_method_35_code
abbrev cd40 : ByteArray := prog_100_method_8_code
abbrev cd41 : ByteArray := prog_100_method_2_code
abbrev cd42 : ByteArray := prog_100_method_9_code
abbrev cd43 : ByteArray := prog_100_method_4_code
abbrev cd44 : ByteArray := prog_100_method_1_code
abbrev cd45 : ByteArray := prog_100_method_5_code
abbrev cd46 : ByteArray := prog_100_method_7_code
abbrev ym00 : MethodName := ⟨"java/lang/String", "coder", "()B"⟩
abbrev ym01 : MethodName := ⟨"java/lang/String", "length", "()I"⟩
abbrev ym02 : MethodName := ⟨"java/lang/AbstractStringBuilder", "ensureCapacityInternal", "(I)V"⟩
abbrev ym03 : MethodName := ⟨"java/lang/AbstractStringBuilder", "inflateIfNeededFor", "(Ljava/lang/String;)V"⟩
abbrev ym04 : MethodName := ⟨"java/lang/String", "getBytes", "([BIB)V"⟩
abbrev ym05 : MethodName := ⟨"java/lang/AbstractStringBuilder", "putStringAt", "(ILjava/lang/String;)V"⟩
abbrev ym06 : MethodName := ⟨"java/lang/AbstractStringBuilder", "append", "(Ljava/lang/String;)Ljava/lang/AbstractStringBuilder;"⟩
abbrev ym07 : MethodName := ⟨"java/lang/StringBuilder", "append", "(Ljava/lang/String;)Ljava/lang/StringBuilder;"⟩
abbrev ym08 : MethodName := ⟨"java/lang/StringBuilder", "append", "(Ljava/lang/String;)Ljava/lang/AbstractStringBuilder;"⟩
abbrev ym09 : MethodName := ⟨"java/lang/AbstractStringBuilder", "isLatin1", "()Z"⟩
abbrev ym10 : MethodName := ⟨"java/lang/StringLatin1", "canEncode", "(C)Z"⟩
abbrev ym11 : MethodName := ⟨"java/lang/AbstractStringBuilder", "append", "(C)Ljava/lang/AbstractStringBuilder;"⟩
abbrev ym12 : MethodName := ⟨"java/lang/StringBuilder", "append", "(C)Ljava/lang/StringBuilder;"⟩
abbrev ym13 : MethodName := ⟨"java/lang/Math", "max", "(II)I"⟩
abbrev ym14 : MethodName := ⟨"java/lang/Math", "min", "(II)I"⟩
abbrev ym15 : MethodName := ⟨"jdk/internal/util/ArraysSupport", "newLength", "(III)I"⟩
abbrev ym16 : MethodName := ⟨"java/lang/AbstractStringBuilder", "newCapacity", "(I)I"⟩
abbrev ym17 : MethodName := ⟨"java/util/Arrays", "copyOf", "([BI)[B"⟩
abbrev ym18 : MethodName := ⟨"java/lang/AbstractStringBuilder", "<init>", "(Ljava/lang/String;)V"⟩
abbrev ym19 : MethodName := ⟨"java/lang/StringBuilder", "<init>", "(Ljava/lang/String;)V"⟩
abbrev ym20 : MethodName := ⟨"java/util/Arrays", "checkLength", "(II)V"⟩
abbrev ym21 : MethodName := ⟨"java/lang/AbstractStringBuilder", "getValue", "()[B"⟩
abbrev ym22 : MethodName := ⟨"java/lang/AbstractStringBuilder", "length", "()I"⟩
abbrev ym23 : MethodName := ⟨"java/lang/StringBuilder", "length", "()I"⟩
abbrev ym24 : MethodName := ⟨"java/util/Arrays", "copyOfRangeByte", "([BII)[B"⟩
abbrev ym25 : MethodName := ⟨"java/util/Arrays", "copyOfRange", "([BII)[B"⟩
abbrev ym26 : MethodName := ⟨"java/lang/String", "<init>", "(Ljava/lang/AbstractStringBuilder;Ljava/lang/Void;)V"⟩
abbrev ym27 : MethodName := ⟨"java/lang/String", "<init>", "(Ljava/lang/StringBuilder;)V"⟩
abbrev ym28 : MethodName := ⟨"java/lang/StringBuilder", "toString", "()Ljava/lang/String;"⟩
abbrev ym29 : MethodName := ⟨"java/util/AbstractCollection", "<init>", "()V"⟩
abbrev ym30 : MethodName := ⟨"java/util/ArrayDeque", "<init>", "()V"⟩
abbrev ym31 : MethodName := ⟨"java/util/ArrayDeque", "dec", "(II)I"⟩
abbrev ym32 : MethodName := ⟨"java/util/ArrayDeque", "inc", "(II)I"⟩
abbrev ym33 : MethodName := ⟨"java/util/ArrayDeque", "isEmpty", "()Z"⟩
abbrev ym34 : MethodName := ⟨"java/util/ArrayDeque", "elementAt", "([Ljava/lang/Object;I)Ljava/lang/Object;"⟩
abbrev ym35 : MethodName := ⟨"java/util/ArrayDeque", "addFirst", "(Ljava/lang/Object;)V"⟩
abbrev ym36 : MethodName := ⟨"java/util/ArrayDeque", "push", "(Ljava/lang/Object;)V"⟩
abbrev ym37 : MethodName := ⟨"java/util/ArrayDeque", "pollFirst", "()Ljava/lang/Object;"⟩
abbrev ym38 : MethodName := ⟨"java/util/ArrayDeque", "removeFirst", "()Ljava/lang/Object;"⟩
abbrev ym39 : MethodName := ⟨"java/util/ArrayDeque", "pop", "()Ljava/lang/Object;"⟩
abbrev ym40 : MethodName := ⟨"org/athenaeum/xml/XmlWriter", "closeStartTag", "()V"⟩
abbrev ym41 : MethodName := ⟨"org/athenaeum/xml/XmlWriter", "start", "(Ljava/lang/String;)Lorg/athenaeum/xml/XmlWriter;"⟩
abbrev ym42 : MethodName := ⟨"java/util/Deque", "push", "(Ljava/lang/Object;)V"⟩
abbrev ym43 : MethodName := ⟨"org/athenaeum/xml/XmlWriter", "escape", "(Ljava/lang/String;Z)V"⟩
abbrev ym44 : MethodName := ⟨"org/athenaeum/xml/XmlWriter", "text", "(Ljava/lang/String;)Lorg/athenaeum/xml/XmlWriter;"⟩
abbrev ym45 : MethodName := ⟨"org/athenaeum/xml/XmlWriter", "<init>", "()V"⟩
abbrev ym46 : MethodName := ⟨"org/athenaeum/xml/XmlWriter", "end", "()Lorg/athenaeum/xml/XmlWriter;"⟩
abbrev ym47 : MethodName := ⟨"java/util/Deque", "pop", "()Ljava/lang/Object;"⟩
abbrev ym48 : MethodName := ⟨"org/athenaeum/xml/XmlWriter", "finish", "()Ljava/lang/String;"⟩
abbrev ym49 : MethodName := ⟨"java/util/Deque", "isEmpty", "()Z"⟩
abbrev ym50 : MethodName := ⟨"org/athenaeum/xml/XmlWriterEndPinLaw", "at", "(Ljava/lang/String;[CII)Z"⟩
abbrev ym51 : MethodName := ⟨"java/lang/String", "charAt", "(I)C"⟩
abbrev ym52 : MethodName := ⟨"java/lang/String", "<init>", "([C)V"⟩
abbrev rm_00 : Room := { frames := 0, cells := 0, slots := 0, locals := 0 }
abbrev rm_01 : Room := { frames := 1, cells := 0, slots := 0, locals := 13 }
abbrev rm_02 : Room := { frames := 1, cells := 0, slots := 0, locals := 27 }
abbrev rm_03 : Room := { frames := 2, cells := 0, slots := 0, locals := 42 }
abbrev rm_04 : Room := { frames := 3, cells := 0, slots := 0, locals := 56 }
abbrev rm_05 : Room := { frames := 4, cells := 0, slots := 0, locals := 70 }
abbrev rm_06 : Room := { frames := 5, cells := 0, slots := 0, locals := 83 }
abbrev rm_07 : Room := { frames := 1, cells := 0, slots := 0, locals := 14 }
abbrev rm_08 : Room := { frames := 2, cells := 0, slots := 0, locals := 27 }
abbrev rm_09 : Room := { frames := 2, cells := 0, slots := 0, locals := 29 }
abbrev rm_10 : Room := { frames := 1, cells := 1, slots := 112, locals := 30 }
abbrev rm_11 : Room := { frames := 3, cells := 1, slots := 112, locals := 48 }
abbrev rm_12 : Room := { frames := 4, cells := 1, slots := 112, locals := 62 }
abbrev rm_13 : Room := { frames := 5, cells := 1, slots := 112, locals := 76 }
abbrev rm_14 : Room := { frames := 6, cells := 1, slots := 55, locals := 96 }
abbrev rm_15 : Room := { frames := 7, cells := 1, slots := 55, locals := 112 }
abbrev rm_16 : Room := { frames := 1, cells := 0, slots := 0, locals := 12 }
abbrev rm_17 : Room := { frames := 1, cells := 1, slots := 58, locals := 30 }
abbrev rm_18 : Room := { frames := 2, cells := 1, slots := 58, locals := 46 }
abbrev rm_19 : Room := { frames := 3, cells := 1, slots := 58, locals := 61 }
abbrev rm_20 : Room := { frames := 4, cells := 1, slots := 58, locals := 77 }
abbrev rm_21 : Room := { frames := 5, cells := 2, slots := 62, locals := 91 }
abbrev rm_22 : Room := { frames := 2, cells := 1, slots := 17, locals := 24 }
abbrev rm_23 : Room := { frames := 1, cells := 0, slots := 0, locals := 15 }
abbrev rm_24 : Room := { frames := 3, cells := 0, slots := 0, locals := 42 }
abbrev rm_25 : Room := { frames := 3, cells := 0, slots := 0, locals := 40 }
abbrev rm_26 : Room := { frames := 2, cells := 0, slots := 0, locals := 26 }
abbrev rm_27 : Room := { frames := 4, cells := 0, slots := 0, locals := 52 }
abbrev rm_28 : Room := { frames := 8, cells := 6, slots := 250, locals := 127 }
abbrev rm_29 : Room := { frames := 5, cells := 2, slots := 12, locals := 83 }
abbrev rm_30 : Room := { frames := 6, cells := 3, slots := 124, locals := 89 }
abbrev rm_31 : Room := { frames := 6, cells := 2, slots := 62, locals := 103 }
abbrev rm_32 : Room := { frames := 7, cells := 5, slots := 190, locals := 103 }
abbrev rm_33 : Room := { frames := 4, cells := 0, slots := 0, locals := 53 }
theorem own_ext {h h' : Heap} (K : Keep h h' []) : Ext h h' := ⟨K.1, fun a c q => K.2.1 a c q nin0⟩
theorem own_sel {s : State} {args : Array Value} {C : String} {y : MethodName} (hp : s.PrivateAt y) (hi : (Jvm.Cond.instanceMethod y).before args s = true) (hs : (Jvm.Cond.selects C y y).before args s = true) (hy : y.cls ≠ "java/lang/invoke/MethodHandle" ∧ y.cls ≠ "java/lang/invoke/VarHandle") : (Jvm.Cond.selects y.cls y y).before args s = true := by
  obtain ⟨c2, r2, m2, -, -, q3, -, kP, hkP, hkPi⟩ := Cond.selects_spec hs
  exact selects_self_of_private (findClass_of_methodNamed q3) hkP hkPi hp hi hy
theorem own_nf {s : State} {args : Array Value} {C : String} {x y : MethodName} (hs : (Jvm.Cond.selects C x x).before args s = true) (e : x.cls = y.cls) : NotFace s y := fun r0 h0 => by
  obtain ⟨c2, r2, m2, -, -, q3, -, kP, hkP, hkPi⟩ := Cond.selects_spec hs
  have h3 : s.vm.findClass x.cls = some r0.cls := by rw [e]; exact findClass_of_methodNamed h0
  have e1 : m2.cls = r0.cls := Option.some.inj ((findClass_of_methodNamed q3).symm.trans h3)
  exact ⟨kP, by rw [← e1]; exact hkP, hkPi⟩
theorem own_same {s : State} {args : Array Value} {C : String} {x y : MethodName} (hi : (Jvm.Cond.instanceMethod y).before args s = true) (hs : (Jvm.Cond.selects C x x).before args s = true) (hy : y.cls ≠ "java/lang/invoke/MethodHandle" ∧ y.cls ≠ "java/lang/invoke/VarHandle") (e : x.cls = y.cls) : (Jvm.Cond.sameMethod y.cls y.cls y.name y.desc).before args s = true := by
  obtain ⟨mk, methM, hnamed, hmethM, -, -⟩ := Cond.instanceMethod_spec hi
  have hf : s.methodFound? y.cls y.name y.desc = some mk := State.methodFound?_of_named hnamed hy
  have hn : s.methodNamed? ⟨y.cls, y.name, y.desc⟩ = some mk := hnamed
  have hc := findClass_of_methodNamed hnamed
  obtain ⟨k, hk, hni⟩ := own_nf hs e mk hnamed
  simp [Cond.before, Cond.holds, Cond.value, hc, hf, hn, hk, hni]
theorem own_shl (z : Int32) : z <<< ((0 : Int32) &&& 31) = z := by
  rw [show ((0 : Int32) &&& 31) = 0 from by decide]; exact Int32.shiftLeft_zero
theorem own_shr (z : Int32) : z >>> ((0 : Int32) &&& 31) = z := by
  rw [show ((0 : Int32) &&& 31) = 0 from by decide]; exact Int32.shiftRight_zero
/-- a Latin-1 String that spells ws -/
def own_S (Z : State) (h : Heap) (a w : Addr) (k : ClassId) (z : Int32) (ws : List Value) : Prop :=
  Exa Z h a "java/lang/String" ∧ Fld Z h a "java/lang/String" "value" "[B" (.ref w) ∧ Fld Z h a "java/lang/String" "coder" "B" (.int 0) ∧ Arv Z h w k .byte z ws (.int 0) ∧ z.toNatClampNeg = ws.length
/-- a Latin-1 StringBuilder that holds vs, in an array of cap places -/
def own_B (Z : State) (h : Heap) (b va : Addr) (k : ClassId) (cap n : Int32) (vs : List Value) : Prop :=
  Exa Z h b "java/lang/StringBuilder" ∧ Fld Z h b "java/lang/AbstractStringBuilder" "value" "[B" (.ref va) ∧ Fld Z h b "java/lang/AbstractStringBuilder" "coder" "B" (.int 0) ∧ Fld Z h b "java/lang/AbstractStringBuilder" "count" "I" (.int n) ∧ Arv Z h va k .byte cap vs (.int 0) ∧ n.toNatClampNeg = vs.length ∧ ¬ n < 0
section
variable {Z : State} {h h' : Heap} {a w b va x y : Addr} {k k' : ClassId} {z z' cap n : Int32} {vs ws : List Value} {l : List Addr} {a0 : Array Value}
theorem own_S.ext (S : own_S Z h a w k z ws) (E : Ext h h') : own_S Z h' a w k z ws := ⟨S.1.ext E, S.2.1.ext E, S.2.2.1.ext E, S.2.2.2.1.ext E, S.2.2.2.2⟩
theorem own_S.keep (S : own_S Z h a w k z ws) (K : Keep h h' l) (q1 : a ∉ l) (q2 : w ∉ l) : own_S Z h' a w k z ws := ⟨S.1.keep K, S.2.1.keep K q1, S.2.2.1.keep K q1, S.2.2.2.1.keep K q2, S.2.2.2.2⟩
theorem own_B.ext (B : own_B Z h b va k cap n vs) (E : Ext h h') : own_B Z h' b va k cap n vs := ⟨B.1.ext E, B.2.1.ext E, B.2.2.1.ext E, B.2.2.2.1.ext E, B.2.2.2.2.1.ext E, B.2.2.2.2.2⟩
theorem own_B.keep (B : own_B Z h b va k cap n vs) (K : Keep h h' l) (q1 : b ∉ l) (q2 : va ∉ l) : own_B Z h' b va k cap n vs := ⟨B.1.keep K, B.2.1.keep K q1, B.2.2.1.keep K q1, B.2.2.2.1.keep K q1, B.2.2.2.2.1.keep K q2, B.2.2.2.2.2⟩
theorem own_sta {C n d : String} {v : Value} (S : Sta Z h C n d v) (K : Keep h h' l) (q : ∀ x ∈ l, ∀ c : Cell, h[x]? = some c → c.vm.isStatics = false) : Sta Z h' C n d v := by
  obtain ⟨cf, i, k, f, st, cell, h1, h2, h3, h4, h5, h6, h7⟩ := S
  refine ⟨cf, i, k, f, st, cell, h1, h2, h3, h4, K.2.1 st cell h5 (fun hm => ?_), h6, h7⟩
  have := q st hm cell h5
  rw [h6] at this; cases this
theorem own_plain {C : String} (E : Exa Z h a C) : ∀ c : Cell, h[a]? = some c → c.vm.isStatics = false := fun c hc => by
  obtain ⟨c', k, h1, -, -, h4, -⟩ := E
  cases h1.symm.trans hc; exact h4
theorem own_more (K : Keep h h' l) : Keep h h' (x :: l) := ⟨K.1, fun a c q r => K.2.1 a c q (fun z => r (List.mem_cons_of_mem _ z)), K.2.2⟩
theorem own_nb (p : Int32) : p.toInt8.toInt32.toInt8.toInt32 = p.toInt8.toInt32 := by simp
theorem own_nin2 (h1 : x ≠ a) (h2 : x ≠ b) : x ∉ [a, b] := by simp [h1, h2]
theorem own_nin1 (h1 : x ≠ a) : x ∉ [a] := by simp [h1]
theorem own_cat (vs ws : List Value) (d d' : Value) (sp dp nn : Nat) (h0 : sp = 0) (h1 : dp = vs.length) (h2 : nn = ws.length) : (vs ++ List.replicate ws.length d).take dp ++ ((List.range nn).map fun i => ws.getD (sp + i) d') ++ (vs ++ List.replicate ws.length d).drop (dp + nn) = vs ++ ws := by
  subst h0 h1 h2
  have e1 : (vs ++ List.replicate ws.length d).take vs.length = vs := by simp
  have e2 : (vs ++ List.replicate ws.length d).drop (vs.length + ws.length) = [] := by simp
  have e3 : ((List.range ws.length).map fun i => ws.getD (0 + i) d') = ws := by
    apply List.ext_getElem
    · simp
    · intro i h1 h2; simp [List.getD_eq_getElem?_getD, h2]
  rw [e1, e2, e3, List.append_nil]
theorem own_cpy (vs : List Value) (d : Value) (N : Nat) (h : vs.length ≤ N) : ∀ i, vs.getD i d = (([] ++ List.replicate N d).take 0 ++ ((List.range N).map fun i => vs.getD (0 + i) d) ++ ([] ++ List.replicate N d).drop (0 + N)).getD i d := fun i => by
  simp only [List.nil_append, List.take_zero, Nat.zero_add, List.drop_replicate, Nat.sub_self, List.replicate_zero, List.append_nil]
  simp only [List.getD_eq_getElem?_getD, List.getElem?_map, List.getElem?_range]
  by_cases q : i < N
  · simp [q]
  · have : vs[i]? = none := List.getElem?_eq_none (by omega)
    simp [q, this]
theorem own_push (vs : List Value) (d v : Value) : (vs ++ List.replicate 1 d).set vs.length v = vs ++ [v] := by
  simp [List.set_append]
end
/-- the room that a builder of cap places and n signs has for z more -/
def own_R (cap n z : Int32) : Prop := ¬ ((0 : Int32) < ((n + z) - (cap >>> ((0 : Int32) &&& 31)))) ∧ n.toNatClampNeg + z.toNatClampNeg ≤ cap.toNatClampNeg ∧ (n + z).toNatClampNeg = n.toNatClampNeg + z.toNatClampNeg ∧ ¬ (n + z) < 0 ∧ z.toNatClampNeg ≠ cap.toNatClampNeg ∧ ¬ z < 0
theorem d11_0 : decode cd00 0 = .ok (.getstatic 38, 3) := by decide +kernel
theorem d11_3 : decode cd00 3 = .ok (.ifCond .eq 10, 3) := by decide +kernel
theorem d11_6 : decode cd00 6 = .ok (.aload_n 0, 1) := by decide +kernel
theorem d11_7 : decode cd00 7 = .ok (.getfield 15, 3) := by decide +kernel
theorem d11_10 : decode cd00 10 = .ok (.goto 4, 3) := by decide +kernel
theorem d11_14 : decode cd00 14 = .ok (.ireturn, 1) := by decide +kernel
theorem pn_11 : plainName "java/lang/String" = true := by first | (simp [plainName, overriddenIn]; done) | decide +kernel
theorem ef_11 (m : MethodId) (x0 : Addr) : entryFrame m #[(.ref x0)] 1 = mkF m 0 #[.val (.ref x0)] [] := by first | (simp [entryFrame, mkF, argsToLocals, Value.category]; done) | rfl
def Qrm11 (Z : State) (a1 : Addr) (w2 : Int32) (h0 : Heap) (n0 : Nat) (v : Option Value) (h : Heap) (L : List Loc) : Prop := v = some (.int 0) ∧ Fr n0 L ∧ h = h0
set_option maxRecDepth 65536 in
set_option maxHeartbeats 40000000 in
theorem rm11 (l : Launch) (Z : State) (a0 : Array Value) (hw : HW a0 Z) (ws : List Jvm.Cond) (a1 : Addr) (w2 : Int32) (h0 : Heap) (n0 : Nat) (Z0 : n0 ≤ h0.size) (S_COMPACT_STRINGS : Sta Z h0 "java/lang/String" "COMPACT_STRINGS" "Z" (.int w2)) (F_coder_a1 : Fld Z h0 a1 "java/lang/String" "coder" "B" (.int 0)) (hc3 : ¬ (w2 = (0 : Int32))) :
    MetFree l ym00 (head1 (Jvm.Cond.code ym00 jdk_42_method_152_code 1 (some .byte) :: ws) rm_00) (fun a U => a = #[(.ref a1)] ∧ Z.Warmed39 U.vm ∧ U.heap = h0) (fun _ _ _ _ _ => True) (fun _ U o U' => ∃ v L, o = .returned v ∧ Qrm11 Z a1 w2 h0 n0 v U'.heap L ∧ FrameEnd U o U' L rm_00.cells rm_00.slots) := by
  refine MetFree.of_bodySF (plainFor_of_name pn_11) hisR ?_
  intro p e s m args below meth c s₁ Bd hml0 hP hK
  obtain ⟨rfl, hZ, hh⟩ := hP
  have hx := Bd.exec
  have hby := Bd.bytes
  have hown : s.vm.findClass "java/lang/String" = some m.cls := findClass_of_methodNamed Bd.named
  have X0 : Stand p l e rm_00 s m #[(.ref a1)] below meth c s₁ [] 0 0 := Stand.of_body Bd
  have e0 : s₁.heap = h0 := by rw [← hh, Bd.state]; rfl
  have N0 := Fr.nil n0
  let aa1 : Array Slot := #[.val (.ref a1)]
  have pre0 : ∀ t, Steps p.tables e below (s₁.setTop (mkF m 0 aa1 [])) t → Steps p.tables e below (s₁.setTop (entryFrame m #[(.ref a1)] 1)) t := fun t k => castTop (ef_11 m a1) k
  obtain ⟨T3, X3, e3, st3⟩ := getS2 X0 hx hZ hown (host := "") (Or.inl (ww hw 14 rfl)) Via.refl e0 S_COMPACT_STRINGS (g := (mkF m 0 aa1 [])) rfl (hb hby d11_0)
  obtain ⟨T5, X5, e5, st5⟩ := getF X3 hx hZ hown (host := "") (Or.inl (ww hw 26 rfl)) Via.refl e3 F_coder_a1 (g := (mkF m 7 aa1 [(.ref a1)])) rfl rfl (hb hby d11_7)
  obtain ⟨fs, hr, hrun, hended, hW, hsame⟩ := X5.leave (v := some (.int 0)) (fun h => by rw [Bd.returns] at h; cases h)
  refine ⟨_, _, pre0 _ ?_, hrun, hended, _, _, rfl, ?_, ⟨_, rfl⟩, hW, hsame.mono (by decide) (by decide)⟩
  · show Sw s₁ m 0 aa1 [] _
    refine st3 _ ?_
    show Sw T3 m 3 aa1 [(.int w2)] _
    refine XS.ifNo X3.here hx rfl (hb hby d11_3) rfl ((if0 _ _).trans (feq hc3).1) ?_
    show Sw T3 m 6 aa1 [] _
    refine XS.aloadN X3.here hx rfl (hb hby d11_6) rfl rfl ?_
    show Sw T3 m 7 aa1 [(.ref a1)] _
    refine st5 _ ?_
    show Sw T5 m 10 aa1 [(.int 0)] _
    refine XS.goto X5.here hx rfl (pc0 := 10) (pc' := 14) rfl (hb hby d11_10) (by decide) (by decide) ?_
    show Sw T5 m 14 aa1 [(.int 0)] _
    exact retN X5 hx (t := .byte) Bd.returns (by simp) (hb hby d11_14) hr
  · show Qrm11 Z a1 w2 h0 n0 _ T5.heap _
    rw [e5]
    exact ⟨rfl, N0, rfl⟩
theorem d10_0 : decode cd01 0 = .ok (.aload_n 0, 1) := by decide +kernel
theorem d10_1 : decode cd01 1 = .ok (.getfield 9, 3) := by decide +kernel
theorem d10_4 : decode cd01 4 = .ok (.arraylength, 1) := by decide +kernel
theorem d10_5 : decode cd01 5 = .ok (.aload_n 0, 1) := by decide +kernel
theorem d10_6 : decode cd01 6 = .ok (.invokevirtual 335, 3) := by decide +kernel
theorem d10_9 : decode cd01 9 = .ok (.ishr, 1) := by decide +kernel
theorem d10_10 : decode cd01 10 = .ok (.ireturn, 1) := by decide +kernel
theorem pd_10_8 : parseMethodDescriptor "()B" = some ⟨[], some .byte⟩ := by decide +kernel
def Qrm10 (Z : State) (a1 : Addr) (w2 : Addr) (cl_w2 : Cell) (z_w2 : Int32) (G1 : Int32) (h0 : Heap) (n0 : Nat) (v : Option Value) (h : Heap) (L : List Loc) : Prop := v = some (.int z_w2) ∧ Fr n0 L ∧ h = h0
set_option maxRecDepth 65536 in
set_option maxHeartbeats 40000000 in
theorem rm10 (l : Launch) (Z : State) (a0 : Array Value) (hw : HW a0 Z) (ws : List Jvm.Cond) (a1 : Addr) (w2 : Addr) (cl_w2 : Cell) (z_w2 : Int32) (G1 : Int32) (h0 : Heap) (n0 : Nat) (Z0 : n0 ≤ h0.size) (SC : Sta Z h0 "java/lang/String" "COMPACT_STRINGS" "Z" (.int G1)) (P3 : ¬ (G1 = (0 : Int32))) (Fc : Fld Z h0 a1 "java/lang/String" "coder" "B" (.int 0)) (F_value_a1 : Fld Z h0 a1 "java/lang/String" "value" "[B" (.ref w2)) (Ar_w2 : Arr Z h0 w2 cl_w2 .byte) (S_w2 : cl_w2.slots.size = z_w2.toNatClampNeg) (N_w2 : ¬ z_w2 < 0) (E_a1 : Exa Z h0 a1 "java/lang/String") :
    MetFree l ym01 (head1 (Jvm.Cond.code ym01 jdk_42_method_54_code 1 (some .int) :: ws) rm_01) (fun a U => a = #[(.ref a1)] ∧ Z.Warmed39 U.vm ∧ U.heap = h0) (fun _ _ _ _ _ => True) (fun _ U o U' => ∃ v L, o = .returned v ∧ Qrm10 Z a1 w2 cl_w2 z_w2 G1 h0 n0 v U'.heap L ∧ FrameEnd U o U' L rm_01.cells rm_01.slots) := by
  refine MetFree.of_bodySF (plainFor_of_name pn_11) hisR ?_
  intro p e s m args below meth c s₁ Bd hml0 hP hK
  obtain ⟨rfl, hZ, hh⟩ := hP
  have hx := Bd.exec
  have hby := Bd.bytes
  have hml : c.maxLocals = 1 := hml0
  have hown : s.vm.findClass "java/lang/String" = some m.cls := findClass_of_methodNamed Bd.named
  have X0 : Stand p l e rm_01 s m #[(.ref a1)] below meth c s₁ [] 0 0 := Stand.of_body Bd
  have e0 : s₁.heap = h0 := by rw [← hh, Bd.state]; rfl
  have N0 := Fr.nil n0
  let aa1 : Array Slot := #[.val (.ref a1)]
  have pre0 : ∀ t, Steps p.tables e below (s₁.setTop (mkF m 0 aa1 [])) t → Steps p.tables e below (s₁.setTop (entryFrame m #[(.ref a1)] 1)) t := fun t k => castTop (ef_11 m a1) k
  obtain ⟨T3, X3, e3, st3⟩ := getF X0 hx hZ hown (host := "") (Or.inl (ww hw 28 rfl)) Via.refl e0 F_value_a1 (g := (mkF m 1 aa1 [(.ref a1)])) rfl rfl (hb hby d10_1)
  obtain ⟨cq4, kq4, q4a, q4b, q4c⟩ := isOf hZ e3 E_a1
  obtain ⟨_, _, ⟨T4, L4, k4, n4⟩, -, X4, ⟨Lc4, hQ4, l4, y4, z4⟩, st4⟩ := X3.virtualBack hx (y := ym00) (z := ym00) hown (mvT hZ (ww hw 58 rfl)) (mvT hZ (ww hw 59 rfl)) (notFace_of_selects (args := #[]) (mvT hZ (ww hw 61 rfl))) (mvT hZ (ww hw 61 rfl)) (mvT hZ (ww hw 60 rfl)) (by decide) (backOf (W := 1) (rm11 l Z a0 hw [] a1 G1 h0 n0 Z0 SC Fc P3) hZ (ww hw 62 rfl) (ww hw 2 rfl) (by decide) (by decide)) q4a q4c (g := (mkF m 6 aa1 [(.ref a1), (.int z_w2)])) rfl (by rw [hml]; rfl) (Steps.refl _) (argsL := []) (rest := [(.int z_w2)]) (lenOf pd_10_8 rfl) rfl (wz rfl) (hb hby d10_6) (fun _ _ => ⟨rfl, e3, (by decide : 0 + 0 ≤ _), (by decide : 0 + 0 ≤ _)⟩)
  dsimp only [Pt.U, Pt.locs, Pt.cells, Pt.slots] at X4 l4 y4 z4 st4 hQ4
  subst l4 y4 z4
  obtain ⟨rfl, N4q, e4⟩ := hQ4
  have N4 := Fr.app N0 N4q
  obtain ⟨fs, hr, hrun, hended, hW, hsame⟩ := X4.leave (v := some (.int (z_w2 >>> ((0 : Int32) &&& 31)))) (fun h => by rw [Bd.returns] at h; cases h)
  refine ⟨_, _, pre0 _ ?_, hrun, hended, _, _, rfl, ?_, ⟨_, rfl⟩, hW, hsame.mono (by decide) (by decide)⟩
  · show Sw s₁ m 0 aa1 [] _
    refine XS.aloadN X0.here hx rfl (hb hby d10_0) rfl rfl ?_
    show Sw s₁ m 1 aa1 [(.ref a1)] _
    refine st3 _ ?_
    show Sw T3 m 4 aa1 [(.ref w2)] _
    refine X3.arraylength hx (by rw [e3]; exact Ar_w2.1) (State.isArrayOf_alike hZ.alike Ar_w2.2.1) (g := (mkF m 4 aa1 [(.ref w2)])) rfl rfl (hb hby d10_4) _ ?_
    rw [len_of S_w2 N_w2]
    show Sw T3 m 5 aa1 [(.int z_w2)] _
    refine XS.aloadN X3.here hx rfl (hb hby d10_5) rfl rfl ?_
    show Sw T3 m 6 aa1 [(.ref a1), (.int z_w2)] _
    refine st4.trans ?_
    show Sw T4 m 9 aa1 [(.int 0), (.int z_w2)] _
    refine XS.ishr X4.here hx rfl (hb hby d10_9) rfl ?_
    show Sw T4 m 10 aa1 [(.int (z_w2 >>> ((0 : Int32) &&& 31)))] _
    exact retI X4 hx Bd.returns (hb hby d10_10) hr
  · show Qrm10 Z a1 w2 cl_w2 z_w2 G1 h0 n0 _ T4.heap _
    exact ⟨by rw [own_shr], N4, e4⟩
theorem d15_0 : decode cd02 0 = .ok (.aload_n 0, 1) := by decide +kernel
theorem d15_1 : decode cd02 1 = .ok (.getfield 15, 3) := by decide +kernel
theorem d15_4 : decode cd02 4 = .ok (.arraylength, 1) := by decide +kernel
theorem d15_5 : decode cd02 5 = .ok (.aload_n 0, 1) := by decide +kernel
theorem d15_6 : decode cd02 6 = .ok (.getfield 22, 3) := by decide +kernel
theorem d15_9 : decode cd02 9 = .ok (.ishr, 1) := by decide +kernel
theorem d15_10 : decode cd02 10 = .ok (.istore_n 2, 1) := by decide +kernel
theorem d15_11 : decode cd02 11 = .ok (.iload_n 1, 1) := by decide +kernel
theorem d15_12 : decode cd02 12 = .ok (.iload_n 2, 1) := by decide +kernel
theorem d15_13 : decode cd02 13 = .ok (.isub, 1) := by decide +kernel
theorem d15_14 : decode cd02 14 = .ok (.ifCond .le 24, 3) := by decide +kernel
theorem d15_38 : decode cd02 38 = .ok (.return_, 1) := by decide +kernel
theorem pn_15 : plainName "java/lang/AbstractStringBuilder" = true := by first | (simp [plainName, overriddenIn]; done) | decide +kernel
theorem ef_15 (m : MethodId) (x0 : Addr) (x1 : Int32) : entryFrame m #[(.ref x0), (.int x1)] 3 = mkF m 0 #[.val (.ref x0), .val (.int x1), .unset] [] := by first | (simp [entryFrame, mkF, argsToLocals, Value.category]; done) | rfl
def Qrm15 (Z : State) (a1 : Addr) (p2 : Int32) (w3 : Addr) (cl_w3 : Cell) (z_w3 : Int32) (h0 : Heap) (n0 : Nat) (v : Option Value) (h : Heap) (L : List Loc) : Prop := v = none ∧ Fr n0 L ∧ h = h0
set_option maxRecDepth 65536 in
set_option maxHeartbeats 40000000 in
theorem rm15 (l : Launch) (Z : State) (a0 : Array Value) (hw : HW a0 Z) (ws : List Jvm.Cond) (a1 : Addr) (p2 : Int32) (w3 : Addr) (cl_w3 : Cell) (z_w3 : Int32) (h0 : Heap) (n0 : Nat) (Z0 : n0 ≤ h0.size) (F_value_a1 : Fld Z h0 a1 "java/lang/AbstractStringBuilder" "value" "[B" (.ref w3)) (Ar_w3 : Arr Z h0 w3 cl_w3 .byte) (S_w3 : cl_w3.slots.size = z_w3.toNatClampNeg) (N_w3 : ¬ z_w3 < 0) (F_coder_a1 : Fld Z h0 a1 "java/lang/AbstractStringBuilder" "coder" "B" (.int 0)) (hc14 : ¬ ((0 : Int32) < (p2 - (z_w3 >>> ((0 : Int32) &&& 31))))) :
    MetFree l ym02 (head1 (Jvm.Cond.code ym02 jdk_68_method_9_code 3 none :: ws) rm_00) (fun a U => a = #[(.ref a1), (.int p2)] ∧ Z.Warmed39 U.vm ∧ U.heap = h0) (fun _ _ _ _ _ => True) (fun _ U o U' => ∃ v L, o = .returned v ∧ Qrm15 Z a1 p2 w3 cl_w3 z_w3 h0 n0 v U'.heap L ∧ FrameEnd U o U' L rm_00.cells rm_00.slots) := by
  refine MetFree.of_bodySF (plainFor_of_name pn_15) hisR ?_
  intro p e s m args below meth c s₁ Bd hml0 hP hK
  obtain ⟨rfl, hZ, hh⟩ := hP
  have hx := Bd.exec
  have hby := Bd.bytes
  have hown : s.vm.findClass "java/lang/AbstractStringBuilder" = some m.cls := findClass_of_methodNamed Bd.named
  have X0 : Stand p l e rm_00 s m #[(.ref a1), (.int p2)] below meth c s₁ [] 0 0 := Stand.of_body Bd
  have e0 : s₁.heap = h0 := by rw [← hh, Bd.state]; rfl
  have N0 := Fr.nil n0
  let aa1 : Array Slot := #[.val (.ref a1), .val (.int p2), .unset]
  have pre0 : ∀ t, Steps p.tables e below (s₁.setTop (mkF m 0 aa1 [])) t → Steps p.tables e below (s₁.setTop (entryFrame m #[(.ref a1), (.int p2)] 3)) t := fun t k => castTop (ef_15 m a1 p2) k
  obtain ⟨T4, X4, e4, st4⟩ := getF X0 hx hZ hown (host := "") (Or.inl (ww hw 67 rfl)) Via.refl e0 F_value_a1 (g := (mkF m 1 aa1 [(.ref a1)])) rfl rfl (hb hby d15_1)
  obtain ⟨T6, X6, e6, st6⟩ := getF X4 hx hZ hown (host := "") (Or.inl (ww hw 65 rfl)) Via.refl e4 F_coder_a1 (g := (mkF m 6 aa1 [(.ref a1), (.int z_w3)])) rfl rfl (hb hby d15_6)
  obtain ⟨fs, hr, hrun, hended, hW, hsame⟩ := X6.leave (v := none) (fun _ => rfl)
  refine ⟨_, _, pre0 _ ?_, hrun, hended, _, _, rfl, ?_, ⟨_, rfl⟩, hW, hsame.mono (by decide) (by decide)⟩
  · show Sw s₁ m 0 aa1 [] _
    refine XS.aloadN X0.here hx rfl (hb hby d15_0) rfl rfl ?_
    show Sw s₁ m 1 aa1 [(.ref a1)] _
    refine st4 _ ?_
    show Sw T4 m 4 aa1 [(.ref w3)] _
    refine X4.arraylength hx (by rw [e4]; exact Ar_w3.1) (State.isArrayOf_alike hZ.alike Ar_w3.2.1) (g := (mkF m 4 aa1 [(.ref w3)])) rfl rfl (hb hby d15_4) _ ?_
    rw [len_of S_w3 N_w3]
    show Sw T4 m 5 aa1 [(.int z_w3)] _
    refine XS.aloadN X4.here hx rfl (hb hby d15_5) rfl rfl ?_
    show Sw T4 m 6 aa1 [(.ref a1), (.int z_w3)] _
    refine st6 _ ?_
    show Sw T6 m 9 aa1 [(.int 0), (.int z_w3)] _
    refine XS.ishr X6.here hx rfl (hb hby d15_9) rfl ?_
    show Sw T6 m 10 aa1 [(.int (z_w3 >>> ((0 : Int32) &&& 31)))] _
    let aa2 : Array Slot := #[.val (.ref a1), .val (.int p2), .val (.int (z_w3 >>> ((0 : Int32) &&& 31)))]
    refine XS.istoreN X6.here hx rfl (hb hby d15_10) rfl (l' := aa2) rfl ?_
    show Sw T6 m 11 aa2 [] _
    refine XS.iloadN X6.here hx rfl (hb hby d15_11) rfl ?_
    show Sw T6 m 12 aa2 [(.int p2)] _
    refine XS.iloadN X6.here hx rfl (hb hby d15_12) rfl ?_
    show Sw T6 m 13 aa2 [(.int (z_w3 >>> ((0 : Int32) &&& 31))), (.int p2)] _
    refine XS.isub X6.here hx rfl (hb hby d15_13) rfl ?_
    show Sw T6 m 14 aa2 [(.int (p2 - (z_w3 >>> ((0 : Int32) &&& 31))))] _
    refine XS.ifYes X6.here hx rfl (pc0 := 14) (pc' := 38) rfl (hb hby d15_14) rfl ((if0 _ _).trans (flt hc14).2.2.2) (by decide) (by decide) ?_
    show Sw T6 m 38 aa2 [] _
    exact X6.returnOut hx Bd.returns (hb hby d15_38) hr
  · show Qrm15 Z a1 p2 w3 cl_w3 z_w3 h0 n0 _ T6.heap _
    rw [e6]
    exact ⟨rfl, N0, rfl⟩
theorem d17_0 : decode cd03 0 = .ok (.getstatic 18, 3) := by decide +kernel
theorem d17_3 : decode cd03 3 = .ok (.ifCond .eq 18, 3) := by decide +kernel
theorem d17_6 : decode cd03 6 = .ok (.aload_n 0, 1) := by decide +kernel
theorem d17_7 : decode cd03 7 = .ok (.getfield 22, 3) := by decide +kernel
theorem d17_10 : decode cd03 10 = .ok (.aload_n 1, 1) := by decide +kernel
theorem d17_11 : decode cd03 11 = .ok (.invokevirtual 40, 3) := by decide +kernel
theorem d17_14 : decode cd03 14 = .ok (.if_icmp .eq 7, 3) := by decide +kernel
theorem d17_21 : decode cd03 21 = .ok (.return_, 1) := by decide +kernel
theorem ef_17 (m : MethodId) (x0 : Addr) (x1 : Addr) : entryFrame m #[(.ref x0), (.ref x1)] 2 = mkF m 0 #[.val (.ref x0), .val (.ref x1)] [] := by first | (simp [entryFrame, mkF, argsToLocals, Value.category]; done) | rfl
def Qrm17 (Z : State) (a1 : Addr) (a2 : Addr) (w3 : Int32) (h0 : Heap) (n0 : Nat) (v : Option Value) (h : Heap) (L : List Loc) : Prop := v = none ∧ Fr n0 L ∧ h = h0
set_option maxRecDepth 65536 in
set_option maxHeartbeats 40000000 in
theorem rm17 (l : Launch) (Z : State) (a0 : Array Value) (hw : HW a0 Z) (ws : List Jvm.Cond) (a1 : Addr) (a2 : Addr) (w3 : Int32) (h0 : Heap) (n0 : Nat) (Z0 : n0 ≤ h0.size) (Fc : Fld Z h0 a2 "java/lang/String" "coder" "B" (.int 0)) (S_COMPACT_STRINGS : Sta Z h0 "java/lang/String" "COMPACT_STRINGS" "Z" (.int w3)) (F_coder_a1 : Fld Z h0 a1 "java/lang/AbstractStringBuilder" "coder" "B" (.int 0)) (E_a2 : Exa Z h0 a2 "java/lang/String") (hc3 : ¬ (w3 = (0 : Int32))) :
    MetFree l ym03 (head1 (Jvm.Cond.code ym03 jdk_68_method_71_code 2 none :: ws) rm_01) (fun a U => a = #[(.ref a1), (.ref a2)] ∧ Z.Warmed39 U.vm ∧ U.heap = h0) (fun _ _ _ _ _ => True) (fun _ U o U' => ∃ v L, o = .returned v ∧ Qrm17 Z a1 a2 w3 h0 n0 v U'.heap L ∧ FrameEnd U o U' L rm_01.cells rm_01.slots) := by
  refine MetFree.of_bodySF (plainFor_of_name pn_15) hisR ?_
  intro p e s m args below meth c s₁ Bd hml0 hP hK
  obtain ⟨rfl, hZ, hh⟩ := hP
  have hx := Bd.exec
  have hby := Bd.bytes
  have hml : c.maxLocals = 2 := hml0
  have hown : s.vm.findClass "java/lang/AbstractStringBuilder" = some m.cls := findClass_of_methodNamed Bd.named
  have X0 : Stand p l e rm_01 s m #[(.ref a1), (.ref a2)] below meth c s₁ [] 0 0 := Stand.of_body Bd
  have e0 : s₁.heap = h0 := by rw [← hh, Bd.state]; rfl
  have N0 := Fr.nil n0
  let aa1 : Array Slot := #[.val (.ref a1), .val (.ref a2)]
  have pre0 : ∀ t, Steps p.tables e below (s₁.setTop (mkF m 0 aa1 [])) t → Steps p.tables e below (s₁.setTop (entryFrame m #[(.ref a1), (.ref a2)] 2)) t := fun t k => castTop (ef_17 m a1 a2) k
  obtain ⟨T4, X4, e4, st4⟩ := getS2 X0 hx hZ hown (host := "") (Or.inl (ww hw 100 rfl)) Via.refl e0 S_COMPACT_STRINGS (g := (mkF m 0 aa1 [])) rfl (hb hby d17_0)
  obtain ⟨T6, X6, e6, st6⟩ := getF X4 hx hZ hown (host := "") (Or.inl (ww hw 65 rfl)) Via.refl e4 F_coder_a1 (g := (mkF m 7 aa1 [(.ref a1)])) rfl rfl (hb hby d17_7)
  obtain ⟨cq7, kq7, q7a, q7b, q7c⟩ := isOf hZ e6 E_a2
  obtain ⟨_, _, ⟨T7, L7, k7, n7⟩, -, X7, ⟨Lc7, hQ7, l7, y7, z7⟩, st7⟩ := X6.virtualBack hx (y := ym00) (z := ym00) hown (mvT hZ (ww hw 64 rfl)) (mvT hZ (ww hw 59 rfl)) (notFace_of_selects (args := #[]) (mvT hZ (ww hw 61 rfl))) (mvT hZ (ww hw 61 rfl)) (mvT hZ (ww hw 60 rfl)) (by decide) (backOf (W := 1) (rm11 l Z a0 hw [] a2 w3 h0 n0 Z0 S_COMPACT_STRINGS Fc hc3) hZ (ww hw 62 rfl) (ww hw 2 rfl) (by decide) (by decide)) q7a q7c (g := (mkF m 11 aa1 [(.ref a2), (.int 0)])) rfl (by rw [hml]; rfl) (Steps.refl _) (argsL := []) (rest := [(.int 0)]) (lenOf pd_10_8 rfl) rfl (wz rfl) (hb hby d17_11) (fun _ _ => ⟨rfl, e6, (by decide : 0 + 0 ≤ _), (by decide : 0 + 0 ≤ _)⟩)
  dsimp only [Pt.U, Pt.locs, Pt.cells, Pt.slots] at X7 l7 y7 z7 st7 hQ7
  subst l7 y7 z7
  obtain ⟨rfl, N7q, e7⟩ := hQ7
  have N7 := Fr.app N0 N7q
  obtain ⟨fs, hr, hrun, hended, hW, hsame⟩ := X7.leave (v := none) (fun _ => rfl)
  refine ⟨_, _, pre0 _ ?_, hrun, hended, _, _, rfl, ?_, ⟨_, rfl⟩, hW, hsame.mono (by decide) (by decide)⟩
  · show Sw s₁ m 0 aa1 [] _
    refine st4 _ ?_
    show Sw T4 m 3 aa1 [(.int w3)] _
    refine XS.ifNo X4.here hx rfl (hb hby d17_3) rfl ((if0 _ _).trans (feq hc3).1) ?_
    show Sw T4 m 6 aa1 [] _
    refine XS.aloadN X4.here hx rfl (hb hby d17_6) rfl rfl ?_
    show Sw T4 m 7 aa1 [(.ref a1)] _
    refine st6 _ ?_
    show Sw T6 m 10 aa1 [(.int 0)] _
    refine XS.aloadN X6.here hx rfl (hb hby d17_10) rfl rfl ?_
    show Sw T6 m 11 aa1 [(.ref a2), (.int 0)] _
    refine st7.trans ?_
    show Sw T7 m 14 aa1 [(.int 0), (.int 0)] _
    refine XS.icmpYes X7.here hx rfl (pc0 := 14) (pc' := 21) rfl (hb hby d17_14) rfl (teq (rfl : (0 : Int32) = (0 : Int32))).1 (by decide) (by decide) ?_
    show Sw T7 m 21 aa1 [] _
    exact X7.returnOut hx Bd.returns (hb hby d17_21) hr
  · show Qrm17 Z a1 a2 w3 h0 n0 _ T7.heap _
    exact ⟨rfl, N7, e7⟩
theorem d18_0 : decode cd04 0 = .ok (.aload_n 0, 1) := by decide +kernel
theorem d18_1 : decode cd04 1 = .ok (.invokevirtual 335, 3) := by decide +kernel
theorem d18_4 : decode cd04 4 = .ok (.iload_n 3, 1) := by decide +kernel
theorem d18_5 : decode cd04 5 = .ok (.if_icmp .ne 23, 3) := by decide +kernel
theorem d18_8 : decode cd04 8 = .ok (.aload_n 0, 1) := by decide +kernel
theorem d18_9 : decode cd04 9 = .ok (.getfield 9, 3) := by decide +kernel
theorem d18_12 : decode cd04 12 = .ok (.iconst 0, 1) := by decide +kernel
theorem d18_13 : decode cd04 13 = .ok (.aload_n 1, 1) := by decide +kernel
theorem d18_14 : decode cd04 14 = .ok (.iload_n 2, 1) := by decide +kernel
theorem d18_15 : decode cd04 15 = .ok (.iload_n 3, 1) := by decide +kernel
theorem d18_16 : decode cd04 16 = .ok (.ishl, 1) := by decide +kernel
theorem d18_17 : decode cd04 17 = .ok (.aload_n 0, 1) := by decide +kernel
theorem d18_18 : decode cd04 18 = .ok (.getfield 9, 3) := by decide +kernel
theorem d18_21 : decode cd04 21 = .ok (.arraylength, 1) := by decide +kernel
theorem d18_22 : decode cd04 22 = .ok (.invokestatic 212, 3) := by decide +kernel
theorem d18_25 : decode cd04 25 = .ok (.goto 18, 3) := by decide +kernel
theorem d18_43 : decode cd04 43 = .ok (.return_, 1) := by decide +kernel
theorem pd_18_14 : parseMethodDescriptor "(Ljava/lang/Object;ILjava/lang/Object;II)V" = some ⟨[(.object "java/lang/Object"), .int, (.object "java/lang/Object"), .int, .int], none⟩ := by decide +kernel
theorem ef_18 (m : MethodId) (x0 : Addr) (x1 : Addr) (x2 : Int32) (x3 : Int32) : entryFrame m #[(.ref x0), (.ref x1), (.int x2), (.int x3)] 4 = mkF m 0 #[.val (.ref x0), .val (.ref x1), .val (.int x2), .val (.int x3)] [] := by first | (simp [entryFrame, mkF, argsToLocals, Value.category]; done) | rfl
def Qrm18 (Z : State) (a1 : Addr) (a2 : Addr) (p3 : Int32) (w6 : Addr) (z_w6 : Int32) (k_w6 : ClassId) (vs_w6 : List Value) (kb : ClassId) (cap : Int32) (vs : List Value) (G1 : Int32) (h0 : Heap) (n0 : Nat) (v : Option Value) (h : Heap) (L : List Loc) : Prop := v = none ∧ Fr n0 L ∧ Keep h0 h [a2] ∧ Arv Z h a2 kb .byte cap (vs ++ vs_w6) (.int 0)
set_option maxRecDepth 65536 in
set_option maxHeartbeats 40000000 in
theorem rm18 (l : Launch) (Z : State) (a0 : Array Value) (hw : HW a0 Z) (ws : List Jvm.Cond) (a1 : Addr) (a2 : Addr) (p3 : Int32) (w6 : Addr) (z_w6 : Int32) (k_w6 : ClassId) (vs_w6 : List Value) (kb : ClassId) (cap : Int32) (vs : List Value) (G1 : Int32) (h0 : Heap) (n0 : Nat) (Z0 : n0 ≤ h0.size) (SC : Sta Z h0 "java/lang/String" "COMPACT_STRINGS" "Z" (.int G1)) (P3 : ¬ (G1 = (0 : Int32))) (V_a2 : Arv Z h0 a2 kb .byte cap vs (.int 0)) (g_a2 : n0 ≤ a2) (Fc : Fld Z h0 a1 "java/lang/String" "coder" "B" (.int 0)) (c1 : p3.toNatClampNeg = vs.length) (c2 : z_w6.toNatClampNeg = vs_w6.length) (c3 : vs.length + vs_w6.length ≤ cap.toNatClampNeg) (c4 : ¬ p3 < 0) (E_a1 : Exa Z h0 a1 "java/lang/String") (F_value_a1 : Fld Z h0 a1 "java/lang/String" "value" "[B" (.ref w6)) (V_w6 : Arv Z h0 w6 k_w6 .byte z_w6 vs_w6 (.int 0)) :
    MetFree l ym04 (head1 (Jvm.Cond.code ym04 jdk_42_method_147_code 4 none :: ws) rm_02) (fun a U => a = #[(.ref a1), (.ref a2), (.int p3), (.int 0)] ∧ Z.Warmed39 U.vm ∧ U.heap = h0) (fun _ _ _ _ _ => True) (fun _ U o U' => ∃ v L, o = .returned v ∧ Qrm18 Z a1 a2 p3 w6 z_w6 k_w6 vs_w6 kb cap vs G1 h0 n0 v U'.heap L ∧ FrameEnd U o U' L rm_02.cells rm_02.slots) := by
  refine MetFree.of_bodySF (plainFor_of_name pn_11) hisR ?_
  intro p e s m args below meth c s₁ Bd hml0 hP hK
  obtain ⟨rfl, hZ, hh⟩ := hP
  have hx := Bd.exec
  have hby := Bd.bytes
  have hml : c.maxLocals = 4 := hml0
  have hown : s.vm.findClass "java/lang/String" = some m.cls := findClass_of_methodNamed Bd.named
  have X0 : Stand p l e rm_02 s m #[(.ref a1), (.ref a2), (.int p3), (.int 0)] below meth c s₁ [] 0 0 := Stand.of_body Bd
  have e0 : s₁.heap = h0 := by rw [← hh, Bd.state]; rfl
  have N0 := Fr.nil n0
  obtain ⟨cl_w6, Ar_w6, C_w6, S_w6, N_w6, H_w6, G_w6⟩ := id V_w6
  let aa1 : Array Slot := #[.val (.ref a1), .val (.ref a2), .val (.int p3), .val (.int 0)]
  have pre0 : ∀ t, Steps p.tables e below (s₁.setTop (mkF m 0 aa1 [])) t → Steps p.tables e below (s₁.setTop (entryFrame m #[(.ref a1), (.ref a2), (.int p3), (.int 0)] 4)) t := fun t k => castTop (ef_18 m a1 a2 p3 (0 : Int32)) k
  obtain ⟨cq5, kq5, q5a, q5b, q5c⟩ := isOf hZ e0 E_a1
  obtain ⟨_, _, ⟨T5, L5, k5, n5⟩, -, X5, ⟨Lc5, hQ5, l5, y5, z5⟩, st5⟩ := X0.virtualBack hx (y := ym00) (z := ym00) hown (mvT hZ (ww hw 58 rfl)) (mvT hZ (ww hw 59 rfl)) (notFace_of_selects (args := #[]) (mvT hZ (ww hw 61 rfl))) (mvT hZ (ww hw 61 rfl)) (mvT hZ (ww hw 60 rfl)) (by decide) (backOf (W := 0) (rm11 l Z a0 hw [] a1 G1 h0 n0 Z0 SC Fc P3) hZ (ww hw 62 rfl) (ww hw 2 rfl) (by decide) (by decide)) q5a q5c (g := (mkF m 1 aa1 [(.ref a1)])) rfl (by rw [hml]; rfl) (Steps.refl _) (argsL := []) (rest := []) (lenOf pd_10_8 rfl) rfl (wz rfl) (hb hby d18_1) (fun _ _ => ⟨rfl, e0, (by decide : 0 + 0 ≤ _), (by decide : 0 + 0 ≤ _)⟩)
  dsimp only [Pt.U, Pt.locs, Pt.cells, Pt.slots] at X5 l5 y5 z5 st5 hQ5
  subst l5 y5 z5
  obtain ⟨rfl, N5q, e5⟩ := hQ5
  have N5 := Fr.app N0 N5q
  obtain ⟨T7, X7, e7, st7⟩ := getF X5 hx hZ hown (host := "") (Or.inl (ww hw 28 rfl)) Via.refl e5 F_value_a1 (g := (mkF m 9 aa1 [(.ref a1)])) rfl rfl (hb hby d18_9)
  obtain ⟨T8, X8, e8, st8⟩ := getF X7 hx hZ hown (host := "") (Or.inl (ww hw 28 rfl)) Via.refl e7 F_value_a1 (g := (mkF m 18 aa1 [(.ref a1), (.int (p3 <<< ((0 : Int32) &&& 31))), (.ref a2), (.int 0), (.ref w6)])) rfl rfl (hb hby d18_18)
  obtain ⟨T9, h9, L9, X9, e9, N9, K9, V9, st9⟩ := cpA X8 hx hZ hown (ww hw 106 rfl) (ww hw 109 rfl) (ww hw 107 rfl) (ww hw 108 rfl) e8 V_w6 (V_a2.pad (pad_rep vs (.int 0) vs_w6.length)) (Or.inl ⟨rfl, rfl⟩) (by decide) (by rw [own_shl]; exact c4) N_w6 (by show 0 + _ ≤ _; omega) (by rw [own_shl, c1, c2]; exact c3) rfl (by rw [own_shl, c1, c2, List.length_append, List.length_replicate]; exact Nat.le_refl _) N5 g_a2 (g := (mkF m 22 aa1 [(.int z_w6), (.int (p3 <<< ((0 : Int32) &&& 31))), (.ref a2), (.int 0), (.ref w6)])) rfl (by rw [hml]; rfl) rfl (hb hby d18_22) (by decide) (W := 0) (wz rfl) (by decide)
  obtain ⟨fs, hr, hrun, hended, hW, hsame⟩ := X9.leave (v := none) (fun _ => rfl)
  refine ⟨_, _, pre0 _ ?_, hrun, hended, _, _, rfl, ?_, ⟨_, rfl⟩, hW, hsame.mono (by decide) (by decide)⟩
  · show Sw s₁ m 0 aa1 [] _
    refine XS.aloadN X0.here hx rfl (hb hby d18_0) rfl rfl ?_
    show Sw s₁ m 1 aa1 [(.ref a1)] _
    refine st5.trans ?_
    show Sw T5 m 4 aa1 [(.int 0)] _
    refine XS.iloadN X5.here hx rfl (hb hby d18_4) rfl ?_
    show Sw T5 m 5 aa1 [(.int 0), (.int 0)] _
    refine XS.icmpNo X5.here hx rfl (hb hby d18_5) rfl (teq (rfl : (0 : Int32) = (0 : Int32))).2 ?_
    show Sw T5 m 8 aa1 [] _
    refine XS.aloadN X5.here hx rfl (hb hby d18_8) rfl rfl ?_
    show Sw T5 m 9 aa1 [(.ref a1)] _
    refine st7 _ ?_
    show Sw T7 m 12 aa1 [(.ref w6)] _
    refine XS.iconst X7.here hx rfl (hb hby d18_12) ?_
    show Sw T7 m 13 aa1 [(.int 0), (.ref w6)] _
    refine XS.aloadN X7.here hx rfl (hb hby d18_13) rfl rfl ?_
    show Sw T7 m 14 aa1 [(.ref a2), (.int 0), (.ref w6)] _
    refine XS.iloadN X7.here hx rfl (hb hby d18_14) rfl ?_
    show Sw T7 m 15 aa1 [(.int p3), (.ref a2), (.int 0), (.ref w6)] _
    refine XS.iloadN X7.here hx rfl (hb hby d18_15) rfl ?_
    show Sw T7 m 16 aa1 [(.int 0), (.int p3), (.ref a2), (.int 0), (.ref w6)] _
    refine XS.ishl X7.here hx rfl (hb hby d18_16) rfl ?_
    show Sw T7 m 17 aa1 [(.int (p3 <<< ((0 : Int32) &&& 31))), (.ref a2), (.int 0), (.ref w6)] _
    refine XS.aloadN X7.here hx rfl (hb hby d18_17) rfl rfl ?_
    show Sw T7 m 18 aa1 [(.ref a1), (.int (p3 <<< ((0 : Int32) &&& 31))), (.ref a2), (.int 0), (.ref w6)] _
    refine st8 _ ?_
    show Sw T8 m 21 aa1 [(.ref w6), (.int (p3 <<< ((0 : Int32) &&& 31))), (.ref a2), (.int 0), (.ref w6)] _
    refine X8.arraylength hx (by rw [e8]; exact Ar_w6.1) (State.isArrayOf_alike hZ.alike Ar_w6.2.1) (g := (mkF m 21 aa1 [(.ref w6), (.int (p3 <<< ((0 : Int32) &&& 31))), (.ref a2), (.int 0), (.ref w6)])) rfl rfl (hb hby d18_21) _ ?_
    rw [len_of S_w6 N_w6]
    show Sw T8 m 22 aa1 [(.int z_w6), (.int (p3 <<< ((0 : Int32) &&& 31))), (.ref a2), (.int 0), (.ref w6)] _
    refine st9 _ ?_
    show Sw T9 m 25 aa1 [] _
    refine XS.goto X9.here hx rfl (pc0 := 25) (pc' := 43) rfl (hb hby d18_25) (by decide) (by decide) ?_
    show Sw T9 m 43 aa1 [] _
    exact X9.returnOut hx Bd.returns (hb hby d18_43) hr
  · show Qrm18 Z a1 a2 p3 w6 z_w6 k_w6 vs_w6 kb cap vs G1 h0 n0 _ T9.heap _
    rw [e9]
    rw [own_cat _ _ _ _ ((0 : Int32).toNatClampNeg) ((p3 <<< ((0 : Int32) &&& 31)).toNatClampNeg) _ rfl (by rw [own_shl, c1]) c2] at V9
    exact ⟨rfl, N9, K9, V9⟩
theorem d16_0 : decode cd05 0 = .ok (.aload_n 0, 1) := by decide +kernel
theorem d16_1 : decode cd05 1 = .ok (.aload_n 2, 1) := by decide +kernel
theorem d16_2 : decode cd05 2 = .ok (.invokevirtual 397, 3) := by decide +kernel
theorem d16_5 : decode cd05 5 = .ok (.aload_n 2, 1) := by decide +kernel
theorem d16_6 : decode cd05 6 = .ok (.aload_n 0, 1) := by decide +kernel
theorem d16_7 : decode cd05 7 = .ok (.getfield 15, 3) := by decide +kernel
theorem d16_10 : decode cd05 10 = .ok (.iload_n 1, 1) := by decide +kernel
theorem d16_11 : decode cd05 11 = .ok (.aload_n 0, 1) := by decide +kernel
theorem d16_12 : decode cd05 12 = .ok (.getfield 22, 3) := by decide +kernel
theorem d16_15 : decode cd05 15 = .ok (.invokevirtual 399, 3) := by decide +kernel
theorem d16_18 : decode cd05 18 = .ok (.return_, 1) := by decide +kernel
theorem pd_16_6 : parseMethodDescriptor "(Ljava/lang/String;)V" = some ⟨[(.object "java/lang/String")], none⟩ := by decide +kernel
theorem pd_16_13 : parseMethodDescriptor "([BIB)V" = some ⟨[(.array .byte), .int, .byte], none⟩ := by decide +kernel
theorem ef_16 (m : MethodId) (x0 : Addr) (x1 : Int32) (x2 : Addr) : entryFrame m #[(.ref x0), (.int x1), (.ref x2)] 3 = mkF m 0 #[.val (.ref x0), .val (.int x1), .val (.ref x2)] [] := by first | (simp [entryFrame, mkF, argsToLocals, Value.category]; done) | rfl
def Qrm16 (Z : State) (a1 : Addr) (p2 : Int32) (a3 : Addr) (w5 : Addr) (kb : ClassId) (cap : Int32) (vs : List Value) (w6 : Addr) (ks : ClassId) (zs : Int32) (us : List Value) (G1 : Int32) (h0 : Heap) (n0 : Nat) (v : Option Value) (h : Heap) (L : List Loc) : Prop := v = none ∧ Fr n0 L ∧ Keep h0 h [w5] ∧ Arv Z h w5 kb .byte cap (vs ++ us) (.int 0)
set_option maxRecDepth 65536 in
set_option maxHeartbeats 40000000 in
theorem rm16 (l : Launch) (Z : State) (a0 : Array Value) (hw : HW a0 Z) (ws : List Jvm.Cond) (a1 : Addr) (p2 : Int32) (a3 : Addr) (w5 : Addr) (kb : ClassId) (cap : Int32) (vs : List Value) (w6 : Addr) (ks : ClassId) (zs : Int32) (us : List Value) (G1 : Int32) (h0 : Heap) (n0 : Nat) (Z0 : n0 ≤ h0.size) (SC : Sta Z h0 "java/lang/String" "COMPACT_STRINGS" "Z" (.int G1)) (P3 : ¬ (G1 = (0 : Int32))) (V_w5 : Arv Z h0 w5 kb .byte cap vs (.int 0)) (g_w5 : n0 ≤ w5) (SS : own_S Z h0 a3 w6 ks zs us) (c1 : p2.toNatClampNeg = vs.length) (c3 : vs.length + us.length ≤ cap.toNatClampNeg) (c4 : ¬ p2 < 0) (E_a1 : Exa Z h0 a1 "java/lang/StringBuilder") (F_value_a1 : Fld Z h0 a1 "java/lang/AbstractStringBuilder" "value" "[B" (.ref w5)) (F_coder_a1 : Fld Z h0 a1 "java/lang/AbstractStringBuilder" "coder" "B" (.int 0)) (E_a3 : Exa Z h0 a3 "java/lang/String") :
    MetFree l ym05 (head1 (Jvm.Cond.code ym05 jdk_68_method_73_code 3 none :: ws) rm_03) (fun a U => a = #[(.ref a1), (.int p2), (.ref a3)] ∧ Z.Warmed39 U.vm ∧ U.heap = h0) (fun _ _ _ _ _ => True) (fun _ U o U' => ∃ v L, o = .returned v ∧ Qrm16 Z a1 p2 a3 w5 kb cap vs w6 ks zs us G1 h0 n0 v U'.heap L ∧ FrameEnd U o U' L rm_03.cells rm_03.slots) := by
  refine MetFree.of_bodySF (plainFor_of_name pn_15) hisR ?_
  intro p e s m args below meth c s₁ Bd hml0 hP hK
  obtain ⟨rfl, hZ, hh⟩ := hP
  have hx := Bd.exec
  have hby := Bd.bytes
  have hml : c.maxLocals = 3 := hml0
  have hown : s.vm.findClass "java/lang/AbstractStringBuilder" = some m.cls := findClass_of_methodNamed Bd.named
  have X0 : Stand p l e rm_03 s m #[(.ref a1), (.int p2), (.ref a3)] below meth c s₁ [] 0 0 := Stand.of_body Bd
  have e0 : s₁.heap = h0 := by rw [← hh, Bd.state]; rfl
  have N0 := Fr.nil n0
  let aa1 : Array Slot := #[.val (.ref a1), .val (.int p2), .val (.ref a3)]
  have pre0 : ∀ t, Steps p.tables e below (s₁.setTop (mkF m 0 aa1 [])) t → Steps p.tables e below (s₁.setTop (entryFrame m #[(.ref a1), (.int p2), (.ref a3)] 3)) t := fun t k => castTop (ef_16 m a1 p2 a3) k
  obtain ⟨cq4, q4, q4'⟩ := E_a1.cell
  obtain ⟨_, _, ⟨T4, L4, k4, n4⟩, -, X4, ⟨Lc4, hQ4, l4, y4, z4⟩, st4⟩ := X0.privateBack hx (y := ym03) hown (mvT hZ (ww hw 95 rfl)) (mvT hZ (ww hw 96 rfl)) (own_sel (Cond.privateMethod_at (mvP hZ (ww hw 97 rfl) (args := #[]))) (mvT hZ (ww hw 96 rfl)) (mvT hZ (ww hw 98 rfl)) (by decide)) (Cond.privateMethod_at (mvP hZ (ww hw 97 rfl) (args := #[]))) (mvT hZ (ww hw 99 rfl)) (by decide) (backOf (W := 0) (rm17 l Z a0 hw [] a1 a3 G1 h0 n0 Z0 SS.2.2.1 SC F_coder_a1 SS.1 P3) hZ (ww hw 99 rfl) (ww hw 50 rfl) (by decide) (by decide)) (g := (mkF m 2 aa1 [(.ref a3), (.ref a1)])) rfl (by rw [hml]; rfl) (Steps.refl _) (a := a1) (by rw [e0]; exact q4) q4' (argsL := [(.ref a3)]) (rest := []) (lenOf pd_16_6 rfl) rfl (wz rfl) (hb hby d16_2) (fun _ _ => ⟨rfl, e0, (by decide : 0 + 0 ≤ _), (by decide : 0 + 0 ≤ _)⟩)
  dsimp only [Pt.U, Pt.locs, Pt.cells, Pt.slots] at X4 l4 y4 z4 st4 hQ4
  subst l4 y4 z4
  obtain ⟨rfl, N4q, e4⟩ := hQ4
  have N4 := Fr.app N0 N4q
  obtain ⟨T6, X6, e6, st6⟩ := getF X4 hx hZ hown (host := "") (Or.inl (ww hw 67 rfl)) Via.refl e4 F_value_a1 (g := (mkF m 7 aa1 [(.ref a1), (.ref a3)])) rfl rfl (hb hby d16_7)
  obtain ⟨T8, X8, e8, st8⟩ := getF X6 hx hZ hown (host := "") (Or.inl (ww hw 65 rfl)) Via.refl e6 F_coder_a1 (g := (mkF m 12 aa1 [(.ref a1), (.int p2), (.ref w5), (.ref a3)])) rfl rfl (hb hby d16_12)
  obtain ⟨cq9, kq9, q9a, q9b, q9c⟩ := isOf hZ e8 E_a3
  obtain ⟨_, _, ⟨T9, L9, k9, n9⟩, -, X9, ⟨Lc9, hQ9, l9, y9, z9⟩, st9⟩ := X8.virtualBack hx (y := ym04) (z := ym04) hown (mvT hZ (ww hw 101 rfl)) (mvT hZ (ww hw 102 rfl)) (notFace_of_selects (args := #[]) (mvT hZ (ww hw 104 rfl))) (mvT hZ (ww hw 104 rfl)) (mvT hZ (ww hw 103 rfl)) (by decide) (backOf (W := 0) (rm18 l Z a0 hw [] a3 w5 p2 w6 zs ks us kb cap vs G1 h0 n0 Z0 SC P3 V_w5 g_w5 SS.2.2.1 c1 SS.2.2.2.2 c3 c4 SS.1 SS.2.1 SS.2.2.2.1) hZ (ww hw 105 rfl) (ww hw 2 rfl) (by decide) (by decide)) q9a q9c (g := (mkF m 15 aa1 [(.int 0), (.int p2), (.ref w5), (.ref a3)])) rfl (by rw [hml]; rfl) (Steps.refl _) (argsL := [(.ref w5), (.int p2), (.int 0)]) (rest := []) (lenOf pd_16_13 rfl) rfl (wz rfl) (hb hby d16_15) (fun _ _ => ⟨rfl, e8, (by decide : 0 + 0 ≤ _), (by decide : 0 + 0 ≤ _)⟩)
  dsimp only [Pt.U, Pt.locs, Pt.cells, Pt.slots] at X9 l9 y9 z9 st9 hQ9
  subst l9 y9 z9
  obtain ⟨rfl, N9q, K9, V9⟩ := hQ9
  have N9 := Fr.app N4 N9q
  obtain ⟨fs, hr, hrun, hended, hW, hsame⟩ := X9.leave (v := none) (fun _ => rfl)
  refine ⟨_, _, pre0 _ ?_, hrun, hended, _, _, rfl, ?_, ⟨_, rfl⟩, hW, hsame.mono (by decide) (by decide)⟩
  · show Sw s₁ m 0 aa1 [] _
    refine XS.aloadN X0.here hx rfl (hb hby d16_0) rfl rfl ?_
    show Sw s₁ m 1 aa1 [(.ref a1)] _
    refine XS.aloadN X0.here hx rfl (hb hby d16_1) rfl rfl ?_
    show Sw s₁ m 2 aa1 [(.ref a3), (.ref a1)] _
    refine st4.trans ?_
    show Sw T4 m 5 aa1 [] _
    refine XS.aloadN X4.here hx rfl (hb hby d16_5) rfl rfl ?_
    show Sw T4 m 6 aa1 [(.ref a3)] _
    refine XS.aloadN X4.here hx rfl (hb hby d16_6) rfl rfl ?_
    show Sw T4 m 7 aa1 [(.ref a1), (.ref a3)] _
    refine st6 _ ?_
    show Sw T6 m 10 aa1 [(.ref w5), (.ref a3)] _
    refine XS.iloadN X6.here hx rfl (hb hby d16_10) rfl ?_
    show Sw T6 m 11 aa1 [(.int p2), (.ref w5), (.ref a3)] _
    refine XS.aloadN X6.here hx rfl (hb hby d16_11) rfl rfl ?_
    show Sw T6 m 12 aa1 [(.ref a1), (.int p2), (.ref w5), (.ref a3)] _
    refine st8 _ ?_
    show Sw T8 m 15 aa1 [(.int 0), (.int p2), (.ref w5), (.ref a3)] _
    refine st9.trans ?_
    show Sw T9 m 18 aa1 [] _
    exact X9.returnOut hx Bd.returns (hb hby d16_18) hr
  · show Qrm16 Z a1 p2 a3 w5 kb cap vs w6 ks zs us G1 h0 n0 _ T9.heap _
    exact ⟨rfl, N9, K9, V9⟩
theorem d14_0 : decode cd06 0 = .ok (.aload_n 1, 1) := by decide +kernel
theorem d14_1 : decode cd06 1 = .ok (.ifnonnull 8, 3) := by decide +kernel
theorem d14_9 : decode cd06 9 = .ok (.aload_n 1, 1) := by decide +kernel
theorem d14_10 : decode cd06 10 = .ok (.invokevirtual 32, 3) := by decide +kernel
theorem d14_13 : decode cd06 13 = .ok (.istore_n 2, 1) := by decide +kernel
theorem d14_14 : decode cd06 14 = .ok (.aload_n 0, 1) := by decide +kernel
theorem d14_15 : decode cd06 15 = .ok (.aload_n 0, 1) := by decide +kernel
theorem d14_16 : decode cd06 16 = .ok (.getfield 79, 3) := by decide +kernel
theorem d14_19 : decode cd06 19 = .ok (.iload_n 2, 1) := by decide +kernel
theorem d14_20 : decode cd06 20 = .ok (.iadd, 1) := by decide +kernel
theorem d14_21 : decode cd06 21 = .ok (.invokevirtual 100, 3) := by decide +kernel
theorem d14_24 : decode cd06 24 = .ok (.aload_n 0, 1) := by decide +kernel
theorem d14_25 : decode cd06 25 = .ok (.aload_n 0, 1) := by decide +kernel
theorem d14_26 : decode cd06 26 = .ok (.getfield 79, 3) := by decide +kernel
theorem d14_29 : decode cd06 29 = .ok (.aload_n 1, 1) := by decide +kernel
theorem d14_30 : decode cd06 30 = .ok (.invokevirtual 208, 3) := by decide +kernel
theorem d14_33 : decode cd06 33 = .ok (.aload_n 0, 1) := by decide +kernel
theorem d14_34 : decode cd06 34 = .ok (.dup, 1) := by decide +kernel
theorem d14_35 : decode cd06 35 = .ok (.getfield 79, 3) := by decide +kernel
theorem d14_38 : decode cd06 38 = .ok (.iload_n 2, 1) := by decide +kernel
theorem d14_39 : decode cd06 39 = .ok (.iadd, 1) := by decide +kernel
theorem d14_40 : decode cd06 40 = .ok (.putfield 79, 3) := by decide +kernel
theorem d14_43 : decode cd06 43 = .ok (.aload_n 0, 1) := by decide +kernel
theorem d14_44 : decode cd06 44 = .ok (.areturn, 1) := by decide +kernel
theorem pd_14_7 : parseMethodDescriptor "()I" = some ⟨[], some .int⟩ := by decide +kernel
theorem pd_14_11 : parseMethodDescriptor "(I)V" = some ⟨[.int], none⟩ := by decide +kernel
theorem pd_14_12 : parseMethodDescriptor "(ILjava/lang/String;)V" = some ⟨[.int, (.object "java/lang/String")], none⟩ := by decide +kernel
theorem ef_14 (m : MethodId) (x0 : Addr) (x1 : Addr) : entryFrame m #[(.ref x0), (.ref x1)] 3 = mkF m 0 #[.val (.ref x0), .val (.ref x1), .unset] [] := by first | (simp [entryFrame, mkF, argsToLocals, Value.category]; done) | rfl
def Qrm14 (Z : State) (a1 : Addr) (a2 : Addr) (w4 : Int32) (w3 : Addr) (kb : ClassId) (cap : Int32) (vs : List Value) (w6 : Addr) (ks : ClassId) (zs : Int32) (us : List Value) (G1 : Int32) (h0 : Heap) (n0 : Nat) (v : Option Value) (h : Heap) (L : List Loc) : Prop := v = some (.ref a1) ∧ Fr n0 L ∧ Keep h0 h [a1, w3] ∧ own_B Z h a1 w3 kb cap (w4 + zs) (vs ++ us)
set_option maxRecDepth 65536 in
set_option maxHeartbeats 40000000 in
theorem rm14 (l : Launch) (Z : State) (a0 : Array Value) (hw : HW a0 Z) (ws : List Jvm.Cond) (a1 : Addr) (a2 : Addr) (w4 : Int32) (w3 : Addr) (kb : ClassId) (cap : Int32) (vs : List Value) (w6 : Addr) (ks : ClassId) (zs : Int32) (us : List Value) (G1 : Int32) (h0 : Heap) (n0 : Nat) (Z0 : n0 ≤ h0.size) (SC : Sta Z h0 "java/lang/String" "COMPACT_STRINGS" "Z" (.int G1)) (P3 : ¬ (G1 = (0 : Int32))) (BB : own_B Z h0 a1 w3 kb cap w4 vs) (SS : own_S Z h0 a2 w6 ks zs us) (RR : own_R cap w4 zs) (g_w3 : n0 ≤ w3) (E_a2 : Exa Z h0 a2 "java/lang/String") (F_count_a1 : Fld Z h0 a1 "java/lang/AbstractStringBuilder" "count" "I" (.int w4)) (E_a1 : Exa Z h0 a1 "java/lang/StringBuilder") (g_a1 : n0 ≤ a1) :
    MetFree l ym06 (head1 (Jvm.Cond.code ym06 jdk_68_method_22_code 3 (some (.object "java/lang/AbstractStringBuilder")) :: ws) rm_04) (fun a U => a = #[(.ref a1), (.ref a2)] ∧ Z.Warmed39 U.vm ∧ U.heap = h0) (fun _ _ _ _ _ => True) (fun _ U o U' => ∃ v L, o = .returned v ∧ Qrm14 Z a1 a2 w4 w3 kb cap vs w6 ks zs us G1 h0 n0 v U'.heap L ∧ FrameEnd U o U' L rm_04.cells rm_04.slots) := by
  refine MetFree.of_bodySF (plainFor_of_name pn_15) hisR ?_
  intro p e s m args below meth c s₁ Bd hml0 hP hK
  obtain ⟨rfl, hZ, hh⟩ := hP
  have hx := Bd.exec
  have hby := Bd.bytes
  have hml : c.maxLocals = 3 := hml0
  have hown : s.vm.findClass "java/lang/AbstractStringBuilder" = some m.cls := findClass_of_methodNamed Bd.named
  have X0 : Stand p l e rm_04 s m #[(.ref a1), (.ref a2)] below meth c s₁ [] 0 0 := Stand.of_body Bd
  have e0 : s₁.heap = h0 := by rw [← hh, Bd.state]; rfl
  have N0 := Fr.nil n0
  let aa1 : Array Slot := #[.val (.ref a1), .val (.ref a2), .unset]
  have pre0 : ∀ t, Steps p.tables e below (s₁.setTop (mkF m 0 aa1 [])) t → Steps p.tables e below (s₁.setTop (entryFrame m #[(.ref a1), (.ref a2)] 3)) t := fun t k => castTop (ef_14 m a1 a2) k
  obtain ⟨cq3, kq3, q3a, q3b, q3c⟩ := isOf hZ e0 E_a2
  obtain ⟨cls, As, -, Ss, Ns, -, -⟩ := id SS.2.2.2.1
  obtain ⟨clb, Ab, -, Sb, Nb, -, -⟩ := id BB.2.2.2.2.1
  have ne := BB.1.neArv BB.2.2.2.2.1 (ww hw 38 rfl)
  obtain ⟨_, _, ⟨T3, L3, k3, n3⟩, -, X3, ⟨Lc3, hQ3, l3, y3, z3⟩, st3⟩ := X0.virtualBack hx (y := ym01) (z := ym01) hown (mvT hZ (ww hw 53 rfl)) (mvT hZ (ww hw 54 rfl)) (notFace_of_selects (args := #[]) (mvT hZ (ww hw 56 rfl))) (mvT hZ (ww hw 56 rfl)) (mvT hZ (ww hw 55 rfl)) (by decide) (backOf (W := 0) (rm10 l Z a0 hw [] a2 w6 cls zs G1 h0 n0 Z0 SC P3 SS.2.2.1 SS.2.1 As Ss Ns SS.1) hZ (ww hw 57 rfl) (ww hw 2 rfl) (by decide) (by decide)) q3a q3c (g := (mkF m 10 aa1 [(.ref a2)])) rfl (by rw [hml]; rfl) (Steps.refl _) (argsL := []) (rest := []) (lenOf pd_14_7 rfl) rfl (wz rfl) (hb hby d14_10) (fun _ _ => ⟨rfl, e0, (by decide : 0 + 0 ≤ _), (by decide : 0 + 0 ≤ _)⟩)
  dsimp only [Pt.U, Pt.locs, Pt.cells, Pt.slots] at X3 l3 y3 z3 st3 hQ3
  subst l3 y3 z3
  obtain ⟨rfl, N3q, e3⟩ := hQ3
  have N3 := Fr.app N0 N3q
  let aa2 : Array Slot := #[.val (.ref a1), .val (.ref a2), .val (.int zs)]
  obtain ⟨T5, X5, e5, st5⟩ := getF X3 hx hZ hown (host := "") (Or.inl (ww hw 83 rfl)) Via.refl e3 F_count_a1 (g := (mkF m 16 aa2 [(.ref a1), (.ref a1)])) rfl rfl (hb hby d14_16)
  obtain ⟨cq6, q6, q6'⟩ := E_a1.cell
  obtain ⟨_, _, ⟨T6, L6, k6, n6⟩, -, X6, ⟨Lc6, hQ6, l6, y6, z6⟩, st6⟩ := X5.privateBack hx (y := ym02) hown (mvT hZ (ww hw 85 rfl)) (mvT hZ (ww hw 86 rfl)) (own_sel (Cond.privateMethod_at (mvP hZ (ww hw 87 rfl) (args := #[]))) (mvT hZ (ww hw 86 rfl)) (mvT hZ (ww hw 88 rfl)) (by decide)) (Cond.privateMethod_at (mvP hZ (ww hw 87 rfl) (args := #[]))) (mvT hZ (ww hw 89 rfl)) (by decide) (backOf (W := 0) (rm15 l Z a0 hw [] a1 (w4 + zs) w3 clb cap h0 n0 Z0 BB.2.1 Ab Sb Nb BB.2.2.1 RR.1) hZ (ww hw 89 rfl) (ww hw 50 rfl) (by decide) (by decide)) (g := (mkF m 21 aa2 [(.int (w4 + zs)), (.ref a1)])) rfl (by rw [hml]; rfl) (Steps.refl _) (a := a1) (by rw [e5]; exact q6) q6' (argsL := [(.int (w4 + zs))]) (rest := []) (lenOf pd_14_11 rfl) rfl (wz rfl) (hb hby d14_21) (fun _ _ => ⟨rfl, e5, (by decide : 0 + 0 ≤ _), (by decide : 0 + 0 ≤ _)⟩)
  dsimp only [Pt.U, Pt.locs, Pt.cells, Pt.slots] at X6 l6 y6 z6 st6 hQ6
  subst l6 y6 z6
  obtain ⟨rfl, N6q, e6⟩ := hQ6
  have N6 := Fr.app N3 N6q
  obtain ⟨T8, X8, e8, st8⟩ := getF X6 hx hZ hown (host := "") (Or.inl (ww hw 83 rfl)) Via.refl e6 F_count_a1 (g := (mkF m 26 aa2 [(.ref a1), (.ref a1)])) rfl rfl (hb hby d14_26)
  obtain ⟨cq9, q9, q9'⟩ := E_a1.cell
  obtain ⟨_, _, ⟨T9, L9, k9, n9⟩, -, X9, ⟨Lc9, hQ9, l9, y9, z9⟩, st9⟩ := X8.privateBack hx (y := ym05) hown (mvT hZ (ww hw 90 rfl)) (mvT hZ (ww hw 91 rfl)) (own_sel (Cond.privateMethod_at (mvP hZ (ww hw 92 rfl) (args := #[]))) (mvT hZ (ww hw 91 rfl)) (mvT hZ (ww hw 93 rfl)) (by decide)) (Cond.privateMethod_at (mvP hZ (ww hw 92 rfl) (args := #[]))) (mvT hZ (ww hw 94 rfl)) (by decide) (backOf (W := 0) (rm16 l Z a0 hw [] a1 w4 a2 w3 kb cap vs w6 ks zs us G1 h0 n0 Z0 SC P3 BB.2.2.2.2.1 g_w3 SS BB.2.2.2.2.2.1 (by rw [← BB.2.2.2.2.2.1, ← SS.2.2.2.2]; exact RR.2.1) BB.2.2.2.2.2.2 BB.1 BB.2.1 BB.2.2.1 SS.1) hZ (ww hw 94 rfl) (ww hw 50 rfl) (by decide) (by decide)) (g := (mkF m 30 aa2 [(.ref a2), (.int w4), (.ref a1)])) rfl (by rw [hml]; rfl) (Steps.refl _) (a := a1) (by rw [e8]; exact q9) q9' (argsL := [(.int w4), (.ref a2)]) (rest := []) (lenOf pd_14_12 rfl) rfl (wz rfl) (hb hby d14_30) (fun _ _ => ⟨rfl, e8, (by decide : 0 + 0 ≤ _), (by decide : 0 + 0 ≤ _)⟩)
  dsimp only [Pt.U, Pt.locs, Pt.cells, Pt.slots] at X9 l9 y9 z9 st9 hQ9
  subst l9 y9 z9
  obtain ⟨rfl, N9q, K9, V9⟩ := hQ9
  have N9 := Fr.app N6 N9q
  obtain ⟨T11, X11, e11, st11⟩ := getF X9 hx hZ hown (host := "") (Or.inl (ww hw 83 rfl)) Via.refl rfl (F_count_a1.keep K9 (own_nin1 ne)) (g := (mkF m 35 aa2 [(.ref a1), (.ref a1)])) rfl rfl (hb hby d14_35)
  obtain ⟨T12, h12, X12, e12, W12, st12⟩ := putF X11 hx hZ hown (host := "") (Or.inl (ww hw 83 rfl)) Via.refl e11 (F_count_a1.keep K9 (own_nin1 ne)) (E_a1.keep K9) (Or.inl (ww hw 84 rfl)) (ww hw 38 rfl) (ty := .int) (by decide) rfl rfl (g := (mkF m 40 aa2 [(.int (w4 + zs)), (.ref a1)])) rfl rfl (hb hby d14_40)
  have Fw12 := (F_count_a1.keep K9 (own_nin1 ne)).same W12
  have K12 : Keep h0 h12 [a1, w3] := (own_more K9).wr W12 (Or.inl (wi 0 rfl))
  have N12 := Fr.snoc X12 N9 g_a1
  obtain ⟨fs, hr, hrun, hended, hW, hsame⟩ := X12.leave (v := some (.ref a1)) (fun h => by rw [Bd.returns] at h; cases h)
  refine ⟨_, _, pre0 _ ?_, hrun, hended, _, _, rfl, ?_, ⟨_, rfl⟩, hW, hsame.mono (by decide) (by decide)⟩
  · show Sw s₁ m 0 aa1 [] _
    refine XS.aloadN X0.here hx rfl (hb hby d14_0) rfl rfl ?_
    show Sw s₁ m 1 aa1 [(.ref a2)] _
    refine XS.ifnonnullYes X0.here hx rfl (pc0 := 1) (pc' := 9) rfl (hb hby d14_1) rfl (by decide) (by decide) ?_
    show Sw s₁ m 9 aa1 [] _
    refine XS.aloadN X0.here hx rfl (hb hby d14_9) rfl rfl ?_
    show Sw s₁ m 10 aa1 [(.ref a2)] _
    refine st3.trans ?_
    show Sw T3 m 13 aa1 [(.int zs)] _
    refine XS.istoreN X3.here hx rfl (hb hby d14_13) rfl (l' := aa2) rfl ?_
    show Sw T3 m 14 aa2 [] _
    refine XS.aloadN X3.here hx rfl (hb hby d14_14) rfl rfl ?_
    show Sw T3 m 15 aa2 [(.ref a1)] _
    refine XS.aloadN X3.here hx rfl (hb hby d14_15) rfl rfl ?_
    show Sw T3 m 16 aa2 [(.ref a1), (.ref a1)] _
    refine st5 _ ?_
    show Sw T5 m 19 aa2 [(.int w4), (.ref a1)] _
    refine XS.iloadN X5.here hx rfl (hb hby d14_19) rfl ?_
    show Sw T5 m 20 aa2 [(.int zs), (.int w4), (.ref a1)] _
    refine XS.iadd X5.here hx rfl (hb hby d14_20) rfl ?_
    show Sw T5 m 21 aa2 [(.int (w4 + zs)), (.ref a1)] _
    refine st6.trans ?_
    show Sw T6 m 24 aa2 [] _
    refine XS.aloadN X6.here hx rfl (hb hby d14_24) rfl rfl ?_
    show Sw T6 m 25 aa2 [(.ref a1)] _
    refine XS.aloadN X6.here hx rfl (hb hby d14_25) rfl rfl ?_
    show Sw T6 m 26 aa2 [(.ref a1), (.ref a1)] _
    refine st8 _ ?_
    show Sw T8 m 29 aa2 [(.int w4), (.ref a1)] _
    refine XS.aloadN X8.here hx rfl (hb hby d14_29) rfl rfl ?_
    show Sw T8 m 30 aa2 [(.ref a2), (.int w4), (.ref a1)] _
    refine st9.trans ?_
    show Sw T9 m 33 aa2 [] _
    refine XS.aloadN X9.here hx rfl (hb hby d14_33) rfl rfl ?_
    show Sw T9 m 34 aa2 [(.ref a1)] _
    refine XS.dup X9.here hx rfl (hb hby d14_34) rfl rfl ?_
    show Sw T9 m 35 aa2 [(.ref a1), (.ref a1)] _
    refine st11 _ ?_
    show Sw T11 m 38 aa2 [(.int w4), (.ref a1)] _
    refine XS.iloadN X11.here hx rfl (hb hby d14_38) rfl ?_
    show Sw T11 m 39 aa2 [(.int zs), (.int w4), (.ref a1)] _
    refine XS.iadd X11.here hx rfl (hb hby d14_39) rfl ?_
    show Sw T11 m 40 aa2 [(.int (w4 + zs)), (.ref a1)] _
    refine st12 _ ?_
    show Sw T12 m 43 aa2 [] _
    refine XS.aloadN X12.here hx rfl (hb hby d14_43) rfl rfl ?_
    show Steps p.tables e below (T12.setTop (mkF m 44 aa2 [(.ref a1)])) _
    jvm_step X12.here [X12.here.top, hx, (hb hby d14_44), X12.method', Bd.returns, Value.isRef, FieldType.isReference]
    first | (intro acts; rw [hr _ acts rfl rfl rfl]) | rw [hr _ _ rfl rfl rfl]
    exact Steps.refl _
  · show Qrm14 Z a1 a2 w4 w3 kb cap vs w6 ks zs us G1 h0 n0 _ T12.heap _
    rw [e12]
    exact ⟨rfl, N12, K12, (BB.1.keep K9).wr W12, (BB.2.1.keep K9 (own_nin1 ne)).other W12 (Or.inr (slot_ne (Or.inl (ww hw 68 rfl)) (Or.inl (ww hw 84 rfl)) (by decide) (t := (.array .byte)) (t' := .int) (by decide) (by decide))), (BB.2.2.1.keep K9 (own_nin1 ne)).other W12 (Or.inr (slot_ne (Or.inl (ww hw 66 rfl)) (Or.inl (ww hw 84 rfl)) (by decide) (t := .byte) (t' := .int) (by decide) (by decide))), Fw12, V9.other W12 ne.symm, by rw [RR.2.2.1, BB.2.2.2.2.2.1, SS.2.2.2.2, List.length_append], RR.2.2.2.1⟩
theorem d13_0 : decode cd07 0 = .ok (.aload_n 0, 1) := by decide +kernel
theorem d13_1 : decode cd07 1 = .ok (.aload_n 1, 1) := by decide +kernel
theorem d13_2 : decode cd07 2 = .ok (.invokespecial 29, 3) := by decide +kernel
theorem d13_5 : decode cd07 5 = .ok (.pop, 1) := by decide +kernel
theorem d13_6 : decode cd07 6 = .ok (.aload_n 0, 1) := by decide +kernel
theorem d13_7 : decode cd07 7 = .ok (.areturn, 1) := by decide +kernel
theorem pn_13 : plainName "java/lang/StringBuilder" = true := by first | (simp [plainName, overriddenIn]; done) | decide +kernel
theorem pd_13_9 : parseMethodDescriptor "(Ljava/lang/String;)Ljava/lang/AbstractStringBuilder;" = some ⟨[(.object "java/lang/String")], some (.object "java/lang/AbstractStringBuilder")⟩ := by decide +kernel
def Qrm13 (Z : State) (a1 : Addr) (a2 : Addr) (w4 : Int32) (w3 : Addr) (kb : ClassId) (cap : Int32) (vs : List Value) (w6 : Addr) (ks : ClassId) (zs : Int32) (us : List Value) (G1 : Int32) (h0 : Heap) (n0 : Nat) (v : Option Value) (h : Heap) (L : List Loc) : Prop := v = some (.ref a1) ∧ Fr n0 L ∧ Keep h0 h [a1, w3] ∧ own_B Z h a1 w3 kb cap (w4 + zs) (vs ++ us)
set_option maxRecDepth 65536 in
set_option maxHeartbeats 40000000 in
theorem rm13 (l : Launch) (Z : State) (a0 : Array Value) (hw : HW a0 Z) (ws : List Jvm.Cond) (a1 : Addr) (a2 : Addr) (w4 : Int32) (w3 : Addr) (kb : ClassId) (cap : Int32) (vs : List Value) (w6 : Addr) (ks : ClassId) (zs : Int32) (us : List Value) (G1 : Int32) (h0 : Heap) (n0 : Nat) (Z0 : n0 ≤ h0.size) (SC : Sta Z h0 "java/lang/String" "COMPACT_STRINGS" "Z" (.int G1)) (P3 : ¬ (G1 = (0 : Int32))) (BB : own_B Z h0 a1 w3 kb cap w4 vs) (SS : own_S Z h0 a2 w6 ks zs us) (RR : own_R cap w4 zs) (g_w3 : n0 ≤ w3) (g_a1 : n0 ≤ a1) (E_a1 : Exa Z h0 a1 "java/lang/StringBuilder") :
    MetFree l ym07 (head1 (Jvm.Cond.code ym07 jdk_67_method_7_code 2 (some (.object "java/lang/StringBuilder")) :: ws) rm_05) (fun a U => a = #[(.ref a1), (.ref a2)] ∧ Z.Warmed39 U.vm ∧ U.heap = h0) (fun _ _ _ _ _ => True) (fun _ U o U' => ∃ v L, o = .returned v ∧ Qrm13 Z a1 a2 w4 w3 kb cap vs w6 ks zs us G1 h0 n0 v U'.heap L ∧ FrameEnd U o U' L rm_05.cells rm_05.slots) := by
  refine MetFree.of_bodySF (plainFor_of_name pn_13) hisR ?_
  intro p e s m args below meth c s₁ Bd hml0 hP hK
  obtain ⟨rfl, hZ, hh⟩ := hP
  have hx := Bd.exec
  have hby := Bd.bytes
  have hml : c.maxLocals = 2 := hml0
  have hown : s.vm.findClass "java/lang/StringBuilder" = some m.cls := findClass_of_methodNamed Bd.named
  have X0 : Stand p l e rm_05 s m #[(.ref a1), (.ref a2)] below meth c s₁ [] 0 0 := Stand.of_body Bd
  have e0 : s₁.heap = h0 := by rw [← hh, Bd.state]; rfl
  have N0 := Fr.nil n0
  let aa1 : Array Slot := #[.val (.ref a1), .val (.ref a2)]
  have pre0 : ∀ t, Steps p.tables e below (s₁.setTop (mkF m 0 aa1 [])) t → Steps p.tables e below (s₁.setTop (entryFrame m #[(.ref a1), (.ref a2)] 2)) t := fun t k => castTop (ef_17 m a1 a2) k
  obtain ⟨_, _, ⟨T3, L3, k3, n3⟩, -, X3, ⟨Lc3, hQ3, l3, y3, z3⟩, st3⟩ := superBack X0 hx hZ (y := ym06) hown (ww hw 80 rfl) (own_same (ww hw 71 rfl) (ww hw 88 rfl) (by decide) rfl) (ww hw 71 rfl) (ww hw 81 rfl) (by decide) (backOf (W := 0) (rm14 l Z a0 hw [] a1 a2 w4 w3 kb cap vs w6 ks zs us G1 h0 n0 Z0 SC P3 BB SS RR g_w3 SS.1 BB.2.2.2.1 BB.1 g_a1) hZ (ww hw 82 rfl) (ww hw 50 rfl) (by decide) (by decide)) e0 (Ins.self E_a1) (g := (mkF m 2 aa1 [(.ref a2), (.ref a1)])) rfl (by rw [hml]; rfl) (ww hw 82 rfl) (argsL := [(.ref a2)]) (rest := []) (lenOf pd_13_9 rfl) rfl (wz rfl) (hb hby d13_2) (fun _ _ => ⟨rfl, e0, (by decide : 0 + 0 ≤ _), (by decide : 0 + 0 ≤ _)⟩)
  dsimp only [Pt.U, Pt.locs, Pt.cells, Pt.slots] at X3 l3 y3 z3 st3 hQ3
  subst l3 y3 z3
  obtain ⟨rfl, N3q, K3, B3⟩ := hQ3
  have N3 := Fr.app N0 N3q
  obtain ⟨fs, hr, hrun, hended, hW, hsame⟩ := X3.leave (v := some (.ref a1)) (fun h => by rw [Bd.returns] at h; cases h)
  refine ⟨_, _, pre0 _ ?_, hrun, hended, _, _, rfl, ?_, ⟨_, rfl⟩, hW, hsame.mono (by decide) (by decide)⟩
  · show Sw s₁ m 0 aa1 [] _
    refine XS.aloadN X0.here hx rfl (hb hby d13_0) rfl rfl ?_
    show Sw s₁ m 1 aa1 [(.ref a1)] _
    refine XS.aloadN X0.here hx rfl (hb hby d13_1) rfl rfl ?_
    show Sw s₁ m 2 aa1 [(.ref a2), (.ref a1)] _
    refine st3.trans ?_
    show Sw T3 m 5 aa1 [(.ref a1)] _
    refine XS.pop X3.here hx rfl (hb hby d13_5) rfl rfl ?_
    show Sw T3 m 6 aa1 [] _
    refine XS.aloadN X3.here hx rfl (hb hby d13_6) rfl rfl ?_
    show Steps p.tables e below (T3.setTop (mkF m 7 aa1 [(.ref a1)])) _
    jvm_step X3.here [X3.here.top, hx, (hb hby d13_7), X3.method', Bd.returns, Value.isRef, FieldType.isReference]
    first | (intro acts; rw [hr _ acts rfl rfl rfl]) | rw [hr _ _ rfl rfl rfl]
    exact Steps.refl _
  · show Qrm13 Z a1 a2 w4 w3 kb cap vs w6 ks zs us G1 h0 n0 _ T3.heap _
    exact ⟨rfl, N3, K3, B3⟩
theorem d12_0 : decode cd08 0 = .ok (.aload_n 0, 1) := by decide +kernel
theorem d12_1 : decode cd08 1 = .ok (.aload_n 1, 1) := by decide +kernel
theorem d12_2 : decode cd08 2 = .ok (.invokevirtual 23, 3) := by decide +kernel
theorem d12_5 : decode cd08 5 = .ok (.areturn, 1) := by decide +kernel
theorem pd_12_10 : parseMethodDescriptor "(Ljava/lang/String;)Ljava/lang/StringBuilder;" = some ⟨[(.object "java/lang/String")], some (.object "java/lang/StringBuilder")⟩ := by decide +kernel
def Qrm12 (Z : State) (a1 : Addr) (a2 : Addr) (w4 : Int32) (w3 : Addr) (kb : ClassId) (cap : Int32) (vs : List Value) (w6 : Addr) (ks : ClassId) (zs : Int32) (us : List Value) (G1 : Int32) (h0 : Heap) (n0 : Nat) (v : Option Value) (h : Heap) (L : List Loc) : Prop := v = some (.ref a1) ∧ Fr n0 L ∧ Keep h0 h [a1, w3] ∧ own_B Z h a1 w3 kb cap (w4 + zs) (vs ++ us)
set_option maxRecDepth 65536 in
set_option maxHeartbeats 40000000 in
theorem rm12 (l : Launch) (Z : State) (a0 : Array Value) (hw : HW a0 Z) (ws : List Jvm.Cond) (a1 : Addr) (a2 : Addr) (w4 : Int32) (w3 : Addr) (kb : ClassId) (cap : Int32) (vs : List Value) (w6 : Addr) (ks : ClassId) (zs : Int32) (us : List Value) (G1 : Int32) (h0 : Heap) (n0 : Nat) (Z0 : n0 ≤ h0.size) (SC : Sta Z h0 "java/lang/String" "COMPACT_STRINGS" "Z" (.int G1)) (P3 : ¬ (G1 = (0 : Int32))) (BB : own_B Z h0 a1 w3 kb cap w4 vs) (SS : own_S Z h0 a2 w6 ks zs us) (RR : own_R cap w4 zs) (g_w3 : n0 ≤ w3) (g_a1 : n0 ≤ a1) (E_a1 : Exa Z h0 a1 "java/lang/StringBuilder") :
    MetFree l ym08 (head1 (Jvm.Cond.code ym08 jdk_67_method_80_code 2 (some (.object "java/lang/AbstractStringBuilder")) :: ws) rm_06) (fun a U => a = #[(.ref a1), (.ref a2)] ∧ Z.Warmed39 U.vm ∧ U.heap = h0) (fun _ _ _ _ _ => True) (fun _ U o U' => ∃ v L, o = .returned v ∧ Qrm12 Z a1 a2 w4 w3 kb cap vs w6 ks zs us G1 h0 n0 v U'.heap L ∧ FrameEnd U o U' L rm_06.cells rm_06.slots) := by
  refine MetFree.of_bodySF (plainFor_of_name pn_13) hisR ?_
  intro p e s m args below meth c s₁ Bd hml0 hP hK
  obtain ⟨rfl, hZ, hh⟩ := hP
  have hx := Bd.exec
  have hby := Bd.bytes
  have hml : c.maxLocals = 2 := hml0
  have hown : s.vm.findClass "java/lang/StringBuilder" = some m.cls := findClass_of_methodNamed Bd.named
  have X0 : Stand p l e rm_06 s m #[(.ref a1), (.ref a2)] below meth c s₁ [] 0 0 := Stand.of_body Bd
  have e0 : s₁.heap = h0 := by rw [← hh, Bd.state]; rfl
  have N0 := Fr.nil n0
  let aa1 : Array Slot := #[.val (.ref a1), .val (.ref a2)]
  have pre0 : ∀ t, Steps p.tables e below (s₁.setTop (mkF m 0 aa1 [])) t → Steps p.tables e below (s₁.setTop (entryFrame m #[(.ref a1), (.ref a2)] 2)) t := fun t k => castTop (ef_17 m a1 a2) k
  obtain ⟨cq3, kq3, q3a, q3b, q3c⟩ := isOf hZ e0 E_a1
  obtain ⟨_, _, ⟨T3, L3, k3, n3⟩, -, X3, ⟨Lc3, hQ3, l3, y3, z3⟩, st3⟩ := X0.virtualBack hx (y := ym07) (z := ym07) hown (mvT hZ (ww hw 75 rfl)) (mvT hZ (ww hw 76 rfl)) (notFace_of_selects (args := #[]) (mvT hZ (ww hw 78 rfl))) (mvT hZ (ww hw 78 rfl)) (mvT hZ (ww hw 77 rfl)) (by decide) (backOf (W := 0) (rm13 l Z a0 hw [] a1 a2 w4 w3 kb cap vs w6 ks zs us G1 h0 n0 Z0 SC P3 BB SS RR g_w3 g_a1 BB.1) hZ (ww hw 79 rfl) (ww hw 39 rfl) (by decide) (by decide)) q3a q3c (g := (mkF m 2 aa1 [(.ref a2), (.ref a1)])) rfl (by rw [hml]; rfl) (Steps.refl _) (argsL := [(.ref a2)]) (rest := []) (lenOf pd_12_10 rfl) rfl (wz rfl) (hb hby d12_2) (fun _ _ => ⟨rfl, e0, (by decide : 0 + 0 ≤ _), (by decide : 0 + 0 ≤ _)⟩)
  dsimp only [Pt.U, Pt.locs, Pt.cells, Pt.slots] at X3 l3 y3 z3 st3 hQ3
  subst l3 y3 z3
  obtain ⟨rfl, N3q, K3, B3⟩ := hQ3
  have N3 := Fr.app N0 N3q
  obtain ⟨fs, hr, hrun, hended, hW, hsame⟩ := X3.leave (v := some (.ref a1)) (fun h => by rw [Bd.returns] at h; cases h)
  refine ⟨_, _, pre0 _ ?_, hrun, hended, _, _, rfl, ?_, ⟨_, rfl⟩, hW, hsame.mono (by decide) (by decide)⟩
  · show Sw s₁ m 0 aa1 [] _
    refine XS.aloadN X0.here hx rfl (hb hby d12_0) rfl rfl ?_
    show Sw s₁ m 1 aa1 [(.ref a1)] _
    refine XS.aloadN X0.here hx rfl (hb hby d12_1) rfl rfl ?_
    show Sw s₁ m 2 aa1 [(.ref a2), (.ref a1)] _
    refine st3.trans ?_
    show Steps p.tables e below (T3.setTop (mkF m 5 aa1 [(.ref a1)])) _
    jvm_step X3.here [X3.here.top, hx, (hb hby d12_5), X3.method', Bd.returns, Value.isRef, FieldType.isReference]
    first | (intro acts; rw [hr _ acts rfl rfl rfl]) | rw [hr _ _ rfl rfl rfl]
    exact Steps.refl _
  · show Qrm12 Z a1 a2 w4 w3 kb cap vs w6 ks zs us G1 h0 n0 _ T3.heap _
    exact ⟨rfl, N3, K3, B3⟩
theorem d25_0 : decode cd09 0 = .ok (.getstatic 18, 3) := by decide +kernel
theorem d25_3 : decode cd09 3 = .ok (.ifCond .eq 14, 3) := by decide +kernel
theorem d25_6 : decode cd09 6 = .ok (.aload_n 0, 1) := by decide +kernel
theorem d25_7 : decode cd09 7 = .ok (.getfield 22, 3) := by decide +kernel
theorem d25_10 : decode cd09 10 = .ok (.ifCond .ne 7, 3) := by decide +kernel
theorem d25_13 : decode cd09 13 = .ok (.iconst 1, 1) := by decide +kernel
theorem d25_14 : decode cd09 14 = .ok (.goto 4, 3) := by decide +kernel
theorem d25_18 : decode cd09 18 = .ok (.ireturn, 1) := by decide +kernel
def Qrm25 (Z : State) (a1 : Addr) (w2 : Int32) (h0 : Heap) (n0 : Nat) (v : Option Value) (h : Heap) (L : List Loc) : Prop := v = some (.int 1) ∧ Fr n0 L ∧ h = h0
set_option maxRecDepth 65536 in
set_option maxHeartbeats 40000000 in
theorem rm25 (l : Launch) (Z : State) (a0 : Array Value) (hw : HW a0 Z) (ws : List Jvm.Cond) (a1 : Addr) (w2 : Int32) (h0 : Heap) (n0 : Nat) (Z0 : n0 ≤ h0.size) (S_COMPACT_STRINGS : Sta Z h0 "java/lang/String" "COMPACT_STRINGS" "Z" (.int w2)) (F_coder_a1 : Fld Z h0 a1 "java/lang/AbstractStringBuilder" "coder" "B" (.int 0)) (hc3 : ¬ (w2 = (0 : Int32))) (hc10 : (0 : Int32) = (0 : Int32)) :
    MetFree l ym09 (head1 (Jvm.Cond.code ym09 jdk_68_method_68_code 1 (some .boolean) :: ws) rm_00) (fun a U => a = #[(.ref a1)] ∧ Z.Warmed39 U.vm ∧ U.heap = h0) (fun _ _ _ _ _ => True) (fun _ U o U' => ∃ v L, o = .returned v ∧ Qrm25 Z a1 w2 h0 n0 v U'.heap L ∧ FrameEnd U o U' L rm_00.cells rm_00.slots) := by
  refine MetFree.of_bodySF (plainFor_of_name pn_15) hisR ?_
  intro p e s m args below meth c s₁ Bd hml0 hP hK
  obtain ⟨rfl, hZ, hh⟩ := hP
  have hx := Bd.exec
  have hby := Bd.bytes
  have hown : s.vm.findClass "java/lang/AbstractStringBuilder" = some m.cls := findClass_of_methodNamed Bd.named
  have X0 : Stand p l e rm_00 s m #[(.ref a1)] below meth c s₁ [] 0 0 := Stand.of_body Bd
  have e0 : s₁.heap = h0 := by rw [← hh, Bd.state]; rfl
  have N0 := Fr.nil n0
  let aa1 : Array Slot := #[.val (.ref a1)]
  have pre0 : ∀ t, Steps p.tables e below (s₁.setTop (mkF m 0 aa1 [])) t → Steps p.tables e below (s₁.setTop (entryFrame m #[(.ref a1)] 1)) t := fun t k => castTop (ef_11 m a1) k
  obtain ⟨T3, X3, e3, st3⟩ := getS2 X0 hx hZ hown (host := "") (Or.inl (ww hw 100 rfl)) Via.refl e0 S_COMPACT_STRINGS (g := (mkF m 0 aa1 [])) rfl (hb hby d25_0)
  obtain ⟨T5, X5, e5, st5⟩ := getF X3 hx hZ hown (host := "") (Or.inl (ww hw 65 rfl)) Via.refl e3 F_coder_a1 (g := (mkF m 7 aa1 [(.ref a1)])) rfl rfl (hb hby d25_7)
  obtain ⟨fs, hr, hrun, hended, hW, hsame⟩ := X5.leave (v := some (.int 1)) (fun h => by rw [Bd.returns] at h; cases h)
  refine ⟨_, _, pre0 _ ?_, hrun, hended, _, _, rfl, ?_, ⟨_, rfl⟩, hW, hsame.mono (by decide) (by decide)⟩
  · show Sw s₁ m 0 aa1 [] _
    refine st3 _ ?_
    show Sw T3 m 3 aa1 [(.int w2)] _
    refine XS.ifNo X3.here hx rfl (hb hby d25_3) rfl ((if0 _ _).trans (feq hc3).1) ?_
    show Sw T3 m 6 aa1 [] _
    refine XS.aloadN X3.here hx rfl (hb hby d25_6) rfl rfl ?_
    show Sw T3 m 7 aa1 [(.ref a1)] _
    refine st5 _ ?_
    show Sw T5 m 10 aa1 [(.int 0)] _
    refine XS.ifNo X5.here hx rfl (hb hby d25_10) rfl ((if0 _ _).trans (teq hc10).2) ?_
    show Sw T5 m 13 aa1 [] _
    refine XS.iconst X5.here hx rfl (hb hby d25_13) ?_
    show Sw T5 m 14 aa1 [(.int 1)] _
    refine XS.goto X5.here hx rfl (pc0 := 14) (pc' := 18) rfl (hb hby d25_14) (by decide) (by decide) ?_
    show Sw T5 m 18 aa1 [(.int 1)] _
    exact retN X5 hx (t := .boolean) Bd.returns (by simp) (hb hby d25_18) hr
  · show Qrm25 Z a1 w2 h0 n0 _ T5.heap _
    rw [e5]
    exact ⟨rfl, N0, rfl⟩
theorem d26_0 : decode cd10 0 = .ok (.iload_n 0, 1) := by decide +kernel
theorem d26_1 : decode cd10 1 = .ok (.sipush 255, 3) := by decide +kernel
theorem d26_4 : decode cd10 4 = .ok (.if_icmp .gt 7, 3) := by decide +kernel
theorem d26_7 : decode cd10 7 = .ok (.iconst 1, 1) := by decide +kernel
theorem d26_8 : decode cd10 8 = .ok (.goto 4, 3) := by decide +kernel
theorem d26_12 : decode cd10 12 = .ok (.ireturn, 1) := by decide +kernel
theorem pn_26 : plainName "java/lang/StringLatin1" = true := by first | (simp [plainName, overriddenIn]; done) | decide +kernel
theorem ef_26 (m : MethodId) (x0 : Int32) : entryFrame m #[(.int x0)] 1 = mkF m 0 #[.val (.int x0)] [] := by first | (simp [entryFrame, mkF, argsToLocals, Value.category]; done) | rfl
def Qrm26 (Z : State) (p1 : Int32) (h0 : Heap) (n0 : Nat) (v : Option Value) (h : Heap) (L : List Loc) : Prop := v = some (.int 1) ∧ Fr n0 L ∧ h = h0
set_option maxRecDepth 65536 in
set_option maxHeartbeats 40000000 in
theorem rm26 (l : Launch) (Z : State) (a0 : Array Value) (hw : HW a0 Z) (ws : List Jvm.Cond) (p1 : Int32) (h0 : Heap) (n0 : Nat) (Z0 : n0 ≤ h0.size) (hc4 : ¬ ((255 : Int32) < p1)) :
    MetFree l ym10 (head1 (Jvm.Cond.code ym10 jdk_43_method_3_code 1 (some .boolean) :: ws) rm_00) (fun a U => a = #[(.int p1)] ∧ Z.Warmed39 U.vm ∧ U.heap = h0) (fun _ _ _ _ _ => True) (fun _ U o U' => ∃ v L, o = .returned v ∧ Qrm26 Z p1 h0 n0 v U'.heap L ∧ FrameEnd U o U' L rm_00.cells rm_00.slots) := by
  refine MetFree.of_bodySF (plainFor_of_name pn_26) hisR ?_
  intro p e s m args below meth c s₁ Bd hml0 hP hK
  obtain ⟨rfl, hZ, hh⟩ := hP
  have hx := Bd.exec
  have hby := Bd.bytes
  have X0 : Stand p l e rm_00 s m #[(.int p1)] below meth c s₁ [] 0 0 := Stand.of_body Bd
  have e0 : s₁.heap = h0 := by rw [← hh, Bd.state]; rfl
  have N0 := Fr.nil n0
  let aa1 : Array Slot := #[.val (.int p1)]
  have pre0 : ∀ t, Steps p.tables e below (s₁.setTop (mkF m 0 aa1 [])) t → Steps p.tables e below (s₁.setTop (entryFrame m #[(.int p1)] 1)) t := fun t k => castTop (ef_26 m p1) k
  obtain ⟨fs, hr, hrun, hended, hW, hsame⟩ := X0.leave (v := some (.int 1)) (fun h => by rw [Bd.returns] at h; cases h)
  refine ⟨_, _, pre0 _ ?_, hrun, hended, _, _, rfl, ?_, ⟨_, rfl⟩, hW, hsame.mono (by decide) (by decide)⟩
  · show Sw s₁ m 0 aa1 [] _
    refine XS.iloadN X0.here hx rfl (hb hby d26_0) rfl ?_
    show Sw s₁ m 1 aa1 [(.int p1)] _
    refine XS.sipush X0.here hx rfl (hb hby d26_1) ?_
    show Sw s₁ m 4 aa1 [(.int 255), (.int p1)] _
    refine XS.icmpNo X0.here hx rfl (hb hby d26_4) rfl (flt hc4).2.2.1 ?_
    show Sw s₁ m 7 aa1 [] _
    refine XS.iconst X0.here hx rfl (hb hby d26_7) ?_
    show Sw s₁ m 8 aa1 [(.int 1)] _
    refine XS.goto X0.here hx rfl (pc0 := 8) (pc' := 12) rfl (hb hby d26_8) (by decide) (by decide) ?_
    show Sw s₁ m 12 aa1 [(.int 1)] _
    exact retN X0 hx (t := .boolean) Bd.returns (by simp) (hb hby d26_12) hr
  · show Qrm26 Z p1 h0 n0 _ s₁.heap _
    rw [e0]
    exact ⟨rfl, N0, rfl⟩
theorem d24_0 : decode cd11 0 = .ok (.aload_n 0, 1) := by decide +kernel
theorem d24_1 : decode cd11 1 = .ok (.aload_n 0, 1) := by decide +kernel
theorem d24_2 : decode cd11 2 = .ok (.getfield 79, 3) := by decide +kernel
theorem d24_5 : decode cd11 5 = .ok (.iconst 1, 1) := by decide +kernel
theorem d24_6 : decode cd11 6 = .ok (.iadd, 1) := by decide +kernel
theorem d24_7 : decode cd11 7 = .ok (.invokevirtual 100, 3) := by decide +kernel
theorem d24_10 : decode cd11 10 = .ok (.aload_n 0, 1) := by decide +kernel
theorem d24_11 : decode cd11 11 = .ok (.invokevirtual 83, 3) := by decide +kernel
theorem d24_14 : decode cd11 14 = .ok (.ifCond .eq 31, 3) := by decide +kernel
theorem d24_17 : decode cd11 17 = .ok (.iload_n 1, 1) := by decide +kernel
theorem d24_18 : decode cd11 18 = .ok (.invokestatic 191, 3) := by decide +kernel
theorem d24_21 : decode cd11 21 = .ok (.ifCond .eq 24, 3) := by decide +kernel
theorem d24_24 : decode cd11 24 = .ok (.aload_n 0, 1) := by decide +kernel
theorem d24_25 : decode cd11 25 = .ok (.getfield 15, 3) := by decide +kernel
theorem d24_28 : decode cd11 28 = .ok (.aload_n 0, 1) := by decide +kernel
theorem d24_29 : decode cd11 29 = .ok (.dup, 1) := by decide +kernel
theorem d24_30 : decode cd11 30 = .ok (.getfield 79, 3) := by decide +kernel
theorem d24_33 : decode cd11 33 = .ok (.dup_x1, 1) := by decide +kernel
theorem d24_34 : decode cd11 34 = .ok (.iconst 1, 1) := by decide +kernel
theorem d24_35 : decode cd11 35 = .ok (.iadd, 1) := by decide +kernel
theorem d24_36 : decode cd11 36 = .ok (.putfield 79, 3) := by decide +kernel
theorem d24_39 : decode cd11 39 = .ok (.iload_n 1, 1) := by decide +kernel
theorem d24_40 : decode cd11 40 = .ok (.i2b, 1) := by decide +kernel
theorem d24_41 : decode cd11 41 = .ok (.bastore, 1) := by decide +kernel
theorem d24_42 : decode cd11 42 = .ok (.goto 33, 3) := by decide +kernel
theorem d24_75 : decode cd11 75 = .ok (.aload_n 0, 1) := by decide +kernel
theorem d24_76 : decode cd11 76 = .ok (.areturn, 1) := by decide +kernel
theorem pd_24_18 : parseMethodDescriptor "()Z" = some ⟨[], some .boolean⟩ := by decide +kernel
theorem pd_24_19 : parseMethodDescriptor "(C)Z" = some ⟨[.char], some .boolean⟩ := by decide +kernel
theorem ef_24 (m : MethodId) (x0 : Addr) (x1 : Int32) : entryFrame m #[(.ref x0), (.int x1)] 2 = mkF m 0 #[.val (.ref x0), .val (.int x1)] [] := by first | (simp [entryFrame, mkF, argsToLocals, Value.category]; done) | rfl
def Qrm24 (Z : State) (a1 : Addr) (p2 : Int32) (w3 : Int32) (w8 : Addr) (kb : ClassId) (cap : Int32) (vs : List Value) (G1 : Int32) (h0 : Heap) (n0 : Nat) (v : Option Value) (h : Heap) (L : List Loc) : Prop := v = some (.ref a1) ∧ Fr n0 L ∧ Keep h0 h [a1, w8] ∧ own_B Z h a1 w8 kb cap (w3 + (1 : Int32)) (vs ++ [.int (p2.toInt8.toInt32)])
set_option maxRecDepth 65536 in
set_option maxHeartbeats 40000000 in
theorem rm24 (l : Launch) (Z : State) (a0 : Array Value) (hw : HW a0 Z) (ws : List Jvm.Cond) (a1 : Addr) (p2 : Int32) (w3 : Int32) (w8 : Addr) (kb : ClassId) (cap : Int32) (vs : List Value) (G1 : Int32) (h0 : Heap) (n0 : Nat) (Z0 : n0 ≤ h0.size) (SC : Sta Z h0 "java/lang/String" "COMPACT_STRINGS" "Z" (.int G1)) (P3 : ¬ (G1 = (0 : Int32))) (BB : own_B Z h0 a1 w8 kb cap w3 vs) (RR : own_R cap w3 1) (c5 : ¬ ((255 : Int32) < p2)) (F_count_a1 : Fld Z h0 a1 "java/lang/AbstractStringBuilder" "count" "I" (.int w3)) (E_a1 : Exa Z h0 a1 "java/lang/StringBuilder") (F_value_a1 : Fld Z h0 a1 "java/lang/AbstractStringBuilder" "value" "[B" (.ref w8)) (g_a1 : n0 ≤ a1) (g_w8 : n0 ≤ w8) :
    MetFree l ym11 (head1 (Jvm.Cond.code ym11 jdk_68_method_31_code 2 (some (.object "java/lang/AbstractStringBuilder")) :: ws) rm_07) (fun a U => a = #[(.ref a1), (.int p2)] ∧ Z.Warmed39 U.vm ∧ U.heap = h0) (fun _ _ _ _ _ => True) (fun _ U o U' => ∃ v L, o = .returned v ∧ Qrm24 Z a1 p2 w3 w8 kb cap vs G1 h0 n0 v U'.heap L ∧ FrameEnd U o U' L rm_07.cells rm_07.slots) := by
  refine MetFree.of_bodySF (plainFor_of_name pn_15) hisR ?_
  intro p e s m args below meth c s₁ Bd hml0 hP hK
  obtain ⟨rfl, hZ, hh⟩ := hP
  have hx := Bd.exec
  have hby := Bd.bytes
  have hml : c.maxLocals = 2 := hml0
  have hown : s.vm.findClass "java/lang/AbstractStringBuilder" = some m.cls := findClass_of_methodNamed Bd.named
  have X0 : Stand p l e rm_07 s m #[(.ref a1), (.int p2)] below meth c s₁ [] 0 0 := Stand.of_body Bd
  have e0 : s₁.heap = h0 := by rw [← hh, Bd.state]; rfl
  have N0 := Fr.nil n0
  let aa1 : Array Slot := #[.val (.ref a1), .val (.int p2)]
  have pre0 : ∀ t, Steps p.tables e below (s₁.setTop (mkF m 0 aa1 [])) t → Steps p.tables e below (s₁.setTop (entryFrame m #[(.ref a1), (.int p2)] 2)) t := fun t k => castTop (ef_24 m a1 p2) k
  obtain ⟨T4, X4, e4, st4⟩ := getF X0 hx hZ hown (host := "") (Or.inl (ww hw 83 rfl)) Via.refl e0 F_count_a1 (g := (mkF m 2 aa1 [(.ref a1), (.ref a1)])) rfl rfl (hb hby d24_2)
  obtain ⟨cq5, q5, q5'⟩ := E_a1.cell
  obtain ⟨clb, Ab, Cb, Sb, Nb, Hb, Gb⟩ := id (BB.2.2.2.2.1.pad (pad_rep vs (.int 0) 1))
  have ne := BB.1.neArv BB.2.2.2.2.1 (ww hw 38 rfl)
  have k1 : (1 : Int32).toNatClampNeg = 1 := rfl
  have i41 : w3.toNatClampNeg < cap.toNatClampNeg := by have := RR.2.1; omega
  have hin41 : ¬ (w3 < 0 ∨ clb.slots.size ≤ (w3).toNatClampNeg) := by rintro (q | q); exact BB.2.2.2.2.2.2 q; omega
  obtain ⟨_, _, ⟨T5, L5, k5, n5⟩, -, X5, ⟨Lc5, hQ5, l5, y5, z5⟩, st5⟩ := X4.privateBack hx (y := ym02) hown (mvT hZ (ww hw 85 rfl)) (mvT hZ (ww hw 86 rfl)) (own_sel (Cond.privateMethod_at (mvP hZ (ww hw 87 rfl) (args := #[]))) (mvT hZ (ww hw 86 rfl)) (mvT hZ (ww hw 88 rfl)) (by decide)) (Cond.privateMethod_at (mvP hZ (ww hw 87 rfl) (args := #[]))) (mvT hZ (ww hw 89 rfl)) (by decide) (backOf (W := 0) (rm15 l Z a0 hw [] a1 (w3 + (1 : Int32)) w8 clb cap h0 n0 Z0 BB.2.1 Ab Sb Nb BB.2.2.1 RR.1) hZ (ww hw 89 rfl) (ww hw 50 rfl) (by decide) (by decide)) (g := (mkF m 7 aa1 [(.int (w3 + (1 : Int32))), (.ref a1)])) rfl (by rw [hml]; rfl) (Steps.refl _) (a := a1) (by rw [e4]; exact q5) q5' (argsL := [(.int (w3 + (1 : Int32)))]) (rest := []) (lenOf pd_14_11 rfl) rfl (wz rfl) (hb hby d24_7) (fun _ _ => ⟨rfl, e4, (by decide : 0 + 0 ≤ _), (by decide : 0 + 0 ≤ _)⟩)
  dsimp only [Pt.U, Pt.locs, Pt.cells, Pt.slots] at X5 l5 y5 z5 st5 hQ5
  subst l5 y5 z5
  obtain ⟨rfl, N5q, e5⟩ := hQ5
  have N5 := Fr.app N0 N5q
  obtain ⟨cq6, kq6, q6a, q6b, q6c⟩ := isOf hZ e5 E_a1
  obtain ⟨_, _, ⟨T6, L6, k6, n6⟩, -, X6, ⟨Lc6, hQ6, l6, y6, z6⟩, st6⟩ := X5.virtualBack hx (y := ym09) (z := ym09) hown (mvT hZ (ww hw 151 rfl)) (mvT hZ (ww hw 152 rfl)) (notFace_of_selects (args := #[]) (mvT hZ (ww hw 154 rfl))) (mvT hZ (ww hw 154 rfl)) (mvT hZ (ww hw 153 rfl)) (by decide) (backOf (W := 0) (rm25 l Z a0 hw [] a1 G1 h0 n0 Z0 SC BB.2.2.1 P3 rfl) hZ (ww hw 155 rfl) (ww hw 50 rfl) (by decide) (by decide)) q6a q6c (g := (mkF m 11 aa1 [(.ref a1)])) rfl (by rw [hml]; rfl) (Steps.refl _) (argsL := []) (rest := []) (lenOf pd_24_18 rfl) rfl (wz rfl) (hb hby d24_11) (fun _ _ => ⟨rfl, e5, (by decide : 0 + 0 ≤ _), (by decide : 0 + 0 ≤ _)⟩)
  dsimp only [Pt.U, Pt.locs, Pt.cells, Pt.slots] at X6 l6 y6 z6 st6 hQ6
  subst l6 y6 z6
  obtain ⟨rfl, N6q, e6⟩ := hQ6
  have N6 := Fr.app N5 N6q
  obtain ⟨_, _, ⟨T7, L7, k7, n7⟩, -, X7, ⟨Lc7, hQ7, l7, y7, z7⟩, st7⟩ := Jvm.LawKit.callS X6 hx (y := ym10) hown (mvT hZ (ww hw 156 rfl)) (mvT hZ (ww hw 157 rfl)) (mvT hZ (ww hw 158 rfl)) (mvT hZ (ww hw 159 rfl)) (by decide) (backOf (W := 0) (rm26 l Z a0 hw [] p2 h0 n0 Z0 c5) hZ (ww hw 159 rfl) (ww hw 158 rfl) (by decide) (by decide)) (g := (mkF m 18 aa1 [(.int p2)])) rfl (by rw [hml]; rfl) (argsL := [(.int p2)]) (rest := []) (lenOf pd_24_19 rfl) rfl (wz rfl) (hb hby d24_18) (fun _ _ => ⟨rfl, e6, (by decide : 0 + 0 ≤ _), (by decide : 0 + 0 ≤ _)⟩)
  dsimp only [Pt.U, Pt.locs, Pt.cells, Pt.slots] at X7 l7 y7 z7 st7 hQ7
  subst l7 y7 z7
  obtain ⟨rfl, N7q, e7⟩ := hQ7
  have N7 := Fr.app N6 N7q
  obtain ⟨T9, X9, e9, st9⟩ := getF X7 hx hZ hown (host := "") (Or.inl (ww hw 67 rfl)) Via.refl e7 F_value_a1 (g := (mkF m 25 aa1 [(.ref a1)])) rfl rfl (hb hby d24_25)
  obtain ⟨T11, X11, e11, st11⟩ := getF X9 hx hZ hown (host := "") (Or.inl (ww hw 83 rfl)) Via.refl e9 F_count_a1 (g := (mkF m 30 aa1 [(.ref a1), (.ref a1), (.ref w8)])) rfl rfl (hb hby d24_30)
  obtain ⟨T12, h12, X12, e12, W12, st12⟩ := putF X11 hx hZ hown (host := "") (Or.inl (ww hw 83 rfl)) Via.refl e11 F_count_a1 E_a1 (Or.inl (ww hw 84 rfl)) (ww hw 38 rfl) (ty := .int) (by decide) rfl rfl (g := (mkF m 36 aa1 [(.int (w3 + (1 : Int32))), (.ref a1), (.int w3), (.ref w8)])) rfl rfl (hb hby d24_36)
  have Fw12 := F_count_a1.same W12
  have K12 : Keep h0 h12 [a1, w8] := (Keep.refl h0 _).wr W12 (Or.inl (wi 0 rfl))
  have N12 := Fr.snoc X12 N7 g_a1
  obtain ⟨T13, h13, X13, e13, W13, st13⟩ := stB X12 hx hZ e12 (Ab.other W12 ne.symm) (j := w3) hin41 (g := (mkF m 41 aa1 [(.int (p2.toInt8.toInt32)), (.int w3), (.ref w8)])) rfl rfl (hb hby d24_41)
  have N13 := Fr.snoc X13 N12 g_w8
  have K13 : Keep h0 h13 [a1, w8] := K12.wr W13 (Or.inl (wi 1 rfl))
  obtain ⟨fs, hr, hrun, hended, hW, hsame⟩ := X13.leave (v := some (.ref a1)) (fun h => by rw [Bd.returns] at h; cases h)
  refine ⟨_, _, pre0 _ ?_, hrun, hended, _, _, rfl, ?_, ⟨_, rfl⟩, hW, hsame.mono (by decide) (by decide)⟩
  · show Sw s₁ m 0 aa1 [] _
    refine XS.aloadN X0.here hx rfl (hb hby d24_0) rfl rfl ?_
    show Sw s₁ m 1 aa1 [(.ref a1)] _
    refine XS.aloadN X0.here hx rfl (hb hby d24_1) rfl rfl ?_
    show Sw s₁ m 2 aa1 [(.ref a1), (.ref a1)] _
    refine st4 _ ?_
    show Sw T4 m 5 aa1 [(.int w3), (.ref a1)] _
    refine XS.iconst X4.here hx rfl (hb hby d24_5) ?_
    show Sw T4 m 6 aa1 [(.int 1), (.int w3), (.ref a1)] _
    refine XS.iadd X4.here hx rfl (hb hby d24_6) rfl ?_
    show Sw T4 m 7 aa1 [(.int (w3 + (1 : Int32))), (.ref a1)] _
    refine st5.trans ?_
    show Sw T5 m 10 aa1 [] _
    refine XS.aloadN X5.here hx rfl (hb hby d24_10) rfl rfl ?_
    show Sw T5 m 11 aa1 [(.ref a1)] _
    refine st6.trans ?_
    show Sw T6 m 14 aa1 [(.int 1)] _
    refine XS.ifNo X6.here hx rfl (hb hby d24_14) rfl ((if0 _ _).trans (feq (by decide : ¬ ((1 : Int32) = (0 : Int32)))).1) ?_
    show Sw T6 m 17 aa1 [] _
    refine XS.iloadN X6.here hx rfl (hb hby d24_17) rfl ?_
    show Sw T6 m 18 aa1 [(.int p2)] _
    refine st7 _ ?_
    show Sw T7 m 21 aa1 [(.int 1)] _
    refine XS.ifNo X7.here hx rfl (hb hby d24_21) rfl ((if0 _ _).trans (feq (by decide : ¬ ((1 : Int32) = (0 : Int32)))).1) ?_
    show Sw T7 m 24 aa1 [] _
    refine XS.aloadN X7.here hx rfl (hb hby d24_24) rfl rfl ?_
    show Sw T7 m 25 aa1 [(.ref a1)] _
    refine st9 _ ?_
    show Sw T9 m 28 aa1 [(.ref w8)] _
    refine XS.aloadN X9.here hx rfl (hb hby d24_28) rfl rfl ?_
    show Sw T9 m 29 aa1 [(.ref a1), (.ref w8)] _
    refine XS.dup X9.here hx rfl (hb hby d24_29) rfl rfl ?_
    show Sw T9 m 30 aa1 [(.ref a1), (.ref a1), (.ref w8)] _
    refine st11 _ ?_
    show Sw T11 m 33 aa1 [(.int w3), (.ref a1), (.ref w8)] _
    refine XS.dupX1 X11.here hx rfl (hb hby d24_33) rfl rfl rfl ?_
    show Sw T11 m 34 aa1 [(.int w3), (.ref a1), (.int w3), (.ref w8)] _
    refine XS.iconst X11.here hx rfl (hb hby d24_34) ?_
    show Sw T11 m 35 aa1 [(.int 1), (.int w3), (.ref a1), (.int w3), (.ref w8)] _
    refine XS.iadd X11.here hx rfl (hb hby d24_35) rfl ?_
    show Sw T11 m 36 aa1 [(.int (w3 + (1 : Int32))), (.ref a1), (.int w3), (.ref w8)] _
    refine st12 _ ?_
    show Sw T12 m 39 aa1 [(.int w3), (.ref w8)] _
    refine XS.iloadN X12.here hx rfl (hb hby d24_39) rfl ?_
    show Sw T12 m 40 aa1 [(.int p2), (.int w3), (.ref w8)] _
    refine XS.i2b X12.here hx rfl (hb hby d24_40) rfl ?_
    show Sw T12 m 41 aa1 [(.int (p2.toInt8.toInt32)), (.int w3), (.ref w8)] _
    refine st13 _ ?_
    show Sw T13 m 42 aa1 [] _
    refine XS.goto X13.here hx rfl (pc0 := 42) (pc' := 75) rfl (hb hby d24_42) (by decide) (by decide) ?_
    show Sw T13 m 75 aa1 [] _
    refine XS.aloadN X13.here hx rfl (hb hby d24_75) rfl rfl ?_
    show Steps p.tables e below (T13.setTop (mkF m 76 aa1 [(.ref a1)])) _
    jvm_step X13.here [X13.here.top, hx, (hb hby d24_76), X13.method', Bd.returns, Value.isRef, FieldType.isReference]
    first | (intro acts; rw [hr _ acts rfl rfl rfl]) | rw [hr _ _ rfl rfl rfl]
    exact Steps.refl _
  · show Qrm24 Z a1 p2 w3 w8 kb cap vs G1 h0 n0 _ T13.heap _
    rw [e13]
    have V13 := Arv.set (Ab.other W12 ne.symm) Cb Sb Nb Hb Gb (fits_nar_byte _) W13 vs.length BB.2.2.2.2.2.1 (by simp)
    rw [own_push, own_nb] at V13
    exact ⟨rfl, N13, K13, (BB.1.wr W12).wr W13, (BB.2.1.other W12 (Or.inr (slot_ne (Or.inl (ww hw 68 rfl)) (Or.inl (ww hw 84 rfl)) (by decide) (t := (.array .byte)) (t' := .int) (by decide) (by decide)))).other W13 (Or.inl ne), (BB.2.2.1.other W12 (Or.inr (slot_ne (Or.inl (ww hw 66 rfl)) (Or.inl (ww hw 84 rfl)) (by decide) (t := .byte) (t' := .int) (by decide) (by decide)))).other W13 (Or.inl ne), Fw12.other W13 (Or.inl ne), V13, by rw [RR.2.2.1, BB.2.2.2.2.2.1, List.length_append]; rfl, RR.2.2.2.1⟩
theorem d23_0 : decode cd12 0 = .ok (.aload_n 0, 1) := by decide +kernel
theorem d23_1 : decode cd12 1 = .ok (.iload_n 1, 1) := by decide +kernel
theorem d23_2 : decode cd12 2 = .ok (.invokespecial 50, 3) := by decide +kernel
theorem d23_5 : decode cd12 5 = .ok (.pop, 1) := by decide +kernel
theorem d23_6 : decode cd12 6 = .ok (.aload_n 0, 1) := by decide +kernel
theorem d23_7 : decode cd12 7 = .ok (.areturn, 1) := by decide +kernel
theorem pd_23_17 : parseMethodDescriptor "(C)Ljava/lang/AbstractStringBuilder;" = some ⟨[.char], some (.object "java/lang/AbstractStringBuilder")⟩ := by decide +kernel
def Qrm23 (Z : State) (a1 : Addr) (p2 : Int32) (w3 : Int32) (w8 : Addr) (kb : ClassId) (cap : Int32) (vs : List Value) (G1 : Int32) (h0 : Heap) (n0 : Nat) (v : Option Value) (h : Heap) (L : List Loc) : Prop := v = some (.ref a1) ∧ Fr n0 L ∧ Keep h0 h [a1, w8] ∧ own_B Z h a1 w8 kb cap (w3 + (1 : Int32)) (vs ++ [.int (p2.toInt8.toInt32)])
set_option maxRecDepth 65536 in
set_option maxHeartbeats 40000000 in
theorem rm23 (l : Launch) (Z : State) (a0 : Array Value) (hw : HW a0 Z) (ws : List Jvm.Cond) (a1 : Addr) (p2 : Int32) (w3 : Int32) (w8 : Addr) (kb : ClassId) (cap : Int32) (vs : List Value) (G1 : Int32) (h0 : Heap) (n0 : Nat) (Z0 : n0 ≤ h0.size) (SC : Sta Z h0 "java/lang/String" "COMPACT_STRINGS" "Z" (.int G1)) (P3 : ¬ (G1 = (0 : Int32))) (BB : own_B Z h0 a1 w8 kb cap w3 vs) (RR : own_R cap w3 1) (c5 : ¬ ((255 : Int32) < p2)) (g_a1 : n0 ≤ a1) (g_w8 : n0 ≤ w8) (E_a1 : Exa Z h0 a1 "java/lang/StringBuilder") :
    MetFree l ym12 (head1 (Jvm.Cond.code ym12 jdk_67_method_14_code 2 (some (.object "java/lang/StringBuilder")) :: ws) rm_08) (fun a U => a = #[(.ref a1), (.int p2)] ∧ Z.Warmed39 U.vm ∧ U.heap = h0) (fun _ _ _ _ _ => True) (fun _ U o U' => ∃ v L, o = .returned v ∧ Qrm23 Z a1 p2 w3 w8 kb cap vs G1 h0 n0 v U'.heap L ∧ FrameEnd U o U' L rm_08.cells rm_08.slots) := by
  refine MetFree.of_bodySF (plainFor_of_name pn_13) hisR ?_
  intro p e s m args below meth c s₁ Bd hml0 hP hK
  obtain ⟨rfl, hZ, hh⟩ := hP
  have hx := Bd.exec
  have hby := Bd.bytes
  have hml : c.maxLocals = 2 := hml0
  have hown : s.vm.findClass "java/lang/StringBuilder" = some m.cls := findClass_of_methodNamed Bd.named
  have X0 : Stand p l e rm_08 s m #[(.ref a1), (.int p2)] below meth c s₁ [] 0 0 := Stand.of_body Bd
  have e0 : s₁.heap = h0 := by rw [← hh, Bd.state]; rfl
  have N0 := Fr.nil n0
  let aa1 : Array Slot := #[.val (.ref a1), .val (.int p2)]
  have pre0 : ∀ t, Steps p.tables e below (s₁.setTop (mkF m 0 aa1 [])) t → Steps p.tables e below (s₁.setTop (entryFrame m #[(.ref a1), (.int p2)] 2)) t := fun t k => castTop (ef_24 m a1 p2) k
  obtain ⟨_, _, ⟨T3, L3, k3, n3⟩, -, X3, ⟨Lc3, hQ3, l3, y3, z3⟩, st3⟩ := superBack X0 hx hZ (y := ym11) hown (ww hw 147 rfl) (own_same (ww hw 148 rfl) (ww hw 88 rfl) (by decide) rfl) (ww hw 148 rfl) (ww hw 81 rfl) (by decide) (backOf (W := 0) (rm24 l Z a0 hw [] a1 p2 w3 w8 kb cap vs G1 h0 n0 Z0 SC P3 BB RR c5 BB.2.2.2.1 BB.1 BB.2.1 g_a1 g_w8) hZ (ww hw 150 rfl) (ww hw 50 rfl) (by decide) (by decide)) e0 (Ins.self E_a1) (g := (mkF m 2 aa1 [(.int p2), (.ref a1)])) rfl (by rw [hml]; rfl) (ww hw 150 rfl) (argsL := [(.int p2)]) (rest := []) (lenOf pd_23_17 rfl) rfl (wz rfl) (hb hby d23_2) (fun _ _ => ⟨rfl, e0, (by decide : 0 + 0 ≤ _), (by decide : 0 + 0 ≤ _)⟩)
  dsimp only [Pt.U, Pt.locs, Pt.cells, Pt.slots] at X3 l3 y3 z3 st3 hQ3
  subst l3 y3 z3
  obtain ⟨rfl, N3q, K3, B3⟩ := hQ3
  have N3 := Fr.app N0 N3q
  obtain ⟨fs, hr, hrun, hended, hW, hsame⟩ := X3.leave (v := some (.ref a1)) (fun h => by rw [Bd.returns] at h; cases h)
  refine ⟨_, _, pre0 _ ?_, hrun, hended, _, _, rfl, ?_, ⟨_, rfl⟩, hW, hsame.mono (by decide) (by decide)⟩
  · show Sw s₁ m 0 aa1 [] _
    refine XS.aloadN X0.here hx rfl (hb hby d23_0) rfl rfl ?_
    show Sw s₁ m 1 aa1 [(.ref a1)] _
    refine XS.iloadN X0.here hx rfl (hb hby d23_1) rfl ?_
    show Sw s₁ m 2 aa1 [(.int p2), (.ref a1)] _
    refine st3.trans ?_
    show Sw T3 m 5 aa1 [(.ref a1)] _
    refine XS.pop X3.here hx rfl (hb hby d23_5) rfl rfl ?_
    show Sw T3 m 6 aa1 [] _
    refine XS.aloadN X3.here hx rfl (hb hby d23_6) rfl rfl ?_
    show Steps p.tables e below (T3.setTop (mkF m 7 aa1 [(.ref a1)])) _
    jvm_step X3.here [X3.here.top, hx, (hb hby d23_7), X3.method', Bd.returns, Value.isRef, FieldType.isReference]
    first | (intro acts; rw [hr _ acts rfl rfl rfl]) | rw [hr _ _ rfl rfl rfl]
    exact Steps.refl _
  · show Qrm23 Z a1 p2 w3 w8 kb cap vs G1 h0 n0 _ T3.heap _
    exact ⟨rfl, N3, K3, B3⟩
theorem d58_0 : decode cd13 0 = .ok (.iload_n 0, 1) := by decide +kernel
theorem d58_1 : decode cd13 1 = .ok (.iload_n 1, 1) := by decide +kernel
theorem d58_2 : decode cd13 2 = .ok (.if_icmp .lt 7, 3) := by decide +kernel
theorem d58_9 : decode cd13 9 = .ok (.iload_n 1, 1) := by decide +kernel
theorem d58_10 : decode cd13 10 = .ok (.ireturn, 1) := by decide +kernel
theorem ef_58 (m : MethodId) (x0 : Int32) (x1 : Int32) : entryFrame m #[(.int x0), (.int x1)] 2 = mkF m 0 #[.val (.int x0), .val (.int x1)] [] := by first | (simp [entryFrame, mkF, argsToLocals, Value.category]; done) | rfl
def Qrm58 (Z : State) (p1 : Int32) (p2 : Int32) (h0 : Heap) (n0 : Nat) (v : Option Value) (h : Heap) (L : List Loc) : Prop := v = some (.int p2) ∧ Fr n0 L ∧ h = h0
set_option maxRecDepth 65536 in
set_option maxHeartbeats 40000000 in
theorem rm58 (l : Launch) (Z : State) (a0 : Array Value) (hw : HW a0 Z) (ws : List Jvm.Cond) (p1 : Int32) (p2 : Int32) (h0 : Heap) (n0 : Nat) (Z0 : n0 ≤ h0.size) (hc2 : p1 < p2) :
    MetFree l ym13 (head1 (Jvm.Cond.code ym13 jdk_29_method_65_code 2 (some .int) :: ws) rm_00) (fun a U => a = #[(.int p1), (.int p2)] ∧ Z.Warmed39 U.vm ∧ U.heap = h0) (fun _ _ _ _ _ => True) (fun _ U o U' => ∃ v L, o = .returned v ∧ Qrm58 Z p1 p2 h0 n0 v U'.heap L ∧ FrameEnd U o U' L rm_00.cells rm_00.slots) := by
  refine MetFree.of_bodySF (Jvm.Free.JP.mathPlain rfl (by decide +kernel)) hisR ?_
  intro p e s m args below meth c s₁ Bd hml0 hP hK
  obtain ⟨rfl, hZ, hh⟩ := hP
  have hx := Bd.exec
  have hby := Bd.bytes
  have X0 : Stand p l e rm_00 s m #[(.int p1), (.int p2)] below meth c s₁ [] 0 0 := Stand.of_body Bd
  have e0 : s₁.heap = h0 := by rw [← hh, Bd.state]; rfl
  have N0 := Fr.nil n0
  let aa1 : Array Slot := #[.val (.int p1), .val (.int p2)]
  have pre0 : ∀ t, Steps p.tables e below (s₁.setTop (mkF m 0 aa1 [])) t → Steps p.tables e below (s₁.setTop (entryFrame m #[(.int p1), (.int p2)] 2)) t := fun t k => castTop (ef_58 m p1 p2) k
  obtain ⟨fs, hr, hrun, hended, hW, hsame⟩ := X0.leave (v := some (.int p2)) (fun h => by rw [Bd.returns] at h; cases h)
  refine ⟨_, _, pre0 _ ?_, hrun, hended, _, _, rfl, ?_, ⟨_, rfl⟩, hW, hsame.mono (by decide) (by decide)⟩
  · show Sw s₁ m 0 aa1 [] _
    refine XS.iloadN X0.here hx rfl (hb hby d58_0) rfl ?_
    show Sw s₁ m 1 aa1 [(.int p1)] _
    refine XS.iloadN X0.here hx rfl (hb hby d58_1) rfl ?_
    show Sw s₁ m 2 aa1 [(.int p2), (.int p1)] _
    refine XS.icmpYes X0.here hx rfl (pc0 := 2) (pc' := 9) rfl (hb hby d58_2) rfl (tlt hc2).1 (by decide) (by decide) ?_
    show Sw s₁ m 9 aa1 [] _
    refine XS.iloadN X0.here hx rfl (hb hby d58_9) rfl ?_
    show Sw s₁ m 10 aa1 [(.int p2)] _
    exact retI X0 hx Bd.returns (hb hby d58_10) hr
  · show Qrm58 Z p1 p2 h0 n0 _ s₁.heap _
    rw [e0]
    exact ⟨rfl, N0, rfl⟩
theorem d47_0 : decode cd14 0 = .ok (.iload_n 0, 1) := by decide +kernel
theorem d47_1 : decode cd14 1 = .ok (.iload_n 1, 1) := by decide +kernel
theorem d47_2 : decode cd14 2 = .ok (.if_icmp .gt 7, 3) := by decide +kernel
theorem d47_5 : decode cd14 5 = .ok (.iload_n 0, 1) := by decide +kernel
theorem d47_6 : decode cd14 6 = .ok (.goto 4, 3) := by decide +kernel
theorem d47_10 : decode cd14 10 = .ok (.ireturn, 1) := by decide +kernel
def Qrm47 (Z : State) (p1 : Int32) (p2 : Int32) (h0 : Heap) (n0 : Nat) (v : Option Value) (h : Heap) (L : List Loc) : Prop := v = some (.int p1) ∧ Fr n0 L ∧ h = h0
set_option maxRecDepth 65536 in
set_option maxHeartbeats 40000000 in
theorem rm47 (l : Launch) (Z : State) (a0 : Array Value) (hw : HW a0 Z) (ws : List Jvm.Cond) (p1 : Int32) (p2 : Int32) (h0 : Heap) (n0 : Nat) (Z0 : n0 ≤ h0.size) (hc2 : ¬ (p2 < p1)) :
    MetFree l ym14 (head1 (Jvm.Cond.code ym14 jdk_29_method_69_code 2 (some .int) :: ws) rm_00) (fun a U => a = #[(.int p1), (.int p2)] ∧ Z.Warmed39 U.vm ∧ U.heap = h0) (fun _ _ _ _ _ => True) (fun _ U o U' => ∃ v L, o = .returned v ∧ Qrm47 Z p1 p2 h0 n0 v U'.heap L ∧ FrameEnd U o U' L rm_00.cells rm_00.slots) := by
  refine MetFree.of_bodySF (Jvm.Free.JP.mathPlain rfl (by decide +kernel)) hisR ?_
  intro p e s m args below meth c s₁ Bd hml0 hP hK
  obtain ⟨rfl, hZ, hh⟩ := hP
  have hx := Bd.exec
  have hby := Bd.bytes
  have X0 : Stand p l e rm_00 s m #[(.int p1), (.int p2)] below meth c s₁ [] 0 0 := Stand.of_body Bd
  have e0 : s₁.heap = h0 := by rw [← hh, Bd.state]; rfl
  have N0 := Fr.nil n0
  let aa1 : Array Slot := #[.val (.int p1), .val (.int p2)]
  have pre0 : ∀ t, Steps p.tables e below (s₁.setTop (mkF m 0 aa1 [])) t → Steps p.tables e below (s₁.setTop (entryFrame m #[(.int p1), (.int p2)] 2)) t := fun t k => castTop (ef_58 m p1 p2) k
  obtain ⟨fs, hr, hrun, hended, hW, hsame⟩ := X0.leave (v := some (.int p1)) (fun h => by rw [Bd.returns] at h; cases h)
  refine ⟨_, _, pre0 _ ?_, hrun, hended, _, _, rfl, ?_, ⟨_, rfl⟩, hW, hsame.mono (by decide) (by decide)⟩
  · show Sw s₁ m 0 aa1 [] _
    refine XS.iloadN X0.here hx rfl (hb hby d47_0) rfl ?_
    show Sw s₁ m 1 aa1 [(.int p1)] _
    refine XS.iloadN X0.here hx rfl (hb hby d47_1) rfl ?_
    show Sw s₁ m 2 aa1 [(.int p2), (.int p1)] _
    refine XS.icmpNo X0.here hx rfl (hb hby d47_2) rfl (flt hc2).2.2.1 ?_
    show Sw s₁ m 5 aa1 [] _
    refine XS.iloadN X0.here hx rfl (hb hby d47_5) rfl ?_
    show Sw s₁ m 6 aa1 [(.int p1)] _
    refine XS.goto X0.here hx rfl (pc0 := 6) (pc' := 10) rfl (hb hby d47_6) (by decide) (by decide) ?_
    show Sw s₁ m 10 aa1 [(.int p1)] _
    exact retI X0 hx Bd.returns (hb hby d47_10) hr
  · show Qrm47 Z p1 p2 h0 n0 _ s₁.heap _
    rw [e0]
    exact ⟨rfl, N0, rfl⟩
theorem d57_0 : decode cd15 0 = .ok (.iload_n 0, 1) := by decide +kernel
theorem d57_1 : decode cd15 1 = .ok (.iload_n 1, 1) := by decide +kernel
theorem d57_2 : decode cd15 2 = .ok (.iload_n 2, 1) := by decide +kernel
theorem d57_3 : decode cd15 3 = .ok (.invokestatic 194, 3) := by decide +kernel
theorem d57_6 : decode cd15 6 = .ok (.iadd, 1) := by decide +kernel
theorem d57_7 : decode cd15 7 = .ok (.istore_n 3, 1) := by decide +kernel
theorem d57_8 : decode cd15 8 = .ok (.iconst 0, 1) := by decide +kernel
theorem d57_9 : decode cd15 9 = .ok (.iload_n 3, 1) := by decide +kernel
theorem d57_10 : decode cd15 10 = .ok (.if_icmp .ge 11, 3) := by decide +kernel
theorem d57_13 : decode cd15 13 = .ok (.iload_n 3, 1) := by decide +kernel
theorem d57_14 : decode cd15 14 = .ok (.ldc 200, 2) := by decide +kernel
theorem d57_16 : decode cd15 16 = .ok (.if_icmp .gt 5, 3) := by decide +kernel
theorem d57_19 : decode cd15 19 = .ok (.iload_n 3, 1) := by decide +kernel
theorem d57_20 : decode cd15 20 = .ok (.ireturn, 1) := by decide +kernel
theorem pn_57 : plainName "jdk/internal/util/ArraysSupport" = true := by first | (simp [plainName, overriddenIn]; done) | decide +kernel
theorem pd_57_21 : parseMethodDescriptor "(II)I" = some ⟨[.int, .int], some .int⟩ := by decide +kernel
theorem ef_57 (m : MethodId) (x0 : Int32) (x1 : Int32) (x2 : Int32) : entryFrame m #[(.int x0), (.int x1), (.int x2)] 4 = mkF m 0 #[.val (.int x0), .val (.int x1), .val (.int x2), .unset] [] := by first | (simp [entryFrame, mkF, argsToLocals, Value.category]; done) | rfl
def Qrm57 (Z : State) (h0 : Heap) (n0 : Nat) (v : Option Value) (h : Heap) (L : List Loc) : Prop := v = some (.int 112) ∧ Fr n0 L ∧ h = h0
set_option maxRecDepth 65536 in
set_option maxHeartbeats 40000000 in
theorem rm57 (l : Launch) (Z : State) (a0 : Array Value) (hw : HW a0 Z) (ws : List Jvm.Cond) (h0 : Heap) (n0 : Nat) (Z0 : n0 ≤ h0.size) :
    MetFree l ym15 (head1 (Jvm.Cond.code ym15 jdk_48_method_27_code 4 (some .int) :: ws) rm_07) (fun a U => a = #[(.int 55), (.int ((56 : Int32) - (55 : Int32))), (.int ((55 : Int32) + (2 : Int32)))] ∧ Z.Warmed39 U.vm ∧ U.heap = h0) (fun _ _ _ _ _ => True) (fun _ U o U' => ∃ v L, o = .returned v ∧ Qrm57 Z h0 n0 v U'.heap L ∧ FrameEnd U o U' L rm_07.cells rm_07.slots) := by
  refine MetFree.of_bodySF (plainFor_of_name pn_57) hisR ?_
  intro p e s m args below meth c s₁ Bd hml0 hP hK
  obtain ⟨rfl, hZ, hh⟩ := hP
  have hx := Bd.exec
  have hby := Bd.bytes
  have hml : c.maxLocals = 4 := hml0
  have hown : s.vm.findClass "jdk/internal/util/ArraysSupport" = some m.cls := findClass_of_methodNamed Bd.named
  have X0 : Stand p l e rm_07 s m #[(.int 55), (.int ((56 : Int32) - (55 : Int32))), (.int ((55 : Int32) + (2 : Int32)))] below meth c s₁ [] 0 0 := Stand.of_body Bd
  have e0 : s₁.heap = h0 := by rw [← hh, Bd.state]; rfl
  have N0 := Fr.nil n0
  let aa1 : Array Slot := #[.val (.int 55), .val (.int ((56 : Int32) - (55 : Int32))), .val (.int ((55 : Int32) + (2 : Int32))), .unset]
  have pre0 : ∀ t, Steps p.tables e below (s₁.setTop (mkF m 0 aa1 [])) t → Steps p.tables e below (s₁.setTop (entryFrame m #[(.int 55), (.int ((56 : Int32) - (55 : Int32))), (.int ((55 : Int32) + (2 : Int32)))] 4)) t := fun t k => castTop (ef_57 m (55 : Int32) ((56 : Int32) - (55 : Int32)) ((55 : Int32) + (2 : Int32))) k
  obtain ⟨_, _, ⟨T4, L4, k4, n4⟩, -, X4, ⟨Lc4, hQ4, l4, y4, z4⟩, st4⟩ := Jvm.LawKit.callS X0 hx (y := ym13) hown (mvT hZ (ww hw 316 rfl)) (mvT hZ (ww hw 317 rfl)) (mvT hZ (ww hw 265 rfl)) (mvT hZ (ww hw 318 rfl)) (by decide) (backOf (W := 1) (rm58 l Z a0 hw [] ((56 : Int32) - (55 : Int32)) ((55 : Int32) + (2 : Int32)) h0 n0 Z0 (by decide)) hZ (ww hw 318 rfl) (ww hw 265 rfl) (by decide) (by decide)) (g := (mkF m 3 aa1 [(.int ((55 : Int32) + (2 : Int32))), (.int ((56 : Int32) - (55 : Int32))), (.int 55)])) rfl (by rw [hml]; rfl) (argsL := [(.int ((56 : Int32) - (55 : Int32))), (.int ((55 : Int32) + (2 : Int32)))]) (rest := [(.int 55)]) (lenOf pd_57_21 rfl) rfl (wz rfl) (hb hby d57_3) (fun _ _ => ⟨rfl, e0, (by decide : 0 + 0 ≤ _), (by decide : 0 + 0 ≤ _)⟩)
  dsimp only [Pt.U, Pt.locs, Pt.cells, Pt.slots] at X4 l4 y4 z4 st4 hQ4
  subst l4 y4 z4
  obtain ⟨rfl, N4q, e4⟩ := hQ4
  have N4 := Fr.app N0 N4q
  obtain ⟨fs, hr, hrun, hended, hW, hsame⟩ := X4.leave (v := some (.int ((55 : Int32) + ((55 : Int32) + (2 : Int32))))) (fun h => by rw [Bd.returns] at h; cases h)
  refine ⟨_, _, pre0 _ ?_, hrun, hended, _, _, rfl, ?_, ⟨_, rfl⟩, hW, hsame.mono (by decide) (by decide)⟩
  · show Sw s₁ m 0 aa1 [] _
    refine XS.iloadN X0.here hx rfl (hb hby d57_0) rfl ?_
    show Sw s₁ m 1 aa1 [(.int 55)] _
    refine XS.iloadN X0.here hx rfl (hb hby d57_1) rfl ?_
    show Sw s₁ m 2 aa1 [(.int ((56 : Int32) - (55 : Int32))), (.int 55)] _
    refine XS.iloadN X0.here hx rfl (hb hby d57_2) rfl ?_
    show Sw s₁ m 3 aa1 [(.int ((55 : Int32) + (2 : Int32))), (.int ((56 : Int32) - (55 : Int32))), (.int 55)] _
    refine st4 _ ?_
    show Sw T4 m 6 aa1 [(.int ((55 : Int32) + (2 : Int32))), (.int 55)] _
    refine XS.iadd X4.here hx rfl (hb hby d57_6) rfl ?_
    show Sw T4 m 7 aa1 [(.int ((55 : Int32) + ((55 : Int32) + (2 : Int32))))] _
    let aa2 : Array Slot := #[.val (.int 55), .val (.int ((56 : Int32) - (55 : Int32))), .val (.int ((55 : Int32) + (2 : Int32))), .val (.int ((55 : Int32) + ((55 : Int32) + (2 : Int32))))]
    refine XS.istoreN X4.here hx rfl (hb hby d57_7) rfl (l' := aa2) rfl ?_
    show Sw T4 m 8 aa2 [] _
    refine XS.iconst X4.here hx rfl (hb hby d57_8) ?_
    show Sw T4 m 9 aa2 [(.int 0)] _
    refine XS.iloadN X4.here hx rfl (hb hby d57_9) rfl ?_
    show Sw T4 m 10 aa2 [(.int ((55 : Int32) + ((55 : Int32) + (2 : Int32)))), (.int 0)] _
    refine XS.icmpNo X4.here hx rfl (hb hby d57_10) rfl (tlt (by decide : (0 : Int32) < ((55 : Int32) + ((55 : Int32) + (2 : Int32))))).2.1 ?_
    show Sw T4 m 13 aa2 [] _
    refine XS.iloadN X4.here hx rfl (hb hby d57_13) rfl ?_
    show Sw T4 m 14 aa2 [(.int ((55 : Int32) + ((55 : Int32) + (2 : Int32))))] _
    refine X4.ldcInt hx hown (mvT hZ (ww hw 319 rfl)) (g := (mkF m 14 aa2 [(.int ((55 : Int32) + ((55 : Int32) + (2 : Int32))))])) rfl (hb hby d57_14) _ ?_
    show Sw T4 m 16 aa2 [(.int 2147483639), (.int ((55 : Int32) + ((55 : Int32) + (2 : Int32))))] _
    refine XS.icmpNo X4.here hx rfl (hb hby d57_16) rfl (flt (by decide : ¬ ((2147483639 : Int32) < ((55 : Int32) + ((55 : Int32) + (2 : Int32)))))).2.2.1 ?_
    show Sw T4 m 19 aa2 [] _
    refine XS.iloadN X4.here hx rfl (hb hby d57_19) rfl ?_
    show Sw T4 m 20 aa2 [(.int ((55 : Int32) + ((55 : Int32) + (2 : Int32))))] _
    exact retI X4 hx Bd.returns (hb hby d57_20) hr
  · show Qrm57 Z h0 n0 _ T4.heap _
    exact ⟨rfl, N4, e4⟩
theorem d56_0 : decode cd16 0 = .ok (.aload_n 0, 1) := by decide +kernel
theorem d56_1 : decode cd16 1 = .ok (.getfield 15, 3) := by decide +kernel
theorem d56_4 : decode cd16 4 = .ok (.arraylength, 1) := by decide +kernel
theorem d56_5 : decode cd16 5 = .ok (.istore_n 2, 1) := by decide +kernel
theorem d56_6 : decode cd16 6 = .ok (.iload_n 1, 1) := by decide +kernel
theorem d56_7 : decode cd16 7 = .ok (.aload_n 0, 1) := by decide +kernel
theorem d56_8 : decode cd16 8 = .ok (.getfield 22, 3) := by decide +kernel
theorem d56_11 : decode cd16 11 = .ok (.ishl, 1) := by decide +kernel
theorem d56_12 : decode cd16 12 = .ok (.istore_n 3, 1) := by decide +kernel
theorem d56_13 : decode cd16 13 = .ok (.iload_n 3, 1) := by decide +kernel
theorem d56_14 : decode cd16 14 = .ok (.iload_n 2, 1) := by decide +kernel
theorem d56_15 : decode cd16 15 = .ok (.isub, 1) := by decide +kernel
theorem d56_16 : decode cd16 16 = .ok (.istore 4, 2) := by decide +kernel
theorem d56_18 : decode cd16 18 = .ok (.iload_n 2, 1) := by decide +kernel
theorem d56_19 : decode cd16 19 = .ok (.iload 4, 2) := by decide +kernel
theorem d56_21 : decode cd16 21 = .ok (.iload_n 2, 1) := by decide +kernel
theorem d56_22 : decode cd16 22 = .ok (.iconst 2, 1) := by decide +kernel
theorem d56_23 : decode cd16 23 = .ok (.aload_n 0, 1) := by decide +kernel
theorem d56_24 : decode cd16 24 = .ok (.getfield 22, 3) := by decide +kernel
theorem d56_27 : decode cd16 27 = .ok (.ishl, 1) := by decide +kernel
theorem d56_28 : decode cd16 28 = .ok (.iadd, 1) := by decide +kernel
theorem d56_29 : decode cd16 29 = .ok (.invokestatic 114, 3) := by decide +kernel
theorem d56_32 : decode cd16 32 = .ok (.istore 5, 2) := by decide +kernel
theorem d56_34 : decode cd16 34 = .ok (.iload 5, 2) := by decide +kernel
theorem d56_36 : decode cd16 36 = .ok (.ldc 39, 2) := by decide +kernel
theorem d56_38 : decode cd16 38 = .ok (.if_icmp .ne 13, 3) := by decide +kernel
theorem d56_51 : decode cd16 51 = .ok (.iload 5, 2) := by decide +kernel
theorem d56_53 : decode cd16 53 = .ok (.aload_n 0, 1) := by decide +kernel
theorem d56_54 : decode cd16 54 = .ok (.getfield 22, 3) := by decide +kernel
theorem d56_57 : decode cd16 57 = .ok (.ishr, 1) := by decide +kernel
theorem d56_58 : decode cd16 58 = .ok (.ireturn, 1) := by decide +kernel
theorem pd_56_37 : parseMethodDescriptor "(III)I" = some ⟨[.int, .int, .int], some .int⟩ := by decide +kernel
theorem ef_56 (m : MethodId) (x0 : Addr) (x1 : Int32) : entryFrame m #[(.ref x0), (.int x1)] 6 = mkF m 0 #[.val (.ref x0), .val (.int x1), .unset, .unset, .unset, .unset] [] := by first | (simp [entryFrame, mkF, argsToLocals, Value.category]; done) | rfl
def Qrm56 (Z : State) (a1 : Addr) (w3 : Addr) (cl_w3 : Cell) (h0 : Heap) (n0 : Nat) (v : Option Value) (h : Heap) (L : List Loc) : Prop := v = some (.int 112) ∧ Fr n0 L ∧ h = h0
set_option maxRecDepth 65536 in
set_option maxHeartbeats 40000000 in
theorem rm56 (l : Launch) (Z : State) (a0 : Array Value) (hw : HW a0 Z) (ws : List Jvm.Cond) (a1 : Addr) (w3 : Addr) (cl_w3 : Cell) (h0 : Heap) (n0 : Nat) (Z0 : n0 ≤ h0.size) (F_value_a1 : Fld Z h0 a1 "java/lang/AbstractStringBuilder" "value" "[B" (.ref w3)) (Ar_w3 : Arr Z h0 w3 cl_w3 .byte) (S_w3 : cl_w3.slots.size = (55 : Int32).toNatClampNeg) (N_w3 : ¬ (55 : Int32) < 0) (F_coder_a1 : Fld Z h0 a1 "java/lang/AbstractStringBuilder" "coder" "B" (.int 0)) :
    MetFree l ym16 (head1 (Jvm.Cond.code ym16 jdk_68_method_10_code 6 (some .int) :: ws) rm_09) (fun a U => a = #[(.ref a1), (.int 56)] ∧ Z.Warmed39 U.vm ∧ U.heap = h0) (fun _ _ _ _ _ => True) (fun _ U o U' => ∃ v L, o = .returned v ∧ Qrm56 Z a1 w3 cl_w3 h0 n0 v U'.heap L ∧ FrameEnd U o U' L rm_09.cells rm_09.slots) := by
  refine MetFree.of_bodySF (plainFor_of_name pn_15) hisR ?_
  intro p e s m args below meth c s₁ Bd hml0 hP hK
  obtain ⟨rfl, hZ, hh⟩ := hP
  have hx := Bd.exec
  have hby := Bd.bytes
  have hml : c.maxLocals = 6 := hml0
  have hown : s.vm.findClass "java/lang/AbstractStringBuilder" = some m.cls := findClass_of_methodNamed Bd.named
  have X0 : Stand p l e rm_09 s m #[(.ref a1), (.int 56)] below meth c s₁ [] 0 0 := Stand.of_body Bd
  have e0 : s₁.heap = h0 := by rw [← hh, Bd.state]; rfl
  have N0 := Fr.nil n0
  let aa1 : Array Slot := #[.val (.ref a1), .val (.int 56), .unset, .unset, .unset, .unset]
  have pre0 : ∀ t, Steps p.tables e below (s₁.setTop (mkF m 0 aa1 [])) t → Steps p.tables e below (s₁.setTop (entryFrame m #[(.ref a1), (.int 56)] 6)) t := fun t k => castTop (ef_56 m a1 (56 : Int32)) k
  obtain ⟨T4, X4, e4, st4⟩ := getF X0 hx hZ hown (host := "") (Or.inl (ww hw 67 rfl)) Via.refl e0 F_value_a1 (g := (mkF m 1 aa1 [(.ref a1)])) rfl rfl (hb hby d56_1)
  let aa2 : Array Slot := #[.val (.ref a1), .val (.int 56), .val (.int 55), .unset, .unset, .unset]
  obtain ⟨T6, X6, e6, st6⟩ := getF X4 hx hZ hown (host := "") (Or.inl (ww hw 65 rfl)) Via.refl e4 F_coder_a1 (g := (mkF m 8 aa2 [(.ref a1), (.int 56)])) rfl rfl (hb hby d56_8)
  let aa3 : Array Slot := #[.val (.ref a1), .val (.int 56), .val (.int 55), .val (.int ((56 : Int32) <<< ((0 : Int32) &&& 31))), .val (.int (((56 : Int32) <<< ((0 : Int32) &&& 31)) - (55 : Int32))), .unset]
  obtain ⟨T7, X7, e7, st7⟩ := getF X6 hx hZ hown (host := "") (Or.inl (ww hw 65 rfl)) Via.refl e6 F_coder_a1 (g := (mkF m 24 aa3 [(.ref a1), (.int 2), (.int 55), (.int (((56 : Int32) <<< ((0 : Int32) &&& 31)) - (55 : Int32))), (.int 55)])) rfl rfl (hb hby d56_24)
  obtain ⟨_, _, ⟨T8, L8, k8, n8⟩, -, X8, ⟨Lc8, hQ8, l8, y8, z8⟩, st8⟩ := Jvm.LawKit.callS X7 hx (y := ym15) hown (mvT hZ (ww hw 312 rfl)) (mvT hZ (ww hw 313 rfl)) (mvT hZ (ww hw 314 rfl)) (mvT hZ (ww hw 315 rfl)) (by decide) (backOf (W := 0) (rm57 l Z a0 hw [] h0 n0 Z0) hZ (ww hw 315 rfl) (ww hw 314 rfl) (by decide) (by decide)) (g := (mkF m 29 aa3 [(.int ((55 : Int32) + ((2 : Int32) <<< ((0 : Int32) &&& 31)))), (.int (((56 : Int32) <<< ((0 : Int32) &&& 31)) - (55 : Int32))), (.int 55)])) rfl (by rw [hml]; rfl) (argsL := [(.int 55), (.int (((56 : Int32) <<< ((0 : Int32) &&& 31)) - (55 : Int32))), (.int ((55 : Int32) + ((2 : Int32) <<< ((0 : Int32) &&& 31))))]) (rest := []) (lenOf pd_56_37 rfl) rfl (wz rfl) (hb hby d56_29) (fun _ _ => ⟨rfl, e7, (by decide : 0 + 0 ≤ _), (by decide : 0 + 0 ≤ _)⟩)
  dsimp only [Pt.U, Pt.locs, Pt.cells, Pt.slots] at X8 l8 y8 z8 st8 hQ8
  subst l8 y8 z8
  obtain ⟨rfl, N8q, e8⟩ := hQ8
  have N8 := Fr.app N0 N8q
  let aa4 : Array Slot := #[.val (.ref a1), .val (.int 56), .val (.int 55), .val (.int ((56 : Int32) <<< ((0 : Int32) &&& 31))), .val (.int (((56 : Int32) <<< ((0 : Int32) &&& 31)) - (55 : Int32))), .val (.int 112)]
  obtain ⟨T10, X10, e10, st10⟩ := getF X8 hx hZ hown (host := "") (Or.inl (ww hw 65 rfl)) Via.refl e8 F_coder_a1 (g := (mkF m 54 aa4 [(.ref a1), (.int 112)])) rfl rfl (hb hby d56_54)
  obtain ⟨fs, hr, hrun, hended, hW, hsame⟩ := X10.leave (v := some (.int ((112 : Int32) >>> ((0 : Int32) &&& 31)))) (fun h => by rw [Bd.returns] at h; cases h)
  refine ⟨_, _, pre0 _ ?_, hrun, hended, _, _, rfl, ?_, ⟨_, rfl⟩, hW, hsame.mono (by decide) (by decide)⟩
  · show Sw s₁ m 0 aa1 [] _
    refine XS.aloadN X0.here hx rfl (hb hby d56_0) rfl rfl ?_
    show Sw s₁ m 1 aa1 [(.ref a1)] _
    refine st4 _ ?_
    show Sw T4 m 4 aa1 [(.ref w3)] _
    refine X4.arraylength hx (by rw [e4]; exact Ar_w3.1) (State.isArrayOf_alike hZ.alike Ar_w3.2.1) (g := (mkF m 4 aa1 [(.ref w3)])) rfl rfl (hb hby d56_4) _ ?_
    rw [len_of S_w3 N_w3]
    show Sw T4 m 5 aa1 [(.int 55)] _
    refine XS.istoreN X4.here hx rfl (hb hby d56_5) rfl (l' := aa2) rfl ?_
    show Sw T4 m 6 aa2 [] _
    refine XS.iloadN X4.here hx rfl (hb hby d56_6) rfl ?_
    show Sw T4 m 7 aa2 [(.int 56)] _
    refine XS.aloadN X4.here hx rfl (hb hby d56_7) rfl rfl ?_
    show Sw T4 m 8 aa2 [(.ref a1), (.int 56)] _
    refine st6 _ ?_
    show Sw T6 m 11 aa2 [(.int 0), (.int 56)] _
    refine XS.ishl X6.here hx rfl (hb hby d56_11) rfl ?_
    show Sw T6 m 12 aa2 [(.int ((56 : Int32) <<< ((0 : Int32) &&& 31)))] _
    let aa5 : Array Slot := #[.val (.ref a1), .val (.int 56), .val (.int 55), .val (.int ((56 : Int32) <<< ((0 : Int32) &&& 31))), .unset, .unset]
    refine XS.istoreN X6.here hx rfl (hb hby d56_12) rfl (l' := aa5) rfl ?_
    show Sw T6 m 13 aa5 [] _
    refine XS.iloadN X6.here hx rfl (hb hby d56_13) rfl ?_
    show Sw T6 m 14 aa5 [(.int ((56 : Int32) <<< ((0 : Int32) &&& 31)))] _
    refine XS.iloadN X6.here hx rfl (hb hby d56_14) rfl ?_
    show Sw T6 m 15 aa5 [(.int 55), (.int ((56 : Int32) <<< ((0 : Int32) &&& 31)))] _
    refine XS.isub X6.here hx rfl (hb hby d56_15) rfl ?_
    show Sw T6 m 16 aa5 [(.int (((56 : Int32) <<< ((0 : Int32) &&& 31)) - (55 : Int32)))] _
    refine XS.istore X6.here hx rfl (hb hby d56_16) rfl (l' := aa3) rfl ?_
    show Sw T6 m 18 aa3 [] _
    refine XS.iloadN X6.here hx rfl (hb hby d56_18) rfl ?_
    show Sw T6 m 19 aa3 [(.int 55)] _
    refine XS.iload X6.here hx rfl (hb hby d56_19) rfl ?_
    show Sw T6 m 21 aa3 [(.int (((56 : Int32) <<< ((0 : Int32) &&& 31)) - (55 : Int32))), (.int 55)] _
    refine XS.iloadN X6.here hx rfl (hb hby d56_21) rfl ?_
    show Sw T6 m 22 aa3 [(.int 55), (.int (((56 : Int32) <<< ((0 : Int32) &&& 31)) - (55 : Int32))), (.int 55)] _
    refine XS.iconst X6.here hx rfl (hb hby d56_22) ?_
    show Sw T6 m 23 aa3 [(.int 2), (.int 55), (.int (((56 : Int32) <<< ((0 : Int32) &&& 31)) - (55 : Int32))), (.int 55)] _
    refine XS.aloadN X6.here hx rfl (hb hby d56_23) rfl rfl ?_
    show Sw T6 m 24 aa3 [(.ref a1), (.int 2), (.int 55), (.int (((56 : Int32) <<< ((0 : Int32) &&& 31)) - (55 : Int32))), (.int 55)] _
    refine st7 _ ?_
    show Sw T7 m 27 aa3 [(.int 0), (.int 2), (.int 55), (.int (((56 : Int32) <<< ((0 : Int32) &&& 31)) - (55 : Int32))), (.int 55)] _
    refine XS.ishl X7.here hx rfl (hb hby d56_27) rfl ?_
    show Sw T7 m 28 aa3 [(.int ((2 : Int32) <<< ((0 : Int32) &&& 31))), (.int 55), (.int (((56 : Int32) <<< ((0 : Int32) &&& 31)) - (55 : Int32))), (.int 55)] _
    refine XS.iadd X7.here hx rfl (hb hby d56_28) rfl ?_
    show Sw T7 m 29 aa3 [(.int ((55 : Int32) + ((2 : Int32) <<< ((0 : Int32) &&& 31)))), (.int (((56 : Int32) <<< ((0 : Int32) &&& 31)) - (55 : Int32))), (.int 55)] _
    refine st8 _ ?_
    show Sw T8 m 32 aa3 [(.int 112)] _
    refine XS.istore X8.here hx rfl (hb hby d56_32) rfl (l' := aa4) rfl ?_
    show Sw T8 m 34 aa4 [] _
    refine XS.iload X8.here hx rfl (hb hby d56_34) rfl ?_
    show Sw T8 m 36 aa4 [(.int 112)] _
    refine X8.ldcInt hx hown (mvT hZ (ww hw 320 rfl)) (g := (mkF m 36 aa4 [(.int 112)])) rfl (hb hby d56_36) _ ?_
    show Sw T8 m 38 aa4 [(.int 2147483647), (.int 112)] _
    refine XS.icmpYes X8.here hx rfl (pc0 := 38) (pc' := 51) rfl (hb hby d56_38) rfl (feq (by decide : ¬ ((112 : Int32) = (2147483647 : Int32)))).2 (by decide) (by decide) ?_
    show Sw T8 m 51 aa4 [] _
    refine XS.iload X8.here hx rfl (hb hby d56_51) rfl ?_
    show Sw T8 m 53 aa4 [(.int 112)] _
    refine XS.aloadN X8.here hx rfl (hb hby d56_53) rfl rfl ?_
    show Sw T8 m 54 aa4 [(.ref a1), (.int 112)] _
    refine st10 _ ?_
    show Sw T10 m 57 aa4 [(.int 0), (.int 112)] _
    refine XS.ishr X10.here hx rfl (hb hby d56_57) rfl ?_
    show Sw T10 m 58 aa4 [(.int ((112 : Int32) >>> ((0 : Int32) &&& 31)))] _
    exact retI X10 hx Bd.returns (hb hby d56_58) hr
  · show Qrm56 Z a1 w3 cl_w3 h0 n0 _ T10.heap _
    rw [e10]
    exact ⟨rfl, N8, rfl⟩
theorem d59_0 : decode cd17 0 = .ok (.iload_n 1, 1) := by decide +kernel
theorem d59_1 : decode cd17 1 = .ok (.aload_n 0, 1) := by decide +kernel
theorem d59_2 : decode cd17 2 = .ok (.arraylength, 1) := by decide +kernel
theorem d59_3 : decode cd17 3 = .ok (.if_icmp .ne 11, 3) := by decide +kernel
theorem d59_14 : decode cd17 14 = .ok (.iload_n 1, 1) := by decide +kernel
theorem d59_15 : decode cd17 15 = .ok (.newarray .byte, 2) := by decide +kernel
theorem d59_17 : decode cd17 17 = .ok (.astore_n 2, 1) := by decide +kernel
theorem d59_18 : decode cd17 18 = .ok (.aload_n 0, 1) := by decide +kernel
theorem d59_19 : decode cd17 19 = .ok (.iconst 0, 1) := by decide +kernel
theorem d59_20 : decode cd17 20 = .ok (.aload_n 2, 1) := by decide +kernel
theorem d59_21 : decode cd17 21 = .ok (.iconst 0, 1) := by decide +kernel
theorem d59_22 : decode cd17 22 = .ok (.aload_n 0, 1) := by decide +kernel
theorem d59_23 : decode cd17 23 = .ok (.arraylength, 1) := by decide +kernel
theorem d59_24 : decode cd17 24 = .ok (.iload_n 1, 1) := by decide +kernel
theorem d59_25 : decode cd17 25 = .ok (.invokestatic 304, 3) := by decide +kernel
theorem d59_28 : decode cd17 28 = .ok (.invokestatic 150, 3) := by decide +kernel
theorem d59_31 : decode cd17 31 = .ok (.aload_n 2, 1) := by decide +kernel
theorem d59_32 : decode cd17 32 = .ok (.areturn, 1) := by decide +kernel
theorem pn_59 : plainName "java/util/Arrays" = true := by first | (simp [plainName, overriddenIn]; done) | decide +kernel
def Qrm59 (Z : State) (a1 : Addr) (k_a1 : ClassId) (vs_a1 : List Value) (h0 : Heap) (n0 : Nat) (v : Option Value) (h : Heap) (L : List Loc) : Prop := ∃ x k', h0.size ≤ x ∧ v = some (.ref x) ∧ Fr n0 L ∧ Keep h0 h [] ∧ Arv Z h x k' .byte (112 : Int32) vs_a1 (.int 0)
set_option maxRecDepth 65536 in
set_option maxHeartbeats 40000000 in
theorem rm59 (l : Launch) (Z : State) (a0 : Array Value) (hw : HW a0 Z) (ws : List Jvm.Cond) (a1 : Addr) (k_a1 : ClassId) (vs_a1 : List Value) (h0 : Heap) (n0 : Nat) (Z0 : n0 ≤ h0.size) (c1 : vs_a1.length ≤ 55) (V_a1 : Arv Z h0 a1 k_a1 .byte (55 : Int32) vs_a1 (.int 0)) (hc3 : ¬ ((112 : Int32) = (55 : Int32))) :
    MetFree l ym17 (head1 (Jvm.Cond.code ym17 jdk_65_method_121_code 3 (some (.array .byte)) :: ws) rm_10) (fun a U => a = #[(.ref a1), (.int 112)] ∧ Z.Warmed39 U.vm ∧ U.heap = h0) (fun _ _ _ _ _ => True) (fun _ U o U' => ∃ v L, o = .returned v ∧ Qrm59 Z a1 k_a1 vs_a1 h0 n0 v U'.heap L ∧ FrameEnd U o U' L rm_10.cells rm_10.slots) := by
  refine MetFree.of_bodySF (plainFor_of_name pn_59) hisR ?_
  intro p e s m args below meth c s₁ Bd hml0 hP hK
  obtain ⟨rfl, hZ, hh⟩ := hP
  have hx := Bd.exec
  have hby := Bd.bytes
  have hml : c.maxLocals = 3 := hml0
  have hown : s.vm.findClass "java/util/Arrays" = some m.cls := findClass_of_methodNamed Bd.named
  have X0 : Stand p l e rm_10 s m #[(.ref a1), (.int 112)] below meth c s₁ [] 0 0 := Stand.of_body Bd
  have e0 : s₁.heap = h0 := by rw [← hh, Bd.state]; rfl
  have N0 := Fr.nil n0
  obtain ⟨cl_a1, Ar_a1, C_a1, S_a1, N_a1, H_a1, G_a1⟩ := id V_a1
  let aa1 : Array Slot := #[.val (.ref a1), .val (.int 112), .unset]
  have pre0 : ∀ t, Steps p.tables e below (s₁.setTop (mkF m 0 aa1 [])) t → Steps p.tables e below (s₁.setTop (entryFrame m #[(.ref a1), (.int 112)] 3)) t := fun t k => castTop (ef_15 m a1 (112 : Int32)) k
  obtain ⟨T3, h3, k3, X3, e3, E3, A3, st3⟩ := newP X0 hx hZ (ww hw 19 rfl) e0 (g := (mkF m 15 aa1 [(.int 112)])) rfl (hb hby d59_15) rfl (by decide) (cap := 112) (by decide) (by decide) (by decide) (by decide)
  obtain ⟨b3, g3⟩ : ∃ z, z = h0.size := ⟨_, rfl⟩
  rw [← g3] at A3 st3
  have V_b3 := Arv.new A3 (by decide)
  have g_b3 : n0 ≤ b3 := Nat.le_trans Z0 (Nat.le_of_eq g3.symm)
  have sz_b3 : h0.size ≤ b3 := (Nat.le_trans (Keep.refl h0 []).1 (Nat.le_of_eq g3.symm))
  have K3 : Keep h0 h3 [] := (Keep.refl h0 []).ext E3
  let aa2 : Array Slot := #[.val (.ref a1), .val (.int 112), .val (.ref b3)]
  obtain ⟨_, _, ⟨T4, L4, k4, n4⟩, -, X4, ⟨Lc4, hQ4, l4, y4, z4⟩, st4⟩ := Jvm.LawKit.callS X3 hx (y := ym14) hown (mvT hZ (ww hw 263 rfl)) (mvT hZ (ww hw 264 rfl)) (mvT hZ (ww hw 265 rfl)) (mvT hZ (ww hw 266 rfl)) (by decide) (backOf (W := 4) (rm47 l Z a0 hw [] (55 : Int32) (112 : Int32) h3 n0 (Nat.le_trans Z0 E3.1) (by decide)) hZ (ww hw 266 rfl) (ww hw 265 rfl) (by decide) (by decide)) (g := (mkF m 25 aa2 [(.int 112), (.int 55), (.int 0), (.ref b3), (.int 0), (.ref a1)])) rfl (by rw [hml]; rfl) (argsL := [(.int 55), (.int 112)]) (rest := [(.int 0), (.ref b3), (.int 0), (.ref a1)]) (lenOf pd_57_21 rfl) rfl (wz rfl) (hb hby d59_25) (fun _ _ => ⟨rfl, e3, (by decide : 1 + 0 ≤ _), (by decide : 112 + 0 ≤ _)⟩)
  dsimp only [Pt.U, Pt.locs, Pt.cells, Pt.slots] at X4 l4 y4 z4 st4 hQ4
  subst l4 y4 z4
  obtain ⟨rfl, N4q, e4⟩ := hQ4
  have N4 := Fr.app N0 N4q
  obtain ⟨T5, h5, L5, X5, e5, N5, K5, V5, st5⟩ := cpA X4 hx hZ hown (ww hw 267 rfl) (ww hw 109 rfl) (ww hw 107 rfl) (ww hw 108 rfl) e4 (V_a1.ext E3) (V_b3.pad (pad_rep [] (.int 0) 55)) (Or.inl ⟨rfl, rfl⟩) (by decide) (by decide) (by decide) (by decide) (by decide) rfl (by simp) N4 g_b3 (g := (mkF m 28 aa2 [(.int 55), (.int 0), (.ref b3), (.int 0), (.ref a1)])) rfl (by rw [hml]; rfl) rfl (hb hby d59_28) (by decide) (W := 0) (wz rfl) (by decide)
  obtain ⟨fs, hr, hrun, hended, hW, hsame⟩ := X5.leave (v := some (.ref b3)) (fun h => by rw [Bd.returns] at h; cases h)
  refine ⟨_, _, pre0 _ ?_, hrun, hended, _, _, rfl, ?_, ⟨_, rfl⟩, hW, hsame.mono (by decide) (by decide)⟩
  · show Sw s₁ m 0 aa1 [] _
    refine XS.iloadN X0.here hx rfl (hb hby d59_0) rfl ?_
    show Sw s₁ m 1 aa1 [(.int 112)] _
    refine XS.aloadN X0.here hx rfl (hb hby d59_1) rfl rfl ?_
    show Sw s₁ m 2 aa1 [(.ref a1), (.int 112)] _
    refine X0.arraylength hx (by rw [e0]; exact Ar_a1.1) (State.isArrayOf_alike hZ.alike Ar_a1.2.1) (g := (mkF m 2 aa1 [(.ref a1), (.int 112)])) rfl rfl (hb hby d59_2) _ ?_
    rw [len_of S_a1 N_a1]
    show Sw s₁ m 3 aa1 [(.int 55), (.int 112)] _
    refine XS.icmpYes X0.here hx rfl (pc0 := 3) (pc' := 14) rfl (hb hby d59_3) rfl (feq hc3).2 (by decide) (by decide) ?_
    show Sw s₁ m 14 aa1 [] _
    refine XS.iloadN X0.here hx rfl (hb hby d59_14) rfl ?_
    show Sw s₁ m 15 aa1 [(.int 112)] _
    refine st3 _ ?_
    show Sw T3 m 17 aa1 [(.ref b3)] _
    refine XS.astoreN X3.here hx rfl (hb hby d59_17) rfl rfl (l' := aa2) rfl ?_
    show Sw T3 m 18 aa2 [] _
    refine XS.aloadN X3.here hx rfl (hb hby d59_18) rfl rfl ?_
    show Sw T3 m 19 aa2 [(.ref a1)] _
    refine XS.iconst X3.here hx rfl (hb hby d59_19) ?_
    show Sw T3 m 20 aa2 [(.int 0), (.ref a1)] _
    refine XS.aloadN X3.here hx rfl (hb hby d59_20) rfl rfl ?_
    show Sw T3 m 21 aa2 [(.ref b3), (.int 0), (.ref a1)] _
    refine XS.iconst X3.here hx rfl (hb hby d59_21) ?_
    show Sw T3 m 22 aa2 [(.int 0), (.ref b3), (.int 0), (.ref a1)] _
    refine XS.aloadN X3.here hx rfl (hb hby d59_22) rfl rfl ?_
    show Sw T3 m 23 aa2 [(.ref a1), (.int 0), (.ref b3), (.int 0), (.ref a1)] _
    refine X3.arraylength hx (by rw [e3]; exact (Ar_a1.ext E3).1) (State.isArrayOf_alike hZ.alike Ar_a1.2.1) (g := (mkF m 23 aa2 [(.ref a1), (.int 0), (.ref b3), (.int 0), (.ref a1)])) rfl rfl (hb hby d59_23) _ ?_
    rw [len_of S_a1 N_a1]
    show Sw T3 m 24 aa2 [(.int 55), (.int 0), (.ref b3), (.int 0), (.ref a1)] _
    refine XS.iloadN X3.here hx rfl (hb hby d59_24) rfl ?_
    show Sw T3 m 25 aa2 [(.int 112), (.int 55), (.int 0), (.ref b3), (.int 0), (.ref a1)] _
    refine st4 _ ?_
    show Sw T4 m 28 aa2 [(.int 55), (.int 0), (.ref b3), (.int 0), (.ref a1)] _
    refine st5 _ ?_
    show Sw T5 m 31 aa2 [] _
    refine XS.aloadN X5.here hx rfl (hb hby d59_31) rfl rfl ?_
    show Steps p.tables e below (T5.setTop (mkF m 32 aa2 [(.ref b3)])) _
    jvm_step X5.here [X5.here.top, hx, (hb hby d59_32), X5.method', Bd.returns, Value.isRef, FieldType.isReference]
    first | (intro acts; rw [hr _ acts rfl rfl rfl]) | rw [hr _ _ rfl rfl rfl]
    exact Steps.refl _
  · show Qrm59 Z a1 k_a1 vs_a1 h0 n0 _ T5.heap _
    rw [e5]
    exact ⟨b3, k3, sz_b3, rfl, N5, K3.trans K5 (allS (Or.inr sz_b3) all0), V5.pad (own_cpy vs_a1 _ 55 c1)⟩
theorem d15_17 : decode cd02 17 = .ok (.aload_n 0, 1) := by decide +kernel
theorem d15_18 : decode cd02 18 = .ok (.aload_n 0, 1) := by decide +kernel
theorem d15_19 : decode cd02 19 = .ok (.getfield 15, 3) := by decide +kernel
theorem d15_22 : decode cd02 22 = .ok (.aload_n 0, 1) := by decide +kernel
theorem d15_23 : decode cd02 23 = .ok (.iload_n 1, 1) := by decide +kernel
theorem d15_24 : decode cd02 24 = .ok (.invokevirtual 104, 3) := by decide +kernel
theorem d15_27 : decode cd02 27 = .ok (.aload_n 0, 1) := by decide +kernel
theorem d15_28 : decode cd02 28 = .ok (.getfield 22, 3) := by decide +kernel
theorem d15_31 : decode cd02 31 = .ok (.ishl, 1) := by decide +kernel
theorem d15_32 : decode cd02 32 = .ok (.invokestatic 108, 3) := by decide +kernel
theorem d15_35 : decode cd02 35 = .ok (.putfield 15, 3) := by decide +kernel
theorem pd_15_36 : parseMethodDescriptor "(I)I" = some ⟨[.int], some .int⟩ := by decide +kernel
theorem pd_15_38 : parseMethodDescriptor "([BI)[B" = some ⟨[(.array .byte), .int], some (.array .byte)⟩ := by decide +kernel
def Qrm15g (Z : State) (a1 : Addr) (w3 : Addr) (k_w3 : ClassId) (vs_w3 : List Value) (n : Int32) (h0 : Heap) (n0 : Nat) (v : Option Value) (h : Heap) (L : List Loc) : Prop := ∃ x k', h0.size ≤ x ∧ v = none ∧ Fr n0 L ∧ Keep h0 h [a1] ∧ own_B Z h a1 x k' (112 : Int32) n vs_w3
set_option maxRecDepth 65536 in
set_option maxHeartbeats 40000000 in
theorem rm15g (l : Launch) (Z : State) (a0 : Array Value) (hw : HW a0 Z) (ws : List Jvm.Cond) (a1 : Addr) (w3 : Addr) (k_w3 : ClassId) (vs_w3 : List Value) (n : Int32) (h0 : Heap) (n0 : Nat) (Z0 : n0 ≤ h0.size) (c1 : vs_w3.length ≤ 55) (BB : own_B Z h0 a1 w3 k_w3 (55 : Int32) n vs_w3) (F_value_a1 : Fld Z h0 a1 "java/lang/AbstractStringBuilder" "value" "[B" (.ref w3)) (V_w3 : Arv Z h0 w3 k_w3 .byte (55 : Int32) vs_w3 (.int 0)) (F_coder_a1 : Fld Z h0 a1 "java/lang/AbstractStringBuilder" "coder" "B" (.int 0)) (E_a1 : Exa Z h0 a1 "java/lang/StringBuilder") (g_a1 : n0 ≤ a1) (hc14 : (0 : Int32) < ((56 : Int32) - ((55 : Int32) >>> ((0 : Int32) &&& 31)))) :
    MetFree l ym02 (head1 (Jvm.Cond.code ym02 jdk_68_method_9_code 3 none :: ws) rm_11) (fun a U => a = #[(.ref a1), (.int 56)] ∧ Z.Warmed39 U.vm ∧ U.heap = h0) (fun _ _ _ _ _ => True) (fun _ U o U' => ∃ v L, o = .returned v ∧ Qrm15g Z a1 w3 k_w3 vs_w3 n h0 n0 v U'.heap L ∧ FrameEnd U o U' L rm_11.cells rm_11.slots) := by
  refine MetFree.of_bodySF (plainFor_of_name pn_15) hisR ?_
  intro p e s m args below meth c s₁ Bd hml0 hP hK
  obtain ⟨rfl, hZ, hh⟩ := hP
  have hx := Bd.exec
  have hby := Bd.bytes
  have hml : c.maxLocals = 3 := hml0
  have hown : s.vm.findClass "java/lang/AbstractStringBuilder" = some m.cls := findClass_of_methodNamed Bd.named
  have X0 : Stand p l e rm_11 s m #[(.ref a1), (.int 56)] below meth c s₁ [] 0 0 := Stand.of_body Bd
  have e0 : s₁.heap = h0 := by rw [← hh, Bd.state]; rfl
  have N0 := Fr.nil n0
  obtain ⟨cl_w3, Ar_w3, C_w3, S_w3, N_w3, H_w3, G_w3⟩ := id V_w3
  let aa1 : Array Slot := #[.val (.ref a1), .val (.int 56), .unset]
  have pre0 : ∀ t, Steps p.tables e below (s₁.setTop (mkF m 0 aa1 [])) t → Steps p.tables e below (s₁.setTop (entryFrame m #[(.ref a1), (.int 56)] 3)) t := fun t k => castTop (ef_15 m a1 (56 : Int32)) k
  obtain ⟨T4, X4, e4, st4⟩ := getF X0 hx hZ hown (host := "") (Or.inl (ww hw 67 rfl)) Via.refl e0 F_value_a1 (g := (mkF m 1 aa1 [(.ref a1)])) rfl rfl (hb hby d15_1)
  obtain ⟨T6, X6, e6, st6⟩ := getF X4 hx hZ hown (host := "") (Or.inl (ww hw 65 rfl)) Via.refl e4 F_coder_a1 (g := (mkF m 6 aa1 [(.ref a1), (.int 55)])) rfl rfl (hb hby d15_6)
  let aa2 : Array Slot := #[.val (.ref a1), .val (.int 56), .val (.int ((55 : Int32) >>> ((0 : Int32) &&& 31)))]
  obtain ⟨T7, X7, e7, st7⟩ := getF X6 hx hZ hown (host := "") (Or.inl (ww hw 67 rfl)) Via.refl e6 F_value_a1 (g := (mkF m 19 aa2 [(.ref a1), (.ref a1)])) rfl rfl (hb hby d15_19)
  obtain ⟨cq8, q8, q8'⟩ := E_a1.cell
  obtain ⟨_, _, ⟨T8, L8, k8, n8⟩, -, X8, ⟨Lc8, hQ8, l8, y8, z8⟩, st8⟩ := X7.privateBack hx (y := ym16) hown (mvT hZ (ww hw 307 rfl)) (mvT hZ (ww hw 308 rfl)) (own_sel (Cond.privateMethod_at (mvP hZ (ww hw 309 rfl) (args := #[]))) (mvT hZ (ww hw 308 rfl)) (mvT hZ (ww hw 310 rfl)) (by decide)) (Cond.privateMethod_at (mvP hZ (ww hw 309 rfl) (args := #[]))) (mvT hZ (ww hw 311 rfl)) (by decide) (backOf (W := 2) (rm56 l Z a0 hw [] a1 w3 cl_w3 h0 n0 Z0 BB.2.1 Ar_w3 S_w3 N_w3 BB.2.2.1) hZ (ww hw 311 rfl) (ww hw 50 rfl) (by decide) (by decide)) (g := (mkF m 24 aa2 [(.int 56), (.ref a1), (.ref w3), (.ref a1)])) rfl (by rw [hml]; rfl) (Steps.refl _) (a := a1) (by rw [e7]; exact q8) q8' (argsL := [(.int 56)]) (rest := [(.ref w3), (.ref a1)]) (lenOf pd_15_36 rfl) rfl (wz rfl) (hb hby d15_24) (fun _ _ => ⟨rfl, e7, (by decide : 0 + 0 ≤ _), (by decide : 0 + 0 ≤ _)⟩)
  dsimp only [Pt.U, Pt.locs, Pt.cells, Pt.slots] at X8 l8 y8 z8 st8 hQ8
  subst l8 y8 z8
  obtain ⟨rfl, N8q, e8⟩ := hQ8
  have N8 := Fr.app N0 N8q
  obtain ⟨T10, X10, e10, st10⟩ := getF X8 hx hZ hown (host := "") (Or.inl (ww hw 65 rfl)) Via.refl e8 F_coder_a1 (g := (mkF m 28 aa2 [(.ref a1), (.int 112), (.ref w3), (.ref a1)])) rfl rfl (hb hby d15_28)
  obtain ⟨_, _, ⟨T11, L11, k11, n11⟩, -, X11, ⟨Lc11, hQ11, l11, y11, z11⟩, st11⟩ := Jvm.LawKit.callS X10 hx (y := ym17) hown (mvT hZ (ww hw 321 rfl)) (mvT hZ (ww hw 322 rfl)) (mvT hZ (ww hw 255 rfl)) (mvT hZ (ww hw 323 rfl)) (by decide) (backOf (W := 1) (rm59 l Z a0 hw [] w3 k_w3 vs_w3 h0 n0 Z0 c1 BB.2.2.2.2.1 (by decide)) hZ (ww hw 323 rfl) (ww hw 255 rfl) (by decide) (by decide)) (g := (mkF m 32 aa2 [(.int ((112 : Int32) <<< ((0 : Int32) &&& 31))), (.ref w3), (.ref a1)])) rfl (by rw [hml]; rfl) (argsL := [(.ref w3), (.int ((112 : Int32) <<< ((0 : Int32) &&& 31)))]) (rest := [(.ref a1)]) (lenOf pd_15_38 rfl) rfl (wz rfl) (hb hby d15_32) (fun _ _ => ⟨rfl, e10, (by decide : 0 + 1 ≤ _), (by decide : 0 + 112 ≤ _)⟩)
  dsimp only [Pt.U, Pt.locs, Pt.cells, Pt.slots] at X11 l11 y11 z11 st11 hQ11
  subst l11 y11 z11
  obtain ⟨x11, k11', s11, rfl, N11q, K11, V11⟩ := hQ11
  have N11 := Fr.app N8 N11q
  obtain ⟨T12, h12, X12, e12, W12, st12⟩ := putF X11 hx hZ hown (host := "") (Or.inl (ww hw 67 rfl)) Via.refl rfl (F_value_a1.keep K11 nin0) (E_a1.keep K11) (Or.inl (ww hw 68 rfl)) (ww hw 38 rfl) (ty := (.array .byte)) (by decide) rfl rfl (g := (mkF m 35 aa2 [(.ref x11), (.ref a1)])) rfl rfl (hb hby d15_35)
  have Fw12 := (F_value_a1.keep K11 nin0).same W12
  have K12 : Keep h0 h12 [a1] := (own_more K11).wr W12 (Or.inl (wi 0 rfl))
  have N12 := Fr.snoc X12 N11 g_a1
  obtain ⟨fs, hr, hrun, hended, hW, hsame⟩ := X12.leave (v := none) (fun _ => rfl)
  refine ⟨_, _, pre0 _ ?_, hrun, hended, _, _, rfl, ?_, ⟨_, rfl⟩, hW, hsame.mono (by decide) (by decide)⟩
  · show Sw s₁ m 0 aa1 [] _
    refine XS.aloadN X0.here hx rfl (hb hby d15_0) rfl rfl ?_
    show Sw s₁ m 1 aa1 [(.ref a1)] _
    refine st4 _ ?_
    show Sw T4 m 4 aa1 [(.ref w3)] _
    refine X4.arraylength hx (by rw [e4]; exact Ar_w3.1) (State.isArrayOf_alike hZ.alike Ar_w3.2.1) (g := (mkF m 4 aa1 [(.ref w3)])) rfl rfl (hb hby d15_4) _ ?_
    rw [len_of S_w3 N_w3]
    show Sw T4 m 5 aa1 [(.int 55)] _
    refine XS.aloadN X4.here hx rfl (hb hby d15_5) rfl rfl ?_
    show Sw T4 m 6 aa1 [(.ref a1), (.int 55)] _
    refine st6 _ ?_
    show Sw T6 m 9 aa1 [(.int 0), (.int 55)] _
    refine XS.ishr X6.here hx rfl (hb hby d15_9) rfl ?_
    show Sw T6 m 10 aa1 [(.int ((55 : Int32) >>> ((0 : Int32) &&& 31)))] _
    refine XS.istoreN X6.here hx rfl (hb hby d15_10) rfl (l' := aa2) rfl ?_
    show Sw T6 m 11 aa2 [] _
    refine XS.iloadN X6.here hx rfl (hb hby d15_11) rfl ?_
    show Sw T6 m 12 aa2 [(.int 56)] _
    refine XS.iloadN X6.here hx rfl (hb hby d15_12) rfl ?_
    show Sw T6 m 13 aa2 [(.int ((55 : Int32) >>> ((0 : Int32) &&& 31))), (.int 56)] _
    refine XS.isub X6.here hx rfl (hb hby d15_13) rfl ?_
    show Sw T6 m 14 aa2 [(.int ((56 : Int32) - ((55 : Int32) >>> ((0 : Int32) &&& 31))))] _
    refine XS.ifNo X6.here hx rfl (hb hby d15_14) rfl ((if0 _ _).trans (tlt hc14).2.2.2) ?_
    show Sw T6 m 17 aa2 [] _
    refine XS.aloadN X6.here hx rfl (hb hby d15_17) rfl rfl ?_
    show Sw T6 m 18 aa2 [(.ref a1)] _
    refine XS.aloadN X6.here hx rfl (hb hby d15_18) rfl rfl ?_
    show Sw T6 m 19 aa2 [(.ref a1), (.ref a1)] _
    refine st7 _ ?_
    show Sw T7 m 22 aa2 [(.ref w3), (.ref a1)] _
    refine XS.aloadN X7.here hx rfl (hb hby d15_22) rfl rfl ?_
    show Sw T7 m 23 aa2 [(.ref a1), (.ref w3), (.ref a1)] _
    refine XS.iloadN X7.here hx rfl (hb hby d15_23) rfl ?_
    show Sw T7 m 24 aa2 [(.int 56), (.ref a1), (.ref w3), (.ref a1)] _
    refine st8.trans ?_
    show Sw T8 m 27 aa2 [(.int 112), (.ref w3), (.ref a1)] _
    refine XS.aloadN X8.here hx rfl (hb hby d15_27) rfl rfl ?_
    show Sw T8 m 28 aa2 [(.ref a1), (.int 112), (.ref w3), (.ref a1)] _
    refine st10 _ ?_
    show Sw T10 m 31 aa2 [(.int 0), (.int 112), (.ref w3), (.ref a1)] _
    refine XS.ishl X10.here hx rfl (hb hby d15_31) rfl ?_
    show Sw T10 m 32 aa2 [(.int ((112 : Int32) <<< ((0 : Int32) &&& 31))), (.ref w3), (.ref a1)] _
    refine st11 _ ?_
    show Sw T11 m 35 aa2 [(.ref x11), (.ref a1)] _
    refine st12 _ ?_
    show Sw T12 m 38 aa2 [] _
    exact X12.returnOut hx Bd.returns (hb hby d15_38) hr
  · show Qrm15g Z a1 w3 k_w3 vs_w3 n h0 n0 _ T12.heap _
    rw [e12]
    exact ⟨x11, k11', s11, rfl, N12, K12, (BB.1.keep K11).wr W12, Fw12, (BB.2.2.1.keep K11 nin0).other W12 (Or.inr (slot_ne (Or.inl (ww hw 66 rfl)) (Or.inl (ww hw 68 rfl)) (by decide) (t := .byte) (t' := (.array .byte)) (by decide) (by decide))), (BB.2.2.2.1.keep K11 nin0).other W12 (Or.inr (slot_ne (Or.inl (ww hw 84 rfl)) (Or.inl (ww hw 68 rfl)) (by decide) (t := .int) (t' := (.array .byte)) (by decide) (by decide))), V11.other W12 (Nat.ne_of_gt (Nat.lt_of_lt_of_le BB.1.lt s11)), BB.2.2.2.2.2⟩
def Qrm14g (Z : State) (a1 : Addr) (a2 : Addr) (w3 : Addr) (kb : ClassId) (vs : List Value) (w6 : Addr) (ks : ClassId) (us : List Value) (G1 : Int32) (h0 : Heap) (n0 : Nat) (v : Option Value) (h : Heap) (L : List Loc) : Prop := ∃ x k', h0.size ≤ x ∧ v = some (.ref a1) ∧ Fr n0 L ∧ Keep h0 h [a1] ∧ own_B Z h a1 x k' (112 : Int32) ((54 : Int32) + (2 : Int32)) (vs ++ us)
set_option maxRecDepth 65536 in
set_option maxHeartbeats 40000000 in
theorem rm14g (l : Launch) (Z : State) (a0 : Array Value) (hw : HW a0 Z) (ws : List Jvm.Cond) (a1 : Addr) (a2 : Addr) (w3 : Addr) (kb : ClassId) (vs : List Value) (w6 : Addr) (ks : ClassId) (us : List Value) (G1 : Int32) (h0 : Heap) (n0 : Nat) (Z0 : n0 ≤ h0.size) (SC : Sta Z h0 "java/lang/String" "COMPACT_STRINGS" "Z" (.int G1)) (P3 : ¬ (G1 = (0 : Int32))) (BB : own_B Z h0 a1 w3 kb (55 : Int32) (54 : Int32) vs) (SS : own_S Z h0 a2 w6 ks (2 : Int32) us) (g_a1 : n0 ≤ a1) (E_a2 : Exa Z h0 a2 "java/lang/String") (F_count_a1 : Fld Z h0 a1 "java/lang/AbstractStringBuilder" "count" "I" (.int 54)) (E_a1 : Exa Z h0 a1 "java/lang/StringBuilder") :
    MetFree l ym06 (head1 (Jvm.Cond.code ym06 jdk_68_method_22_code 3 (some (.object "java/lang/AbstractStringBuilder")) :: ws) rm_12) (fun a U => a = #[(.ref a1), (.ref a2)] ∧ Z.Warmed39 U.vm ∧ U.heap = h0) (fun _ _ _ _ _ => True) (fun _ U o U' => ∃ v L, o = .returned v ∧ Qrm14g Z a1 a2 w3 kb vs w6 ks us G1 h0 n0 v U'.heap L ∧ FrameEnd U o U' L rm_12.cells rm_12.slots) := by
  refine MetFree.of_bodySF (plainFor_of_name pn_15) hisR ?_
  intro p e s m args below meth c s₁ Bd hml0 hP hK
  obtain ⟨rfl, hZ, hh⟩ := hP
  have hx := Bd.exec
  have hby := Bd.bytes
  have hml : c.maxLocals = 3 := hml0
  have hown : s.vm.findClass "java/lang/AbstractStringBuilder" = some m.cls := findClass_of_methodNamed Bd.named
  have X0 : Stand p l e rm_12 s m #[(.ref a1), (.ref a2)] below meth c s₁ [] 0 0 := Stand.of_body Bd
  have e0 : s₁.heap = h0 := by rw [← hh, Bd.state]; rfl
  have N0 := Fr.nil n0
  let aa1 : Array Slot := #[.val (.ref a1), .val (.ref a2), .unset]
  have pre0 : ∀ t, Steps p.tables e below (s₁.setTop (mkF m 0 aa1 [])) t → Steps p.tables e below (s₁.setTop (entryFrame m #[(.ref a1), (.ref a2)] 3)) t := fun t k => castTop (ef_14 m a1 a2) k
  obtain ⟨cq3, kq3, q3a, q3b, q3c⟩ := isOf hZ e0 E_a2
  obtain ⟨cls, As, -, Ss, Ns, -, -⟩ := id SS.2.2.2.1
  obtain ⟨_, _, ⟨T3, L3, k3, n3⟩, -, X3, ⟨Lc3, hQ3, l3, y3, z3⟩, st3⟩ := X0.virtualBack hx (y := ym01) (z := ym01) hown (mvT hZ (ww hw 53 rfl)) (mvT hZ (ww hw 54 rfl)) (notFace_of_selects (args := #[]) (mvT hZ (ww hw 56 rfl))) (mvT hZ (ww hw 56 rfl)) (mvT hZ (ww hw 55 rfl)) (by decide) (backOf (W := 0) (rm10 l Z a0 hw [] a2 w6 cls (2 : Int32) G1 h0 n0 Z0 SC P3 SS.2.2.1 SS.2.1 As Ss Ns SS.1) hZ (ww hw 57 rfl) (ww hw 2 rfl) (by decide) (by decide)) q3a q3c (g := (mkF m 10 aa1 [(.ref a2)])) rfl (by rw [hml]; rfl) (Steps.refl _) (argsL := []) (rest := []) (lenOf pd_14_7 rfl) rfl (wz rfl) (hb hby d14_10) (fun _ _ => ⟨rfl, e0, (by decide : 0 + 0 ≤ _), (by decide : 0 + 0 ≤ _)⟩)
  dsimp only [Pt.U, Pt.locs, Pt.cells, Pt.slots] at X3 l3 y3 z3 st3 hQ3
  subst l3 y3 z3
  obtain ⟨rfl, N3q, e3⟩ := hQ3
  have N3 := Fr.app N0 N3q
  let aa2 : Array Slot := #[.val (.ref a1), .val (.ref a2), .val (.int 2)]
  obtain ⟨T5, X5, e5, st5⟩ := getF X3 hx hZ hown (host := "") (Or.inl (ww hw 83 rfl)) Via.refl e3 F_count_a1 (g := (mkF m 16 aa2 [(.ref a1), (.ref a1)])) rfl rfl (hb hby d14_16)
  obtain ⟨cq6, q6, q6'⟩ := E_a1.cell
  obtain ⟨_, _, ⟨T6, L6, k6, n6⟩, -, X6, ⟨Lc6, hQ6, l6, y6, z6⟩, st6⟩ := X5.privateBack hx (y := ym02) hown (mvT hZ (ww hw 85 rfl)) (mvT hZ (ww hw 86 rfl)) (own_sel (Cond.privateMethod_at (mvP hZ (ww hw 87 rfl) (args := #[]))) (mvT hZ (ww hw 86 rfl)) (mvT hZ (ww hw 88 rfl)) (by decide)) (Cond.privateMethod_at (mvP hZ (ww hw 87 rfl) (args := #[]))) (mvT hZ (ww hw 89 rfl)) (by decide) (backOf (W := 0) (rm15g l Z a0 hw [] a1 w3 kb vs (54 : Int32) h0 n0 Z0 (by rw [← BB.2.2.2.2.2.1]; decide) BB BB.2.1 BB.2.2.2.2.1 BB.2.2.1 BB.1 g_a1 (by decide)) hZ (ww hw 89 rfl) (ww hw 50 rfl) (by decide) (by decide)) (g := (mkF m 21 aa2 [(.int ((54 : Int32) + (2 : Int32))), (.ref a1)])) rfl (by rw [hml]; rfl) (Steps.refl _) (a := a1) (by rw [e5]; exact q6) q6' (argsL := [(.int ((54 : Int32) + (2 : Int32)))]) (rest := []) (lenOf pd_14_11 rfl) rfl (wz rfl) (hb hby d14_21) (fun _ _ => ⟨rfl, e5, (by decide : 0 + 1 ≤ _), (by decide : 0 + 112 ≤ _)⟩)
  dsimp only [Pt.U, Pt.locs, Pt.cells, Pt.slots] at X6 l6 y6 z6 st6 hQ6
  subst l6 y6 z6
  obtain ⟨x6, k6', s6, rfl, N6q, K6, B6⟩ := hQ6
  have ne := B6.1.neArv B6.2.2.2.2.1 (ww hw 38 rfl)
  have SS6 := SS.keep K6 (own_nin1 (Exa.ne SS.1 BB.1 (by decide))) (own_nin1 (BB.1.neArv SS.2.2.2.1 (ww hw 38 rfl)).symm)
  have N6 := Fr.app N3 N6q
  obtain ⟨T8, X8, e8, st8⟩ := getF X6 hx hZ hown (host := "") (Or.inl (ww hw 83 rfl)) Via.refl rfl B6.2.2.2.1 (g := (mkF m 26 aa2 [(.ref a1), (.ref a1)])) rfl rfl (hb hby d14_26)
  obtain ⟨cq9, q9, q9'⟩ := B6.1.cell
  have SC6 := own_sta SC K6 (allS (own_plain BB.1) all0)
  obtain ⟨_, _, ⟨T9, L9, k9, n9⟩, -, X9, ⟨Lc9, hQ9, l9, y9, z9⟩, st9⟩ := X8.privateBack hx (y := ym05) hown (mvT hZ (ww hw 90 rfl)) (mvT hZ (ww hw 91 rfl)) (own_sel (Cond.privateMethod_at (mvP hZ (ww hw 92 rfl) (args := #[]))) (mvT hZ (ww hw 91 rfl)) (mvT hZ (ww hw 93 rfl)) (by decide)) (Cond.privateMethod_at (mvP hZ (ww hw 92 rfl) (args := #[]))) (mvT hZ (ww hw 94 rfl)) (by decide) (backOf (W := 0) (rm16 l Z a0 hw [] a1 (54 : Int32) a2 x6 k6' (112 : Int32) vs w6 ks (2 : Int32) us G1 T6.heap n0 (Nat.le_trans Z0 K6.1) (SC6) P3 B6.2.2.2.2.1 (Nat.le_trans Z0 s6) SS6 B6.2.2.2.2.2.1 (by rw [← B6.2.2.2.2.2.1, ← SS.2.2.2.2]; decide) B6.2.2.2.2.2.2 B6.1 B6.2.1 B6.2.2.1 SS6.1) hZ (ww hw 94 rfl) (ww hw 50 rfl) (by decide) (by decide)) (g := (mkF m 30 aa2 [(.ref a2), (.int 54), (.ref a1)])) rfl (by rw [hml]; rfl) (Steps.refl _) (a := a1) (by rw [e8]; exact q9) q9' (argsL := [(.int 54), (.ref a2)]) (rest := []) (lenOf pd_14_12 rfl) rfl (wz rfl) (hb hby d14_30) (fun _ _ => ⟨rfl, e8, (by decide : 1 + 0 ≤ _), (by decide : 112 + 0 ≤ _)⟩)
  dsimp only [Pt.U, Pt.locs, Pt.cells, Pt.slots] at X9 l9 y9 z9 st9 hQ9
  subst l9 y9 z9
  obtain ⟨rfl, N9q, K9, V9⟩ := hQ9
  have P9 : Keep h0 T9.heap [a1] := K6.trans K9 (allS (Or.inr s6) all0)
  have N9 := Fr.app N6 N9q
  obtain ⟨T11, X11, e11, st11⟩ := getF X9 hx hZ hown (host := "") (Or.inl (ww hw 83 rfl)) Via.refl rfl (B6.2.2.2.1.keep K9 (own_nin1 ne)) (g := (mkF m 35 aa2 [(.ref a1), (.ref a1)])) rfl rfl (hb hby d14_35)
  obtain ⟨T12, h12, X12, e12, W12, st12⟩ := putF X11 hx hZ hown (host := "") (Or.inl (ww hw 83 rfl)) Via.refl e11 (B6.2.2.2.1.keep K9 (own_nin1 ne)) (B6.1.keep K9) (Or.inl (ww hw 84 rfl)) (ww hw 38 rfl) (ty := .int) (by decide) rfl rfl (g := (mkF m 40 aa2 [(.int ((54 : Int32) + (2 : Int32))), (.ref a1)])) rfl rfl (hb hby d14_40)
  have Fw12 := (B6.2.2.2.1.keep K9 (own_nin1 ne)).same W12
  have K12 : Keep h0 h12 [a1] := P9.wr W12 (Or.inl (wi 0 rfl))
  have N12 := Fr.snoc X12 N9 g_a1
  obtain ⟨fs, hr, hrun, hended, hW, hsame⟩ := X12.leave (v := some (.ref a1)) (fun h => by rw [Bd.returns] at h; cases h)
  refine ⟨_, _, pre0 _ ?_, hrun, hended, _, _, rfl, ?_, ⟨_, rfl⟩, hW, hsame.mono (by decide) (by decide)⟩
  · show Sw s₁ m 0 aa1 [] _
    refine XS.aloadN X0.here hx rfl (hb hby d14_0) rfl rfl ?_
    show Sw s₁ m 1 aa1 [(.ref a2)] _
    refine XS.ifnonnullYes X0.here hx rfl (pc0 := 1) (pc' := 9) rfl (hb hby d14_1) rfl (by decide) (by decide) ?_
    show Sw s₁ m 9 aa1 [] _
    refine XS.aloadN X0.here hx rfl (hb hby d14_9) rfl rfl ?_
    show Sw s₁ m 10 aa1 [(.ref a2)] _
    refine st3.trans ?_
    show Sw T3 m 13 aa1 [(.int 2)] _
    refine XS.istoreN X3.here hx rfl (hb hby d14_13) rfl (l' := aa2) rfl ?_
    show Sw T3 m 14 aa2 [] _
    refine XS.aloadN X3.here hx rfl (hb hby d14_14) rfl rfl ?_
    show Sw T3 m 15 aa2 [(.ref a1)] _
    refine XS.aloadN X3.here hx rfl (hb hby d14_15) rfl rfl ?_
    show Sw T3 m 16 aa2 [(.ref a1), (.ref a1)] _
    refine st5 _ ?_
    show Sw T5 m 19 aa2 [(.int 54), (.ref a1)] _
    refine XS.iloadN X5.here hx rfl (hb hby d14_19) rfl ?_
    show Sw T5 m 20 aa2 [(.int 2), (.int 54), (.ref a1)] _
    refine XS.iadd X5.here hx rfl (hb hby d14_20) rfl ?_
    show Sw T5 m 21 aa2 [(.int ((54 : Int32) + (2 : Int32))), (.ref a1)] _
    refine st6.trans ?_
    show Sw T6 m 24 aa2 [] _
    refine XS.aloadN X6.here hx rfl (hb hby d14_24) rfl rfl ?_
    show Sw T6 m 25 aa2 [(.ref a1)] _
    refine XS.aloadN X6.here hx rfl (hb hby d14_25) rfl rfl ?_
    show Sw T6 m 26 aa2 [(.ref a1), (.ref a1)] _
    refine st8 _ ?_
    show Sw T8 m 29 aa2 [(.int 54), (.ref a1)] _
    refine XS.aloadN X8.here hx rfl (hb hby d14_29) rfl rfl ?_
    show Sw T8 m 30 aa2 [(.ref a2), (.int 54), (.ref a1)] _
    refine st9.trans ?_
    show Sw T9 m 33 aa2 [] _
    refine XS.aloadN X9.here hx rfl (hb hby d14_33) rfl rfl ?_
    show Sw T9 m 34 aa2 [(.ref a1)] _
    refine XS.dup X9.here hx rfl (hb hby d14_34) rfl rfl ?_
    show Sw T9 m 35 aa2 [(.ref a1), (.ref a1)] _
    refine st11 _ ?_
    show Sw T11 m 38 aa2 [(.int 54), (.ref a1)] _
    refine XS.iloadN X11.here hx rfl (hb hby d14_38) rfl ?_
    show Sw T11 m 39 aa2 [(.int 2), (.int 54), (.ref a1)] _
    refine XS.iadd X11.here hx rfl (hb hby d14_39) rfl ?_
    show Sw T11 m 40 aa2 [(.int ((54 : Int32) + (2 : Int32))), (.ref a1)] _
    refine st12 _ ?_
    show Sw T12 m 43 aa2 [] _
    refine XS.aloadN X12.here hx rfl (hb hby d14_43) rfl rfl ?_
    show Steps p.tables e below (T12.setTop (mkF m 44 aa2 [(.ref a1)])) _
    jvm_step X12.here [X12.here.top, hx, (hb hby d14_44), X12.method', Bd.returns, Value.isRef, FieldType.isReference]
    first | (intro acts; rw [hr _ acts rfl rfl rfl]) | rw [hr _ _ rfl rfl rfl]
    exact Steps.refl _
  · show Qrm14g Z a1 a2 w3 kb vs w6 ks us G1 h0 n0 _ T12.heap _
    rw [e12]
    exact ⟨x6, k6', s6, rfl, N12, K12, (B6.1.keep K9).wr W12, (B6.2.1.keep K9 (own_nin1 ne)).other W12 (Or.inr (slot_ne (Or.inl (ww hw 68 rfl)) (Or.inl (ww hw 84 rfl)) (by decide) (t := (.array .byte)) (t' := .int) (by decide) (by decide))), (B6.2.2.1.keep K9 (own_nin1 ne)).other W12 (Or.inr (slot_ne (Or.inl (ww hw 66 rfl)) (Or.inl (ww hw 84 rfl)) (by decide) (t := .byte) (t' := .int) (by decide) (by decide))), Fw12, V9.other W12 ne.symm, by rw [List.length_append, ← BB.2.2.2.2.2.1, ← SS.2.2.2.2]; decide, by decide⟩
def Qrm13g (Z : State) (a1 : Addr) (a2 : Addr) (w3 : Addr) (kb : ClassId) (vs : List Value) (w6 : Addr) (ks : ClassId) (us : List Value) (G1 : Int32) (h0 : Heap) (n0 : Nat) (v : Option Value) (h : Heap) (L : List Loc) : Prop := ∃ x k', h0.size ≤ x ∧ v = some (.ref a1) ∧ Fr n0 L ∧ Keep h0 h [a1] ∧ own_B Z h a1 x k' (112 : Int32) ((54 : Int32) + (2 : Int32)) (vs ++ us)
set_option maxRecDepth 65536 in
set_option maxHeartbeats 40000000 in
theorem rm13g (l : Launch) (Z : State) (a0 : Array Value) (hw : HW a0 Z) (ws : List Jvm.Cond) (a1 : Addr) (a2 : Addr) (w3 : Addr) (kb : ClassId) (vs : List Value) (w6 : Addr) (ks : ClassId) (us : List Value) (G1 : Int32) (h0 : Heap) (n0 : Nat) (Z0 : n0 ≤ h0.size) (SC : Sta Z h0 "java/lang/String" "COMPACT_STRINGS" "Z" (.int G1)) (P3 : ¬ (G1 = (0 : Int32))) (BB : own_B Z h0 a1 w3 kb (55 : Int32) (54 : Int32) vs) (SS : own_S Z h0 a2 w6 ks (2 : Int32) us) (g_a1 : n0 ≤ a1) (E_a1 : Exa Z h0 a1 "java/lang/StringBuilder") :
    MetFree l ym07 (head1 (Jvm.Cond.code ym07 jdk_67_method_7_code 2 (some (.object "java/lang/StringBuilder")) :: ws) rm_13) (fun a U => a = #[(.ref a1), (.ref a2)] ∧ Z.Warmed39 U.vm ∧ U.heap = h0) (fun _ _ _ _ _ => True) (fun _ U o U' => ∃ v L, o = .returned v ∧ Qrm13g Z a1 a2 w3 kb vs w6 ks us G1 h0 n0 v U'.heap L ∧ FrameEnd U o U' L rm_13.cells rm_13.slots) := by
  refine MetFree.of_bodySF (plainFor_of_name pn_13) hisR ?_
  intro p e s m args below meth c s₁ Bd hml0 hP hK
  obtain ⟨rfl, hZ, hh⟩ := hP
  have hx := Bd.exec
  have hby := Bd.bytes
  have hml : c.maxLocals = 2 := hml0
  have hown : s.vm.findClass "java/lang/StringBuilder" = some m.cls := findClass_of_methodNamed Bd.named
  have X0 : Stand p l e rm_13 s m #[(.ref a1), (.ref a2)] below meth c s₁ [] 0 0 := Stand.of_body Bd
  have e0 : s₁.heap = h0 := by rw [← hh, Bd.state]; rfl
  have N0 := Fr.nil n0
  let aa1 : Array Slot := #[.val (.ref a1), .val (.ref a2)]
  have pre0 : ∀ t, Steps p.tables e below (s₁.setTop (mkF m 0 aa1 [])) t → Steps p.tables e below (s₁.setTop (entryFrame m #[(.ref a1), (.ref a2)] 2)) t := fun t k => castTop (ef_17 m a1 a2) k
  obtain ⟨_, _, ⟨T3, L3, k3, n3⟩, -, X3, ⟨Lc3, hQ3, l3, y3, z3⟩, st3⟩ := superBack X0 hx hZ (y := ym06) hown (ww hw 80 rfl) (own_same (ww hw 71 rfl) (ww hw 88 rfl) (by decide) rfl) (ww hw 71 rfl) (ww hw 81 rfl) (by decide) (backOf (W := 0) (rm14g l Z a0 hw [] a1 a2 w3 kb vs w6 ks us G1 h0 n0 Z0 SC P3 BB SS g_a1 SS.1 BB.2.2.2.1 BB.1) hZ (ww hw 82 rfl) (ww hw 50 rfl) (by decide) (by decide)) e0 (Ins.self E_a1) (g := (mkF m 2 aa1 [(.ref a2), (.ref a1)])) rfl (by rw [hml]; rfl) (ww hw 82 rfl) (argsL := [(.ref a2)]) (rest := []) (lenOf pd_13_9 rfl) rfl (wz rfl) (hb hby d13_2) (fun _ _ => ⟨rfl, e0, (by decide : 0 + 1 ≤ _), (by decide : 0 + 112 ≤ _)⟩)
  dsimp only [Pt.U, Pt.locs, Pt.cells, Pt.slots] at X3 l3 y3 z3 st3 hQ3
  subst l3 y3 z3
  obtain ⟨x3, k3', s3, rfl, N3q, K3, B3⟩ := hQ3
  have N3 := Fr.app N0 N3q
  obtain ⟨fs, hr, hrun, hended, hW, hsame⟩ := X3.leave (v := some (.ref a1)) (fun h => by rw [Bd.returns] at h; cases h)
  refine ⟨_, _, pre0 _ ?_, hrun, hended, _, _, rfl, ?_, ⟨_, rfl⟩, hW, hsame.mono (by decide) (by decide)⟩
  · show Sw s₁ m 0 aa1 [] _
    refine XS.aloadN X0.here hx rfl (hb hby d13_0) rfl rfl ?_
    show Sw s₁ m 1 aa1 [(.ref a1)] _
    refine XS.aloadN X0.here hx rfl (hb hby d13_1) rfl rfl ?_
    show Sw s₁ m 2 aa1 [(.ref a2), (.ref a1)] _
    refine st3.trans ?_
    show Sw T3 m 5 aa1 [(.ref a1)] _
    refine XS.pop X3.here hx rfl (hb hby d13_5) rfl rfl ?_
    show Sw T3 m 6 aa1 [] _
    refine XS.aloadN X3.here hx rfl (hb hby d13_6) rfl rfl ?_
    show Steps p.tables e below (T3.setTop (mkF m 7 aa1 [(.ref a1)])) _
    jvm_step X3.here [X3.here.top, hx, (hb hby d13_7), X3.method', Bd.returns, Value.isRef, FieldType.isReference]
    first | (intro acts; rw [hr _ acts rfl rfl rfl]) | rw [hr _ _ rfl rfl rfl]
    exact Steps.refl _
  · show Qrm13g Z a1 a2 w3 kb vs w6 ks us G1 h0 n0 _ T3.heap _
    exact ⟨x3, k3', s3, rfl, N3, K3, B3⟩
theorem d9_0 : decode cd18 0 = .ok (.aload_n 0, 1) := by decide +kernel
theorem d9_1 : decode cd18 1 = .ok (.invokespecial 3, 3) := by decide +kernel
theorem d9_4 : decode cd18 4 = .ok (.aload_n 1, 1) := by decide +kernel
theorem d9_5 : decode cd18 5 = .ok (.invokevirtual 32, 3) := by decide +kernel
theorem d9_8 : decode cd18 8 = .ok (.istore_n 2, 1) := by decide +kernel
theorem d9_9 : decode cd18 9 = .ok (.iload_n 2, 1) := by decide +kernel
theorem d9_10 : decode cd18 10 = .ok (.ldc 38, 2) := by decide +kernel
theorem d9_12 : decode cd18 12 = .ok (.if_icmp .ge 10, 3) := by decide +kernel
theorem d9_15 : decode cd18 15 = .ok (.iload_n 2, 1) := by decide +kernel
theorem d9_16 : decode cd18 16 = .ok (.bipush 16, 2) := by decide +kernel
theorem d9_18 : decode cd18 18 = .ok (.iadd, 1) := by decide +kernel
theorem d9_19 : decode cd18 19 = .ok (.goto 5, 3) := by decide +kernel
theorem d9_24 : decode cd18 24 = .ok (.istore_n 3, 1) := by decide +kernel
theorem d9_25 : decode cd18 25 = .ok (.aload_n 1, 1) := by decide +kernel
theorem d9_26 : decode cd18 26 = .ok (.invokevirtual 40, 3) := by decide +kernel
theorem d9_29 : decode cd18 29 = .ok (.istore 4, 2) := by decide +kernel
theorem d9_31 : decode cd18 31 = .ok (.aload_n 0, 1) := by decide +kernel
theorem d9_32 : decode cd18 32 = .ok (.iload 4, 2) := by decide +kernel
theorem d9_34 : decode cd18 34 = .ok (.putfield 22, 3) := by decide +kernel
theorem d9_37 : decode cd18 37 = .ok (.aload_n 0, 1) := by decide +kernel
theorem d9_38 : decode cd18 38 = .ok (.iload 4, 2) := by decide +kernel
theorem d9_40 : decode cd18 40 = .ok (.ifCond .ne 9, 3) := by decide +kernel
theorem d9_43 : decode cd18 43 = .ok (.iload_n 3, 1) := by decide +kernel
theorem d9_44 : decode cd18 44 = .ok (.newarray .byte, 2) := by decide +kernel
theorem d9_46 : decode cd18 46 = .ok (.goto 7, 3) := by decide +kernel
theorem d9_53 : decode cd18 53 = .ok (.putfield 15, 3) := by decide +kernel
theorem d9_56 : decode cd18 56 = .ok (.aload_n 0, 1) := by decide +kernel
theorem d9_57 : decode cd18 57 = .ok (.aload_n 1, 1) := by decide +kernel
theorem d9_58 : decode cd18 58 = .ok (.invokevirtual 43, 3) := by decide +kernel
theorem d9_61 : decode cd18 61 = .ok (.pop, 1) := by decide +kernel
theorem d9_62 : decode cd18 62 = .ok (.return_, 1) := by decide +kernel
theorem ef_9 (m : MethodId) (x0 : Addr) (x1 : Addr) : entryFrame m #[(.ref x0), (.ref x1)] 5 = mkF m 0 #[.val (.ref x0), .val (.ref x1), .unset, .unset, .unset] [] := by first | (simp [entryFrame, mkF, argsToLocals, Value.category]; done) | rfl
def Qrm9 (Z : State) (a1 : Addr) (a2 : Addr) (u_coder_a1 : Value) (u_value_a1 : Value) (w6 : Addr) (ks : ClassId) (us : List Value) (G1 : Int32) (h0 : Heap) (n0 : Nat) (v : Option Value) (h : Heap) (L : List Loc) : Prop := ∃ x k', h0.size ≤ x ∧ v = none ∧ Fr n0 L ∧ Keep h0 h [a1] ∧ own_B Z h a1 x k' ((39 : Int32) + (16 : Int32)) ((0 : Int32) + (39 : Int32)) ([] ++ us)
set_option maxRecDepth 65536 in
set_option maxHeartbeats 40000000 in
theorem rm9 (l : Launch) (Z : State) (a0 : Array Value) (hw : HW a0 Z) (ws : List Jvm.Cond) (a1 : Addr) (a2 : Addr) (u_coder_a1 : Value) (u_value_a1 : Value) (w6 : Addr) (ks : ClassId) (us : List Value) (G1 : Int32) (h0 : Heap) (n0 : Nat) (Z0 : n0 ≤ h0.size) (SC : Sta Z h0 "java/lang/String" "COMPACT_STRINGS" "Z" (.int G1)) (P3 : ¬ (G1 = (0 : Int32))) (SS : own_S Z h0 a2 w6 ks (39 : Int32) us) (Fn : Fld Z h0 a1 "java/lang/AbstractStringBuilder" "count" "I" (.int 0)) (E_a2 : Exa Z h0 a2 "java/lang/String") (E_a1 : Exa Z h0 a1 "java/lang/StringBuilder") (F_coder_a1 : Fld Z h0 a1 "java/lang/AbstractStringBuilder" "coder" "B" u_coder_a1) (g_a1 : n0 ≤ a1) (F_value_a1 : Fld Z h0 a1 "java/lang/AbstractStringBuilder" "value" "[B" u_value_a1) :
    MetFree l ym18 (head1 (Jvm.Cond.code ym18 jdk_68_method_3_code 5 none :: ws) rm_14) (fun a U => a = #[(.ref a1), (.ref a2)] ∧ Z.Warmed39 U.vm ∧ U.heap = h0) (fun _ _ _ _ _ => True) (fun _ U o U' => ∃ v L, o = .returned v ∧ Qrm9 Z a1 a2 u_coder_a1 u_value_a1 w6 ks us G1 h0 n0 v U'.heap L ∧ FrameEnd U o U' L rm_14.cells rm_14.slots) := by
  refine MetFree.of_bodySF (plainFor_of_name pn_15) hisR ?_
  intro p e s m args below meth c s₁ Bd hml0 hP hK
  obtain ⟨rfl, hZ, hh⟩ := hP
  have hx := Bd.exec
  have hby := Bd.bytes
  have hml : c.maxLocals = 5 := hml0
  have hown : s.vm.findClass "java/lang/AbstractStringBuilder" = some m.cls := findClass_of_methodNamed Bd.named
  have X0 : Stand p l e rm_14 s m #[(.ref a1), (.ref a2)] below meth c s₁ [] 0 0 := Stand.of_body Bd
  have e0 : s₁.heap = h0 := by rw [← hh, Bd.state]; rfl
  have N0 := Fr.nil n0
  let aa1 : Array Slot := #[.val (.ref a1), .val (.ref a2), .unset, .unset, .unset]
  have pre0 : ∀ t, Steps p.tables e below (s₁.setTop (mkF m 0 aa1 [])) t → Steps p.tables e below (s₁.setTop (entryFrame m #[(.ref a1), (.ref a2)] 5)) t := fun t k => castTop (ef_9 m a1 a2) k
  obtain ⟨T3, X3, e3, st3⟩ := initO X0 hx hZ hown (ww hw 52 rfl) (ww hw 12 rfl) (ww hw 13 rfl) e0 (g := (mkF m 1 aa1 [(.ref a1)])) rfl (by rw [hml]; rfl) rfl (hb hby d9_1) (by decide) (W := 0) (wz rfl) (by decide)
  obtain ⟨cq4, kq4, q4a, q4b, q4c⟩ := isOf hZ e3 E_a2
  obtain ⟨cls, As, -, Ss, Ns, -, -⟩ := id SS.2.2.2.1
  obtain ⟨_, _, ⟨T4, L4, k4, n4⟩, -, X4, ⟨Lc4, hQ4, l4, y4, z4⟩, st4⟩ := X3.virtualBack hx (y := ym01) (z := ym01) hown (mvT hZ (ww hw 53 rfl)) (mvT hZ (ww hw 54 rfl)) (notFace_of_selects (args := #[]) (mvT hZ (ww hw 56 rfl))) (mvT hZ (ww hw 56 rfl)) (mvT hZ (ww hw 55 rfl)) (by decide) (backOf (W := 0) (rm10 l Z a0 hw [] a2 w6 cls (39 : Int32) G1 h0 n0 Z0 SC P3 SS.2.2.1 SS.2.1 As Ss Ns SS.1) hZ (ww hw 57 rfl) (ww hw 2 rfl) (by decide) (by decide)) q4a q4c (g := (mkF m 5 aa1 [(.ref a2)])) rfl (by rw [hml]; rfl) (Steps.refl _) (argsL := []) (rest := []) (lenOf pd_14_7 rfl) rfl (wz rfl) (hb hby d9_5) (fun _ _ => ⟨rfl, e3, (by decide : 0 + 0 ≤ _), (by decide : 0 + 0 ≤ _)⟩)
  dsimp only [Pt.U, Pt.locs, Pt.cells, Pt.slots] at X4 l4 y4 z4 st4 hQ4
  subst l4 y4 z4
  obtain ⟨rfl, N4q, e4⟩ := hQ4
  have N4 := Fr.app N0 N4q
  obtain ⟨cq5, kq5, q5a, q5b, q5c⟩ := isOf hZ e4 E_a2
  let aa2 : Array Slot := #[.val (.ref a1), .val (.ref a2), .val (.int 39), .val (.int ((39 : Int32) + (16 : Int32))), .unset]
  obtain ⟨_, _, ⟨T5, L5, k5, n5⟩, -, X5, ⟨Lc5, hQ5, l5, y5, z5⟩, st5⟩ := X4.virtualBack hx (y := ym00) (z := ym00) hown (mvT hZ (ww hw 64 rfl)) (mvT hZ (ww hw 59 rfl)) (notFace_of_selects (args := #[]) (mvT hZ (ww hw 61 rfl))) (mvT hZ (ww hw 61 rfl)) (mvT hZ (ww hw 60 rfl)) (by decide) (backOf (W := 0) (rm11 l Z a0 hw [] a2 G1 h0 n0 Z0 SC SS.2.2.1 P3) hZ (ww hw 62 rfl) (ww hw 2 rfl) (by decide) (by decide)) q5a q5c (g := (mkF m 26 aa2 [(.ref a2)])) rfl (by rw [hml]; rfl) (Steps.refl _) (argsL := []) (rest := []) (lenOf pd_10_8 rfl) rfl (wz rfl) (hb hby d9_26) (fun _ _ => ⟨rfl, e4, (by decide : 0 + 0 ≤ _), (by decide : 0 + 0 ≤ _)⟩)
  dsimp only [Pt.U, Pt.locs, Pt.cells, Pt.slots] at X5 l5 y5 z5 st5 hQ5
  subst l5 y5 z5
  obtain ⟨rfl, N5q, e5⟩ := hQ5
  have N5 := Fr.app N4 N5q
  let aa3 : Array Slot := #[.val (.ref a1), .val (.ref a2), .val (.int 39), .val (.int ((39 : Int32) + (16 : Int32))), .val (.int 0)]
  obtain ⟨T6, h6, X6, e6, W6, st6⟩ := putFN X5 hx hZ hown (ww hw 65 rfl) Via.refl e5 F_coder_a1 E_a1 (Or.inl (ww hw 66 rfl)) (ww hw 38 rfl) (ty := .byte) (v' := (.int (nar .byte (0 : Int32)))) (by decide) rfl (fits_nar_byte _) (g := (mkF m 34 aa3 [(.int 0), (.ref a1)])) rfl rfl (hb hby d9_34)
  have Fw6 := F_coder_a1.same W6
  have K6 : Keep h0 h6 [a1] := (Keep.refl h0 _).wr W6 (Or.inl (wi 0 rfl))
  have N6 := Fr.snoc X6 N5 g_a1
  obtain ⟨T7, h7, k7, X7, e7, E7, A7, st7⟩ := newP X6 hx hZ (ww hw 19 rfl) e6 (g := (mkF m 44 aa3 [(.int ((39 : Int32) + (16 : Int32))), (.ref a1)])) rfl (hb hby d9_44) rfl (by decide) (cap := 55) (by decide) (by decide) (by decide) (by decide)
  obtain ⟨b7, g7⟩ : ∃ z, z = h6.size := ⟨_, rfl⟩
  rw [← g7] at A7 st7
  have V_b7 := Arv.new A7 (by decide)
  have g_b7 : n0 ≤ b7 := Nat.le_trans (Nat.le_trans (Nat.le_trans (Nat.le_trans Z0 (Nat.le_refl _)) (Nat.le_refl _)) (Keep.of_wr W6).1) (Nat.le_of_eq g7.symm)
  have sz_b7 : h0.size ≤ b7 := (Nat.le_trans K6.1 (Nat.le_of_eq g7.symm))
  have K7 : Keep h0 h7 [a1] := K6.ext E7
  obtain ⟨T8, h8, X8, e8, W8, st8⟩ := putF X7 hx hZ hown (host := "") (Or.inl (ww hw 67 rfl)) Via.refl e7 ((F_value_a1.other W6 (Or.inr (slot_ne (Or.inl (ww hw 68 rfl)) (Or.inl (ww hw 66 rfl)) (by decide) (t := (.array .byte)) (t' := .byte) (by decide) (by decide)))).ext E7) ((E_a1.wr W6).ext E7) (Or.inl (ww hw 68 rfl)) (ww hw 38 rfl) (ty := (.array .byte)) (by decide) rfl rfl (g := (mkF m 53 aa3 [(.ref b7), (.ref a1)])) rfl rfl (hb hby d9_53)
  have Fw8 := ((F_value_a1.other W6 (Or.inr (slot_ne (Or.inl (ww hw 68 rfl)) (Or.inl (ww hw 66 rfl)) (by decide) (t := (.array .byte)) (t' := .byte) (by decide) (by decide)))).ext E7).same W8
  have K8 : Keep h0 h8 [a1] := K7.wr W8 (Or.inl (wi 0 rfl))
  have N8 := Fr.snoc X8 N6 g_a1
  obtain ⟨cq9, kq9, q9a, q9b, q9c⟩ := isOf hZ e8 (((E_a1.wr W6).ext E7).wr W8)
  have nb : a1 ≠ b7 := Nat.ne_of_lt (Nat.lt_of_lt_of_le E_a1.lt sz_b7)
  have SS8 := SS.keep K8 (own_nin1 (Exa.ne SS.1 E_a1 (by decide))) (own_nin1 (E_a1.neArv SS.2.2.2.1 (ww hw 38 rfl)).symm)
  have SC8 := own_sta SC K8 (allS (own_plain E_a1) all0)
  have B8 : own_B Z h8 a1 b7 k7 ((39 : Int32) + (16 : Int32)) (0 : Int32) [] := ⟨((E_a1.wr W6).ext E7).wr W8, Fw8, (Fw6.ext E7).other W8 (Or.inr (slot_ne (Or.inl (ww hw 66 rfl)) (Or.inl (ww hw 68 rfl)) (by decide) (t := .byte) (t' := (.array .byte)) (by decide) (by decide))), ((Fn.other W6 (Or.inr (slot_ne (Or.inl (ww hw 84 rfl)) (Or.inl (ww hw 66 rfl)) (by decide) (t := .int) (t' := .byte) (by decide) (by decide)))).ext E7).other W8 (Or.inr (slot_ne (Or.inl (ww hw 84 rfl)) (Or.inl (ww hw 68 rfl)) (by decide) (t := .int) (t' := (.array .byte)) (by decide) (by decide))), V_b7.other W8 nb.symm, rfl, by decide⟩
  obtain ⟨_, _, ⟨T9, L9, k9, n9⟩, -, X9, ⟨Lc9, hQ9, l9, y9, z9⟩, st9⟩ := X8.virtualBack hx (y := ym06) (z := ym08) hown (mvT hZ (ww hw 69 rfl)) (mvT hZ (ww hw 70 rfl)) (own_nf (args := #[]) (mvT hZ (ww hw 88 rfl)) rfl) (mvT hZ (ww hw 72 rfl)) (mvT hZ (ww hw 73 rfl)) (by decide) (backOf (W := 0) (rm12 l Z a0 hw [] a1 a2 (0 : Int32) b7 k7 ((39 : Int32) + (16 : Int32)) [] w6 ks (39 : Int32) us G1 h8 n0 (Nat.le_trans Z0 K8.1) SC8 P3 B8 SS8 (by unfold own_R; decide) g_b7 g_a1 B8.1) hZ (ww hw 74 rfl) (ww hw 39 rfl) (by decide) (by decide)) q9a q9c (g := (mkF m 58 aa3 [(.ref a2), (.ref a1)])) rfl (by rw [hml]; rfl) (Steps.refl _) (argsL := [(.ref a2)]) (rest := []) (lenOf pd_13_9 rfl) rfl (wz rfl) (hb hby d9_58) (fun _ _ => ⟨rfl, e8, (by decide : 1 + 0 ≤ _), (by decide : 55 + 0 ≤ _)⟩)
  dsimp only [Pt.U, Pt.locs, Pt.cells, Pt.slots] at X9 l9 y9 z9 st9 hQ9
  subst l9 y9 z9
  obtain ⟨rfl, N9q, K9, B9⟩ := hQ9
  have N9 := Fr.app N8 N9q
  obtain ⟨fs, hr, hrun, hended, hW, hsame⟩ := X9.leave (v := none) (fun _ => rfl)
  refine ⟨_, _, pre0 _ ?_, hrun, hended, _, _, rfl, ?_, ⟨_, rfl⟩, hW, hsame.mono (by decide) (by decide)⟩
  · show Sw s₁ m 0 aa1 [] _
    refine XS.aloadN X0.here hx rfl (hb hby d9_0) rfl rfl ?_
    show Sw s₁ m 1 aa1 [(.ref a1)] _
    refine st3 _ ?_
    show Sw T3 m 4 aa1 [] _
    refine XS.aloadN X3.here hx rfl (hb hby d9_4) rfl rfl ?_
    show Sw T3 m 5 aa1 [(.ref a2)] _
    refine st4.trans ?_
    show Sw T4 m 8 aa1 [(.int 39)] _
    let aa4 : Array Slot := #[.val (.ref a1), .val (.ref a2), .val (.int 39), .unset, .unset]
    refine XS.istoreN X4.here hx rfl (hb hby d9_8) rfl (l' := aa4) rfl ?_
    show Sw T4 m 9 aa4 [] _
    refine XS.iloadN X4.here hx rfl (hb hby d9_9) rfl ?_
    show Sw T4 m 10 aa4 [(.int 39)] _
    refine X4.ldcInt hx hown (mvT hZ (ww hw 63 rfl)) (g := (mkF m 10 aa4 [(.int 39)])) rfl (hb hby d9_10) _ ?_
    show Sw T4 m 12 aa4 [(.int 2147483631), (.int 39)] _
    refine XS.icmpNo X4.here hx rfl (hb hby d9_12) rfl (tlt (by decide : (39 : Int32) < (2147483631 : Int32))).2.1 ?_
    show Sw T4 m 15 aa4 [] _
    refine XS.iloadN X4.here hx rfl (hb hby d9_15) rfl ?_
    show Sw T4 m 16 aa4 [(.int 39)] _
    refine XS.bipush X4.here hx rfl (hb hby d9_16) ?_
    show Sw T4 m 18 aa4 [(.int 16), (.int 39)] _
    refine XS.iadd X4.here hx rfl (hb hby d9_18) rfl ?_
    show Sw T4 m 19 aa4 [(.int ((39 : Int32) + (16 : Int32)))] _
    refine XS.goto X4.here hx rfl (pc0 := 19) (pc' := 24) rfl (hb hby d9_19) (by decide) (by decide) ?_
    show Sw T4 m 24 aa4 [(.int ((39 : Int32) + (16 : Int32)))] _
    refine XS.istoreN X4.here hx rfl (hb hby d9_24) rfl (l' := aa2) rfl ?_
    show Sw T4 m 25 aa2 [] _
    refine XS.aloadN X4.here hx rfl (hb hby d9_25) rfl rfl ?_
    show Sw T4 m 26 aa2 [(.ref a2)] _
    refine st5.trans ?_
    show Sw T5 m 29 aa2 [(.int 0)] _
    refine XS.istore X5.here hx rfl (hb hby d9_29) rfl (l' := aa3) rfl ?_
    show Sw T5 m 31 aa3 [] _
    refine XS.aloadN X5.here hx rfl (hb hby d9_31) rfl rfl ?_
    show Sw T5 m 32 aa3 [(.ref a1)] _
    refine XS.iload X5.here hx rfl (hb hby d9_32) rfl ?_
    show Sw T5 m 34 aa3 [(.int 0), (.ref a1)] _
    refine st6 _ ?_
    show Sw T6 m 37 aa3 [] _
    refine XS.aloadN X6.here hx rfl (hb hby d9_37) rfl rfl ?_
    show Sw T6 m 38 aa3 [(.ref a1)] _
    refine XS.iload X6.here hx rfl (hb hby d9_38) rfl ?_
    show Sw T6 m 40 aa3 [(.int 0), (.ref a1)] _
    refine XS.ifNo X6.here hx rfl (hb hby d9_40) rfl ((if0 _ _).trans (teq (by decide : (0 : Int32) = (0 : Int32))).2) ?_
    show Sw T6 m 43 aa3 [(.ref a1)] _
    refine XS.iloadN X6.here hx rfl (hb hby d9_43) rfl ?_
    show Sw T6 m 44 aa3 [(.int ((39 : Int32) + (16 : Int32))), (.ref a1)] _
    refine st7 _ ?_
    show Sw T7 m 46 aa3 [(.ref b7), (.ref a1)] _
    refine XS.goto X7.here hx rfl (pc0 := 46) (pc' := 53) rfl (hb hby d9_46) (by decide) (by decide) ?_
    show Sw T7 m 53 aa3 [(.ref b7), (.ref a1)] _
    refine st8 _ ?_
    show Sw T8 m 56 aa3 [] _
    refine XS.aloadN X8.here hx rfl (hb hby d9_56) rfl rfl ?_
    show Sw T8 m 57 aa3 [(.ref a1)] _
    refine XS.aloadN X8.here hx rfl (hb hby d9_57) rfl rfl ?_
    show Sw T8 m 58 aa3 [(.ref a2), (.ref a1)] _
    refine st9.trans ?_
    show Sw T9 m 61 aa3 [(.ref a1)] _
    refine XS.pop X9.here hx rfl (hb hby d9_61) rfl rfl ?_
    show Sw T9 m 62 aa3 [] _
    exact X9.returnOut hx Bd.returns (hb hby d9_62) hr
  · show Qrm9 Z a1 a2 u_coder_a1 u_value_a1 w6 ks us G1 h0 n0 _ T9.heap _
    exact ⟨b7, k7, sz_b7, rfl, N9, K8.trans K9 (allS (Or.inl (List.mem_cons_self ..)) (allS (Or.inr sz_b7) all0)), B9⟩
theorem d8_0 : decode cd19 0 = .ok (.aload_n 0, 1) := by decide +kernel
theorem d8_1 : decode cd19 1 = .ok (.aload_n 1, 1) := by decide +kernel
theorem d8_2 : decode cd19 2 = .ok (.invokespecial 7, 3) := by decide +kernel
theorem d8_5 : decode cd19 5 = .ok (.return_, 1) := by decide +kernel
def Qrm8 (Z : State) (a1 : Addr) (a2 : Addr) (w6 : Addr) (ks : ClassId) (us : List Value) (G1 : Int32) (h0 : Heap) (n0 : Nat) (v : Option Value) (h : Heap) (L : List Loc) : Prop := ∃ x k', h0.size ≤ x ∧ v = none ∧ Fr n0 L ∧ Keep h0 h [a1] ∧ own_B Z h a1 x k' (55 : Int32) (39 : Int32) us
set_option maxRecDepth 65536 in
set_option maxHeartbeats 40000000 in
theorem rm8 (l : Launch) (Z : State) (a0 : Array Value) (hw : HW a0 Z) (ws : List Jvm.Cond) (a1 : Addr) (a2 : Addr) (w6 : Addr) (ks : ClassId) (us : List Value) (G1 : Int32) (h0 : Heap) (n0 : Nat) (Z0 : n0 ≤ h0.size) (SC : Sta Z h0 "java/lang/String" "COMPACT_STRINGS" "Z" (.int G1)) (P3 : ¬ (G1 = (0 : Int32))) (SS : own_S Z h0 a2 w6 ks (39 : Int32) us) (E_a1 : Exa Z h0 a1 "java/lang/StringBuilder") (g_a1 : n0 ≤ a1) (Fn : Fld Z h0 a1 "java/lang/AbstractStringBuilder" "count" "I" (.int 0)) (Fc : Fld Z h0 a1 "java/lang/AbstractStringBuilder" "coder" "B" (.int 0)) (Fv : Fld Z h0 a1 "java/lang/AbstractStringBuilder" "value" "[B" .null) :
    MetFree l ym19 (head1 (Jvm.Cond.code ym19 jdk_67_method_3_code 2 none :: ws) rm_15) (fun a U => a = #[(.ref a1), (.ref a2)] ∧ Z.Warmed39 U.vm ∧ U.heap = h0) (fun _ _ _ _ _ => True) (fun _ U o U' => ∃ v L, o = .returned v ∧ Qrm8 Z a1 a2 w6 ks us G1 h0 n0 v U'.heap L ∧ FrameEnd U o U' L rm_15.cells rm_15.slots) := by
  refine MetFree.of_bodySF (plainFor_of_name pn_13) hisR ?_
  intro p e s m args below meth c s₁ Bd hml0 hP hK
  obtain ⟨rfl, hZ, hh⟩ := hP
  have hx := Bd.exec
  have hby := Bd.bytes
  have hml : c.maxLocals = 2 := hml0
  have hown : s.vm.findClass "java/lang/StringBuilder" = some m.cls := findClass_of_methodNamed Bd.named
  have X0 : Stand p l e rm_15 s m #[(.ref a1), (.ref a2)] below meth c s₁ [] 0 0 := Stand.of_body Bd
  have e0 : s₁.heap = h0 := by rw [← hh, Bd.state]; rfl
  have N0 := Fr.nil n0
  let aa1 : Array Slot := #[.val (.ref a1), .val (.ref a2)]
  have pre0 : ∀ t, Steps p.tables e below (s₁.setTop (mkF m 0 aa1 [])) t → Steps p.tables e below (s₁.setTop (entryFrame m #[(.ref a1), (.ref a2)] 2)) t := fun t k => castTop (ef_17 m a1 a2) k
  obtain ⟨_, _, ⟨T3, L3, k3, n3⟩, -, X3, ⟨Lc3, hQ3, l3, y3, z3⟩, st3⟩ := X0.specialBack hx (y := ym18) rfl hown (mvT hZ (ww hw 46 rfl)) (mvT hZ (ww hw 47 rfl)) (mvT hZ (ww hw 51 rfl)) (by decide) (backOf (W := 0) (rm9 l Z a0 hw [] a1 a2 (.int 0) .null w6 ks us G1 h0 n0 Z0 SC P3 SS Fn SS.1 E_a1 Fc g_a1 Fv) hZ (ww hw 51 rfl) (ww hw 50 rfl) (by decide) (by decide)) (g := (mkF m 2 aa1 [(.ref a2), (.ref a1)])) rfl (by rw [hml]; rfl) (Steps.refl _) (a := a1) (argsL := [(.ref a2)]) (rest := []) (lenOf pd_16_6 rfl) rfl (wz rfl) (hb hby d8_2) (fun _ _ => ⟨rfl, e0, (by decide : 0 + 1 ≤ _), (by decide : 0 + 55 ≤ _)⟩)
  dsimp only [Pt.U, Pt.locs, Pt.cells, Pt.slots] at X3 l3 y3 z3 st3 hQ3
  subst l3 y3 z3
  obtain ⟨x3, k3', s3, rfl, N3q, K3, B3⟩ := hQ3
  have N3 := Fr.app N0 N3q
  obtain ⟨fs, hr, hrun, hended, hW, hsame⟩ := X3.leave (v := none) (fun _ => rfl)
  refine ⟨_, _, pre0 _ ?_, hrun, hended, _, _, rfl, ?_, ⟨_, rfl⟩, hW, hsame.mono (by decide) (by decide)⟩
  · show Sw s₁ m 0 aa1 [] _
    refine XS.aloadN X0.here hx rfl (hb hby d8_0) rfl rfl ?_
    show Sw s₁ m 1 aa1 [(.ref a1)] _
    refine XS.aloadN X0.here hx rfl (hb hby d8_1) rfl rfl ?_
    show Sw s₁ m 2 aa1 [(.ref a2), (.ref a1)] _
    refine st3.trans ?_
    show Sw T3 m 5 aa1 [] _
    exact X3.returnOut hx Bd.returns (hb hby d8_5) hr
  · show Qrm8 Z a1 a2 w6 ks us G1 h0 n0 _ T3.heap _
    exact ⟨x3, k3', s3, rfl, N3, K3, B3⟩
theorem d46_0 : decode cd20 0 = .ok (.iload_n 1, 1) := by decide +kernel
theorem d46_1 : decode cd20 1 = .ok (.iload_n 0, 1) := by decide +kernel
theorem d46_2 : decode cd20 2 = .ok (.if_icmp .ge 35, 3) := by decide +kernel
theorem d46_37 : decode cd20 37 = .ok (.return_, 1) := by decide +kernel
def Qrm46 (Z : State) (p1 : Int32) (p2 : Int32) (h0 : Heap) (n0 : Nat) (v : Option Value) (h : Heap) (L : List Loc) : Prop := v = none ∧ Fr n0 L ∧ h = h0
set_option maxRecDepth 65536 in
set_option maxHeartbeats 40000000 in
theorem rm46 (l : Launch) (Z : State) (a0 : Array Value) (hw : HW a0 Z) (ws : List Jvm.Cond) (p1 : Int32) (p2 : Int32) (h0 : Heap) (n0 : Nat) (Z0 : n0 ≤ h0.size) (hc2 : ¬ (p2 < p1)) :
    MetFree l ym20 (head1 (Jvm.Cond.code ym20 jdk_65_method_131_code 2 none :: ws) rm_00) (fun a U => a = #[(.int p1), (.int p2)] ∧ Z.Warmed39 U.vm ∧ U.heap = h0) (fun _ _ _ _ _ => True) (fun _ U o U' => ∃ v L, o = .returned v ∧ Qrm46 Z p1 p2 h0 n0 v U'.heap L ∧ FrameEnd U o U' L rm_00.cells rm_00.slots) := by
  refine MetFree.of_bodySF (plainFor_of_name pn_59) hisR ?_
  intro p e s m args below meth c s₁ Bd hml0 hP hK
  obtain ⟨rfl, hZ, hh⟩ := hP
  have hx := Bd.exec
  have hby := Bd.bytes
  have X0 : Stand p l e rm_00 s m #[(.int p1), (.int p2)] below meth c s₁ [] 0 0 := Stand.of_body Bd
  have e0 : s₁.heap = h0 := by rw [← hh, Bd.state]; rfl
  have N0 := Fr.nil n0
  let aa1 : Array Slot := #[.val (.int p1), .val (.int p2)]
  have pre0 : ∀ t, Steps p.tables e below (s₁.setTop (mkF m 0 aa1 [])) t → Steps p.tables e below (s₁.setTop (entryFrame m #[(.int p1), (.int p2)] 2)) t := fun t k => castTop (ef_58 m p1 p2) k
  obtain ⟨fs, hr, hrun, hended, hW, hsame⟩ := X0.leave (v := none) (fun _ => rfl)
  refine ⟨_, _, pre0 _ ?_, hrun, hended, _, _, rfl, ?_, ⟨_, rfl⟩, hW, hsame.mono (by decide) (by decide)⟩
  · show Sw s₁ m 0 aa1 [] _
    refine XS.iloadN X0.here hx rfl (hb hby d46_0) rfl ?_
    show Sw s₁ m 1 aa1 [(.int p2)] _
    refine XS.iloadN X0.here hx rfl (hb hby d46_1) rfl ?_
    show Sw s₁ m 2 aa1 [(.int p1), (.int p2)] _
    refine XS.icmpYes X0.here hx rfl (pc0 := 2) (pc' := 37) rfl (hb hby d46_2) rfl (flt hc2).2.1 (by decide) (by decide) ?_
    show Sw s₁ m 37 aa1 [] _
    exact X0.returnOut hx Bd.returns (hb hby d46_37) hr
  · show Qrm46 Z p1 p2 h0 n0 _ s₁.heap _
    rw [e0]
    exact ⟨rfl, N0, rfl⟩
theorem d47_9 : decode cd14 9 = .ok (.iload_n 1, 1) := by decide +kernel
def Qrm47t (Z : State) (p1 : Int32) (p2 : Int32) (h0 : Heap) (n0 : Nat) (v : Option Value) (h : Heap) (L : List Loc) : Prop := v = some (.int p2) ∧ Fr n0 L ∧ h = h0
set_option maxRecDepth 65536 in
set_option maxHeartbeats 40000000 in
theorem rm47t (l : Launch) (Z : State) (a0 : Array Value) (hw : HW a0 Z) (ws : List Jvm.Cond) (p1 : Int32) (p2 : Int32) (h0 : Heap) (n0 : Nat) (Z0 : n0 ≤ h0.size) (hc2 : p2 < p1) :
    MetFree l ym14 (head1 (Jvm.Cond.code ym14 jdk_29_method_69_code 2 (some .int) :: ws) rm_00) (fun a U => a = #[(.int p1), (.int p2)] ∧ Z.Warmed39 U.vm ∧ U.heap = h0) (fun _ _ _ _ _ => True) (fun _ U o U' => ∃ v L, o = .returned v ∧ Qrm47t Z p1 p2 h0 n0 v U'.heap L ∧ FrameEnd U o U' L rm_00.cells rm_00.slots) := by
  refine MetFree.of_bodySF (Jvm.Free.JP.mathPlain rfl (by decide +kernel)) hisR ?_
  intro p e s m args below meth c s₁ Bd hml0 hP hK
  obtain ⟨rfl, hZ, hh⟩ := hP
  have hx := Bd.exec
  have hby := Bd.bytes
  have X0 : Stand p l e rm_00 s m #[(.int p1), (.int p2)] below meth c s₁ [] 0 0 := Stand.of_body Bd
  have e0 : s₁.heap = h0 := by rw [← hh, Bd.state]; rfl
  have N0 := Fr.nil n0
  let aa1 : Array Slot := #[.val (.int p1), .val (.int p2)]
  have pre0 : ∀ t, Steps p.tables e below (s₁.setTop (mkF m 0 aa1 [])) t → Steps p.tables e below (s₁.setTop (entryFrame m #[(.int p1), (.int p2)] 2)) t := fun t k => castTop (ef_58 m p1 p2) k
  obtain ⟨fs, hr, hrun, hended, hW, hsame⟩ := X0.leave (v := some (.int p2)) (fun h => by rw [Bd.returns] at h; cases h)
  refine ⟨_, _, pre0 _ ?_, hrun, hended, _, _, rfl, ?_, ⟨_, rfl⟩, hW, hsame.mono (by decide) (by decide)⟩
  · show Sw s₁ m 0 aa1 [] _
    refine XS.iloadN X0.here hx rfl (hb hby d47_0) rfl ?_
    show Sw s₁ m 1 aa1 [(.int p1)] _
    refine XS.iloadN X0.here hx rfl (hb hby d47_1) rfl ?_
    show Sw s₁ m 2 aa1 [(.int p2), (.int p1)] _
    refine XS.icmpYes X0.here hx rfl (pc0 := 2) (pc' := 9) rfl (hb hby d47_2) rfl (tlt hc2).2.2.1 (by decide) (by decide) ?_
    show Sw s₁ m 9 aa1 [] _
    refine XS.iloadN X0.here hx rfl (hb hby d47_9) rfl ?_
    show Sw s₁ m 10 aa1 [(.int p2)] _
    exact retI X0 hx Bd.returns (hb hby d47_10) hr
  · show Qrm47t Z p1 p2 h0 n0 _ s₁.heap _
    rw [e0]
    exact ⟨rfl, N0, rfl⟩
theorem d41_0 : decode cd21 0 = .ok (.aload_n 0, 1) := by decide +kernel
theorem d41_1 : decode cd21 1 = .ok (.getfield 15, 3) := by decide +kernel
theorem d41_4 : decode cd21 4 = .ok (.areturn, 1) := by decide +kernel
def Qrm41 (Z : State) (a1 : Addr) (w2 : Addr) (h0 : Heap) (n0 : Nat) (v : Option Value) (h : Heap) (L : List Loc) : Prop := v = some (.ref w2) ∧ Fr n0 L ∧ h = h0
set_option maxRecDepth 65536 in
set_option maxHeartbeats 40000000 in
theorem rm41 (l : Launch) (Z : State) (a0 : Array Value) (hw : HW a0 Z) (ws : List Jvm.Cond) (a1 : Addr) (w2 : Addr) (h0 : Heap) (n0 : Nat) (Z0 : n0 ≤ h0.size) (F_value_a1 : Fld Z h0 a1 "java/lang/AbstractStringBuilder" "value" "[B" (.ref w2)) :
    MetFree l ym21 (head1 (Jvm.Cond.code ym21 jdk_68_method_64_code 1 (some (.array .byte)) :: ws) rm_00) (fun a U => a = #[(.ref a1)] ∧ Z.Warmed39 U.vm ∧ U.heap = h0) (fun _ _ _ _ _ => True) (fun _ U o U' => ∃ v L, o = .returned v ∧ Qrm41 Z a1 w2 h0 n0 v U'.heap L ∧ FrameEnd U o U' L rm_00.cells rm_00.slots) := by
  refine MetFree.of_bodySF (plainFor_of_name pn_15) hisR ?_
  intro p e s m args below meth c s₁ Bd hml0 hP hK
  obtain ⟨rfl, hZ, hh⟩ := hP
  have hx := Bd.exec
  have hby := Bd.bytes
  have hown : s.vm.findClass "java/lang/AbstractStringBuilder" = some m.cls := findClass_of_methodNamed Bd.named
  have X0 : Stand p l e rm_00 s m #[(.ref a1)] below meth c s₁ [] 0 0 := Stand.of_body Bd
  have e0 : s₁.heap = h0 := by rw [← hh, Bd.state]; rfl
  have N0 := Fr.nil n0
  let aa1 : Array Slot := #[.val (.ref a1)]
  have pre0 : ∀ t, Steps p.tables e below (s₁.setTop (mkF m 0 aa1 [])) t → Steps p.tables e below (s₁.setTop (entryFrame m #[(.ref a1)] 1)) t := fun t k => castTop (ef_11 m a1) k
  obtain ⟨T3, X3, e3, st3⟩ := getF X0 hx hZ hown (host := "") (Or.inl (ww hw 67 rfl)) Via.refl e0 F_value_a1 (g := (mkF m 1 aa1 [(.ref a1)])) rfl rfl (hb hby d41_1)
  obtain ⟨fs, hr, hrun, hended, hW, hsame⟩ := X3.leave (v := some (.ref w2)) (fun h => by rw [Bd.returns] at h; cases h)
  refine ⟨_, _, pre0 _ ?_, hrun, hended, _, _, rfl, ?_, ⟨_, rfl⟩, hW, hsame.mono (by decide) (by decide)⟩
  · show Sw s₁ m 0 aa1 [] _
    refine XS.aloadN X0.here hx rfl (hb hby d41_0) rfl rfl ?_
    show Sw s₁ m 1 aa1 [(.ref a1)] _
    refine st3 _ ?_
    show Steps p.tables e below (T3.setTop (mkF m 4 aa1 [(.ref w2)])) _
    jvm_step X3.here [X3.here.top, hx, (hb hby d41_4), X3.method', Bd.returns, Value.isRef, FieldType.isReference]
    first | (intro acts; rw [hr _ acts rfl rfl rfl]) | rw [hr _ _ rfl rfl rfl]
    exact Steps.refl _
  · show Qrm41 Z a1 w2 h0 n0 _ T3.heap _
    rw [e3]
    exact ⟨rfl, N0, rfl⟩
theorem d43_0 : decode cd22 0 = .ok (.aload_n 0, 1) := by decide +kernel
theorem d43_1 : decode cd22 1 = .ok (.getfield 79, 3) := by decide +kernel
theorem d43_4 : decode cd22 4 = .ok (.ireturn, 1) := by decide +kernel
def Qrm43 (Z : State) (a1 : Addr) (w2 : Int32) (h0 : Heap) (n0 : Nat) (v : Option Value) (h : Heap) (L : List Loc) : Prop := v = some (.int w2) ∧ Fr n0 L ∧ h = h0
set_option maxRecDepth 65536 in
set_option maxHeartbeats 40000000 in
theorem rm43 (l : Launch) (Z : State) (a0 : Array Value) (hw : HW a0 Z) (ws : List Jvm.Cond) (a1 : Addr) (w2 : Int32) (h0 : Heap) (n0 : Nat) (Z0 : n0 ≤ h0.size) (F_count_a1 : Fld Z h0 a1 "java/lang/AbstractStringBuilder" "count" "I" (.int w2)) :
    MetFree l ym22 (head1 (Jvm.Cond.code ym22 jdk_68_method_6_code 1 (some .int) :: ws) rm_00) (fun a U => a = #[(.ref a1)] ∧ Z.Warmed39 U.vm ∧ U.heap = h0) (fun _ _ _ _ _ => True) (fun _ U o U' => ∃ v L, o = .returned v ∧ Qrm43 Z a1 w2 h0 n0 v U'.heap L ∧ FrameEnd U o U' L rm_00.cells rm_00.slots) := by
  refine MetFree.of_bodySF (plainFor_of_name pn_15) hisR ?_
  intro p e s m args below meth c s₁ Bd hml0 hP hK
  obtain ⟨rfl, hZ, hh⟩ := hP
  have hx := Bd.exec
  have hby := Bd.bytes
  have hown : s.vm.findClass "java/lang/AbstractStringBuilder" = some m.cls := findClass_of_methodNamed Bd.named
  have X0 : Stand p l e rm_00 s m #[(.ref a1)] below meth c s₁ [] 0 0 := Stand.of_body Bd
  have e0 : s₁.heap = h0 := by rw [← hh, Bd.state]; rfl
  have N0 := Fr.nil n0
  let aa1 : Array Slot := #[.val (.ref a1)]
  have pre0 : ∀ t, Steps p.tables e below (s₁.setTop (mkF m 0 aa1 [])) t → Steps p.tables e below (s₁.setTop (entryFrame m #[(.ref a1)] 1)) t := fun t k => castTop (ef_11 m a1) k
  obtain ⟨T3, X3, e3, st3⟩ := getF X0 hx hZ hown (host := "") (Or.inl (ww hw 83 rfl)) Via.refl e0 F_count_a1 (g := (mkF m 1 aa1 [(.ref a1)])) rfl rfl (hb hby d43_1)
  obtain ⟨fs, hr, hrun, hended, hW, hsame⟩ := X3.leave (v := some (.int w2)) (fun h => by rw [Bd.returns] at h; cases h)
  refine ⟨_, _, pre0 _ ?_, hrun, hended, _, _, rfl, ?_, ⟨_, rfl⟩, hW, hsame.mono (by decide) (by decide)⟩
  · show Sw s₁ m 0 aa1 [] _
    refine XS.aloadN X0.here hx rfl (hb hby d43_0) rfl rfl ?_
    show Sw s₁ m 1 aa1 [(.ref a1)] _
    refine st3 _ ?_
    show Sw T3 m 4 aa1 [(.int w2)] _
    exact retI X3 hx Bd.returns (hb hby d43_4) hr
  · show Qrm43 Z a1 w2 h0 n0 _ T3.heap _
    rw [e3]
    exact ⟨rfl, N0, rfl⟩
theorem d42_0 : decode cd23 0 = .ok (.aload_n 0, 1) := by decide +kernel
theorem d42_1 : decode cd23 1 = .ok (.invokespecial 343, 3) := by decide +kernel
theorem d42_4 : decode cd23 4 = .ok (.ireturn, 1) := by decide +kernel
def Qrm42 (Z : State) (a1 : Addr) (n : Int32) (h0 : Heap) (n0 : Nat) (v : Option Value) (h : Heap) (L : List Loc) : Prop := v = some (.int n) ∧ Fr n0 L ∧ h = h0
set_option maxRecDepth 65536 in
set_option maxHeartbeats 40000000 in
theorem rm42 (l : Launch) (Z : State) (a0 : Array Value) (hw : HW a0 Z) (ws : List Jvm.Cond) (a1 : Addr) (n : Int32) (h0 : Heap) (n0 : Nat) (Z0 : n0 ≤ h0.size) (Fn : Fld Z h0 a1 "java/lang/AbstractStringBuilder" "count" "I" (.int n)) (E_a1 : Exa Z h0 a1 "java/lang/StringBuilder") :
    MetFree l ym23 (head1 (Jvm.Cond.code ym23 jdk_67_method_93_code 1 (some .int) :: ws) rm_16) (fun a U => a = #[(.ref a1)] ∧ Z.Warmed39 U.vm ∧ U.heap = h0) (fun _ _ _ _ _ => True) (fun _ U o U' => ∃ v L, o = .returned v ∧ Qrm42 Z a1 n h0 n0 v U'.heap L ∧ FrameEnd U o U' L rm_16.cells rm_16.slots) := by
  refine MetFree.of_bodySF (plainFor_of_name pn_13) hisR ?_
  intro p e s m args below meth c s₁ Bd hml0 hP hK
  obtain ⟨rfl, hZ, hh⟩ := hP
  have hx := Bd.exec
  have hby := Bd.bytes
  have hml : c.maxLocals = 1 := hml0
  have hown : s.vm.findClass "java/lang/StringBuilder" = some m.cls := findClass_of_methodNamed Bd.named
  have X0 : Stand p l e rm_16 s m #[(.ref a1)] below meth c s₁ [] 0 0 := Stand.of_body Bd
  have e0 : s₁.heap = h0 := by rw [← hh, Bd.state]; rfl
  have N0 := Fr.nil n0
  let aa1 : Array Slot := #[.val (.ref a1)]
  have pre0 : ∀ t, Steps p.tables e below (s₁.setTop (mkF m 0 aa1 [])) t → Steps p.tables e below (s₁.setTop (entryFrame m #[(.ref a1)] 1)) t := fun t k => castTop (ef_11 m a1) k
  obtain ⟨_, _, ⟨T2, L2, k2, n2⟩, -, X2, ⟨Lc2, hQ2, l2, y2, z2⟩, st2⟩ := superBack X0 hx hZ (y := ym22) hown (ww hw 250 rfl) (own_same (ww hw 246 rfl) (ww hw 88 rfl) (by decide) rfl) (ww hw 246 rfl) (ww hw 81 rfl) (by decide) (backOf (W := 0) (rm43 l Z a0 hw [] a1 n h0 n0 Z0 Fn) hZ (ww hw 251 rfl) (ww hw 50 rfl) (by decide) (by decide)) e0 (Ins.self E_a1) (g := (mkF m 1 aa1 [(.ref a1)])) rfl (by rw [hml]; rfl) (ww hw 251 rfl) (argsL := []) (rest := []) (lenOf pd_14_7 rfl) rfl (wz rfl) (hb hby d42_1) (fun _ _ => ⟨rfl, e0, (by decide : 0 + 0 ≤ _), (by decide : 0 + 0 ≤ _)⟩)
  dsimp only [Pt.U, Pt.locs, Pt.cells, Pt.slots] at X2 l2 y2 z2 st2 hQ2
  subst l2 y2 z2
  obtain ⟨rfl, N2q, e2⟩ := hQ2
  have N2 := Fr.app N0 N2q
  obtain ⟨fs, hr, hrun, hended, hW, hsame⟩ := X2.leave (v := some (.int n)) (fun h => by rw [Bd.returns] at h; cases h)
  refine ⟨_, _, pre0 _ ?_, hrun, hended, _, _, rfl, ?_, ⟨_, rfl⟩, hW, hsame.mono (by decide) (by decide)⟩
  · show Sw s₁ m 0 aa1 [] _
    refine XS.aloadN X0.here hx rfl (hb hby d42_0) rfl rfl ?_
    show Sw s₁ m 1 aa1 [(.ref a1)] _
    refine st2.trans ?_
    show Sw T2 m 4 aa1 [(.int n)] _
    exact retI X2 hx Bd.returns (hb hby d42_4) hr
  · show Qrm42 Z a1 n h0 n0 _ T2.heap _
    exact ⟨rfl, N2, e2⟩
theorem d45_0 : decode cd24 0 = .ok (.iload_n 1, 1) := by decide +kernel
theorem d45_1 : decode cd24 1 = .ok (.iload_n 2, 1) := by decide +kernel
theorem d45_2 : decode cd24 2 = .ok (.invokestatic 343, 3) := by decide +kernel
theorem d45_5 : decode cd24 5 = .ok (.iload_n 2, 1) := by decide +kernel
theorem d45_6 : decode cd24 6 = .ok (.iload_n 1, 1) := by decide +kernel
theorem d45_7 : decode cd24 7 = .ok (.isub, 1) := by decide +kernel
theorem d45_8 : decode cd24 8 = .ok (.istore_n 3, 1) := by decide +kernel
theorem d45_9 : decode cd24 9 = .ok (.iload_n 3, 1) := by decide +kernel
theorem d45_10 : decode cd24 10 = .ok (.newarray .byte, 2) := by decide +kernel
theorem d45_12 : decode cd24 12 = .ok (.astore 4, 2) := by decide +kernel
theorem d45_14 : decode cd24 14 = .ok (.aload_n 0, 1) := by decide +kernel
theorem d45_15 : decode cd24 15 = .ok (.iload_n 1, 1) := by decide +kernel
theorem d45_16 : decode cd24 16 = .ok (.aload 4, 2) := by decide +kernel
theorem d45_18 : decode cd24 18 = .ok (.iconst 0, 1) := by decide +kernel
theorem d45_19 : decode cd24 19 = .ok (.aload_n 0, 1) := by decide +kernel
theorem d45_20 : decode cd24 20 = .ok (.arraylength, 1) := by decide +kernel
theorem d45_21 : decode cd24 21 = .ok (.iload_n 1, 1) := by decide +kernel
theorem d45_22 : decode cd24 22 = .ok (.isub, 1) := by decide +kernel
theorem d45_23 : decode cd24 23 = .ok (.iload_n 3, 1) := by decide +kernel
theorem d45_24 : decode cd24 24 = .ok (.invokestatic 304, 3) := by decide +kernel
theorem d45_27 : decode cd24 27 = .ok (.invokestatic 150, 3) := by decide +kernel
theorem d45_30 : decode cd24 30 = .ok (.aload 4, 2) := by decide +kernel
theorem d45_32 : decode cd24 32 = .ok (.areturn, 1) := by decide +kernel
theorem pd_45_30 : parseMethodDescriptor "(II)V" = some ⟨[.int, .int], none⟩ := by decide +kernel
theorem ef_45 (m : MethodId) (x0 : Addr) (x1 : Int32) (x2 : Int32) : entryFrame m #[(.ref x0), (.int x1), (.int x2)] 5 = mkF m 0 #[.val (.ref x0), .val (.int x1), .val (.int x2), .unset, .unset] [] := by first | (simp [entryFrame, mkF, argsToLocals, Value.category]; done) | rfl
def Qrm45 (Z : State) (a1 : Addr) (p3 : Int32) (z_a1 : Int32) (k_a1 : ClassId) (vs_a1 : List Value) (h0 : Heap) (n0 : Nat) (v : Option Value) (h : Heap) (L : List Loc) : Prop := ∃ x k', h0.size ≤ x ∧ v = some (.ref x) ∧ Fr n0 L ∧ Keep h0 h [] ∧ Arv Z h x k' .byte p3 vs_a1 (.int 0)
set_option maxRecDepth 65536 in
set_option maxHeartbeats 40000000 in
theorem rm45 (l : Launch) (Z : State) (a0 : Array Value) (hw : HW a0 Z) (ws : List Jvm.Cond) (a1 : Addr) (p3 : Int32) (z_a1 : Int32) (k_a1 : ClassId) (vs_a1 : List Value) (h0 : Heap) (n0 : Nat) (Z0 : n0 ≤ h0.size) (c1 : p3.toNatClampNeg = vs_a1.length) (c4 : ¬ p3 < 0) (c5 : p3.toNatClampNeg ≤ 58) (c6 : p3 < z_a1) (c7 : p3.toNatClampNeg ≤ z_a1.toNatClampNeg) (V_a1 : Arv Z h0 a1 k_a1 .byte z_a1 vs_a1 (.int 0)) :
    MetFree l ym24 (head1 (Jvm.Cond.code ym24 jdk_65_method_133_code 5 (some (.array .byte)) :: ws) rm_17) (fun a U => a = #[(.ref a1), (.int 0), (.int p3)] ∧ Z.Warmed39 U.vm ∧ U.heap = h0) (fun _ _ _ _ _ => True) (fun _ U o U' => ∃ v L, o = .returned v ∧ Qrm45 Z a1 p3 z_a1 k_a1 vs_a1 h0 n0 v U'.heap L ∧ FrameEnd U o U' L rm_17.cells rm_17.slots) := by
  refine MetFree.of_bodySF (plainFor_of_name pn_59) hisR ?_
  intro p e s m args below meth c s₁ Bd hml0 hP hK
  obtain ⟨rfl, hZ, hh⟩ := hP
  have hx := Bd.exec
  have hby := Bd.bytes
  have hml : c.maxLocals = 5 := hml0
  have hown : s.vm.findClass "java/util/Arrays" = some m.cls := findClass_of_methodNamed Bd.named
  have X0 : Stand p l e rm_17 s m #[(.ref a1), (.int 0), (.int p3)] below meth c s₁ [] 0 0 := Stand.of_body Bd
  have e0 : s₁.heap = h0 := by rw [← hh, Bd.state]; rfl
  have N0 := Fr.nil n0
  obtain ⟨cl_a1, Ar_a1, C_a1, S_a1, N_a1, H_a1, G_a1⟩ := id V_a1
  let aa1 : Array Slot := #[.val (.ref a1), .val (.int 0), .val (.int p3), .unset, .unset]
  have pre0 : ∀ t, Steps p.tables e below (s₁.setTop (mkF m 0 aa1 [])) t → Steps p.tables e below (s₁.setTop (entryFrame m #[(.ref a1), (.int 0), (.int p3)] 5)) t := fun t k => castTop (ef_45 m a1 (0 : Int32) p3) k
  obtain ⟨_, _, ⟨T4, L4, k4, n4⟩, -, X4, ⟨Lc4, hQ4, l4, y4, z4⟩, st4⟩ := Jvm.LawKit.callS X0 hx (y := ym20) hown (mvT hZ (ww hw 260 rfl)) (mvT hZ (ww hw 261 rfl)) (mvT hZ (ww hw 255 rfl)) (mvT hZ (ww hw 262 rfl)) (by decide) (backOf (W := 0) (rm46 l Z a0 hw [] (0 : Int32) p3 h0 n0 Z0 c4) hZ (ww hw 262 rfl) (ww hw 255 rfl) (by decide) (by decide)) (g := (mkF m 2 aa1 [(.int p3), (.int 0)])) rfl (by rw [hml]; rfl) (argsL := [(.int 0), (.int p3)]) (rest := []) (lenOf pd_45_30 rfl) rfl (wz rfl) (hb hby d45_2) (fun _ _ => ⟨rfl, e0, (by decide : 0 + 0 ≤ _), (by decide : 0 + 0 ≤ _)⟩)
  dsimp only [Pt.U, Pt.locs, Pt.cells, Pt.slots] at X4 l4 y4 z4 st4 hQ4
  subst l4 y4 z4
  obtain ⟨rfl, N4q, e4⟩ := hQ4
  have N4 := Fr.app N0 N4q
  let aa2 : Array Slot := #[.val (.ref a1), .val (.int 0), .val (.int p3), .val (.int (p3 - (0 : Int32))), .unset]
  obtain ⟨T5, h5, k5, X5, e5, E5, A5, st5⟩ := newP X4 hx hZ (ww hw 19 rfl) e4 (g := (mkF m 10 aa2 [(.int (p3 - (0 : Int32)))])) rfl (hb hby d45_10) rfl (by rw [Int32.sub_zero]; exact c4) (cap := 58) (by rw [Int32.sub_zero]; exact c5) (by decide) (by decide) (by decide)
  obtain ⟨b5, g5⟩ : ∃ z, z = h0.size := ⟨_, rfl⟩
  rw [← g5] at A5 st5
  have V_b5 := Arv.new A5 (by rw [Int32.sub_zero]; exact c4)
  have g_b5 : n0 ≤ b5 := Nat.le_trans (Nat.le_trans Z0 (Nat.le_refl _)) (Nat.le_of_eq g5.symm)
  have sz_b5 : h0.size ≤ b5 := (Nat.le_trans (Nat.le_refl h0.size) (Nat.le_of_eq g5.symm))
  have K5 : Keep h0 h5 [] := (Keep.refl h0 _).ext E5
  let aa3 : Array Slot := #[.val (.ref a1), .val (.int 0), .val (.int p3), .val (.int (p3 - (0 : Int32))), .val (.ref b5)]
  obtain ⟨_, _, ⟨T6, L6, k6, n6⟩, -, X6, ⟨Lc6, hQ6, l6, y6, z6⟩, st6⟩ := Jvm.LawKit.callS X5 hx (y := ym14) hown (mvT hZ (ww hw 263 rfl)) (mvT hZ (ww hw 264 rfl)) (mvT hZ (ww hw 265 rfl)) (mvT hZ (ww hw 266 rfl)) (by decide) (backOf (W := 4) (rm47t l Z a0 hw [] (z_a1 - (0 : Int32)) (p3 - (0 : Int32)) h5 n0 (Nat.le_trans Z0 E5.1) (by rw [Int32.sub_zero, Int32.sub_zero]; exact c6)) hZ (ww hw 266 rfl) (ww hw 265 rfl) (by decide) (by decide)) (g := (mkF m 24 aa3 [(.int (p3 - (0 : Int32))), (.int (z_a1 - (0 : Int32))), (.int 0), (.ref b5), (.int 0), (.ref a1)])) rfl (by rw [hml]; rfl) (argsL := [(.int (z_a1 - (0 : Int32))), (.int (p3 - (0 : Int32)))]) (rest := [(.int 0), (.ref b5), (.int 0), (.ref a1)]) (lenOf pd_57_21 rfl) rfl (wz rfl) (hb hby d45_24) (fun _ _ => ⟨rfl, e5, (by decide : 1 + 0 ≤ _), (by decide : 58 + 0 ≤ _)⟩)
  dsimp only [Pt.U, Pt.locs, Pt.cells, Pt.slots] at X6 l6 y6 z6 st6 hQ6
  subst l6 y6 z6
  obtain ⟨rfl, N6q, e6⟩ := hQ6
  have N6 := Fr.app N4 N6q
  obtain ⟨T7, h7, L7, X7, e7, N7, K7, V7, st7⟩ := cpA X6 hx hZ hown (ww hw 267 rfl) (ww hw 109 rfl) (ww hw 107 rfl) (ww hw 108 rfl) e6 (V_a1.ext E5) (V_b5.pad (pad_rep [] (.int 0) vs_a1.length)) (Or.inl ⟨rfl, rfl⟩) (by decide) (by decide) (by rw [Int32.sub_zero]; exact c4) (by rw [Int32.sub_zero]; show 0 + _ ≤ _; omega) (by show 0 + _ ≤ _; omega) rfl (by rw [Int32.sub_zero, c1]; simp) N6 g_b5 (g := (mkF m 27 aa3 [(.int (p3 - (0 : Int32))), (.int 0), (.ref b5), (.int 0), (.ref a1)])) rfl (by rw [hml]; rfl) rfl (hb hby d45_27) (by decide) (W := 0) (wz rfl) (by decide)
  obtain ⟨fs, hr, hrun, hended, hW, hsame⟩ := X7.leave (v := some (.ref b5)) (fun h => by rw [Bd.returns] at h; cases h)
  refine ⟨_, _, pre0 _ ?_, hrun, hended, _, _, rfl, ?_, ⟨_, rfl⟩, hW, hsame.mono (by decide) (by decide)⟩
  · show Sw s₁ m 0 aa1 [] _
    refine XS.iloadN X0.here hx rfl (hb hby d45_0) rfl ?_
    show Sw s₁ m 1 aa1 [(.int 0)] _
    refine XS.iloadN X0.here hx rfl (hb hby d45_1) rfl ?_
    show Sw s₁ m 2 aa1 [(.int p3), (.int 0)] _
    refine st4 _ ?_
    show Sw T4 m 5 aa1 [] _
    refine XS.iloadN X4.here hx rfl (hb hby d45_5) rfl ?_
    show Sw T4 m 6 aa1 [(.int p3)] _
    refine XS.iloadN X4.here hx rfl (hb hby d45_6) rfl ?_
    show Sw T4 m 7 aa1 [(.int 0), (.int p3)] _
    refine XS.isub X4.here hx rfl (hb hby d45_7) rfl ?_
    show Sw T4 m 8 aa1 [(.int (p3 - (0 : Int32)))] _
    refine XS.istoreN X4.here hx rfl (hb hby d45_8) rfl (l' := aa2) rfl ?_
    show Sw T4 m 9 aa2 [] _
    refine XS.iloadN X4.here hx rfl (hb hby d45_9) rfl ?_
    show Sw T4 m 10 aa2 [(.int (p3 - (0 : Int32)))] _
    refine st5 _ ?_
    show Sw T5 m 12 aa2 [(.ref b5)] _
    refine XS.astore X5.here hx rfl (hb hby d45_12) rfl rfl (l' := aa3) rfl ?_
    show Sw T5 m 14 aa3 [] _
    refine XS.aloadN X5.here hx rfl (hb hby d45_14) rfl rfl ?_
    show Sw T5 m 15 aa3 [(.ref a1)] _
    refine XS.iloadN X5.here hx rfl (hb hby d45_15) rfl ?_
    show Sw T5 m 16 aa3 [(.int 0), (.ref a1)] _
    refine XS.aload X5.here hx rfl (hb hby d45_16) rfl rfl ?_
    show Sw T5 m 18 aa3 [(.ref b5), (.int 0), (.ref a1)] _
    refine XS.iconst X5.here hx rfl (hb hby d45_18) ?_
    show Sw T5 m 19 aa3 [(.int 0), (.ref b5), (.int 0), (.ref a1)] _
    refine XS.aloadN X5.here hx rfl (hb hby d45_19) rfl rfl ?_
    show Sw T5 m 20 aa3 [(.ref a1), (.int 0), (.ref b5), (.int 0), (.ref a1)] _
    refine X5.arraylength hx (by rw [e5]; exact (Ar_a1.ext E5).1) (State.isArrayOf_alike hZ.alike Ar_a1.2.1) (g := (mkF m 20 aa3 [(.ref a1), (.int 0), (.ref b5), (.int 0), (.ref a1)])) rfl rfl (hb hby d45_20) _ ?_
    rw [len_of S_a1 N_a1]
    show Sw T5 m 21 aa3 [(.int z_a1), (.int 0), (.ref b5), (.int 0), (.ref a1)] _
    refine XS.iloadN X5.here hx rfl (hb hby d45_21) rfl ?_
    show Sw T5 m 22 aa3 [(.int 0), (.int z_a1), (.int 0), (.ref b5), (.int 0), (.ref a1)] _
    refine XS.isub X5.here hx rfl (hb hby d45_22) rfl ?_
    show Sw T5 m 23 aa3 [(.int (z_a1 - (0 : Int32))), (.int 0), (.ref b5), (.int 0), (.ref a1)] _
    refine XS.iloadN X5.here hx rfl (hb hby d45_23) rfl ?_
    show Sw T5 m 24 aa3 [(.int (p3 - (0 : Int32))), (.int (z_a1 - (0 : Int32))), (.int 0), (.ref b5), (.int 0), (.ref a1)] _
    refine st6 _ ?_
    show Sw T6 m 27 aa3 [(.int (p3 - (0 : Int32))), (.int 0), (.ref b5), (.int 0), (.ref a1)] _
    refine st7 _ ?_
    show Sw T7 m 30 aa3 [] _
    refine XS.aload X7.here hx rfl (hb hby d45_30) rfl rfl ?_
    show Steps p.tables e below (T7.setTop (mkF m 32 aa3 [(.ref b5)])) _
    jvm_step X7.here [X7.here.top, hx, (hb hby d45_32), X7.method', Bd.returns, Value.isRef, FieldType.isReference]
    first | (intro acts; rw [hr _ acts rfl rfl rfl]) | rw [hr _ _ rfl rfl rfl]
    exact Steps.refl _
  · show Qrm45 Z a1 p3 z_a1 k_a1 vs_a1 h0 n0 _ T7.heap _
    rw [e7]
    rw [own_cat _ _ _ _ ((0 : Int32).toNatClampNeg) ((0 : Int32).toNatClampNeg) ((p3 - (0 : Int32)).toNatClampNeg) rfl rfl (by rw [Int32.sub_zero, c1]), Int32.sub_zero] at V7
    exact ⟨b5, k5, sz_b5, rfl, N7, K5.trans K7 (allS (Or.inr sz_b5) all0), V7⟩
theorem d44_0 : decode cd25 0 = .ok (.iload_n 1, 1) := by decide +kernel
theorem d44_1 : decode cd25 1 = .ok (.ifCond .ne 9, 3) := by decide +kernel
theorem d44_4 : decode cd25 4 = .ok (.iload_n 2, 1) := by decide +kernel
theorem d44_5 : decode cd25 5 = .ok (.aload_n 0, 1) := by decide +kernel
theorem d44_6 : decode cd25 6 = .ok (.arraylength, 1) := by decide +kernel
theorem d44_7 : decode cd25 7 = .ok (.if_icmp .eq 10, 3) := by decide +kernel
theorem d44_10 : decode cd25 10 = .ok (.aload_n 0, 1) := by decide +kernel
theorem d44_11 : decode cd25 11 = .ok (.iload_n 1, 1) := by decide +kernel
theorem d44_12 : decode cd25 12 = .ok (.iload_n 2, 1) := by decide +kernel
theorem d44_13 : decode cd25 13 = .ok (.invokestatic 339, 3) := by decide +kernel
theorem d44_16 : decode cd25 16 = .ok (.areturn, 1) := by decide +kernel
theorem pd_44_29 : parseMethodDescriptor "([BII)[B" = some ⟨[(.array .byte), .int, .int], some (.array .byte)⟩ := by decide +kernel
theorem ef_44 (m : MethodId) (x0 : Addr) (x1 : Int32) (x2 : Int32) : entryFrame m #[(.ref x0), (.int x1), (.int x2)] 3 = mkF m 0 #[.val (.ref x0), .val (.int x1), .val (.int x2)] [] := by first | (simp [entryFrame, mkF, argsToLocals, Value.category]; done) | rfl
def Qrm44 (Z : State) (a1 : Addr) (p3 : Int32) (z_a1 : Int32) (k_a1 : ClassId) (vs_a1 : List Value) (h0 : Heap) (n0 : Nat) (v : Option Value) (h : Heap) (L : List Loc) : Prop := ∃ x k', h0.size ≤ x ∧ v = some (.ref x) ∧ Fr n0 L ∧ Keep h0 h [] ∧ Arv Z h x k' .byte p3 vs_a1 (.int 0)
set_option maxRecDepth 65536 in
set_option maxHeartbeats 40000000 in
theorem rm44 (l : Launch) (Z : State) (a0 : Array Value) (hw : HW a0 Z) (ws : List Jvm.Cond) (a1 : Addr) (p3 : Int32) (z_a1 : Int32) (k_a1 : ClassId) (vs_a1 : List Value) (h0 : Heap) (n0 : Nat) (Z0 : n0 ≤ h0.size) (c1 : p3.toNatClampNeg = vs_a1.length) (c4 : ¬ p3 < 0) (c5 : p3.toNatClampNeg ≤ 58) (c6 : p3 < z_a1) (c7 : p3.toNatClampNeg ≤ z_a1.toNatClampNeg) (V_a1 : Arv Z h0 a1 k_a1 .byte z_a1 vs_a1 (.int 0)) (hc1 : (0 : Int32) = (0 : Int32)) (hc7 : ¬ (p3 = z_a1)) :
    MetFree l ym25 (head1 (Jvm.Cond.code ym25 jdk_65_method_132_code 3 (some (.array .byte)) :: ws) rm_18) (fun a U => a = #[(.ref a1), (.int 0), (.int p3)] ∧ Z.Warmed39 U.vm ∧ U.heap = h0) (fun _ _ _ _ _ => True) (fun _ U o U' => ∃ v L, o = .returned v ∧ Qrm44 Z a1 p3 z_a1 k_a1 vs_a1 h0 n0 v U'.heap L ∧ FrameEnd U o U' L rm_18.cells rm_18.slots) := by
  refine MetFree.of_bodySF (plainFor_of_name pn_59) hisR ?_
  intro p e s m args below meth c s₁ Bd hml0 hP hK
  obtain ⟨rfl, hZ, hh⟩ := hP
  have hx := Bd.exec
  have hby := Bd.bytes
  have hml : c.maxLocals = 3 := hml0
  have hown : s.vm.findClass "java/util/Arrays" = some m.cls := findClass_of_methodNamed Bd.named
  have X0 : Stand p l e rm_18 s m #[(.ref a1), (.int 0), (.int p3)] below meth c s₁ [] 0 0 := Stand.of_body Bd
  have e0 : s₁.heap = h0 := by rw [← hh, Bd.state]; rfl
  have N0 := Fr.nil n0
  obtain ⟨cl_a1, Ar_a1, C_a1, S_a1, N_a1, H_a1, G_a1⟩ := id V_a1
  let aa1 : Array Slot := #[.val (.ref a1), .val (.int 0), .val (.int p3)]
  have pre0 : ∀ t, Steps p.tables e below (s₁.setTop (mkF m 0 aa1 [])) t → Steps p.tables e below (s₁.setTop (entryFrame m #[(.ref a1), (.int 0), (.int p3)] 3)) t := fun t k => castTop (ef_44 m a1 (0 : Int32) p3) k
  obtain ⟨_, _, ⟨T4, L4, k4, n4⟩, -, X4, ⟨Lc4, hQ4, l4, y4, z4⟩, st4⟩ := Jvm.LawKit.callS X0 hx (y := ym24) hown (mvT hZ (ww hw 257 rfl)) (mvT hZ (ww hw 258 rfl)) (mvT hZ (ww hw 255 rfl)) (mvT hZ (ww hw 259 rfl)) (by decide) (backOf (W := 0) (rm45 l Z a0 hw [] a1 p3 z_a1 k_a1 vs_a1 h0 n0 Z0 c1 c4 c5 c6 c7 V_a1) hZ (ww hw 259 rfl) (ww hw 255 rfl) (by decide) (by decide)) (g := (mkF m 13 aa1 [(.int p3), (.int 0), (.ref a1)])) rfl (by rw [hml]; rfl) (argsL := [(.ref a1), (.int 0), (.int p3)]) (rest := []) (lenOf pd_44_29 rfl) rfl (wz rfl) (hb hby d44_13) (fun _ _ => ⟨rfl, e0, (by decide : 0 + 1 ≤ _), (by decide : 0 + 58 ≤ _)⟩)
  dsimp only [Pt.U, Pt.locs, Pt.cells, Pt.slots] at X4 l4 y4 z4 st4 hQ4
  subst l4 y4 z4
  obtain ⟨x4, k4', s4, rfl, N4q, K4, V4⟩ := hQ4
  have N4 := Fr.app N0 N4q
  obtain ⟨fs, hr, hrun, hended, hW, hsame⟩ := X4.leave (v := some (.ref x4)) (fun h => by rw [Bd.returns] at h; cases h)
  refine ⟨_, _, pre0 _ ?_, hrun, hended, _, _, rfl, ?_, ⟨_, rfl⟩, hW, hsame.mono (by decide) (by decide)⟩
  · show Sw s₁ m 0 aa1 [] _
    refine XS.iloadN X0.here hx rfl (hb hby d44_0) rfl ?_
    show Sw s₁ m 1 aa1 [(.int 0)] _
    refine XS.ifNo X0.here hx rfl (hb hby d44_1) rfl ((if0 _ _).trans (teq hc1).2) ?_
    show Sw s₁ m 4 aa1 [] _
    refine XS.iloadN X0.here hx rfl (hb hby d44_4) rfl ?_
    show Sw s₁ m 5 aa1 [(.int p3)] _
    refine XS.aloadN X0.here hx rfl (hb hby d44_5) rfl rfl ?_
    show Sw s₁ m 6 aa1 [(.ref a1), (.int p3)] _
    refine X0.arraylength hx (by rw [e0]; exact Ar_a1.1) (State.isArrayOf_alike hZ.alike Ar_a1.2.1) (g := (mkF m 6 aa1 [(.ref a1), (.int p3)])) rfl rfl (hb hby d44_6) _ ?_
    rw [len_of S_a1 N_a1]
    show Sw s₁ m 7 aa1 [(.int z_a1), (.int p3)] _
    refine XS.icmpNo X0.here hx rfl (hb hby d44_7) rfl (feq hc7).1 ?_
    show Sw s₁ m 10 aa1 [] _
    refine XS.aloadN X0.here hx rfl (hb hby d44_10) rfl rfl ?_
    show Sw s₁ m 11 aa1 [(.ref a1)] _
    refine XS.iloadN X0.here hx rfl (hb hby d44_11) rfl ?_
    show Sw s₁ m 12 aa1 [(.int 0), (.ref a1)] _
    refine XS.iloadN X0.here hx rfl (hb hby d44_12) rfl ?_
    show Sw s₁ m 13 aa1 [(.int p3), (.int 0), (.ref a1)] _
    refine st4 _ ?_
    show Steps p.tables e below (T4.setTop (mkF m 16 aa1 [(.ref x4)])) _
    jvm_step X4.here [X4.here.top, hx, (hb hby d44_16), X4.method', Bd.returns, Value.isRef, FieldType.isReference]
    first | (intro acts; rw [hr _ acts rfl rfl rfl]) | rw [hr _ _ rfl rfl rfl]
    exact Steps.refl _
  · show Qrm44 Z a1 p3 z_a1 k_a1 vs_a1 h0 n0 _ T4.heap _
    exact ⟨x4, k4', s4, rfl, N4, K4, V4⟩
theorem d40_0 : decode cd26 0 = .ok (.aload_n 0, 1) := by decide +kernel
theorem d40_1 : decode cd26 1 = .ok (.invokespecial 1, 3) := by decide +kernel
theorem d40_4 : decode cd26 4 = .ok (.aload_n 1, 1) := by decide +kernel
theorem d40_5 : decode cd26 5 = .ok (.invokevirtual 552, 3) := by decide +kernel
theorem d40_8 : decode cd26 8 = .ok (.astore_n 3, 1) := by decide +kernel
theorem d40_9 : decode cd26 9 = .ok (.aload_n 1, 1) := by decide +kernel
theorem d40_10 : decode cd26 10 = .ok (.invokevirtual 549, 3) := by decide +kernel
theorem d40_13 : decode cd26 13 = .ok (.istore 4, 2) := by decide +kernel
theorem d40_15 : decode cd26 15 = .ok (.aload_n 1, 1) := by decide +kernel
theorem d40_16 : decode cd26 16 = .ok (.invokevirtual 1047, 3) := by decide +kernel
theorem d40_19 : decode cd26 19 = .ok (.ifCond .eq 22, 3) := by decide +kernel
theorem d40_22 : decode cd26 22 = .ok (.aload_n 0, 1) := by decide +kernel
theorem d40_23 : decode cd26 23 = .ok (.iconst 0, 1) := by decide +kernel
theorem d40_24 : decode cd26 24 = .ok (.putfield 15, 3) := by decide +kernel
theorem d40_27 : decode cd26 27 = .ok (.aload_n 0, 1) := by decide +kernel
theorem d40_28 : decode cd26 28 = .ok (.aload_n 3, 1) := by decide +kernel
theorem d40_29 : decode cd26 29 = .ok (.iconst 0, 1) := by decide +kernel
theorem d40_30 : decode cd26 30 = .ok (.iload 4, 2) := by decide +kernel
theorem d40_32 : decode cd26 32 = .ok (.invokestatic 54, 3) := by decide +kernel
theorem d40_35 : decode cd26 35 = .ok (.putfield 9, 3) := by decide +kernel
theorem d40_38 : decode cd26 38 = .ok (.goto 59, 3) := by decide +kernel
theorem d40_97 : decode cd26 97 = .ok (.return_, 1) := by decide +kernel
theorem pd_40_28 : parseMethodDescriptor "()[B" = some ⟨[], some (.array .byte)⟩ := by decide +kernel
theorem ef_40 (m : MethodId) (x0 : Addr) (x1 : Addr) : entryFrame m #[(.ref x0), (.ref x1), .null] 5 = mkF m 0 #[.val (.ref x0), .val (.ref x1), .val .null, .unset, .unset] [] := by first | (simp [entryFrame, mkF, argsToLocals, Value.category]; done) | rfl
def Qrm40 (Z : State) (a1 : Addr) (a2 : Addr) (w8 : Addr) (kb : ClassId) (cap n : Int32) (vs : List Value) (G1 : Int32) (h0 : Heap) (n0 : Nat) (v : Option Value) (h : Heap) (L : List Loc) : Prop := ∃ x k', h0.size ≤ x ∧ v = none ∧ Fr n0 L ∧ Keep h0 h [a1] ∧ own_S Z h a1 x k' n vs
set_option maxRecDepth 65536 in
set_option maxHeartbeats 40000000 in
theorem rm40 (l : Launch) (Z : State) (a0 : Array Value) (hw : HW a0 Z) (ws : List Jvm.Cond) (a1 : Addr) (a2 : Addr) (w8 : Addr) (kb : ClassId) (cap n : Int32) (vs : List Value) (G1 : Int32) (h0 : Heap) (n0 : Nat) (Z0 : n0 ≤ h0.size) (SC : Sta Z h0 "java/lang/String" "COMPACT_STRINGS" "Z" (.int G1)) (P3 : ¬ (G1 = (0 : Int32))) (BB : own_B Z h0 a2 w8 kb cap n vs) (c5 : n.toNatClampNeg ≤ 58) (c6 : n < cap) (c7 : n.toNatClampNeg ≤ cap.toNatClampNeg) (c8 : ¬ (n = cap)) (E_a2 : Exa Z h0 a2 "java/lang/StringBuilder") (E_a1 : Exa Z h0 a1 "java/lang/String") (F_coder_a1 : Fld Z h0 a1 "java/lang/String" "coder" "B" (.int 0)) (g_a1 : n0 ≤ a1) (F_value_a1 : Fld Z h0 a1 "java/lang/String" "value" "[B" .null) :
    MetFree l ym26 (head1 (Jvm.Cond.code ym26 jdk_42_method_150_code 5 none :: ws) rm_19) (fun a U => a = #[(.ref a1), (.ref a2), .null] ∧ Z.Warmed39 U.vm ∧ U.heap = h0) (fun _ _ _ _ _ => True) (fun _ U o U' => ∃ v L, o = .returned v ∧ Qrm40 Z a1 a2 w8 kb cap n vs G1 h0 n0 v U'.heap L ∧ FrameEnd U o U' L rm_19.cells rm_19.slots) := by
  refine MetFree.of_bodySF (plainFor_of_name pn_11) hisR ?_
  intro p e s m args below meth c s₁ Bd hml0 hP hK
  obtain ⟨rfl, hZ, hh⟩ := hP
  have hx := Bd.exec
  have hby := Bd.bytes
  have hml : c.maxLocals = 5 := hml0
  have hown : s.vm.findClass "java/lang/String" = some m.cls := findClass_of_methodNamed Bd.named
  have hnm := (name_of_methodNamed Bd.named Bd.method).1
  have X0 : Stand p l e rm_19 s m #[(.ref a1), (.ref a2), .null] below meth c s₁ [] 0 0 := Stand.of_body Bd
  have e0 : s₁.heap = h0 := by rw [← hh, Bd.state]; rfl
  have N0 := Fr.nil n0
  let aa1 : Array Slot := #[.val (.ref a1), .val (.ref a2), .val .null, .unset, .unset]
  have pre0 : ∀ t, Steps p.tables e below (s₁.setTop (mkF m 0 aa1 [])) t → Steps p.tables e below (s₁.setTop (entryFrame m #[(.ref a1), (.ref a2), .null] 5)) t := fun t k => castTop (ef_40 m a1 a2) k
  obtain ⟨T3, X3, e3, st3⟩ := initO X0 hx hZ hown (ww hw 11 rfl) (ww hw 12 rfl) (ww hw 13 rfl) e0 (g := (mkF m 1 aa1 [(.ref a1)])) rfl (by rw [hml]; rfl) rfl (hb hby d40_1) (by decide) (W := 0) (wz rfl) (by decide)
  obtain ⟨cq4, kq4, q4a, q4b, q4c⟩ := isOf hZ e3 E_a2
  obtain ⟨_, _, ⟨T4, L4, k4, n4⟩, -, X4, ⟨Lc4, hQ4, l4, y4, z4⟩, st4⟩ := X3.virtualBack hx (y := ym21) (z := ym21) hown (mvT hZ (ww hw 239 rfl)) (mvT hZ (ww hw 240 rfl)) (notFace_of_selects (args := #[]) (mvT hZ (ww hw 242 rfl))) (mvT hZ (ww hw 242 rfl)) (mvT hZ (ww hw 241 rfl)) (by decide) (backOf (W := 0) (rm41 l Z a0 hw [] a2 w8 h0 n0 Z0 BB.2.1) hZ (ww hw 243 rfl) (ww hw 50 rfl) (by decide) (by decide)) q4a q4c (g := (mkF m 5 aa1 [(.ref a2)])) rfl (by rw [hml]; rfl) (Steps.refl _) (argsL := []) (rest := []) (lenOf pd_40_28 rfl) rfl (wz rfl) (hb hby d40_5) (fun _ _ => ⟨rfl, e3, (by decide : 0 + 0 ≤ _), (by decide : 0 + 0 ≤ _)⟩)
  dsimp only [Pt.U, Pt.locs, Pt.cells, Pt.slots] at X4 l4 y4 z4 st4 hQ4
  subst l4 y4 z4
  obtain ⟨rfl, N4q, e4⟩ := hQ4
  have N4 := Fr.app N0 N4q
  obtain ⟨cq5, kq5, q5a, q5b, q5c⟩ := isOf hZ e4 E_a2
  let aa2 : Array Slot := #[.val (.ref a1), .val (.ref a2), .val .null, .val (.ref w8), .unset]
  obtain ⟨_, _, ⟨T5, L5, k5, n5⟩, -, X5, ⟨Lc5, hQ5, l5, y5, z5⟩, st5⟩ := X4.virtualBack hx (y := ym22) (z := ym23) hown (mvT hZ (ww hw 244 rfl)) (mvT hZ (ww hw 245 rfl)) (own_nf (args := #[]) (mvT hZ (ww hw 88 rfl)) rfl) (mvT hZ (ww hw 247 rfl)) (mvT hZ (ww hw 248 rfl)) (by decide) (backOf (W := 0) (rm42 l Z a0 hw [] a2 n h0 n0 Z0 BB.2.2.2.1 BB.1) hZ (ww hw 249 rfl) (ww hw 39 rfl) (by decide) (by decide)) q5a q5c (g := (mkF m 10 aa2 [(.ref a2)])) rfl (by rw [hml]; rfl) (Steps.refl _) (argsL := []) (rest := []) (lenOf pd_14_7 rfl) rfl (wz rfl) (hb hby d40_10) (fun _ _ => ⟨rfl, e4, (by decide : 0 + 0 ≤ _), (by decide : 0 + 0 ≤ _)⟩)
  dsimp only [Pt.U, Pt.locs, Pt.cells, Pt.slots] at X5 l5 y5 z5 st5 hQ5
  subst l5 y5 z5
  obtain ⟨rfl, N5q, e5⟩ := hQ5
  have N5 := Fr.app N4 N5q
  obtain ⟨cq6, kq6, q6a, q6b, q6c⟩ := isOf hZ e5 E_a2
  let aa3 : Array Slot := #[.val (.ref a1), .val (.ref a2), .val .null, .val (.ref w8), .val (.int n)]
  obtain ⟨_, _, ⟨T6, L6, k6, n6⟩, -, X6, ⟨Lc6, hQ6, l6, y6, z6⟩, st6⟩ := X5.virtualBack hx (y := ym09) (z := ym09) hown (mvT hZ (ww hw 252 rfl)) (mvT hZ (ww hw 152 rfl)) (notFace_of_selects (args := #[]) (mvT hZ (ww hw 154 rfl))) (mvT hZ (ww hw 154 rfl)) (mvT hZ (ww hw 153 rfl)) (by decide) (backOf (W := 0) (rm25 l Z a0 hw [] a2 G1 h0 n0 Z0 SC BB.2.2.1 P3 rfl) hZ (ww hw 155 rfl) (ww hw 50 rfl) (by decide) (by decide)) q6a q6c (g := (mkF m 16 aa3 [(.ref a2)])) rfl (by rw [hml]; rfl) (Steps.refl _) (argsL := []) (rest := []) (lenOf pd_24_18 rfl) rfl (wz rfl) (hb hby d40_16) (fun _ _ => ⟨rfl, e5, (by decide : 0 + 0 ≤ _), (by decide : 0 + 0 ≤ _)⟩)
  dsimp only [Pt.U, Pt.locs, Pt.cells, Pt.slots] at X6 l6 y6 z6 st6 hQ6
  subst l6 y6 z6
  obtain ⟨rfl, N6q, e6⟩ := hQ6
  have N6 := Fr.app N5 N6q
  obtain ⟨T7, h7, X7, e7, W7, st7⟩ := putFN X6 hx hZ hown (ww hw 26 rfl) Via.refl e6 F_coder_a1 E_a1 (Or.inr ⟨(ww hw 27 rfl), rfl, hnm⟩) (ww hw 1 rfl) (ty := .byte) (v' := (.int (nar .byte (0 : Int32)))) (by decide) rfl (fits_nar_byte _) (g := (mkF m 24 aa3 [(.int 0), (.ref a1)])) rfl rfl (hb hby d40_24)
  have Fw7 := F_coder_a1.same W7
  have K7 : Keep h0 h7 [a1] := (Keep.refl h0 _).wr W7 (Or.inl (wi 0 rfl))
  have N7 := Fr.snoc X7 N6 g_a1
  have V0 := BB.2.2.2.2.1
  have ne := E_a1.neArv V0 (ww hw 1 rfl)
  obtain ⟨_, _, ⟨T8, L8, k8, n8⟩, -, X8, ⟨Lc8, hQ8, l8, y8, z8⟩, st8⟩ := Jvm.LawKit.callS X7 hx (y := ym25) hown (mvT hZ (ww hw 253 rfl)) (mvT hZ (ww hw 254 rfl)) (mvT hZ (ww hw 255 rfl)) (mvT hZ (ww hw 256 rfl)) (by decide) (backOf (W := 1) (rm44 l Z a0 hw [] w8 n cap kb vs h7 n0 (Nat.le_trans Z0 K7.1) BB.2.2.2.2.2.1 BB.2.2.2.2.2.2 c5 c6 c7 (V0.other W7 ne.symm) rfl c8) hZ (ww hw 256 rfl) (ww hw 255 rfl) (by decide) (by decide)) (g := (mkF m 32 aa3 [(.int n), (.int 0), (.ref w8), (.ref a1)])) rfl (by rw [hml]; rfl) (argsL := [(.ref w8), (.int 0), (.int n)]) (rest := [(.ref a1)]) (lenOf pd_44_29 rfl) rfl (wz rfl) (hb hby d40_32) (fun _ _ => ⟨rfl, e7, (by decide : 0 + 1 ≤ _), (by decide : 0 + 58 ≤ _)⟩)
  dsimp only [Pt.U, Pt.locs, Pt.cells, Pt.slots] at X8 l8 y8 z8 st8 hQ8
  subst l8 y8 z8
  obtain ⟨x8, k8', s8, rfl, N8q, K8, V8⟩ := hQ8
  have P8 : Keep h0 T8.heap [a1] := K7.trans K8 all0
  have N8 := Fr.app N7 N8q
  obtain ⟨T9, h9, X9, e9, W9, st9⟩ := putF X8 hx hZ hown (host := "") (Or.inl (ww hw 28 rfl)) Via.refl rfl ((F_value_a1.other W7 (Or.inr (slot_ne (Or.inr (ww hw 29 rfl)) (Or.inr (ww hw 27 rfl)) (by decide) (t := (.array .byte)) (t' := .byte) (by decide) (by decide)))).keep K8 nin0) ((E_a1.wr W7).keep K8) (Or.inr ⟨(ww hw 29 rfl), rfl, hnm⟩) (ww hw 1 rfl) (ty := (.array .byte)) (by decide) rfl rfl (g := (mkF m 35 aa3 [(.ref x8), (.ref a1)])) rfl rfl (hb hby d40_35)
  have Fw9 := ((F_value_a1.other W7 (Or.inr (slot_ne (Or.inr (ww hw 29 rfl)) (Or.inr (ww hw 27 rfl)) (by decide) (t := (.array .byte)) (t' := .byte) (by decide) (by decide)))).keep K8 nin0).same W9
  have K9 : Keep h0 h9 [a1] := P8.wr W9 (Or.inl (wi 0 rfl))
  have N9 := Fr.snoc X9 N8 g_a1
  obtain ⟨fs, hr, hrun, hended, hW, hsame⟩ := X9.leave (v := none) (fun _ => rfl)
  refine ⟨_, _, pre0 _ ?_, hrun, hended, _, _, rfl, ?_, ⟨_, rfl⟩, hW, hsame.mono (by decide) (by decide)⟩
  · show Sw s₁ m 0 aa1 [] _
    refine XS.aloadN X0.here hx rfl (hb hby d40_0) rfl rfl ?_
    show Sw s₁ m 1 aa1 [(.ref a1)] _
    refine st3 _ ?_
    show Sw T3 m 4 aa1 [] _
    refine XS.aloadN X3.here hx rfl (hb hby d40_4) rfl rfl ?_
    show Sw T3 m 5 aa1 [(.ref a2)] _
    refine st4.trans ?_
    show Sw T4 m 8 aa1 [(.ref w8)] _
    refine XS.astoreN X4.here hx rfl (hb hby d40_8) rfl rfl (l' := aa2) rfl ?_
    show Sw T4 m 9 aa2 [] _
    refine XS.aloadN X4.here hx rfl (hb hby d40_9) rfl rfl ?_
    show Sw T4 m 10 aa2 [(.ref a2)] _
    refine st5.trans ?_
    show Sw T5 m 13 aa2 [(.int n)] _
    refine XS.istore X5.here hx rfl (hb hby d40_13) rfl (l' := aa3) rfl ?_
    show Sw T5 m 15 aa3 [] _
    refine XS.aloadN X5.here hx rfl (hb hby d40_15) rfl rfl ?_
    show Sw T5 m 16 aa3 [(.ref a2)] _
    refine st6.trans ?_
    show Sw T6 m 19 aa3 [(.int 1)] _
    refine XS.ifNo X6.here hx rfl (hb hby d40_19) rfl ((if0 _ _).trans (feq (by decide : ¬ ((1 : Int32) = (0 : Int32)))).1) ?_
    show Sw T6 m 22 aa3 [] _
    refine XS.aloadN X6.here hx rfl (hb hby d40_22) rfl rfl ?_
    show Sw T6 m 23 aa3 [(.ref a1)] _
    refine XS.iconst X6.here hx rfl (hb hby d40_23) ?_
    show Sw T6 m 24 aa3 [(.int 0), (.ref a1)] _
    refine st7 _ ?_
    show Sw T7 m 27 aa3 [] _
    refine XS.aloadN X7.here hx rfl (hb hby d40_27) rfl rfl ?_
    show Sw T7 m 28 aa3 [(.ref a1)] _
    refine XS.aloadN X7.here hx rfl (hb hby d40_28) rfl rfl ?_
    show Sw T7 m 29 aa3 [(.ref w8), (.ref a1)] _
    refine XS.iconst X7.here hx rfl (hb hby d40_29) ?_
    show Sw T7 m 30 aa3 [(.int 0), (.ref w8), (.ref a1)] _
    refine XS.iload X7.here hx rfl (hb hby d40_30) rfl ?_
    show Sw T7 m 32 aa3 [(.int n), (.int 0), (.ref w8), (.ref a1)] _
    refine st8 _ ?_
    show Sw T8 m 35 aa3 [(.ref x8), (.ref a1)] _
    refine st9 _ ?_
    show Sw T9 m 38 aa3 [] _
    refine XS.goto X9.here hx rfl (pc0 := 38) (pc' := 97) rfl (hb hby d40_38) (by decide) (by decide) ?_
    show Sw T9 m 97 aa3 [] _
    exact X9.returnOut hx Bd.returns (hb hby d40_97) hr
  · show Qrm40 Z a1 a2 w8 kb cap n vs G1 h0 n0 _ T9.heap _
    rw [e9]
    exact ⟨x8, k8', Nat.le_trans K7.1 s8, rfl, N9, K9, ((E_a1.wr W7).keep K8).wr W9, Fw9, (Fw7.keep K8 nin0).other W9 (Or.inr (slot_ne (Or.inr (ww hw 27 rfl)) (Or.inr (ww hw 29 rfl)) (by decide) (t := .byte) (t' := (.array .byte)) (by decide) (by decide))), V8.other W9 (Nat.ne_of_gt (Nat.lt_of_lt_of_le (E_a1.wr W7).lt s8)), BB.2.2.2.2.2.1⟩
theorem d39_0 : decode cd27 0 = .ok (.aload_n 0, 1) := by decide +kernel
theorem d39_1 : decode cd27 1 = .ok (.aload_n 1, 1) := by decide +kernel
theorem d39_2 : decode cd27 2 = .ok (.aconst_null, 1) := by decide +kernel
theorem d39_3 : decode cd27 3 = .ok (.invokespecial 489, 3) := by decide +kernel
theorem d39_6 : decode cd27 6 = .ok (.return_, 1) := by decide +kernel
theorem pd_39_27 : parseMethodDescriptor "(Ljava/lang/AbstractStringBuilder;Ljava/lang/Void;)V" = some ⟨[(.object "java/lang/AbstractStringBuilder"), (.object "java/lang/Void")], none⟩ := by decide +kernel
def Qrm39 (Z : State) (a1 : Addr) (a2 : Addr) (w8 : Addr) (kb : ClassId) (cap n : Int32) (vs : List Value) (G1 : Int32) (h0 : Heap) (n0 : Nat) (v : Option Value) (h : Heap) (L : List Loc) : Prop := ∃ x k', h0.size ≤ x ∧ v = none ∧ Fr n0 L ∧ Keep h0 h [a1] ∧ own_S Z h a1 x k' n vs
set_option maxRecDepth 65536 in
set_option maxHeartbeats 40000000 in
theorem rm39 (l : Launch) (Z : State) (a0 : Array Value) (hw : HW a0 Z) (ws : List Jvm.Cond) (a1 : Addr) (a2 : Addr) (w8 : Addr) (kb : ClassId) (cap n : Int32) (vs : List Value) (G1 : Int32) (h0 : Heap) (n0 : Nat) (Z0 : n0 ≤ h0.size) (SC : Sta Z h0 "java/lang/String" "COMPACT_STRINGS" "Z" (.int G1)) (P3 : ¬ (G1 = (0 : Int32))) (BB : own_B Z h0 a2 w8 kb cap n vs) (c5 : n.toNatClampNeg ≤ 58) (c6 : n < cap) (c7 : n.toNatClampNeg ≤ cap.toNatClampNeg) (c8 : ¬ (n = cap)) (E_a1 : Exa Z h0 a1 "java/lang/String") (Fc : Fld Z h0 a1 "java/lang/String" "coder" "B" (.int 0)) (Fv : Fld Z h0 a1 "java/lang/String" "value" "[B" .null) (g_a1 : n0 ≤ a1) :
    MetFree l ym27 (head1 (Jvm.Cond.code ym27 jdk_42_method_53_code 2 none :: ws) rm_20) (fun a U => a = #[(.ref a1), (.ref a2)] ∧ Z.Warmed39 U.vm ∧ U.heap = h0) (fun _ _ _ _ _ => True) (fun _ U o U' => ∃ v L, o = .returned v ∧ Qrm39 Z a1 a2 w8 kb cap n vs G1 h0 n0 v U'.heap L ∧ FrameEnd U o U' L rm_20.cells rm_20.slots) := by
  refine MetFree.of_bodySF (plainFor_of_name pn_11) hisR ?_
  intro p e s m args below meth c s₁ Bd hml0 hP hK
  obtain ⟨rfl, hZ, hh⟩ := hP
  have hx := Bd.exec
  have hby := Bd.bytes
  have hml : c.maxLocals = 2 := hml0
  have hown : s.vm.findClass "java/lang/String" = some m.cls := findClass_of_methodNamed Bd.named
  have X0 : Stand p l e rm_20 s m #[(.ref a1), (.ref a2)] below meth c s₁ [] 0 0 := Stand.of_body Bd
  have e0 : s₁.heap = h0 := by rw [← hh, Bd.state]; rfl
  have N0 := Fr.nil n0
  let aa1 : Array Slot := #[.val (.ref a1), .val (.ref a2)]
  have pre0 : ∀ t, Steps p.tables e below (s₁.setTop (mkF m 0 aa1 [])) t → Steps p.tables e below (s₁.setTop (entryFrame m #[(.ref a1), (.ref a2)] 2)) t := fun t k => castTop (ef_17 m a1 a2) k
  obtain ⟨_, _, ⟨T3, L3, k3, n3⟩, -, X3, ⟨Lc3, hQ3, l3, y3, z3⟩, st3⟩ := X0.specialBack hx (y := ym26) rfl hown (mvT hZ (ww hw 236 rfl)) (mvT hZ (ww hw 237 rfl)) (mvT hZ (ww hw 238 rfl)) (by decide) (backOf (W := 0) (rm40 l Z a0 hw [] a1 a2 w8 kb cap n vs G1 h0 n0 Z0 SC P3 BB c5 c6 c7 c8 BB.1 E_a1 Fc g_a1 Fv) hZ (ww hw 238 rfl) (ww hw 2 rfl) (by decide) (by decide)) (g := (mkF m 3 aa1 [.null, (.ref a2), (.ref a1)])) rfl (by rw [hml]; rfl) (Steps.refl _) (a := a1) (argsL := [(.ref a2), .null]) (rest := []) (lenOf pd_39_27 rfl) rfl (wz rfl) (hb hby d39_3) (fun _ _ => ⟨rfl, e0, (by decide : 0 + 1 ≤ _), (by decide : 0 + 58 ≤ _)⟩)
  dsimp only [Pt.U, Pt.locs, Pt.cells, Pt.slots] at X3 l3 y3 z3 st3 hQ3
  subst l3 y3 z3
  obtain ⟨x3, k3', s3, rfl, N3q, K3, S3⟩ := hQ3
  have N3 := Fr.app N0 N3q
  obtain ⟨fs, hr, hrun, hended, hW, hsame⟩ := X3.leave (v := none) (fun _ => rfl)
  refine ⟨_, _, pre0 _ ?_, hrun, hended, _, _, rfl, ?_, ⟨_, rfl⟩, hW, hsame.mono (by decide) (by decide)⟩
  · show Sw s₁ m 0 aa1 [] _
    refine XS.aloadN X0.here hx rfl (hb hby d39_0) rfl rfl ?_
    show Sw s₁ m 1 aa1 [(.ref a1)] _
    refine XS.aloadN X0.here hx rfl (hb hby d39_1) rfl rfl ?_
    show Sw s₁ m 2 aa1 [(.ref a2), (.ref a1)] _
    refine XS.aconstNull X0.here hx rfl (hb hby d39_2) ?_
    show Sw s₁ m 3 aa1 [.null, (.ref a2), (.ref a1)] _
    refine st3.trans ?_
    show Sw T3 m 6 aa1 [] _
    exact X3.returnOut hx Bd.returns (hb hby d39_6) hr
  · show Qrm39 Z a1 a2 w8 kb cap n vs G1 h0 n0 _ T3.heap _
    exact ⟨x3, k3', s3, rfl, N3, K3, S3⟩
theorem d38_0 : decode cd28 0 = .ok (.new 18, 3) := by decide +kernel
theorem d38_3 : decode cd28 3 = .ok (.dup, 1) := by decide +kernel
theorem d38_4 : decode cd28 4 = .ok (.aload_n 0, 1) := by decide +kernel
theorem d38_5 : decode cd28 5 = .ok (.invokespecial 137, 3) := by decide +kernel
theorem d38_8 : decode cd28 8 = .ok (.areturn, 1) := by decide +kernel
theorem pd_38_26 : parseMethodDescriptor "(Ljava/lang/StringBuilder;)V" = some ⟨[(.object "java/lang/StringBuilder")], none⟩ := by decide +kernel
def Qrm38 (Z : State) (a1 : Addr) (w8 : Addr) (kb : ClassId) (cap n : Int32) (vs : List Value) (G1 : Int32) (h0 : Heap) (n0 : Nat) (v : Option Value) (h : Heap) (L : List Loc) : Prop := ∃ y x k', h0.size ≤ y ∧ v = some (.ref y) ∧ Fr n0 L ∧ Keep h0 h [] ∧ own_S Z h y x k' n vs
set_option maxRecDepth 65536 in
set_option maxHeartbeats 40000000 in
theorem rm38 (l : Launch) (Z : State) (a0 : Array Value) (hw : HW a0 Z) (ws : List Jvm.Cond) (a1 : Addr) (w8 : Addr) (kb : ClassId) (cap n : Int32) (vs : List Value) (G1 : Int32) (h0 : Heap) (n0 : Nat) (Z0 : n0 ≤ h0.size) (SC : Sta Z h0 "java/lang/String" "COMPACT_STRINGS" "Z" (.int G1)) (P3 : ¬ (G1 = (0 : Int32))) (BB : own_B Z h0 a1 w8 kb cap n vs) (c5 : n.toNatClampNeg ≤ 58) (c6 : n < cap) (c7 : n.toNatClampNeg ≤ cap.toNatClampNeg) (c8 : ¬ (n = cap)) :
    MetFree l ym28 (head1 (Jvm.Cond.code ym28 jdk_67_method_42_code 1 (some (.object "java/lang/String")) :: ws) rm_21) (fun a U => a = #[(.ref a1)] ∧ Z.Warmed39 U.vm ∧ U.heap = h0) (fun _ _ _ _ _ => True) (fun _ U o U' => ∃ v L, o = .returned v ∧ Qrm38 Z a1 w8 kb cap n vs G1 h0 n0 v U'.heap L ∧ FrameEnd U o U' L rm_21.cells rm_21.slots) := by
  refine MetFree.of_bodySF (plainFor_of_name pn_13) hisR ?_
  intro p e s m args below meth c s₁ Bd hml0 hP hK
  obtain ⟨rfl, hZ, hh⟩ := hP
  have hx := Bd.exec
  have hby := Bd.bytes
  have hml : c.maxLocals = 1 := hml0
  have hown : s.vm.findClass "java/lang/StringBuilder" = some m.cls := findClass_of_methodNamed Bd.named
  have X0 : Stand p l e rm_21 s m #[(.ref a1)] below meth c s₁ [] 0 0 := Stand.of_body Bd
  have e0 : s₁.heap = h0 := by rw [← hh, Bd.state]; rfl
  have N0 := Fr.nil n0
  let aa1 : Array Slot := #[.val (.ref a1)]
  have pre0 : ∀ t, Steps p.tables e below (s₁.setTop (mkF m 0 aa1 [])) t → Steps p.tables e below (s₁.setTop (entryFrame m #[(.ref a1)] 1)) t := fun t k => castTop (ef_11 m a1) k
  obtain ⟨T2, h2, X2, e2, E2, A2, D2, -, st2⟩ := newO X0 hx hZ hown (ww hw 232 rfl) (ww hw 1 rfl) (ww hw 2 rfl) e0 (g := (mkF m 0 aa1 [])) rfl (hb hby d38_0) (by decide) (by decide)
  obtain ⟨b2, g2⟩ : ∃ z, z = h0.size := ⟨_, rfl⟩
  rw [← g2] at A2 D2 st2
  have F_coder_b2 : Fld Z h2 b2 "java/lang/String" "coder" "B" (.int 0) := D2 (Or.inr (ww hw 27 rfl)) (ty := .byte) (by decide)
  have F_value_b2 : Fld Z h2 b2 "java/lang/String" "value" "[B" .null := D2 (Or.inr (ww hw 29 rfl)) (ty := (.array .byte)) (by decide)
  have E_b2 := A2
  have g_b2 : n0 ≤ b2 := Nat.le_trans Z0 (Nat.le_of_eq g2.symm)
  have sz_b2 : h0.size ≤ b2 := (Nat.le_trans (Keep.refl h0 []).1 (Nat.le_of_eq g2.symm))
  have K2 : Keep h0 h2 [] := (Keep.refl h0 []).ext E2
  obtain ⟨_, _, ⟨T3, L3, k3, n3⟩, -, X3, ⟨Lc3, hQ3, l3, y3, z3⟩, st3⟩ := X2.specialBack hx (y := ym27) rfl hown (mvT hZ (ww hw 233 rfl)) (mvT hZ (ww hw 234 rfl)) (mvT hZ (ww hw 235 rfl)) (by decide) (backOf (W := 1) (rm39 l Z a0 hw [] b2 a1 w8 kb cap n vs G1 h2 n0 (Nat.le_trans Z0 E2.1) (SC.ext E2) P3 (BB.ext E2) c5 c6 c7 c8 E_b2 F_coder_b2 F_value_b2 g_b2) hZ (ww hw 235 rfl) (ww hw 2 rfl) (by decide) (by decide)) (g := (mkF m 5 aa1 [(.ref a1), (.ref b2), (.ref b2)])) rfl (by rw [hml]; rfl) (Steps.refl _) (a := b2) (argsL := [(.ref a1)]) (rest := [(.ref b2)]) (lenOf pd_38_26 rfl) rfl (wz rfl) (hb hby d38_5) (fun _ _ => ⟨rfl, e2, (by decide : 1 + 1 ≤ _), (by decide : 4 + 58 ≤ _)⟩)
  dsimp only [Pt.U, Pt.locs, Pt.cells, Pt.slots] at X3 l3 y3 z3 st3 hQ3
  subst l3 y3 z3
  obtain ⟨x3, k3', s3, rfl, N3q, K3, S3⟩ := hQ3
  have N3 := Fr.app N0 N3q
  obtain ⟨fs, hr, hrun, hended, hW, hsame⟩ := X3.leave (v := some (.ref b2)) (fun h => by rw [Bd.returns] at h; cases h)
  refine ⟨_, _, pre0 _ ?_, hrun, hended, _, _, rfl, ?_, ⟨_, rfl⟩, hW, hsame.mono (by decide) (by decide)⟩
  · show Sw s₁ m 0 aa1 [] _
    refine st2 _ ?_
    show Sw T2 m 3 aa1 [(.ref b2)] _
    refine XS.dup X2.here hx rfl (hb hby d38_3) rfl rfl ?_
    show Sw T2 m 4 aa1 [(.ref b2), (.ref b2)] _
    refine XS.aloadN X2.here hx rfl (hb hby d38_4) rfl rfl ?_
    show Sw T2 m 5 aa1 [(.ref a1), (.ref b2), (.ref b2)] _
    refine st3.trans ?_
    show Steps p.tables e below (T3.setTop (mkF m 8 aa1 [(.ref b2)])) _
    jvm_step X3.here [X3.here.top, hx, (hb hby d38_8), X3.method', Bd.returns, Value.isRef, FieldType.isReference]
    first | (intro acts; rw [hr _ acts rfl rfl rfl]) | rw [hr _ _ rfl rfl rfl]
    exact Steps.refl _
  · show Qrm38 Z a1 w8 kb cap n vs G1 h0 n0 _ T3.heap _
    exact ⟨b2, x3, k3', sz_b2, rfl, N3, K2.trans K3 (allS (Or.inr sz_b2) all0), S3⟩
/-- an ArrayDeque with 17 places -/
def own_D (Z : State) (h : Heap) (q ea : Addr) (k : ClassId) (hd : Int32) (es : List Value) : Prop :=
  Exa Z h q "java/util/ArrayDeque" ∧ Fld Z h q "java/util/ArrayDeque" "elements" "[Ljava/lang/Object;" (.ref ea) ∧ Fld Z h q "java/util/ArrayDeque" "head" "I" (.int hd) ∧ Fld Z h q "java/util/ArrayDeque" "tail" "I" (.int 0) ∧ Arv Z h ea k (.object "java/lang/Object") (17 : Int32) es .null ∧ Ovr Z k "java/lang/Object" ∧ es.length = 17
section
variable {Z : State} {h h' : Heap} {q ea : Addr} {k : ClassId} {hd : Int32} {es : List Value} {l : List Addr}
theorem own_D.ext (D : own_D Z h q ea k hd es) (E : Ext h h') : own_D Z h' q ea k hd es := ⟨D.1.ext E, D.2.1.ext E, D.2.2.1.ext E, D.2.2.2.1.ext E, D.2.2.2.2.1.ext E, D.2.2.2.2.2⟩
theorem own_D.keep (D : own_D Z h q ea k hd es) (K : Keep h h' l) (q1 : q ∉ l) (q2 : ea ∉ l) : own_D Z h' q ea k hd es := ⟨D.1.keep K, D.2.1.keep K q1, D.2.2.1.keep K q1, D.2.2.2.1.keep K q1, D.2.2.2.2.1.keep K q2, D.2.2.2.2.2⟩
end
theorem d20_0 : decode cd29 0 = .ok (.aload_n 0, 1) := by decide +kernel
theorem d20_1 : decode cd29 1 = .ok (.invokespecial 1, 3) := by decide +kernel
theorem d20_4 : decode cd29 4 = .ok (.return_, 1) := by decide +kernel
theorem pn_20 : plainName "java/util/AbstractCollection" = true := by first | (simp [plainName, overriddenIn]; done) | decide +kernel
def Qrm20 (Z : State) (a1 : Addr) (h0 : Heap) (n0 : Nat) (v : Option Value) (h : Heap) (L : List Loc) : Prop := v = none ∧ Fr n0 L ∧ h = h0
set_option maxRecDepth 65536 in
set_option maxHeartbeats 40000000 in
theorem rm20 (l : Launch) (Z : State) (a0 : Array Value) (hw : HW a0 Z) (ws : List Jvm.Cond) (a1 : Addr) (h0 : Heap) (n0 : Nat) (Z0 : n0 ≤ h0.size) :
    MetFree l ym29 (head1 (Jvm.Cond.code ym29 jdk_22_method_1_code 1 none :: ws) rm_16) (fun a U => a = #[(.ref a1)] ∧ Z.Warmed39 U.vm ∧ U.heap = h0) (fun _ _ _ _ _ => True) (fun _ U o U' => ∃ v L, o = .returned v ∧ Qrm20 Z a1 h0 n0 v U'.heap L ∧ FrameEnd U o U' L rm_16.cells rm_16.slots) := by
  refine MetFree.of_bodySF (plainFor_of_name pn_20) hisR ?_
  intro p e s m args below meth c s₁ Bd hml0 hP hK
  obtain ⟨rfl, hZ, hh⟩ := hP
  have hx := Bd.exec
  have hby := Bd.bytes
  have hml : c.maxLocals = 1 := hml0
  have hown : s.vm.findClass "java/util/AbstractCollection" = some m.cls := findClass_of_methodNamed Bd.named
  have X0 : Stand p l e rm_16 s m #[(.ref a1)] below meth c s₁ [] 0 0 := Stand.of_body Bd
  have e0 : s₁.heap = h0 := by rw [← hh, Bd.state]; rfl
  have N0 := Fr.nil n0
  let aa1 : Array Slot := #[.val (.ref a1)]
  have pre0 : ∀ t, Steps p.tables e below (s₁.setTop (mkF m 0 aa1 [])) t → Steps p.tables e below (s₁.setTop (entryFrame m #[(.ref a1)] 1)) t := fun t k => castTop (ef_11 m a1) k
  obtain ⟨T2, X2, e2, st2⟩ := initO X0 hx hZ hown (ww hw 124 rfl) (ww hw 12 rfl) (ww hw 13 rfl) e0 (g := (mkF m 1 aa1 [(.ref a1)])) rfl (by rw [hml]; rfl) rfl (hb hby d20_1) (by decide) (W := 0) (wz rfl) (by decide)
  obtain ⟨fs, hr, hrun, hended, hW, hsame⟩ := X2.leave (v := none) (fun _ => rfl)
  refine ⟨_, _, pre0 _ ?_, hrun, hended, _, _, rfl, ?_, ⟨_, rfl⟩, hW, hsame.mono (by decide) (by decide)⟩
  · show Sw s₁ m 0 aa1 [] _
    refine XS.aloadN X0.here hx rfl (hb hby d20_0) rfl rfl ?_
    show Sw s₁ m 1 aa1 [(.ref a1)] _
    refine st2 _ ?_
    show Sw T2 m 4 aa1 [] _
    exact X2.returnOut hx Bd.returns (hb hby d20_4) hr
  · show Qrm20 Z a1 h0 n0 _ T2.heap _
    rw [e2]
    exact ⟨rfl, N0, rfl⟩
theorem d19_0 : decode cd30 0 = .ok (.aload_n 0, 1) := by decide +kernel
theorem d19_1 : decode cd30 1 = .ok (.invokespecial 42, 3) := by decide +kernel
theorem d19_4 : decode cd30 4 = .ok (.aload_n 0, 1) := by decide +kernel
theorem d19_5 : decode cd30 5 = .ok (.bipush 17, 2) := by decide +kernel
theorem d19_7 : decode cd30 7 = .ok (.anewarray 47, 3) := by decide +kernel
theorem d19_10 : decode cd30 10 = .ok (.putfield 3, 3) := by decide +kernel
theorem d19_13 : decode cd30 13 = .ok (.return_, 1) := by decide +kernel
theorem pn_19 : plainName "java/util/ArrayDeque" = true := by first | (simp [plainName, overriddenIn]; done) | decide +kernel
theorem pd_19_2 : parseMethodDescriptor "()V" = some ⟨[], none⟩ := by decide +kernel
def Qrm19 (Z : State) (a1 : Addr) (h0 : Heap) (n0 : Nat) (v : Option Value) (h : Heap) (L : List Loc) : Prop := ∃ x k', h0.size ≤ x ∧ v = none ∧ Fr n0 L ∧ Keep h0 h [a1] ∧ own_D Z h a1 x k' (0 : Int32) (List.replicate 17 .null)
set_option maxRecDepth 65536 in
set_option maxHeartbeats 40000000 in
theorem rm19 (l : Launch) (Z : State) (a0 : Array Value) (hw : HW a0 Z) (ws : List Jvm.Cond) (a1 : Addr) (h0 : Heap) (n0 : Nat) (Z0 : n0 ≤ h0.size) (Fh : Fld Z h0 a1 "java/util/ArrayDeque" "head" "I" (.int 0)) (Ft : Fld Z h0 a1 "java/util/ArrayDeque" "tail" "I" (.int 0)) (E_a1 : Exa Z h0 a1 "java/util/ArrayDeque") (F_elements_a1 : Fld Z h0 a1 "java/util/ArrayDeque" "elements" "[Ljava/lang/Object;" .null) (g_a1 : n0 ≤ a1) :
    MetFree l ym30 (head1 (Jvm.Cond.code ym30 jdk_21_method_3_code 1 none :: ws) rm_22) (fun a U => a = #[(.ref a1)] ∧ Z.Warmed39 U.vm ∧ U.heap = h0) (fun _ _ _ _ _ => True) (fun _ U o U' => ∃ v L, o = .returned v ∧ Qrm19 Z a1 h0 n0 v U'.heap L ∧ FrameEnd U o U' L rm_22.cells rm_22.slots) := by
  refine MetFree.of_bodySF (plainFor_of_name pn_19) hisR ?_
  intro p e s m args below meth c s₁ Bd hml0 hP hK
  obtain ⟨rfl, hZ, hh⟩ := hP
  have hx := Bd.exec
  have hby := Bd.bytes
  have hml : c.maxLocals = 1 := hml0
  have hown : s.vm.findClass "java/util/ArrayDeque" = some m.cls := findClass_of_methodNamed Bd.named
  have X0 : Stand p l e rm_22 s m #[(.ref a1)] below meth c s₁ [] 0 0 := Stand.of_body Bd
  have e0 : s₁.heap = h0 := by rw [← hh, Bd.state]; rfl
  have N0 := Fr.nil n0
  let aa1 : Array Slot := #[.val (.ref a1)]
  have pre0 : ∀ t, Steps p.tables e below (s₁.setTop (mkF m 0 aa1 [])) t → Steps p.tables e below (s₁.setTop (entryFrame m #[(.ref a1)] 1)) t := fun t k => castTop (ef_11 m a1) k
  obtain ⟨_, _, ⟨T2, L2, k2, n2⟩, -, X2, ⟨Lc2, hQ2, l2, y2, z2⟩, st2⟩ := X0.specialBack hx (y := ym29) rfl hown (mvT hZ (ww hw 118 rfl)) (mvT hZ (ww hw 119 rfl)) (mvT hZ (ww hw 123 rfl)) (by decide) (backOf (W := 0) (rm20 l Z a0 hw [] a1 h0 n0 Z0) hZ (ww hw 123 rfl) (ww hw 122 rfl) (by decide) (by decide)) (g := (mkF m 1 aa1 [(.ref a1)])) rfl (by rw [hml]; rfl) (Steps.refl _) (a := a1) (argsL := []) (rest := []) (lenOf pd_19_2 rfl) rfl (wz rfl) (hb hby d19_1) (fun _ _ => ⟨rfl, e0, (by decide : 0 + 0 ≤ _), (by decide : 0 + 0 ≤ _)⟩)
  dsimp only [Pt.U, Pt.locs, Pt.cells, Pt.slots] at X2 l2 y2 z2 st2 hQ2
  subst l2 y2 z2
  obtain ⟨rfl, N2q, e2⟩ := hQ2
  have N2 := Fr.app N0 N2q
  obtain ⟨T3, h3, k3, X3, e3, E3, A3, O3, st3⟩ := newR X2 hx hZ hown (ww hw 125 rfl) (ww hw 126 rfl) e2 (g := (mkF m 7 aa1 [(.int 17), (.ref a1)])) rfl (hb hby d19_7) rfl (by decide) (cap := 17) (by decide) (by decide) (by decide) (by decide)
  obtain ⟨b3, g3⟩ : ∃ z, z = h0.size := ⟨_, rfl⟩
  rw [← g3] at A3 st3
  have V_b3 := Arv.new A3 (by decide)
  have g_b3 : n0 ≤ b3 := Nat.le_trans (Nat.le_trans Z0 (Nat.le_refl _)) (Nat.le_of_eq g3.symm)
  have sz_b3 : h0.size ≤ b3 := (Nat.le_trans (Nat.le_refl h0.size) (Nat.le_of_eq g3.symm))
  have K3 : Keep h0 h3 [a1] := (Keep.refl h0 _).ext E3
  obtain ⟨T4, h4, X4, e4, W4, st4⟩ := putF X3 hx hZ hown (host := "") (Or.inl (ww hw 127 rfl)) Via.refl e3 (F_elements_a1.ext E3) (E_a1.ext E3) (Or.inl (ww hw 128 rfl)) (ww hw 113 rfl) (ty := (.array (.object "java/lang/Object"))) (by decide) rfl rfl (g := (mkF m 10 aa1 [(.ref b3), (.ref a1)])) rfl rfl (hb hby d19_10)
  have Fw4 := (F_elements_a1.ext E3).same W4
  have K4 : Keep h0 h4 [a1] := K3.wr W4 (Or.inl (wi 0 rfl))
  have N4 := Fr.snoc X4 N2 g_a1
  obtain ⟨fs, hr, hrun, hended, hW, hsame⟩ := X4.leave (v := none) (fun _ => rfl)
  refine ⟨_, _, pre0 _ ?_, hrun, hended, _, _, rfl, ?_, ⟨_, rfl⟩, hW, hsame.mono (by decide) (by decide)⟩
  · show Sw s₁ m 0 aa1 [] _
    refine XS.aloadN X0.here hx rfl (hb hby d19_0) rfl rfl ?_
    show Sw s₁ m 1 aa1 [(.ref a1)] _
    refine st2.trans ?_
    show Sw T2 m 4 aa1 [] _
    refine XS.aloadN X2.here hx rfl (hb hby d19_4) rfl rfl ?_
    show Sw T2 m 5 aa1 [(.ref a1)] _
    refine XS.bipush X2.here hx rfl (hb hby d19_5) ?_
    show Sw T2 m 7 aa1 [(.int 17), (.ref a1)] _
    refine st3 _ ?_
    show Sw T3 m 10 aa1 [(.ref b3), (.ref a1)] _
    refine st4 _ ?_
    show Sw T4 m 13 aa1 [] _
    exact X4.returnOut hx Bd.returns (hb hby d19_13) hr
  · show Qrm19 Z a1 h0 n0 _ T4.heap _
    rw [e4]
    have ne : a1 ≠ b3 := Nat.ne_of_lt (Nat.lt_of_lt_of_le E_a1.lt sz_b3)
    exact ⟨b3, k3, sz_b3, rfl, N4, K4, (E_a1.ext E3).wr W4, Fw4, (Fh.ext E3).other W4 (Or.inr (slot_ne (Or.inl (ww hw 176 rfl)) (Or.inl (ww hw 128 rfl)) (by decide) (t := .int) (t' := (.array (.object "java/lang/Object"))) (by decide) (by decide))), (Ft.ext E3).other W4 (Or.inr (slot_ne (Or.inl (ww hw 182 rfl)) (Or.inl (ww hw 128 rfl)) (by decide) (t := .int) (t' := (.array (.object "java/lang/Object"))) (by decide) (by decide))), (V_b3.pad (pad_rep [] .null 17)).other W4 ne.symm, O3, by simp⟩
theorem d29_0 : decode cd31 0 = .ok (.iinc 0 (-1), 3) := by decide +kernel
theorem d29_3 : decode cd31 3 = .ok (.iload_n 0, 1) := by decide +kernel
theorem d29_4 : decode cd31 4 = .ok (.ifCond .ge 7, 3) := by decide +kernel
theorem d29_7 : decode cd31 7 = .ok (.iload_n 1, 1) := by decide +kernel
theorem d29_8 : decode cd31 8 = .ok (.iconst 1, 1) := by decide +kernel
theorem d29_9 : decode cd31 9 = .ok (.isub, 1) := by decide +kernel
theorem d29_10 : decode cd31 10 = .ok (.istore_n 0, 1) := by decide +kernel
theorem d29_11 : decode cd31 11 = .ok (.iload_n 0, 1) := by decide +kernel
theorem d29_12 : decode cd31 12 = .ok (.ireturn, 1) := by decide +kernel
def Qrm29a (Z : State) (p1 : Int32) (p2 : Int32) (h0 : Heap) (n0 : Nat) (v : Option Value) (h : Heap) (L : List Loc) : Prop := v = some (.int (p2 - (1 : Int32))) ∧ Fr n0 L ∧ h = h0
set_option maxRecDepth 65536 in
set_option maxHeartbeats 40000000 in
theorem rm29a (l : Launch) (Z : State) (a0 : Array Value) (hw : HW a0 Z) (ws : List Jvm.Cond) (p1 : Int32) (p2 : Int32) (h0 : Heap) (n0 : Nat) (Z0 : n0 ≤ h0.size) (hc4 : (p1 + (-1 : Int32)) < (0 : Int32)) :
    MetFree l ym31 (head1 (Jvm.Cond.code ym31 jdk_21_method_7_code 2 (some .int) :: ws) rm_00) (fun a U => a = #[(.int p1), (.int p2)] ∧ Z.Warmed39 U.vm ∧ U.heap = h0) (fun _ _ _ _ _ => True) (fun _ U o U' => ∃ v L, o = .returned v ∧ Qrm29a Z p1 p2 h0 n0 v U'.heap L ∧ FrameEnd U o U' L rm_00.cells rm_00.slots) := by
  refine MetFree.of_bodySF (plainFor_of_name pn_19) hisR ?_
  intro p e s m args below meth c s₁ Bd hml0 hP hK
  obtain ⟨rfl, hZ, hh⟩ := hP
  have hx := Bd.exec
  have hby := Bd.bytes
  have X0 : Stand p l e rm_00 s m #[(.int p1), (.int p2)] below meth c s₁ [] 0 0 := Stand.of_body Bd
  have e0 : s₁.heap = h0 := by rw [← hh, Bd.state]; rfl
  have N0 := Fr.nil n0
  have pre0 : ∀ t, Steps p.tables e below (s₁.setTop (mkF m 0 #[.val (.int p1), .val (.int p2)] [])) t → Steps p.tables e below (s₁.setTop (entryFrame m #[(.int p1), (.int p2)] 2)) t := fun t k => castTop (ef_58 m p1 p2) k
  obtain ⟨fs, hr, hrun, hended, hW, hsame⟩ := X0.leave (v := some (.int (p2 - (1 : Int32)))) (fun h => by rw [Bd.returns] at h; cases h) (by first | exact BodyLoose.notSynchronized Bd | exact Body.notSynchronized Bd)
  refine ⟨_, _, pre0 _ ?_, hrun, hended, _, _, rfl, ?_, ⟨_, rfl⟩, hW, hsame.mono (by decide) (by decide)⟩
  · show Sw s₁ m 0 #[.val (.int p1), .val (.int p2)] [] _
    let aa1 : Array Slot := #[.val (.int (p1 + (-1 : Int32))), .val (.int p2)]
    refine XS.iinc X0.here hx rfl (hb hby d29_0) rfl (l' := aa1) rfl ?_
    show Sw s₁ m 3 aa1 [] _
    refine XS.iloadN X0.here hx rfl (hb hby d29_3) rfl ?_
    show Sw s₁ m 4 aa1 [(.int (p1 + (-1 : Int32)))] _
    refine XS.ifNo X0.here hx rfl (hb hby d29_4) rfl ((if0 _ _).trans (tlt hc4).2.1) ?_
    show Sw s₁ m 7 aa1 [] _
    refine XS.iloadN X0.here hx rfl (hb hby d29_7) rfl ?_
    show Sw s₁ m 8 aa1 [(.int p2)] _
    refine XS.iconst X0.here hx rfl (hb hby d29_8) ?_
    show Sw s₁ m 9 aa1 [(.int 1), (.int p2)] _
    refine XS.isub X0.here hx rfl (hb hby d29_9) rfl ?_
    show Sw s₁ m 10 aa1 [(.int (p2 - (1 : Int32)))] _
    let aa2 : Array Slot := #[.val (.int (p2 - (1 : Int32))), .val (.int p2)]
    refine XS.istoreN X0.here hx rfl (hb hby d29_10) rfl (l' := aa2) rfl ?_
    show Sw s₁ m 11 aa2 [] _
    refine XS.iloadN X0.here hx rfl (hb hby d29_11) rfl ?_
    show Sw s₁ m 12 aa2 [(.int (p2 - (1 : Int32)))] _
    exact retI X0 hx Bd.returns (hb hby d29_12) hr
  · show Qrm29a Z p1 p2 h0 n0 _ s₁.heap _
    rw [e0]
    exact ⟨rfl, N0, rfl⟩
def Qrm29b (Z : State) (p1 : Int32) (p2 : Int32) (h0 : Heap) (n0 : Nat) (v : Option Value) (h : Heap) (L : List Loc) : Prop := v = some (.int (p1 + (-1 : Int32))) ∧ Fr n0 L ∧ h = h0
set_option maxRecDepth 65536 in
set_option maxHeartbeats 40000000 in
theorem rm29b (l : Launch) (Z : State) (a0 : Array Value) (hw : HW a0 Z) (ws : List Jvm.Cond) (p1 : Int32) (p2 : Int32) (h0 : Heap) (n0 : Nat) (Z0 : n0 ≤ h0.size) (hc4 : ¬ ((p1 + (-1 : Int32)) < (0 : Int32))) :
    MetFree l ym31 (head1 (Jvm.Cond.code ym31 jdk_21_method_7_code 2 (some .int) :: ws) rm_00) (fun a U => a = #[(.int p1), (.int p2)] ∧ Z.Warmed39 U.vm ∧ U.heap = h0) (fun _ _ _ _ _ => True) (fun _ U o U' => ∃ v L, o = .returned v ∧ Qrm29b Z p1 p2 h0 n0 v U'.heap L ∧ FrameEnd U o U' L rm_00.cells rm_00.slots) := by
  refine MetFree.of_bodySF (plainFor_of_name pn_19) hisR ?_
  intro p e s m args below meth c s₁ Bd hml0 hP hK
  obtain ⟨rfl, hZ, hh⟩ := hP
  have hx := Bd.exec
  have hby := Bd.bytes
  have X0 : Stand p l e rm_00 s m #[(.int p1), (.int p2)] below meth c s₁ [] 0 0 := Stand.of_body Bd
  have e0 : s₁.heap = h0 := by rw [← hh, Bd.state]; rfl
  have N0 := Fr.nil n0
  have pre0 : ∀ t, Steps p.tables e below (s₁.setTop (mkF m 0 #[.val (.int p1), .val (.int p2)] [])) t → Steps p.tables e below (s₁.setTop (entryFrame m #[(.int p1), (.int p2)] 2)) t := fun t k => castTop (ef_58 m p1 p2) k
  obtain ⟨fs, hr, hrun, hended, hW, hsame⟩ := X0.leave (v := some (.int (p1 + (-1 : Int32)))) (fun h => by rw [Bd.returns] at h; cases h)
  refine ⟨_, _, pre0 _ ?_, hrun, hended, _, _, rfl, ?_, ⟨_, rfl⟩, hW, hsame.mono (by decide) (by decide)⟩
  · show Sw s₁ m 0 #[.val (.int p1), .val (.int p2)] [] _
    let aa1 : Array Slot := #[.val (.int (p1 + (-1 : Int32))), .val (.int p2)]
    refine XS.iinc X0.here hx rfl (hb hby d29_0) rfl (l' := aa1) rfl ?_
    show Sw s₁ m 3 aa1 [] _
    refine XS.iloadN X0.here hx rfl (hb hby d29_3) rfl ?_
    show Sw s₁ m 4 aa1 [(.int (p1 + (-1 : Int32)))] _
    refine XS.ifYes X0.here hx rfl (pc0 := 4) (pc' := 11) rfl (hb hby d29_4) rfl ((if0 _ _).trans (flt hc4).2.1) (by decide) (by decide) ?_
    show Sw s₁ m 11 aa1 [] _
    refine XS.iloadN X0.here hx rfl (hb hby d29_11) rfl ?_
    show Sw s₁ m 12 aa1 [(.int (p1 + (-1 : Int32)))] _
    exact retI X0 hx Bd.returns (hb hby d29_12) hr
  · show Qrm29b Z p1 p2 h0 n0 _ s₁.heap _
    rw [e0]
    exact ⟨rfl, N0, rfl⟩
theorem d35_0 : decode cd32 0 = .ok (.iinc 0 1, 3) := by decide +kernel
theorem d35_3 : decode cd32 3 = .ok (.iload_n 0, 1) := by decide +kernel
theorem d35_4 : decode cd32 4 = .ok (.iload_n 1, 1) := by decide +kernel
theorem d35_5 : decode cd32 5 = .ok (.if_icmp .lt 5, 3) := by decide +kernel
theorem d35_10 : decode cd32 10 = .ok (.iload_n 0, 1) := by decide +kernel
theorem d35_11 : decode cd32 11 = .ok (.ireturn, 1) := by decide +kernel
def Qrm35a (Z : State) (p1 : Int32) (p2 : Int32) (h0 : Heap) (n0 : Nat) (v : Option Value) (h : Heap) (L : List Loc) : Prop := v = some (.int (p1 + (1 : Int32))) ∧ Fr n0 L ∧ h = h0
set_option maxRecDepth 65536 in
set_option maxHeartbeats 40000000 in
theorem rm35a (l : Launch) (Z : State) (a0 : Array Value) (hw : HW a0 Z) (ws : List Jvm.Cond) (p1 : Int32) (p2 : Int32) (h0 : Heap) (n0 : Nat) (Z0 : n0 ≤ h0.size) (hc5 : (p1 + (1 : Int32)) < p2) :
    MetFree l ym32 (head1 (Jvm.Cond.code ym32 jdk_21_method_6_code 2 (some .int) :: ws) rm_00) (fun a U => a = #[(.int p1), (.int p2)] ∧ Z.Warmed39 U.vm ∧ U.heap = h0) (fun _ _ _ _ _ => True) (fun _ U o U' => ∃ v L, o = .returned v ∧ Qrm35a Z p1 p2 h0 n0 v U'.heap L ∧ FrameEnd U o U' L rm_00.cells rm_00.slots) := by
  refine MetFree.of_bodySF (plainFor_of_name pn_19) hisR ?_
  intro p e s m args below meth c s₁ Bd hml0 hP hK
  obtain ⟨rfl, hZ, hh⟩ := hP
  have hx := Bd.exec
  have hby := Bd.bytes
  have X0 : Stand p l e rm_00 s m #[(.int p1), (.int p2)] below meth c s₁ [] 0 0 := Stand.of_body Bd
  have e0 : s₁.heap = h0 := by rw [← hh, Bd.state]; rfl
  have N0 := Fr.nil n0
  have pre0 : ∀ t, Steps p.tables e below (s₁.setTop (mkF m 0 #[.val (.int p1), .val (.int p2)] [])) t → Steps p.tables e below (s₁.setTop (entryFrame m #[(.int p1), (.int p2)] 2)) t := fun t k => castTop (ef_58 m p1 p2) k
  obtain ⟨fs, hr, hrun, hended, hW, hsame⟩ := X0.leave (v := some (.int (p1 + (1 : Int32)))) (fun h => by rw [Bd.returns] at h; cases h)
  refine ⟨_, _, pre0 _ ?_, hrun, hended, _, _, rfl, ?_, ⟨_, rfl⟩, hW, hsame.mono (by decide) (by decide)⟩
  · show Sw s₁ m 0 #[.val (.int p1), .val (.int p2)] [] _
    let aa1 : Array Slot := #[.val (.int (p1 + (1 : Int32))), .val (.int p2)]
    refine XS.iinc X0.here hx rfl (hb hby d35_0) rfl (l' := aa1) rfl ?_
    show Sw s₁ m 3 aa1 [] _
    refine XS.iloadN X0.here hx rfl (hb hby d35_3) rfl ?_
    show Sw s₁ m 4 aa1 [(.int (p1 + (1 : Int32)))] _
    refine XS.iloadN X0.here hx rfl (hb hby d35_4) rfl ?_
    show Sw s₁ m 5 aa1 [(.int p2), (.int (p1 + (1 : Int32)))] _
    refine XS.icmpYes X0.here hx rfl (pc0 := 5) (pc' := 10) rfl (hb hby d35_5) rfl (tlt hc5).1 (by decide) (by decide) ?_
    show Sw s₁ m 10 aa1 [] _
    refine XS.iloadN X0.here hx rfl (hb hby d35_10) rfl ?_
    show Sw s₁ m 11 aa1 [(.int (p1 + (1 : Int32)))] _
    exact retI X0 hx Bd.returns (hb hby d35_11) hr
  · show Qrm35a Z p1 p2 h0 n0 _ s₁.heap _
    rw [e0]
    exact ⟨rfl, N0, rfl⟩
theorem d35_8 : decode cd32 8 = .ok (.iconst 0, 1) := by decide +kernel
theorem d35_9 : decode cd32 9 = .ok (.istore_n 0, 1) := by decide +kernel
def Qrm35b (Z : State) (p1 : Int32) (p2 : Int32) (h0 : Heap) (n0 : Nat) (v : Option Value) (h : Heap) (L : List Loc) : Prop := v = some (.int 0) ∧ Fr n0 L ∧ h = h0
set_option maxRecDepth 65536 in
set_option maxHeartbeats 40000000 in
theorem rm35b (l : Launch) (Z : State) (a0 : Array Value) (hw : HW a0 Z) (ws : List Jvm.Cond) (p1 : Int32) (p2 : Int32) (h0 : Heap) (n0 : Nat) (Z0 : n0 ≤ h0.size) (hc5 : ¬ ((p1 + (1 : Int32)) < p2)) :
    MetFree l ym32 (head1 (Jvm.Cond.code ym32 jdk_21_method_6_code 2 (some .int) :: ws) rm_00) (fun a U => a = #[(.int p1), (.int p2)] ∧ Z.Warmed39 U.vm ∧ U.heap = h0) (fun _ _ _ _ _ => True) (fun _ U o U' => ∃ v L, o = .returned v ∧ Qrm35b Z p1 p2 h0 n0 v U'.heap L ∧ FrameEnd U o U' L rm_00.cells rm_00.slots) := by
  refine MetFree.of_bodySF (plainFor_of_name pn_19) hisR ?_
  intro p e s m args below meth c s₁ Bd hml0 hP hK
  obtain ⟨rfl, hZ, hh⟩ := hP
  have hx := Bd.exec
  have hby := Bd.bytes
  have X0 : Stand p l e rm_00 s m #[(.int p1), (.int p2)] below meth c s₁ [] 0 0 := Stand.of_body Bd
  have e0 : s₁.heap = h0 := by rw [← hh, Bd.state]; rfl
  have N0 := Fr.nil n0
  have pre0 : ∀ t, Steps p.tables e below (s₁.setTop (mkF m 0 #[.val (.int p1), .val (.int p2)] [])) t → Steps p.tables e below (s₁.setTop (entryFrame m #[(.int p1), (.int p2)] 2)) t := fun t k => castTop (ef_58 m p1 p2) k
  obtain ⟨fs, hr, hrun, hended, hW, hsame⟩ := X0.leave (v := some (.int 0)) (fun h => by rw [Bd.returns] at h; cases h)
  refine ⟨_, _, pre0 _ ?_, hrun, hended, _, _, rfl, ?_, ⟨_, rfl⟩, hW, hsame.mono (by decide) (by decide)⟩
  · show Sw s₁ m 0 #[.val (.int p1), .val (.int p2)] [] _
    let aa1 : Array Slot := #[.val (.int (p1 + (1 : Int32))), .val (.int p2)]
    refine XS.iinc X0.here hx rfl (hb hby d35_0) rfl (l' := aa1) rfl ?_
    show Sw s₁ m 3 aa1 [] _
    refine XS.iloadN X0.here hx rfl (hb hby d35_3) rfl ?_
    show Sw s₁ m 4 aa1 [(.int (p1 + (1 : Int32)))] _
    refine XS.iloadN X0.here hx rfl (hb hby d35_4) rfl ?_
    show Sw s₁ m 5 aa1 [(.int p2), (.int (p1 + (1 : Int32)))] _
    refine XS.icmpNo X0.here hx rfl (hb hby d35_5) rfl (flt hc5).1 ?_
    show Sw s₁ m 8 aa1 [] _
    refine XS.iconst X0.here hx rfl (hb hby d35_8) ?_
    show Sw s₁ m 9 aa1 [(.int 0)] _
    let aa2 : Array Slot := #[.val (.int 0), .val (.int p2)]
    refine XS.istoreN X0.here hx rfl (hb hby d35_9) rfl (l' := aa2) rfl ?_
    show Sw s₁ m 10 aa2 [] _
    refine XS.iloadN X0.here hx rfl (hb hby d35_10) rfl ?_
    show Sw s₁ m 11 aa2 [(.int 0)] _
    exact retI X0 hx Bd.returns (hb hby d35_11) hr
  · show Qrm35b Z p1 p2 h0 n0 _ s₁.heap _
    rw [e0]
    exact ⟨rfl, N0, rfl⟩
theorem d37_0 : decode cd33 0 = .ok (.aload_n 0, 1) := by decide +kernel
theorem d37_1 : decode cd33 1 = .ok (.getfield 24, 3) := by decide +kernel
theorem d37_4 : decode cd33 4 = .ok (.aload_n 0, 1) := by decide +kernel
theorem d37_5 : decode cd33 5 = .ok (.getfield 20, 3) := by decide +kernel
theorem d37_8 : decode cd33 8 = .ok (.if_icmp .ne 7, 3) := by decide +kernel
theorem d37_15 : decode cd33 15 = .ok (.iconst 0, 1) := by decide +kernel
theorem d37_16 : decode cd33 16 = .ok (.ireturn, 1) := by decide +kernel
def Qrm37a (Z : State) (a1 : Addr) (w2 : Int32) (w4 : Int32) (h0 : Heap) (n0 : Nat) (v : Option Value) (h : Heap) (L : List Loc) : Prop := v = some (.int 0) ∧ Fr n0 L ∧ h = h0
set_option maxRecDepth 65536 in
set_option maxHeartbeats 40000000 in
theorem rm37a (l : Launch) (Z : State) (a0 : Array Value) (hw : HW a0 Z) (ws : List Jvm.Cond) (a1 : Addr) (w2 : Int32) (w4 : Int32) (h0 : Heap) (n0 : Nat) (Z0 : n0 ≤ h0.size) (F_head_a1 : Fld Z h0 a1 "java/util/ArrayDeque" "head" "I" (.int w2)) (F_tail_a1 : Fld Z h0 a1 "java/util/ArrayDeque" "tail" "I" (.int w4)) (hc8 : ¬ (w2 = w4)) :
    MetFree l ym33 (head1 (Jvm.Cond.code ym33 jdk_21_method_38_code 1 (some .boolean) :: ws) rm_00) (fun a U => a = #[(.ref a1)] ∧ Z.Warmed39 U.vm ∧ U.heap = h0) (fun _ _ _ _ _ => True) (fun _ U o U' => ∃ v L, o = .returned v ∧ Qrm37a Z a1 w2 w4 h0 n0 v U'.heap L ∧ FrameEnd U o U' L rm_00.cells rm_00.slots) := by
  refine MetFree.of_bodySF (plainFor_of_name pn_19) hisR ?_
  intro p e s m args below meth c s₁ Bd hml0 hP hK
  obtain ⟨rfl, hZ, hh⟩ := hP
  have hx := Bd.exec
  have hby := Bd.bytes
  have hown : s.vm.findClass "java/util/ArrayDeque" = some m.cls := findClass_of_methodNamed Bd.named
  have X0 : Stand p l e rm_00 s m #[(.ref a1)] below meth c s₁ [] 0 0 := Stand.of_body Bd
  have e0 : s₁.heap = h0 := by rw [← hh, Bd.state]; rfl
  have N0 := Fr.nil n0
  let aa1 : Array Slot := #[.val (.ref a1)]
  have pre0 : ∀ t, Steps p.tables e below (s₁.setTop (mkF m 0 aa1 [])) t → Steps p.tables e below (s₁.setTop (entryFrame m #[(.ref a1)] 1)) t := fun t k => castTop (ef_11 m a1) k
  obtain ⟨T3, X3, e3, st3⟩ := getF X0 hx hZ hown (host := "") (Or.inl (ww hw 175 rfl)) Via.refl e0 F_head_a1 (g := (mkF m 1 aa1 [(.ref a1)])) rfl rfl (hb hby d37_1)
  obtain ⟨T5, X5, e5, st5⟩ := getF X3 hx hZ hown (host := "") (Or.inl (ww hw 181 rfl)) Via.refl e3 F_tail_a1 (g := (mkF m 5 aa1 [(.ref a1), (.int w2)])) rfl rfl (hb hby d37_5)
  obtain ⟨fs, hr, hrun, hended, hW, hsame⟩ := X5.leave (v := some (.int 0)) (fun h => by rw [Bd.returns] at h; cases h)
  refine ⟨_, _, pre0 _ ?_, hrun, hended, _, _, rfl, ?_, ⟨_, rfl⟩, hW, hsame.mono (by decide) (by decide)⟩
  · show Sw s₁ m 0 aa1 [] _
    refine XS.aloadN X0.here hx rfl (hb hby d37_0) rfl rfl ?_
    show Sw s₁ m 1 aa1 [(.ref a1)] _
    refine st3 _ ?_
    show Sw T3 m 4 aa1 [(.int w2)] _
    refine XS.aloadN X3.here hx rfl (hb hby d37_4) rfl rfl ?_
    show Sw T3 m 5 aa1 [(.ref a1), (.int w2)] _
    refine st5 _ ?_
    show Sw T5 m 8 aa1 [(.int w4), (.int w2)] _
    refine XS.icmpYes X5.here hx rfl (pc0 := 8) (pc' := 15) rfl (hb hby d37_8) rfl (feq hc8).2 (by decide) (by decide) ?_
    show Sw T5 m 15 aa1 [] _
    refine XS.iconst X5.here hx rfl (hb hby d37_15) ?_
    show Sw T5 m 16 aa1 [(.int 0)] _
    exact retN X5 hx (t := .boolean) Bd.returns (by simp) (hb hby d37_16) hr
  · show Qrm37a Z a1 w2 w4 h0 n0 _ T5.heap _
    rw [e5]
    exact ⟨rfl, N0, rfl⟩
theorem d37_11 : decode cd33 11 = .ok (.iconst 1, 1) := by decide +kernel
theorem d37_12 : decode cd33 12 = .ok (.goto 4, 3) := by decide +kernel
def Qrm37b (Z : State) (a1 : Addr) (w2 : Int32) (w4 : Int32) (h0 : Heap) (n0 : Nat) (v : Option Value) (h : Heap) (L : List Loc) : Prop := v = some (.int 1) ∧ Fr n0 L ∧ h = h0
set_option maxRecDepth 65536 in
set_option maxHeartbeats 40000000 in
theorem rm37b (l : Launch) (Z : State) (a0 : Array Value) (hw : HW a0 Z) (ws : List Jvm.Cond) (a1 : Addr) (w2 : Int32) (w4 : Int32) (h0 : Heap) (n0 : Nat) (Z0 : n0 ≤ h0.size) (F_head_a1 : Fld Z h0 a1 "java/util/ArrayDeque" "head" "I" (.int w2)) (F_tail_a1 : Fld Z h0 a1 "java/util/ArrayDeque" "tail" "I" (.int w4)) (hc8 : w2 = w4) :
    MetFree l ym33 (head1 (Jvm.Cond.code ym33 jdk_21_method_38_code 1 (some .boolean) :: ws) rm_00) (fun a U => a = #[(.ref a1)] ∧ Z.Warmed39 U.vm ∧ U.heap = h0) (fun _ _ _ _ _ => True) (fun _ U o U' => ∃ v L, o = .returned v ∧ Qrm37b Z a1 w2 w4 h0 n0 v U'.heap L ∧ FrameEnd U o U' L rm_00.cells rm_00.slots) := by
  refine MetFree.of_bodySF (plainFor_of_name pn_19) hisR ?_
  intro p e s m args below meth c s₁ Bd hml0 hP hK
  obtain ⟨rfl, hZ, hh⟩ := hP
  have hx := Bd.exec
  have hby := Bd.bytes
  have hown : s.vm.findClass "java/util/ArrayDeque" = some m.cls := findClass_of_methodNamed Bd.named
  have X0 : Stand p l e rm_00 s m #[(.ref a1)] below meth c s₁ [] 0 0 := Stand.of_body Bd
  have e0 : s₁.heap = h0 := by rw [← hh, Bd.state]; rfl
  have N0 := Fr.nil n0
  let aa1 : Array Slot := #[.val (.ref a1)]
  have pre0 : ∀ t, Steps p.tables e below (s₁.setTop (mkF m 0 aa1 [])) t → Steps p.tables e below (s₁.setTop (entryFrame m #[(.ref a1)] 1)) t := fun t k => castTop (ef_11 m a1) k
  obtain ⟨T3, X3, e3, st3⟩ := getF X0 hx hZ hown (host := "") (Or.inl (ww hw 175 rfl)) Via.refl e0 F_head_a1 (g := (mkF m 1 aa1 [(.ref a1)])) rfl rfl (hb hby d37_1)
  obtain ⟨T5, X5, e5, st5⟩ := getF X3 hx hZ hown (host := "") (Or.inl (ww hw 181 rfl)) Via.refl e3 F_tail_a1 (g := (mkF m 5 aa1 [(.ref a1), (.int w2)])) rfl rfl (hb hby d37_5)
  obtain ⟨fs, hr, hrun, hended, hW, hsame⟩ := X5.leave (v := some (.int 1)) (fun h => by rw [Bd.returns] at h; cases h)
  refine ⟨_, _, pre0 _ ?_, hrun, hended, _, _, rfl, ?_, ⟨_, rfl⟩, hW, hsame.mono (by decide) (by decide)⟩
  · show Sw s₁ m 0 aa1 [] _
    refine XS.aloadN X0.here hx rfl (hb hby d37_0) rfl rfl ?_
    show Sw s₁ m 1 aa1 [(.ref a1)] _
    refine st3 _ ?_
    show Sw T3 m 4 aa1 [(.int w2)] _
    refine XS.aloadN X3.here hx rfl (hb hby d37_4) rfl rfl ?_
    show Sw T3 m 5 aa1 [(.ref a1), (.int w2)] _
    refine st5 _ ?_
    show Sw T5 m 8 aa1 [(.int w4), (.int w2)] _
    refine XS.icmpNo X5.here hx rfl (hb hby d37_8) rfl (teq hc8).2 ?_
    show Sw T5 m 11 aa1 [] _
    refine XS.iconst X5.here hx rfl (hb hby d37_11) ?_
    show Sw T5 m 12 aa1 [(.int 1)] _
    refine XS.goto X5.here hx rfl (pc0 := 12) (pc' := 16) rfl (hb hby d37_12) (by decide) (by decide) ?_
    show Sw T5 m 16 aa1 [(.int 1)] _
    exact retN X5 hx (t := .boolean) Bd.returns (by simp) (hb hby d37_16) hr
  · show Qrm37b Z a1 w2 w4 h0 n0 _ T5.heap _
    rw [e5]
    exact ⟨rfl, N0, rfl⟩
theorem d34_0 : decode cd34 0 = .ok (.aload_n 0, 1) := by decide +kernel
theorem d34_1 : decode cd34 1 = .ok (.iload_n 1, 1) := by decide +kernel
theorem d34_2 : decode cd34 2 = .ok (.aaload, 1) := by decide +kernel
theorem d34_3 : decode cd34 3 = .ok (.areturn, 1) := by decide +kernel
def Qrm34 (Z : State) (a1 : Addr) (p2 : Int32) (w3 : Addr) (cl_a1 : Cell) (h0 : Heap) (n0 : Nat) (v : Option Value) (h : Heap) (L : List Loc) : Prop := v = some (.ref w3) ∧ Fr n0 L ∧ h = h0
set_option maxRecDepth 65536 in
set_option maxHeartbeats 40000000 in
theorem rm34 (l : Launch) (Z : State) (a0 : Array Value) (hw : HW a0 Z) (ws : List Jvm.Cond) (a1 : Addr) (p2 : Int32) (w3 : Addr) (cl_a1 : Cell) (h0 : Heap) (n0 : Nat) (Z0 : n0 ≤ h0.size) (Ar_a1 : Arr Z h0 a1 cl_a1 (.object "java/lang/Object")) (hin2 : ¬ (p2 < 0 ∨ cl_a1.slots.size ≤ (p2).toNatClampNeg)) (hat2 : cl_a1.slots[(p2).toNatClampNeg]? = some (.ref w3)) :
    MetFree l ym34 (head1 (Jvm.Cond.code ym34 jdk_21_method_10_code 2 (some (.object "java/lang/Object")) :: ws) rm_00) (fun a U => a = #[(.ref a1), (.int p2)] ∧ Z.Warmed39 U.vm ∧ U.heap = h0) (fun _ _ _ _ _ => True) (fun _ U o U' => ∃ v L, o = .returned v ∧ Qrm34 Z a1 p2 w3 cl_a1 h0 n0 v U'.heap L ∧ FrameEnd U o U' L rm_00.cells rm_00.slots) := by
  refine MetFree.of_bodySF (plainFor_of_name pn_19) hisR ?_
  intro p e s m args below meth c s₁ Bd hml0 hP hK
  obtain ⟨rfl, hZ, hh⟩ := hP
  have hx := Bd.exec
  have hby := Bd.bytes
  have X0 : Stand p l e rm_00 s m #[(.ref a1), (.int p2)] below meth c s₁ [] 0 0 := Stand.of_body Bd
  have e0 : s₁.heap = h0 := by rw [← hh, Bd.state]; rfl
  have N0 := Fr.nil n0
  let aa1 : Array Slot := #[.val (.ref a1), .val (.int p2)]
  have pre0 : ∀ t, Steps p.tables e below (s₁.setTop (mkF m 0 aa1 [])) t → Steps p.tables e below (s₁.setTop (entryFrame m #[(.ref a1), (.int p2)] 2)) t := fun t k => castTop (ef_24 m a1 p2) k
  obtain ⟨fs, hr, hrun, hended, hW, hsame⟩ := X0.leave (v := some (.ref w3)) (fun h => by rw [Bd.returns] at h; cases h)
  refine ⟨_, _, pre0 _ ?_, hrun, hended, _, _, rfl, ?_, ⟨_, rfl⟩, hW, hsame.mono (by decide) (by decide)⟩
  · show Sw s₁ m 0 aa1 [] _
    refine XS.aloadN X0.here hx rfl (hb hby d34_0) rfl rfl ?_
    show Sw s₁ m 1 aa1 [(.ref a1)] _
    refine XS.iloadN X0.here hx rfl (hb hby d34_1) rfl ?_
    show Sw s₁ m 2 aa1 [(.int p2), (.ref a1)] _
    refine X0.aaload hx (j := p2) (v := (.ref w3)) (by rw [e0]; exact Ar_a1.1) (State.isArrayOf_alike hZ.alike Ar_a1.2.1) rfl Ar_a1.2.2 hin2 hat2 (g := (mkF m 2 aa1 [(.int p2), (.ref a1)])) rfl rfl (hb hby d34_2) _ ?_
    show Steps p.tables e below (s₁.setTop (mkF m 3 aa1 [(.ref w3)])) _
    jvm_step X0.here [X0.here.top, hx, (hb hby d34_3), X0.method', Bd.returns, Value.isRef, FieldType.isReference]
    first | (intro acts; rw [hr _ acts rfl rfl rfl]) | rw [hr _ _ rfl rfl rfl]
    exact Steps.refl _
  · show Qrm34 Z a1 p2 w3 cl_a1 h0 n0 _ s₁.heap _
    rw [e0]
    exact ⟨rfl, N0, rfl⟩
theorem d28_0 : decode cd35 0 = .ok (.aload_n 1, 1) := by decide +kernel
theorem d28_1 : decode cd35 1 = .ok (.ifnonnull 11, 3) := by decide +kernel
theorem d28_12 : decode cd35 12 = .ok (.aload_n 0, 1) := by decide +kernel
theorem d28_13 : decode cd35 13 = .ok (.getfield 3, 3) := by decide +kernel
theorem d28_16 : decode cd35 16 = .ok (.astore_n 2, 1) := by decide +kernel
theorem d28_17 : decode cd35 17 = .ok (.aload_n 2, 1) := by decide +kernel
theorem d28_18 : decode cd35 18 = .ok (.aload_n 0, 1) := by decide +kernel
theorem d28_19 : decode cd35 19 = .ok (.aload_n 0, 1) := by decide +kernel
theorem d28_20 : decode cd35 20 = .ok (.getfield 24, 3) := by decide +kernel
theorem d28_23 : decode cd35 23 = .ok (.aload_n 2, 1) := by decide +kernel
theorem d28_24 : decode cd35 24 = .ok (.arraylength, 1) := by decide +kernel
theorem d28_25 : decode cd35 25 = .ok (.invokestatic 68, 3) := by decide +kernel
theorem d28_28 : decode cd35 28 = .ok (.dup_x1, 1) := by decide +kernel
theorem d28_29 : decode cd35 29 = .ok (.putfield 24, 3) := by decide +kernel
theorem d28_32 : decode cd35 32 = .ok (.aload_n 1, 1) := by decide +kernel
theorem d28_33 : decode cd35 33 = .ok (.aastore, 1) := by decide +kernel
theorem d28_34 : decode cd35 34 = .ok (.aload_n 0, 1) := by decide +kernel
theorem d28_35 : decode cd35 35 = .ok (.getfield 24, 3) := by decide +kernel
theorem d28_38 : decode cd35 38 = .ok (.aload_n 0, 1) := by decide +kernel
theorem d28_39 : decode cd35 39 = .ok (.getfield 20, 3) := by decide +kernel
theorem d28_42 : decode cd35 42 = .ok (.if_icmp .ne 8, 3) := by decide +kernel
theorem d28_50 : decode cd35 50 = .ok (.return_, 1) := by decide +kernel
def Qrm28a (Z : State) (a1 : Addr) (a2 : Addr) (w3 : Addr) (k_w3 : ClassId) (vs_w3 : List Value) (h0 : Heap) (n0 : Nat) (v : Option Value) (h : Heap) (L : List Loc) : Prop := v = none ∧ Fr n0 L ∧ Keep h0 h [a1, w3] ∧ own_D Z h a1 w3 k_w3 ((17 : Int32) - (1 : Int32)) (vs_w3.set 16 (.ref a2))
set_option maxRecDepth 65536 in
set_option maxHeartbeats 40000000 in
theorem rm28a (l : Launch) (Z : State) (a0 : Array Value) (hw : HW a0 Z) (ws : List Jvm.Cond) (a1 : Addr) (a2 : Addr) (w3 : Addr) (k_w3 : ClassId) (vs_w3 : List Value) (h0 : Heap) (n0 : Nat) (Z0 : n0 ≤ h0.size) (DD : own_D Z h0 a1 w3 k_w3 (0 : Int32) vs_w3) (E_a2 : Exa Z h0 a2 "java/lang/String") (F_elements_a1 : Fld Z h0 a1 "java/util/ArrayDeque" "elements" "[Ljava/lang/Object;" (.ref w3)) (F_head_a1 : Fld Z h0 a1 "java/util/ArrayDeque" "head" "I" (.int 0)) (V_w3 : Arv Z h0 w3 k_w3 (.object "java/lang/Object") (17 : Int32) vs_w3 .null) (E_a1 : Exa Z h0 a1 "java/util/ArrayDeque") (g_a1 : n0 ≤ a1) (g_w3 : n0 ≤ w3) (F_tail_a1 : Fld Z h0 a1 "java/util/ArrayDeque" "tail" "I" (.int 0)) :
    MetFree l ym35 (head1 (Jvm.Cond.code ym35 jdk_21_method_12_code 3 none :: ws) rm_23) (fun a U => a = #[(.ref a1), (.ref a2)] ∧ Z.Warmed39 U.vm ∧ U.heap = h0) (fun _ _ _ _ _ => True) (fun _ U o U' => ∃ v L, o = .returned v ∧ Qrm28a Z a1 a2 w3 k_w3 vs_w3 h0 n0 v U'.heap L ∧ FrameEnd U o U' L rm_23.cells rm_23.slots) := by
  refine MetFree.of_bodySF (plainFor_of_name pn_19) hisR ?_
  intro p e s m args below meth c s₁ Bd hml0 hP hK
  obtain ⟨rfl, hZ, hh⟩ := hP
  have hx := Bd.exec
  have hby := Bd.bytes
  have hml : c.maxLocals = 3 := hml0
  have hown : s.vm.findClass "java/util/ArrayDeque" = some m.cls := findClass_of_methodNamed Bd.named
  have X0 : Stand p l e rm_23 s m #[(.ref a1), (.ref a2)] below meth c s₁ [] 0 0 := Stand.of_body Bd
  have e0 : s₁.heap = h0 := by rw [← hh, Bd.state]; rfl
  have N0 := Fr.nil n0
  obtain ⟨cl_w3, Ar_w3, C_w3, S_w3, N_w3, H_w3, G_w3⟩ := id V_w3
  let aa1 : Array Slot := #[.val (.ref a1), .val (.ref a2), .unset]
  have pre0 : ∀ t, Steps p.tables e below (s₁.setTop (mkF m 0 aa1 [])) t → Steps p.tables e below (s₁.setTop (entryFrame m #[(.ref a1), (.ref a2)] 3)) t := fun t k => castTop (ef_14 m a1 a2) k
  obtain ⟨T4, X4, e4, st4⟩ := getF X0 hx hZ hown (host := "") (Or.inl (ww hw 127 rfl)) Via.refl e0 F_elements_a1 (g := (mkF m 13 aa1 [(.ref a1)])) rfl rfl (hb hby d28_13)
  let aa2 : Array Slot := #[.val (.ref a1), .val (.ref a2), .val (.ref w3)]
  obtain ⟨T6, X6, e6, st6⟩ := getF X4 hx hZ hown (host := "") (Or.inl (ww hw 175 rfl)) Via.refl e4 F_head_a1 (g := (mkF m 20 aa2 [(.ref a1), (.ref a1), (.ref w3)])) rfl rfl (hb hby d28_20)
  have ne := E_a1.neArv V_w3 (ww hw 113 rfl)
  have hin33 : ¬ (((17 : Int32) - (1 : Int32)) < 0 ∨ cl_w3.slots.size ≤ (((17 : Int32) - (1 : Int32))).toNatClampNeg) := inb_of S_w3 (by decide)
  obtain ⟨_, _, ⟨T7, L7, k7, n7⟩, -, X7, ⟨Lc7, hQ7, l7, y7, z7⟩, st7⟩ := Jvm.LawKit.callS X6 hx (y := ym31) hown (mvT hZ (ww hw 177 rfl)) (mvT hZ (ww hw 178 rfl)) (mvT hZ (ww hw 114 rfl)) (mvT hZ (ww hw 179 rfl)) (by decide) (backOf (W := 2) (rm29a l Z a0 hw [] (0 : Int32) (17 : Int32) h0 n0 Z0 (by decide)) hZ (ww hw 179 rfl) (ww hw 114 rfl) (by decide) (by decide)) (g := (mkF m 25 aa2 [(.int 17), (.int 0), (.ref a1), (.ref w3)])) rfl (by rw [hml]; rfl) (argsL := [(.int 0), (.int 17)]) (rest := [(.ref a1), (.ref w3)]) (lenOf pd_57_21 rfl) rfl (wz rfl) (hb hby d28_25) (fun _ _ => ⟨rfl, e6, (by decide : 0 + 0 ≤ _), (by decide : 0 + 0 ≤ _)⟩)
  dsimp only [Pt.U, Pt.locs, Pt.cells, Pt.slots] at X7 l7 y7 z7 st7 hQ7
  subst l7 y7 z7
  obtain ⟨rfl, N7q, e7⟩ := hQ7
  have N7 := Fr.app N0 N7q
  obtain ⟨T8, h8, X8, e8, W8, st8⟩ := putF X7 hx hZ hown (host := "") (Or.inl (ww hw 175 rfl)) Via.refl e7 F_head_a1 E_a1 (Or.inl (ww hw 176 rfl)) (ww hw 113 rfl) (ty := .int) (by decide) rfl rfl (g := (mkF m 29 aa2 [(.int ((17 : Int32) - (1 : Int32))), (.ref a1), (.int ((17 : Int32) - (1 : Int32))), (.ref w3)])) rfl rfl (hb hby d28_29)
  have Fw8 := F_head_a1.same W8
  have K8 : Keep h0 h8 [a1, w3] := (Keep.refl h0 _).wr W8 (Or.inl (wi 0 rfl))
  have N8 := Fr.snoc X8 N7 g_a1
  obtain ⟨T9, h9, X9, e9, W9, st9⟩ := stR X8 hx hZ e8 (Ar_w3.other W8 ne.symm) (j := ((17 : Int32) - (1 : Int32))) hin33 rfl (Sto.ofV (Ar_w3.other W8 ne.symm) C_w3 DD.2.2.2.2.2.1 (Ins.of_exa (E_a2.wr W8) (ww hw 180 rfl))) (g := (mkF m 33 aa2 [(.ref a2), (.int ((17 : Int32) - (1 : Int32))), (.ref w3)])) rfl rfl (hb hby d28_33)
  have N9 := Fr.snoc X9 N8 g_w3
  have K9 : Keep h0 h9 [a1, w3] := K8.wr W9 (Or.inl (wi 1 rfl))
  obtain ⟨T10, X10, e10, st10⟩ := getF X9 hx hZ hown (host := "") (Or.inl (ww hw 175 rfl)) Via.refl e9 (Fw8.other W9 (Or.inl ne)) (g := (mkF m 35 aa2 [(.ref a1)])) rfl rfl (hb hby d28_35)
  obtain ⟨T12, X12, e12, st12⟩ := getF X10 hx hZ hown (host := "") (Or.inl (ww hw 181 rfl)) Via.refl e10 ((F_tail_a1.other W8 (Or.inr (slot_ne (Or.inl (ww hw 182 rfl)) (Or.inl (ww hw 176 rfl)) (by decide) (t := .int) (t' := .int) (by decide) (by decide)))).other W9 (Or.inl ne)) (g := (mkF m 39 aa2 [(.ref a1), (.int ((17 : Int32) - (1 : Int32)))])) rfl rfl (hb hby d28_39)
  obtain ⟨fs, hr, hrun, hended, hW, hsame⟩ := X12.leave (v := none) (fun _ => rfl)
  refine ⟨_, _, pre0 _ ?_, hrun, hended, _, _, rfl, ?_, ⟨_, rfl⟩, hW, hsame.mono (by decide) (by decide)⟩
  · show Sw s₁ m 0 aa1 [] _
    refine XS.aloadN X0.here hx rfl (hb hby d28_0) rfl rfl ?_
    show Sw s₁ m 1 aa1 [(.ref a2)] _
    refine XS.ifnonnullYes X0.here hx rfl (pc0 := 1) (pc' := 12) rfl (hb hby d28_1) rfl (by decide) (by decide) ?_
    show Sw s₁ m 12 aa1 [] _
    refine XS.aloadN X0.here hx rfl (hb hby d28_12) rfl rfl ?_
    show Sw s₁ m 13 aa1 [(.ref a1)] _
    refine st4 _ ?_
    show Sw T4 m 16 aa1 [(.ref w3)] _
    refine XS.astoreN X4.here hx rfl (hb hby d28_16) rfl rfl (l' := aa2) rfl ?_
    show Sw T4 m 17 aa2 [] _
    refine XS.aloadN X4.here hx rfl (hb hby d28_17) rfl rfl ?_
    show Sw T4 m 18 aa2 [(.ref w3)] _
    refine XS.aloadN X4.here hx rfl (hb hby d28_18) rfl rfl ?_
    show Sw T4 m 19 aa2 [(.ref a1), (.ref w3)] _
    refine XS.aloadN X4.here hx rfl (hb hby d28_19) rfl rfl ?_
    show Sw T4 m 20 aa2 [(.ref a1), (.ref a1), (.ref w3)] _
    refine st6 _ ?_
    show Sw T6 m 23 aa2 [(.int 0), (.ref a1), (.ref w3)] _
    refine XS.aloadN X6.here hx rfl (hb hby d28_23) rfl rfl ?_
    show Sw T6 m 24 aa2 [(.ref w3), (.int 0), (.ref a1), (.ref w3)] _
    refine X6.arraylength hx (by rw [e6]; exact Ar_w3.1) (State.isArrayOf_alike hZ.alike Ar_w3.2.1) (g := (mkF m 24 aa2 [(.ref w3), (.int 0), (.ref a1), (.ref w3)])) rfl rfl (hb hby d28_24) _ ?_
    rw [len_of S_w3 N_w3]
    show Sw T6 m 25 aa2 [(.int 17), (.int 0), (.ref a1), (.ref w3)] _
    refine st7 _ ?_
    show Sw T7 m 28 aa2 [(.int ((17 : Int32) - (1 : Int32))), (.ref a1), (.ref w3)] _
    refine XS.dupX1 X7.here hx rfl (hb hby d28_28) rfl rfl rfl ?_
    show Sw T7 m 29 aa2 [(.int ((17 : Int32) - (1 : Int32))), (.ref a1), (.int ((17 : Int32) - (1 : Int32))), (.ref w3)] _
    refine st8 _ ?_
    show Sw T8 m 32 aa2 [(.int ((17 : Int32) - (1 : Int32))), (.ref w3)] _
    refine XS.aloadN X8.here hx rfl (hb hby d28_32) rfl rfl ?_
    show Sw T8 m 33 aa2 [(.ref a2), (.int ((17 : Int32) - (1 : Int32))), (.ref w3)] _
    refine st9 _ ?_
    show Sw T9 m 34 aa2 [] _
    refine XS.aloadN X9.here hx rfl (hb hby d28_34) rfl rfl ?_
    show Sw T9 m 35 aa2 [(.ref a1)] _
    refine st10 _ ?_
    show Sw T10 m 38 aa2 [(.int ((17 : Int32) - (1 : Int32)))] _
    refine XS.aloadN X10.here hx rfl (hb hby d28_38) rfl rfl ?_
    show Sw T10 m 39 aa2 [(.ref a1), (.int ((17 : Int32) - (1 : Int32)))] _
    refine st12 _ ?_
    show Sw T12 m 42 aa2 [(.int 0), (.int ((17 : Int32) - (1 : Int32)))] _
    refine XS.icmpYes X12.here hx rfl (pc0 := 42) (pc' := 50) rfl (hb hby d28_42) rfl (feq (by decide : ¬ (((17 : Int32) - (1 : Int32)) = (0 : Int32)))).2 (by decide) (by decide) ?_
    show Sw T12 m 50 aa2 [] _
    exact X12.returnOut hx Bd.returns (hb hby d28_50) hr
  · show Qrm28a Z a1 a2 w3 k_w3 vs_w3 h0 n0 _ T12.heap _
    rw [e12]
    have V9 := Arv.set (Ar_w3.other W8 ne.symm) C_w3 S_w3 N_w3 H_w3 G_w3 rfl W9 16 rfl (by rw [DD.2.2.2.2.2.2]; decide)
    exact ⟨rfl, N9, K9, (E_a1.wr W8).wr W9, (DD.2.1.other W8 (Or.inr (slot_ne (Or.inl (ww hw 128 rfl)) (Or.inl (ww hw 176 rfl)) (by decide) (t := (.array (.object "java/lang/Object"))) (t' := .int) (by decide) (by decide)))).other W9 (Or.inl ne), Fw8.other W9 (Or.inl ne), (DD.2.2.2.1.other W8 (Or.inr (slot_ne (Or.inl (ww hw 182 rfl)) (Or.inl (ww hw 176 rfl)) (by decide) (t := .int) (t' := .int) (by decide) (by decide)))).other W9 (Or.inl ne), V9, DD.2.2.2.2.2.1, by rw [List.length_set]; exact DD.2.2.2.2.2.2⟩
theorem d27_0 : decode cd36 0 = .ok (.aload_n 0, 1) := by decide +kernel
theorem d27_1 : decode cd36 1 = .ok (.aload_n 1, 1) := by decide +kernel
theorem d27_2 : decode cd36 2 = .ok (.invokevirtual 86, 3) := by decide +kernel
theorem d27_5 : decode cd36 5 = .ok (.return_, 1) := by decide +kernel
theorem pd_27_20 : parseMethodDescriptor "(Ljava/lang/Object;)V" = some ⟨[(.object "java/lang/Object")], none⟩ := by decide +kernel
def Qrm27a (Z : State) (a1 : Addr) (a2 : Addr) (w3 : Addr) (ke : ClassId) (es : List Value) (h0 : Heap) (n0 : Nat) (v : Option Value) (h : Heap) (L : List Loc) : Prop := v = none ∧ Fr n0 L ∧ Keep h0 h [a1, w3] ∧ own_D Z h a1 w3 ke ((17 : Int32) - (1 : Int32)) (es.set 16 (.ref a2))
set_option maxRecDepth 65536 in
set_option maxHeartbeats 40000000 in
theorem rm27a (l : Launch) (Z : State) (a0 : Array Value) (hw : HW a0 Z) (ws : List Jvm.Cond) (a1 : Addr) (a2 : Addr) (w3 : Addr) (ke : ClassId) (es : List Value) (h0 : Heap) (n0 : Nat) (Z0 : n0 ≤ h0.size) (DD : own_D Z h0 a1 w3 ke (0 : Int32) es) (E_a2 : Exa Z h0 a2 "java/lang/String") (g_a1 : n0 ≤ a1) (g_w3 : n0 ≤ w3) (E_a1 : Exa Z h0 a1 "java/util/ArrayDeque") :
    MetFree l ym36 (head1 (Jvm.Cond.code ym36 jdk_21_method_34_code 2 none :: ws) rm_09) (fun a U => a = #[(.ref a1), (.ref a2)] ∧ Z.Warmed39 U.vm ∧ U.heap = h0) (fun _ _ _ _ _ => True) (fun _ U o U' => ∃ v L, o = .returned v ∧ Qrm27a Z a1 a2 w3 ke es h0 n0 v U'.heap L ∧ FrameEnd U o U' L rm_09.cells rm_09.slots) := by
  refine MetFree.of_bodySF (plainFor_of_name pn_19) hisR ?_
  intro p e s m args below meth c s₁ Bd hml0 hP hK
  obtain ⟨rfl, hZ, hh⟩ := hP
  have hx := Bd.exec
  have hby := Bd.bytes
  have hml : c.maxLocals = 2 := hml0
  have hown : s.vm.findClass "java/util/ArrayDeque" = some m.cls := findClass_of_methodNamed Bd.named
  have X0 : Stand p l e rm_09 s m #[(.ref a1), (.ref a2)] below meth c s₁ [] 0 0 := Stand.of_body Bd
  have e0 : s₁.heap = h0 := by rw [← hh, Bd.state]; rfl
  have N0 := Fr.nil n0
  let aa1 : Array Slot := #[.val (.ref a1), .val (.ref a2)]
  have pre0 : ∀ t, Steps p.tables e below (s₁.setTop (mkF m 0 aa1 [])) t → Steps p.tables e below (s₁.setTop (entryFrame m #[(.ref a1), (.ref a2)] 2)) t := fun t k => castTop (ef_17 m a1 a2) k
  obtain ⟨cq3, kq3, q3a, q3b, q3c⟩ := isOf hZ e0 E_a1
  obtain ⟨_, _, ⟨T3, L3, k3, n3⟩, -, X3, ⟨Lc3, hQ3, l3, y3, z3⟩, st3⟩ := X0.virtualBack hx (y := ym35) (z := ym35) hown (mvT hZ (ww hw 170 rfl)) (mvT hZ (ww hw 171 rfl)) (notFace_of_selects (args := #[]) (mvT hZ (ww hw 173 rfl))) (mvT hZ (ww hw 173 rfl)) (mvT hZ (ww hw 172 rfl)) (by decide) (backOf (W := 0) (rm28a l Z a0 hw [] a1 a2 w3 ke es h0 n0 Z0 DD E_a2 DD.2.1 DD.2.2.1 DD.2.2.2.2.1 DD.1 g_a1 g_w3 DD.2.2.2.1) hZ (ww hw 174 rfl) (ww hw 114 rfl) (by decide) (by decide)) q3a q3c (g := (mkF m 2 aa1 [(.ref a2), (.ref a1)])) rfl (by rw [hml]; rfl) (Steps.refl _) (argsL := [(.ref a2)]) (rest := []) (lenOf pd_27_20 rfl) rfl (wz rfl) (hb hby d27_2) (fun _ _ => ⟨rfl, e0, (by decide : 0 + 0 ≤ _), (by decide : 0 + 0 ≤ _)⟩)
  dsimp only [Pt.U, Pt.locs, Pt.cells, Pt.slots] at X3 l3 y3 z3 st3 hQ3
  subst l3 y3 z3
  obtain ⟨rfl, N3q, K3, D3⟩ := hQ3
  have N3 := Fr.app N0 N3q
  obtain ⟨fs, hr, hrun, hended, hW, hsame⟩ := X3.leave (v := none) (fun _ => rfl)
  refine ⟨_, _, pre0 _ ?_, hrun, hended, _, _, rfl, ?_, ⟨_, rfl⟩, hW, hsame.mono (by decide) (by decide)⟩
  · show Sw s₁ m 0 aa1 [] _
    refine XS.aloadN X0.here hx rfl (hb hby d27_0) rfl rfl ?_
    show Sw s₁ m 1 aa1 [(.ref a1)] _
    refine XS.aloadN X0.here hx rfl (hb hby d27_1) rfl rfl ?_
    show Sw s₁ m 2 aa1 [(.ref a2), (.ref a1)] _
    refine st3.trans ?_
    show Sw T3 m 5 aa1 [] _
    exact X3.returnOut hx Bd.returns (hb hby d27_5) hr
  · show Qrm27a Z a1 a2 w3 ke es h0 n0 _ T3.heap _
    exact ⟨rfl, N3, K3, D3⟩
def Qrm28b (Z : State) (a1 : Addr) (a2 : Addr) (w3 : Addr) (k_w3 : ClassId) (vs_w3 : List Value) (h0 : Heap) (n0 : Nat) (v : Option Value) (h : Heap) (L : List Loc) : Prop := v = none ∧ Fr n0 L ∧ Keep h0 h [a1, w3] ∧ own_D Z h a1 w3 k_w3 ((16 : Int32) + (-1 : Int32)) (vs_w3.set 15 (.ref a2))
set_option maxRecDepth 65536 in
set_option maxHeartbeats 40000000 in
theorem rm28b (l : Launch) (Z : State) (a0 : Array Value) (hw : HW a0 Z) (ws : List Jvm.Cond) (a1 : Addr) (a2 : Addr) (w3 : Addr) (k_w3 : ClassId) (vs_w3 : List Value) (h0 : Heap) (n0 : Nat) (Z0 : n0 ≤ h0.size) (DD : own_D Z h0 a1 w3 k_w3 (16 : Int32) vs_w3) (E_a2 : Exa Z h0 a2 "java/lang/String") (F_elements_a1 : Fld Z h0 a1 "java/util/ArrayDeque" "elements" "[Ljava/lang/Object;" (.ref w3)) (F_head_a1 : Fld Z h0 a1 "java/util/ArrayDeque" "head" "I" (.int 16)) (V_w3 : Arv Z h0 w3 k_w3 (.object "java/lang/Object") (17 : Int32) vs_w3 .null) (E_a1 : Exa Z h0 a1 "java/util/ArrayDeque") (g_a1 : n0 ≤ a1) (g_w3 : n0 ≤ w3) (F_tail_a1 : Fld Z h0 a1 "java/util/ArrayDeque" "tail" "I" (.int 0)) :
    MetFree l ym35 (head1 (Jvm.Cond.code ym35 jdk_21_method_12_code 3 none :: ws) rm_23) (fun a U => a = #[(.ref a1), (.ref a2)] ∧ Z.Warmed39 U.vm ∧ U.heap = h0) (fun _ _ _ _ _ => True) (fun _ U o U' => ∃ v L, o = .returned v ∧ Qrm28b Z a1 a2 w3 k_w3 vs_w3 h0 n0 v U'.heap L ∧ FrameEnd U o U' L rm_23.cells rm_23.slots) := by
  refine MetFree.of_bodySF (plainFor_of_name pn_19) hisR ?_
  intro p e s m args below meth c s₁ Bd hml0 hP hK
  obtain ⟨rfl, hZ, hh⟩ := hP
  have hx := Bd.exec
  have hby := Bd.bytes
  have hml : c.maxLocals = 3 := hml0
  have hown : s.vm.findClass "java/util/ArrayDeque" = some m.cls := findClass_of_methodNamed Bd.named
  have X0 : Stand p l e rm_23 s m #[(.ref a1), (.ref a2)] below meth c s₁ [] 0 0 := Stand.of_body Bd
  have e0 : s₁.heap = h0 := by rw [← hh, Bd.state]; rfl
  have N0 := Fr.nil n0
  obtain ⟨cl_w3, Ar_w3, C_w3, S_w3, N_w3, H_w3, G_w3⟩ := id V_w3
  let aa1 : Array Slot := #[.val (.ref a1), .val (.ref a2), .unset]
  have pre0 : ∀ t, Steps p.tables e below (s₁.setTop (mkF m 0 aa1 [])) t → Steps p.tables e below (s₁.setTop (entryFrame m #[(.ref a1), (.ref a2)] 3)) t := fun t k => castTop (ef_14 m a1 a2) k
  obtain ⟨T4, X4, e4, st4⟩ := getF X0 hx hZ hown (host := "") (Or.inl (ww hw 127 rfl)) Via.refl e0 F_elements_a1 (g := (mkF m 13 aa1 [(.ref a1)])) rfl rfl (hb hby d28_13)
  let aa2 : Array Slot := #[.val (.ref a1), .val (.ref a2), .val (.ref w3)]
  obtain ⟨T6, X6, e6, st6⟩ := getF X4 hx hZ hown (host := "") (Or.inl (ww hw 175 rfl)) Via.refl e4 F_head_a1 (g := (mkF m 20 aa2 [(.ref a1), (.ref a1), (.ref w3)])) rfl rfl (hb hby d28_20)
  have ne := E_a1.neArv V_w3 (ww hw 113 rfl)
  have hin33 : ¬ (((16 : Int32) + (-1 : Int32)) < 0 ∨ cl_w3.slots.size ≤ (((16 : Int32) + (-1 : Int32))).toNatClampNeg) := inb_of S_w3 (by decide)
  obtain ⟨_, _, ⟨T7, L7, k7, n7⟩, -, X7, ⟨Lc7, hQ7, l7, y7, z7⟩, st7⟩ := Jvm.LawKit.callS X6 hx (y := ym31) hown (mvT hZ (ww hw 177 rfl)) (mvT hZ (ww hw 178 rfl)) (mvT hZ (ww hw 114 rfl)) (mvT hZ (ww hw 179 rfl)) (by decide) (backOf (W := 2) (rm29b l Z a0 hw [] (16 : Int32) (17 : Int32) h0 n0 Z0 (by decide)) hZ (ww hw 179 rfl) (ww hw 114 rfl) (by decide) (by decide)) (g := (mkF m 25 aa2 [(.int 17), (.int 16), (.ref a1), (.ref w3)])) rfl (by rw [hml]; rfl) (argsL := [(.int 16), (.int 17)]) (rest := [(.ref a1), (.ref w3)]) (lenOf pd_57_21 rfl) rfl (wz rfl) (hb hby d28_25) (fun _ _ => ⟨rfl, e6, (by decide : 0 + 0 ≤ _), (by decide : 0 + 0 ≤ _)⟩)
  dsimp only [Pt.U, Pt.locs, Pt.cells, Pt.slots] at X7 l7 y7 z7 st7 hQ7
  subst l7 y7 z7
  obtain ⟨rfl, N7q, e7⟩ := hQ7
  have N7 := Fr.app N0 N7q
  obtain ⟨T8, h8, X8, e8, W8, st8⟩ := putF X7 hx hZ hown (host := "") (Or.inl (ww hw 175 rfl)) Via.refl e7 F_head_a1 E_a1 (Or.inl (ww hw 176 rfl)) (ww hw 113 rfl) (ty := .int) (by decide) rfl rfl (g := (mkF m 29 aa2 [(.int ((16 : Int32) + (-1 : Int32))), (.ref a1), (.int ((16 : Int32) + (-1 : Int32))), (.ref w3)])) rfl rfl (hb hby d28_29)
  have Fw8 := F_head_a1.same W8
  have K8 : Keep h0 h8 [a1, w3] := (Keep.refl h0 _).wr W8 (Or.inl (wi 0 rfl))
  have N8 := Fr.snoc X8 N7 g_a1
  obtain ⟨T9, h9, X9, e9, W9, st9⟩ := stR X8 hx hZ e8 (Ar_w3.other W8 ne.symm) (j := ((16 : Int32) + (-1 : Int32))) hin33 rfl (Sto.ofV (Ar_w3.other W8 ne.symm) C_w3 DD.2.2.2.2.2.1 (Ins.of_exa (E_a2.wr W8) (ww hw 180 rfl))) (g := (mkF m 33 aa2 [(.ref a2), (.int ((16 : Int32) + (-1 : Int32))), (.ref w3)])) rfl rfl (hb hby d28_33)
  have N9 := Fr.snoc X9 N8 g_w3
  have K9 : Keep h0 h9 [a1, w3] := K8.wr W9 (Or.inl (wi 1 rfl))
  obtain ⟨T10, X10, e10, st10⟩ := getF X9 hx hZ hown (host := "") (Or.inl (ww hw 175 rfl)) Via.refl e9 (Fw8.other W9 (Or.inl ne)) (g := (mkF m 35 aa2 [(.ref a1)])) rfl rfl (hb hby d28_35)
  obtain ⟨T12, X12, e12, st12⟩ := getF X10 hx hZ hown (host := "") (Or.inl (ww hw 181 rfl)) Via.refl e10 ((F_tail_a1.other W8 (Or.inr (slot_ne (Or.inl (ww hw 182 rfl)) (Or.inl (ww hw 176 rfl)) (by decide) (t := .int) (t' := .int) (by decide) (by decide)))).other W9 (Or.inl ne)) (g := (mkF m 39 aa2 [(.ref a1), (.int ((16 : Int32) + (-1 : Int32)))])) rfl rfl (hb hby d28_39)
  obtain ⟨fs, hr, hrun, hended, hW, hsame⟩ := X12.leave (v := none) (fun _ => rfl)
  refine ⟨_, _, pre0 _ ?_, hrun, hended, _, _, rfl, ?_, ⟨_, rfl⟩, hW, hsame.mono (by decide) (by decide)⟩
  · show Sw s₁ m 0 aa1 [] _
    refine XS.aloadN X0.here hx rfl (hb hby d28_0) rfl rfl ?_
    show Sw s₁ m 1 aa1 [(.ref a2)] _
    refine XS.ifnonnullYes X0.here hx rfl (pc0 := 1) (pc' := 12) rfl (hb hby d28_1) rfl (by decide) (by decide) ?_
    show Sw s₁ m 12 aa1 [] _
    refine XS.aloadN X0.here hx rfl (hb hby d28_12) rfl rfl ?_
    show Sw s₁ m 13 aa1 [(.ref a1)] _
    refine st4 _ ?_
    show Sw T4 m 16 aa1 [(.ref w3)] _
    refine XS.astoreN X4.here hx rfl (hb hby d28_16) rfl rfl (l' := aa2) rfl ?_
    show Sw T4 m 17 aa2 [] _
    refine XS.aloadN X4.here hx rfl (hb hby d28_17) rfl rfl ?_
    show Sw T4 m 18 aa2 [(.ref w3)] _
    refine XS.aloadN X4.here hx rfl (hb hby d28_18) rfl rfl ?_
    show Sw T4 m 19 aa2 [(.ref a1), (.ref w3)] _
    refine XS.aloadN X4.here hx rfl (hb hby d28_19) rfl rfl ?_
    show Sw T4 m 20 aa2 [(.ref a1), (.ref a1), (.ref w3)] _
    refine st6 _ ?_
    show Sw T6 m 23 aa2 [(.int 16), (.ref a1), (.ref w3)] _
    refine XS.aloadN X6.here hx rfl (hb hby d28_23) rfl rfl ?_
    show Sw T6 m 24 aa2 [(.ref w3), (.int 16), (.ref a1), (.ref w3)] _
    refine X6.arraylength hx (by rw [e6]; exact Ar_w3.1) (State.isArrayOf_alike hZ.alike Ar_w3.2.1) (g := (mkF m 24 aa2 [(.ref w3), (.int 16), (.ref a1), (.ref w3)])) rfl rfl (hb hby d28_24) _ ?_
    rw [len_of S_w3 N_w3]
    show Sw T6 m 25 aa2 [(.int 17), (.int 16), (.ref a1), (.ref w3)] _
    refine st7 _ ?_
    show Sw T7 m 28 aa2 [(.int ((16 : Int32) + (-1 : Int32))), (.ref a1), (.ref w3)] _
    refine XS.dupX1 X7.here hx rfl (hb hby d28_28) rfl rfl rfl ?_
    show Sw T7 m 29 aa2 [(.int ((16 : Int32) + (-1 : Int32))), (.ref a1), (.int ((16 : Int32) + (-1 : Int32))), (.ref w3)] _
    refine st8 _ ?_
    show Sw T8 m 32 aa2 [(.int ((16 : Int32) + (-1 : Int32))), (.ref w3)] _
    refine XS.aloadN X8.here hx rfl (hb hby d28_32) rfl rfl ?_
    show Sw T8 m 33 aa2 [(.ref a2), (.int ((16 : Int32) + (-1 : Int32))), (.ref w3)] _
    refine st9 _ ?_
    show Sw T9 m 34 aa2 [] _
    refine XS.aloadN X9.here hx rfl (hb hby d28_34) rfl rfl ?_
    show Sw T9 m 35 aa2 [(.ref a1)] _
    refine st10 _ ?_
    show Sw T10 m 38 aa2 [(.int ((16 : Int32) + (-1 : Int32)))] _
    refine XS.aloadN X10.here hx rfl (hb hby d28_38) rfl rfl ?_
    show Sw T10 m 39 aa2 [(.ref a1), (.int ((16 : Int32) + (-1 : Int32)))] _
    refine st12 _ ?_
    show Sw T12 m 42 aa2 [(.int 0), (.int ((16 : Int32) + (-1 : Int32)))] _
    refine XS.icmpYes X12.here hx rfl (pc0 := 42) (pc' := 50) rfl (hb hby d28_42) rfl (feq (by decide : ¬ (((16 : Int32) + (-1 : Int32)) = (0 : Int32)))).2 (by decide) (by decide) ?_
    show Sw T12 m 50 aa2 [] _
    exact X12.returnOut hx Bd.returns (hb hby d28_50) hr
  · show Qrm28b Z a1 a2 w3 k_w3 vs_w3 h0 n0 _ T12.heap _
    rw [e12]
    have V9 := Arv.set (Ar_w3.other W8 ne.symm) C_w3 S_w3 N_w3 H_w3 G_w3 rfl W9 15 rfl (by rw [DD.2.2.2.2.2.2]; decide)
    exact ⟨rfl, N9, K9, (E_a1.wr W8).wr W9, (DD.2.1.other W8 (Or.inr (slot_ne (Or.inl (ww hw 128 rfl)) (Or.inl (ww hw 176 rfl)) (by decide) (t := (.array (.object "java/lang/Object"))) (t' := .int) (by decide) (by decide)))).other W9 (Or.inl ne), Fw8.other W9 (Or.inl ne), (DD.2.2.2.1.other W8 (Or.inr (slot_ne (Or.inl (ww hw 182 rfl)) (Or.inl (ww hw 176 rfl)) (by decide) (t := .int) (t' := .int) (by decide) (by decide)))).other W9 (Or.inl ne), V9, DD.2.2.2.2.2.1, by rw [List.length_set]; exact DD.2.2.2.2.2.2⟩
def Qrm27b (Z : State) (a1 : Addr) (a2 : Addr) (w3 : Addr) (ke : ClassId) (es : List Value) (h0 : Heap) (n0 : Nat) (v : Option Value) (h : Heap) (L : List Loc) : Prop := v = none ∧ Fr n0 L ∧ Keep h0 h [a1, w3] ∧ own_D Z h a1 w3 ke ((16 : Int32) + (-1 : Int32)) (es.set 15 (.ref a2))
set_option maxRecDepth 65536 in
set_option maxHeartbeats 40000000 in
theorem rm27b (l : Launch) (Z : State) (a0 : Array Value) (hw : HW a0 Z) (ws : List Jvm.Cond) (a1 : Addr) (a2 : Addr) (w3 : Addr) (ke : ClassId) (es : List Value) (h0 : Heap) (n0 : Nat) (Z0 : n0 ≤ h0.size) (DD : own_D Z h0 a1 w3 ke (16 : Int32) es) (E_a2 : Exa Z h0 a2 "java/lang/String") (g_a1 : n0 ≤ a1) (g_w3 : n0 ≤ w3) (E_a1 : Exa Z h0 a1 "java/util/ArrayDeque") :
    MetFree l ym36 (head1 (Jvm.Cond.code ym36 jdk_21_method_34_code 2 none :: ws) rm_09) (fun a U => a = #[(.ref a1), (.ref a2)] ∧ Z.Warmed39 U.vm ∧ U.heap = h0) (fun _ _ _ _ _ => True) (fun _ U o U' => ∃ v L, o = .returned v ∧ Qrm27b Z a1 a2 w3 ke es h0 n0 v U'.heap L ∧ FrameEnd U o U' L rm_09.cells rm_09.slots) := by
  refine MetFree.of_bodySF (plainFor_of_name pn_19) hisR ?_
  intro p e s m args below meth c s₁ Bd hml0 hP hK
  obtain ⟨rfl, hZ, hh⟩ := hP
  have hx := Bd.exec
  have hby := Bd.bytes
  have hml : c.maxLocals = 2 := hml0
  have hown : s.vm.findClass "java/util/ArrayDeque" = some m.cls := findClass_of_methodNamed Bd.named
  have X0 : Stand p l e rm_09 s m #[(.ref a1), (.ref a2)] below meth c s₁ [] 0 0 := Stand.of_body Bd
  have e0 : s₁.heap = h0 := by rw [← hh, Bd.state]; rfl
  have N0 := Fr.nil n0
  let aa1 : Array Slot := #[.val (.ref a1), .val (.ref a2)]
  have pre0 : ∀ t, Steps p.tables e below (s₁.setTop (mkF m 0 aa1 [])) t → Steps p.tables e below (s₁.setTop (entryFrame m #[(.ref a1), (.ref a2)] 2)) t := fun t k => castTop (ef_17 m a1 a2) k
  obtain ⟨cq3, kq3, q3a, q3b, q3c⟩ := isOf hZ e0 E_a1
  obtain ⟨_, _, ⟨T3, L3, k3, n3⟩, -, X3, ⟨Lc3, hQ3, l3, y3, z3⟩, st3⟩ := X0.virtualBack hx (y := ym35) (z := ym35) hown (mvT hZ (ww hw 170 rfl)) (mvT hZ (ww hw 171 rfl)) (notFace_of_selects (args := #[]) (mvT hZ (ww hw 173 rfl))) (mvT hZ (ww hw 173 rfl)) (mvT hZ (ww hw 172 rfl)) (by decide) (backOf (W := 0) (rm28b l Z a0 hw [] a1 a2 w3 ke es h0 n0 Z0 DD E_a2 DD.2.1 DD.2.2.1 DD.2.2.2.2.1 DD.1 g_a1 g_w3 DD.2.2.2.1) hZ (ww hw 174 rfl) (ww hw 114 rfl) (by decide) (by decide)) q3a q3c (g := (mkF m 2 aa1 [(.ref a2), (.ref a1)])) rfl (by rw [hml]; rfl) (Steps.refl _) (argsL := [(.ref a2)]) (rest := []) (lenOf pd_27_20 rfl) rfl (wz rfl) (hb hby d27_2) (fun _ _ => ⟨rfl, e0, (by decide : 0 + 0 ≤ _), (by decide : 0 + 0 ≤ _)⟩)
  dsimp only [Pt.U, Pt.locs, Pt.cells, Pt.slots] at X3 l3 y3 z3 st3 hQ3
  subst l3 y3 z3
  obtain ⟨rfl, N3q, K3, D3⟩ := hQ3
  have N3 := Fr.app N0 N3q
  obtain ⟨fs, hr, hrun, hended, hW, hsame⟩ := X3.leave (v := none) (fun _ => rfl)
  refine ⟨_, _, pre0 _ ?_, hrun, hended, _, _, rfl, ?_, ⟨_, rfl⟩, hW, hsame.mono (by decide) (by decide)⟩
  · show Sw s₁ m 0 aa1 [] _
    refine XS.aloadN X0.here hx rfl (hb hby d27_0) rfl rfl ?_
    show Sw s₁ m 1 aa1 [(.ref a1)] _
    refine XS.aloadN X0.here hx rfl (hb hby d27_1) rfl rfl ?_
    show Sw s₁ m 2 aa1 [(.ref a2), (.ref a1)] _
    refine st3.trans ?_
    show Sw T3 m 5 aa1 [] _
    exact X3.returnOut hx Bd.returns (hb hby d27_5) hr
  · show Qrm27b Z a1 a2 w3 ke es h0 n0 _ T3.heap _
    exact ⟨rfl, N3, K3, D3⟩
theorem d33_0 : decode cd37 0 = .ok (.aload_n 0, 1) := by decide +kernel
theorem d33_1 : decode cd37 1 = .ok (.getfield 3, 3) := by decide +kernel
theorem d33_4 : decode cd37 4 = .ok (.dup, 1) := by decide +kernel
theorem d33_5 : decode cd37 5 = .ok (.astore_n 1, 1) := by decide +kernel
theorem d33_6 : decode cd37 6 = .ok (.aload_n 0, 1) := by decide +kernel
theorem d33_7 : decode cd37 7 = .ok (.getfield 24, 3) := by decide +kernel
theorem d33_10 : decode cd37 10 = .ok (.dup, 1) := by decide +kernel
theorem d33_11 : decode cd37 11 = .ok (.istore_n 2, 1) := by decide +kernel
theorem d33_12 : decode cd37 12 = .ok (.invokestatic 103, 3) := by decide +kernel
theorem d33_15 : decode cd37 15 = .ok (.astore_n 3, 1) := by decide +kernel
theorem d33_16 : decode cd37 16 = .ok (.aload_n 3, 1) := by decide +kernel
theorem d33_17 : decode cd37 17 = .ok (.ifnull 17, 3) := by decide +kernel
theorem d33_20 : decode cd37 20 = .ok (.aload_n 1, 1) := by decide +kernel
theorem d33_21 : decode cd37 21 = .ok (.iload_n 2, 1) := by decide +kernel
theorem d33_22 : decode cd37 22 = .ok (.aconst_null, 1) := by decide +kernel
theorem d33_23 : decode cd37 23 = .ok (.aastore, 1) := by decide +kernel
theorem d33_24 : decode cd37 24 = .ok (.aload_n 0, 1) := by decide +kernel
theorem d33_25 : decode cd37 25 = .ok (.iload_n 2, 1) := by decide +kernel
theorem d33_26 : decode cd37 26 = .ok (.aload_n 1, 1) := by decide +kernel
theorem d33_27 : decode cd37 27 = .ok (.arraylength, 1) := by decide +kernel
theorem d33_28 : decode cd37 28 = .ok (.invokestatic 74, 3) := by decide +kernel
theorem d33_31 : decode cd37 31 = .ok (.putfield 24, 3) := by decide +kernel
theorem d33_34 : decode cd37 34 = .ok (.aload_n 3, 1) := by decide +kernel
theorem d33_35 : decode cd37 35 = .ok (.areturn, 1) := by decide +kernel
theorem pd_33_24 : parseMethodDescriptor "([Ljava/lang/Object;I)Ljava/lang/Object;" = some ⟨[(.array (.object "java/lang/Object")), .int], some (.object "java/lang/Object")⟩ := by decide +kernel
theorem ef_33 (m : MethodId) (x0 : Addr) : entryFrame m #[(.ref x0)] 4 = mkF m 0 #[.val (.ref x0), .unset, .unset, .unset] [] := by first | (simp [entryFrame, mkF, argsToLocals, Value.category]; done) | rfl
def Qrm33a (Z : State) (a1 : Addr) (w2 : Addr) (k_w2 : ClassId) (vs_w2 : List Value) (y : Addr) (h0 : Heap) (n0 : Nat) (v : Option Value) (h : Heap) (L : List Loc) : Prop := v = some (.ref y) ∧ Fr n0 L ∧ Keep h0 h [w2, a1] ∧ own_D Z h a1 w2 k_w2 ((15 : Int32) + (1 : Int32)) (vs_w2.set 15 .null)
set_option maxRecDepth 65536 in
set_option maxHeartbeats 40000000 in
theorem rm33a (l : Launch) (Z : State) (a0 : Array Value) (hw : HW a0 Z) (ws : List Jvm.Cond) (a1 : Addr) (w2 : Addr) (k_w2 : ClassId) (vs_w2 : List Value) (y : Addr) (h0 : Heap) (n0 : Nat) (Z0 : n0 ≤ h0.size) (DD : own_D Z h0 a1 w2 k_w2 (15 : Int32) vs_w2) (hy : vs_w2.getD 15 .null = .ref y) (F_elements_a1 : Fld Z h0 a1 "java/util/ArrayDeque" "elements" "[Ljava/lang/Object;" (.ref w2)) (F_head_a1 : Fld Z h0 a1 "java/util/ArrayDeque" "head" "I" (.int 15)) (V_w2 : Arv Z h0 w2 k_w2 (.object "java/lang/Object") (17 : Int32) vs_w2 .null) (g_w2 : n0 ≤ w2) (E_a1 : Exa Z h0 a1 "java/util/ArrayDeque") (g_a1 : n0 ≤ a1) :
    MetFree l ym37 (head1 (Jvm.Cond.code ym37 jdk_21_method_20_code 4 (some (.object "java/lang/Object")) :: ws) rm_07) (fun a U => a = #[(.ref a1)] ∧ Z.Warmed39 U.vm ∧ U.heap = h0) (fun _ _ _ _ _ => True) (fun _ U o U' => ∃ v L, o = .returned v ∧ Qrm33a Z a1 w2 k_w2 vs_w2 y h0 n0 v U'.heap L ∧ FrameEnd U o U' L rm_07.cells rm_07.slots) := by
  refine MetFree.of_bodySF (plainFor_of_name pn_19) hisR ?_
  intro p e s m args below meth c s₁ Bd hml0 hP hK
  obtain ⟨rfl, hZ, hh⟩ := hP
  have hx := Bd.exec
  have hby := Bd.bytes
  have hml : c.maxLocals = 4 := hml0
  have hown : s.vm.findClass "java/util/ArrayDeque" = some m.cls := findClass_of_methodNamed Bd.named
  have X0 : Stand p l e rm_07 s m #[(.ref a1)] below meth c s₁ [] 0 0 := Stand.of_body Bd
  have e0 : s₁.heap = h0 := by rw [← hh, Bd.state]; rfl
  have N0 := Fr.nil n0
  obtain ⟨cl_w2, Ar_w2, C_w2, S_w2, N_w2, H_w2, G_w2⟩ := id V_w2
  let aa1 : Array Slot := #[.val (.ref a1), .unset, .unset, .unset]
  have pre0 : ∀ t, Steps p.tables e below (s₁.setTop (mkF m 0 aa1 [])) t → Steps p.tables e below (s₁.setTop (entryFrame m #[(.ref a1)] 4)) t := fun t k => castTop (ef_33 m a1) k
  obtain ⟨T3, X3, e3, st3⟩ := getF X0 hx hZ hown (host := "") (Or.inl (ww hw 127 rfl)) Via.refl e0 F_elements_a1 (g := (mkF m 1 aa1 [(.ref a1)])) rfl rfl (hb hby d33_1)
  let aa2 : Array Slot := #[.val (.ref a1), .val (.ref w2), .unset, .unset]
  obtain ⟨T5, X5, e5, st5⟩ := getF X3 hx hZ hown (host := "") (Or.inl (ww hw 175 rfl)) Via.refl e3 F_head_a1 (g := (mkF m 7 aa2 [(.ref a1), (.ref w2)])) rfl rfl (hb hby d33_7)
  have ne := E_a1.neArv V_w2 (ww hw 113 rfl)
  have hin23 : ¬ ((15 : Int32) < 0 ∨ cl_w2.slots.size ≤ ((15 : Int32)).toNatClampNeg) := inb_of S_w2 (by decide)
  let aa3 : Array Slot := #[.val (.ref a1), .val (.ref w2), .val (.int 15), .unset]
  obtain ⟨_, _, ⟨T6, L6, k6, n6⟩, -, X6, ⟨Lc6, hQ6, l6, y6, z6⟩, st6⟩ := Jvm.LawKit.callS X5 hx (y := ym34) hown (mvT hZ (ww hw 206 rfl)) (mvT hZ (ww hw 207 rfl)) (mvT hZ (ww hw 114 rfl)) (mvT hZ (ww hw 208 rfl)) (by decide) (backOf (W := 0) (rm34 l Z a0 hw [] w2 (15 : Int32) y cl_w2 h0 n0 Z0 Ar_w2 hin23 (by rw [← hy]; exact H_w2 _ (by rw [S_w2]; decide))) hZ (ww hw 208 rfl) (ww hw 114 rfl) (by decide) (by decide)) (g := (mkF m 12 aa3 [(.int 15), (.ref w2)])) rfl (by rw [hml]; rfl) (argsL := [(.ref w2), (.int 15)]) (rest := []) (lenOf pd_33_24 rfl) rfl (wz rfl) (hb hby d33_12) (fun _ _ => ⟨rfl, e5, (by decide : 0 + 0 ≤ _), (by decide : 0 + 0 ≤ _)⟩)
  dsimp only [Pt.U, Pt.locs, Pt.cells, Pt.slots] at X6 l6 y6 z6 st6 hQ6
  subst l6 y6 z6
  obtain ⟨rfl, N6q, e6⟩ := hQ6
  have N6 := Fr.app N0 N6q
  let aa4 : Array Slot := #[.val (.ref a1), .val (.ref w2), .val (.int 15), .val (.ref y)]
  obtain ⟨T7, h7, X7, e7, W7, st7⟩ := stR X6 hx hZ e6 Ar_w2 (j := (15 : Int32)) hin23 rfl (Or.inl rfl) (g := (mkF m 23 aa4 [.null, (.int 15), (.ref w2)])) rfl rfl (hb hby d33_23)
  have N7 := Fr.snoc X7 N6 g_w2
  have K7 : Keep h0 h7 [w2, a1] := (Keep.refl h0 _).wr W7 (Or.inl (wi 0 rfl))
  obtain ⟨_, _, ⟨T8, L8, k8, n8⟩, -, X8, ⟨Lc8, hQ8, l8, y8, z8⟩, st8⟩ := Jvm.LawKit.callS X7 hx (y := ym32) hown (mvT hZ (ww hw 209 rfl)) (mvT hZ (ww hw 210 rfl)) (mvT hZ (ww hw 114 rfl)) (mvT hZ (ww hw 211 rfl)) (by decide) (backOf (W := 1) (rm35a l Z a0 hw [] (15 : Int32) (17 : Int32) h7 n0 (Nat.le_trans Z0 K7.1) (by decide)) hZ (ww hw 211 rfl) (ww hw 114 rfl) (by decide) (by decide)) (g := (mkF m 28 aa4 [(.int 17), (.int 15), (.ref a1)])) rfl (by rw [hml]; rfl) (argsL := [(.int 15), (.int 17)]) (rest := [(.ref a1)]) (lenOf pd_57_21 rfl) rfl (wz rfl) (hb hby d33_28) (fun _ _ => ⟨rfl, e7, (by decide : 0 + 0 ≤ _), (by decide : 0 + 0 ≤ _)⟩)
  dsimp only [Pt.U, Pt.locs, Pt.cells, Pt.slots] at X8 l8 y8 z8 st8 hQ8
  subst l8 y8 z8
  obtain ⟨rfl, N8q, e8⟩ := hQ8
  have N8 := Fr.app N7 N8q
  obtain ⟨T9, h9, X9, e9, W9, st9⟩ := putF X8 hx hZ hown (host := "") (Or.inl (ww hw 175 rfl)) Via.refl e8 ((F_head_a1.other W7 (Or.inl ne))) ((E_a1.wr W7)) (Or.inl (ww hw 176 rfl)) (ww hw 113 rfl) (ty := .int) (by decide) rfl rfl (g := (mkF m 31 aa4 [(.int ((15 : Int32) + (1 : Int32))), (.ref a1)])) rfl rfl (hb hby d33_31)
  have Fw9 := ((F_head_a1.other W7 (Or.inl ne))).same W9
  have K9 : Keep h0 h9 [w2, a1] := K7.wr W9 (Or.inl (wi 1 rfl))
  have N9 := Fr.snoc X9 N8 g_a1
  obtain ⟨fs, hr, hrun, hended, hW, hsame⟩ := X9.leave (v := some (.ref y)) (fun h => by rw [Bd.returns] at h; cases h)
  refine ⟨_, _, pre0 _ ?_, hrun, hended, _, _, rfl, ?_, ⟨_, rfl⟩, hW, hsame.mono (by decide) (by decide)⟩
  · show Sw s₁ m 0 aa1 [] _
    refine XS.aloadN X0.here hx rfl (hb hby d33_0) rfl rfl ?_
    show Sw s₁ m 1 aa1 [(.ref a1)] _
    refine st3 _ ?_
    show Sw T3 m 4 aa1 [(.ref w2)] _
    refine XS.dup X3.here hx rfl (hb hby d33_4) rfl rfl ?_
    show Sw T3 m 5 aa1 [(.ref w2), (.ref w2)] _
    refine XS.astoreN X3.here hx rfl (hb hby d33_5) rfl rfl (l' := aa2) rfl ?_
    show Sw T3 m 6 aa2 [(.ref w2)] _
    refine XS.aloadN X3.here hx rfl (hb hby d33_6) rfl rfl ?_
    show Sw T3 m 7 aa2 [(.ref a1), (.ref w2)] _
    refine st5 _ ?_
    show Sw T5 m 10 aa2 [(.int 15), (.ref w2)] _
    refine XS.dup X5.here hx rfl (hb hby d33_10) rfl rfl ?_
    show Sw T5 m 11 aa2 [(.int 15), (.int 15), (.ref w2)] _
    refine XS.istoreN X5.here hx rfl (hb hby d33_11) rfl (l' := aa3) rfl ?_
    show Sw T5 m 12 aa3 [(.int 15), (.ref w2)] _
    refine st6 _ ?_
    show Sw T6 m 15 aa3 [(.ref y)] _
    refine XS.astoreN X6.here hx rfl (hb hby d33_15) rfl rfl (l' := aa4) rfl ?_
    show Sw T6 m 16 aa4 [] _
    refine XS.aloadN X6.here hx rfl (hb hby d33_16) rfl rfl ?_
    show Sw T6 m 17 aa4 [(.ref y)] _
    refine XS.ifnullNo X6.here hx rfl (hb hby d33_17) rfl ?_
    show Sw T6 m 20 aa4 [] _
    refine XS.aloadN X6.here hx rfl (hb hby d33_20) rfl rfl ?_
    show Sw T6 m 21 aa4 [(.ref w2)] _
    refine XS.iloadN X6.here hx rfl (hb hby d33_21) rfl ?_
    show Sw T6 m 22 aa4 [(.int 15), (.ref w2)] _
    refine XS.aconstNull X6.here hx rfl (hb hby d33_22) ?_
    show Sw T6 m 23 aa4 [.null, (.int 15), (.ref w2)] _
    refine st7 _ ?_
    show Sw T7 m 24 aa4 [] _
    refine XS.aloadN X7.here hx rfl (hb hby d33_24) rfl rfl ?_
    show Sw T7 m 25 aa4 [(.ref a1)] _
    refine XS.iloadN X7.here hx rfl (hb hby d33_25) rfl ?_
    show Sw T7 m 26 aa4 [(.int 15), (.ref a1)] _
    refine XS.aloadN X7.here hx rfl (hb hby d33_26) rfl rfl ?_
    show Sw T7 m 27 aa4 [(.ref w2), (.int 15), (.ref a1)] _
    refine X7.arraylength hx (by rw [e7]; exact (Ar_w2.same W7).1) (State.isArrayOf_alike hZ.alike (Ar_w2.same W7).2.1) (g := (mkF m 27 aa4 [(.ref w2), (.int 15), (.ref a1)])) rfl rfl (hb hby d33_27) _ ?_
    rw [len_of ((sz_set _ _ _).trans S_w2) N_w2]
    show Sw T7 m 28 aa4 [(.int 17), (.int 15), (.ref a1)] _
    refine st8 _ ?_
    show Sw T8 m 31 aa4 [(.int ((15 : Int32) + (1 : Int32))), (.ref a1)] _
    refine st9 _ ?_
    show Sw T9 m 34 aa4 [] _
    refine XS.aloadN X9.here hx rfl (hb hby d33_34) rfl rfl ?_
    show Steps p.tables e below (T9.setTop (mkF m 35 aa4 [(.ref y)])) _
    jvm_step X9.here [X9.here.top, hx, (hb hby d33_35), X9.method', Bd.returns, Value.isRef, FieldType.isReference]
    first | (intro acts; rw [hr _ acts rfl rfl rfl]) | rw [hr _ _ rfl rfl rfl]
    exact Steps.refl _
  · show Qrm33a Z a1 w2 k_w2 vs_w2 y h0 n0 _ T9.heap _
    rw [e9]
    have V7 := Arv.set Ar_w2 C_w2 S_w2 N_w2 H_w2 G_w2 rfl W7 15 rfl (by rw [DD.2.2.2.2.2.2]; decide)
    exact ⟨rfl, N9, K9, (E_a1.wr W7).wr W9, (DD.2.1.other W7 (Or.inl ne)).other W9 (Or.inr (slot_ne (Or.inl (ww hw 128 rfl)) (Or.inl (ww hw 176 rfl)) (by decide) (t := (.array (.object "java/lang/Object"))) (t' := .int) (by decide) (by decide))), Fw9, (DD.2.2.2.1.other W7 (Or.inl ne)).other W9 (Or.inr (slot_ne (Or.inl (ww hw 182 rfl)) (Or.inl (ww hw 176 rfl)) (by decide) (t := .int) (t' := .int) (by decide) (by decide))), V7.other W9 ne.symm, DD.2.2.2.2.2.1, by rw [List.length_set]; exact DD.2.2.2.2.2.2⟩
theorem d32_0 : decode cd38 0 = .ok (.aload_n 0, 1) := by decide +kernel
theorem d32_1 : decode cd38 1 = .ok (.invokevirtual 93, 3) := by decide +kernel
theorem d32_4 : decode cd38 4 = .ok (.astore_n 1, 1) := by decide +kernel
theorem d32_5 : decode cd38 5 = .ok (.aload_n 1, 1) := by decide +kernel
theorem d32_6 : decode cd38 6 = .ok (.ifnonnull 11, 3) := by decide +kernel
theorem d32_17 : decode cd38 17 = .ok (.aload_n 1, 1) := by decide +kernel
theorem d32_18 : decode cd38 18 = .ok (.areturn, 1) := by decide +kernel
theorem pd_32_23 : parseMethodDescriptor "()Ljava/lang/Object;" = some ⟨[], some (.object "java/lang/Object")⟩ := by decide +kernel
theorem ef_32 (m : MethodId) (x0 : Addr) : entryFrame m #[(.ref x0)] 2 = mkF m 0 #[.val (.ref x0), .unset] [] := by first | (simp [entryFrame, mkF, argsToLocals, Value.category]; done) | rfl
def Qrm32a (Z : State) (a1 : Addr) (w2 : Addr) (ke : ClassId) (es : List Value) (y : Addr) (h0 : Heap) (n0 : Nat) (v : Option Value) (h : Heap) (L : List Loc) : Prop := v = some (.ref y) ∧ Fr n0 L ∧ Keep h0 h [w2, a1] ∧ own_D Z h a1 w2 ke ((15 : Int32) + (1 : Int32)) (es.set 15 .null)
set_option maxRecDepth 65536 in
set_option maxHeartbeats 40000000 in
theorem rm32a (l : Launch) (Z : State) (a0 : Array Value) (hw : HW a0 Z) (ws : List Jvm.Cond) (a1 : Addr) (w2 : Addr) (ke : ClassId) (es : List Value) (y : Addr) (h0 : Heap) (n0 : Nat) (Z0 : n0 ≤ h0.size) (DD : own_D Z h0 a1 w2 ke (15 : Int32) es) (hy : es.getD 15 .null = .ref y) (g_a1 : n0 ≤ a1) (g_w2 : n0 ≤ w2) (E_a1 : Exa Z h0 a1 "java/util/ArrayDeque") :
    MetFree l ym38 (head1 (Jvm.Cond.code ym38 jdk_21_method_18_code 2 (some (.object "java/lang/Object")) :: ws) rm_09) (fun a U => a = #[(.ref a1)] ∧ Z.Warmed39 U.vm ∧ U.heap = h0) (fun _ _ _ _ _ => True) (fun _ U o U' => ∃ v L, o = .returned v ∧ Qrm32a Z a1 w2 ke es y h0 n0 v U'.heap L ∧ FrameEnd U o U' L rm_09.cells rm_09.slots) := by
  refine MetFree.of_bodySF (plainFor_of_name pn_19) hisR ?_
  intro p e s m args below meth c s₁ Bd hml0 hP hK
  obtain ⟨rfl, hZ, hh⟩ := hP
  have hx := Bd.exec
  have hby := Bd.bytes
  have hml : c.maxLocals = 2 := hml0
  have hown : s.vm.findClass "java/util/ArrayDeque" = some m.cls := findClass_of_methodNamed Bd.named
  have X0 : Stand p l e rm_09 s m #[(.ref a1)] below meth c s₁ [] 0 0 := Stand.of_body Bd
  have e0 : s₁.heap = h0 := by rw [← hh, Bd.state]; rfl
  have N0 := Fr.nil n0
  let aa1 : Array Slot := #[.val (.ref a1), .unset]
  have pre0 : ∀ t, Steps p.tables e below (s₁.setTop (mkF m 0 aa1 [])) t → Steps p.tables e below (s₁.setTop (entryFrame m #[(.ref a1)] 2)) t := fun t k => castTop (ef_32 m a1) k
  obtain ⟨cq2, kq2, q2a, q2b, q2c⟩ := isOf hZ e0 E_a1
  obtain ⟨_, _, ⟨T2, L2, k2, n2⟩, -, X2, ⟨Lc2, hQ2, l2, y2, z2⟩, st2⟩ := X0.virtualBack hx (y := ym37) (z := ym37) hown (mvT hZ (ww hw 201 rfl)) (mvT hZ (ww hw 202 rfl)) (notFace_of_selects (args := #[]) (mvT hZ (ww hw 204 rfl))) (mvT hZ (ww hw 204 rfl)) (mvT hZ (ww hw 203 rfl)) (by decide) (backOf (W := 0) (rm33a l Z a0 hw [] a1 w2 ke es y h0 n0 Z0 DD hy DD.2.1 DD.2.2.1 DD.2.2.2.2.1 g_w2 DD.1 g_a1) hZ (ww hw 205 rfl) (ww hw 114 rfl) (by decide) (by decide)) q2a q2c (g := (mkF m 1 aa1 [(.ref a1)])) rfl (by rw [hml]; rfl) (Steps.refl _) (argsL := []) (rest := []) (lenOf pd_32_23 rfl) rfl (wz rfl) (hb hby d32_1) (fun _ _ => ⟨rfl, e0, (by decide : 0 + 0 ≤ _), (by decide : 0 + 0 ≤ _)⟩)
  dsimp only [Pt.U, Pt.locs, Pt.cells, Pt.slots] at X2 l2 y2 z2 st2 hQ2
  subst l2 y2 z2
  obtain ⟨rfl, N2q, K2, D2⟩ := hQ2
  have N2 := Fr.app N0 N2q
  obtain ⟨fs, hr, hrun, hended, hW, hsame⟩ := X2.leave (v := some (.ref y)) (fun h => by rw [Bd.returns] at h; cases h)
  refine ⟨_, _, pre0 _ ?_, hrun, hended, _, _, rfl, ?_, ⟨_, rfl⟩, hW, hsame.mono (by decide) (by decide)⟩
  · show Sw s₁ m 0 aa1 [] _
    refine XS.aloadN X0.here hx rfl (hb hby d32_0) rfl rfl ?_
    show Sw s₁ m 1 aa1 [(.ref a1)] _
    refine st2.trans ?_
    show Sw T2 m 4 aa1 [(.ref y)] _
    let aa2 : Array Slot := #[.val (.ref a1), .val (.ref y)]
    refine XS.astoreN X2.here hx rfl (hb hby d32_4) rfl rfl (l' := aa2) rfl ?_
    show Sw T2 m 5 aa2 [] _
    refine XS.aloadN X2.here hx rfl (hb hby d32_5) rfl rfl ?_
    show Sw T2 m 6 aa2 [(.ref y)] _
    refine XS.ifnonnullYes X2.here hx rfl (pc0 := 6) (pc' := 17) rfl (hb hby d32_6) rfl (by decide) (by decide) ?_
    show Sw T2 m 17 aa2 [] _
    refine XS.aloadN X2.here hx rfl (hb hby d32_17) rfl rfl ?_
    show Steps p.tables e below (T2.setTop (mkF m 18 aa2 [(.ref y)])) _
    jvm_step X2.here [X2.here.top, hx, (hb hby d32_18), X2.method', Bd.returns, Value.isRef, FieldType.isReference]
    first | (intro acts; rw [hr _ acts rfl rfl rfl]) | rw [hr _ _ rfl rfl rfl]
    exact Steps.refl _
  · show Qrm32a Z a1 w2 ke es y h0 n0 _ T2.heap _
    exact ⟨rfl, N2, K2, D2⟩
theorem d31_0 : decode cd39 0 = .ok (.aload_n 0, 1) := by decide +kernel
theorem d31_1 : decode cd39 1 = .ok (.invokevirtual 118, 3) := by decide +kernel
theorem d31_4 : decode cd39 4 = .ok (.areturn, 1) := by decide +kernel
def Qrm31a (Z : State) (a1 : Addr) (w2 : Addr) (ke : ClassId) (es : List Value) (y : Addr) (h0 : Heap) (n0 : Nat) (v : Option Value) (h : Heap) (L : List Loc) : Prop := v = some (.ref y) ∧ Fr n0 L ∧ Keep h0 h [w2, a1] ∧ own_D Z h a1 w2 ke ((15 : Int32) + (1 : Int32)) (es.set 15 .null)
set_option maxRecDepth 65536 in
set_option maxHeartbeats 40000000 in
theorem rm31a (l : Launch) (Z : State) (a0 : Array Value) (hw : HW a0 Z) (ws : List Jvm.Cond) (a1 : Addr) (w2 : Addr) (ke : ClassId) (es : List Value) (y : Addr) (h0 : Heap) (n0 : Nat) (Z0 : n0 ≤ h0.size) (DD : own_D Z h0 a1 w2 ke (15 : Int32) es) (hy : es.getD 15 .null = .ref y) (g_a1 : n0 ≤ a1) (g_w2 : n0 ≤ w2) (E_a1 : Exa Z h0 a1 "java/util/ArrayDeque") :
    MetFree l ym39 (head1 (Jvm.Cond.code ym39 jdk_21_method_35_code 1 (some (.object "java/lang/Object")) :: ws) rm_24) (fun a U => a = #[(.ref a1)] ∧ Z.Warmed39 U.vm ∧ U.heap = h0) (fun _ _ _ _ _ => True) (fun _ U o U' => ∃ v L, o = .returned v ∧ Qrm31a Z a1 w2 ke es y h0 n0 v U'.heap L ∧ FrameEnd U o U' L rm_24.cells rm_24.slots) := by
  refine MetFree.of_bodySF (plainFor_of_name pn_19) hisR ?_
  intro p e s m args below meth c s₁ Bd hml0 hP hK
  obtain ⟨rfl, hZ, hh⟩ := hP
  have hx := Bd.exec
  have hby := Bd.bytes
  have hml : c.maxLocals = 1 := hml0
  have hown : s.vm.findClass "java/util/ArrayDeque" = some m.cls := findClass_of_methodNamed Bd.named
  have X0 : Stand p l e rm_24 s m #[(.ref a1)] below meth c s₁ [] 0 0 := Stand.of_body Bd
  have e0 : s₁.heap = h0 := by rw [← hh, Bd.state]; rfl
  have N0 := Fr.nil n0
  let aa1 : Array Slot := #[.val (.ref a1)]
  have pre0 : ∀ t, Steps p.tables e below (s₁.setTop (mkF m 0 aa1 [])) t → Steps p.tables e below (s₁.setTop (entryFrame m #[(.ref a1)] 1)) t := fun t k => castTop (ef_11 m a1) k
  obtain ⟨cq2, kq2, q2a, q2b, q2c⟩ := isOf hZ e0 E_a1
  obtain ⟨_, _, ⟨T2, L2, k2, n2⟩, -, X2, ⟨Lc2, hQ2, l2, y2, z2⟩, st2⟩ := X0.virtualBack hx (y := ym38) (z := ym38) hown (mvT hZ (ww hw 196 rfl)) (mvT hZ (ww hw 197 rfl)) (notFace_of_selects (args := #[]) (mvT hZ (ww hw 199 rfl))) (mvT hZ (ww hw 199 rfl)) (mvT hZ (ww hw 198 rfl)) (by decide) (backOf (W := 0) (rm32a l Z a0 hw [] a1 w2 ke es y h0 n0 Z0 DD hy g_a1 g_w2 DD.1) hZ (ww hw 200 rfl) (ww hw 114 rfl) (by decide) (by decide)) q2a q2c (g := (mkF m 1 aa1 [(.ref a1)])) rfl (by rw [hml]; rfl) (Steps.refl _) (argsL := []) (rest := []) (lenOf pd_32_23 rfl) rfl (wz rfl) (hb hby d31_1) (fun _ _ => ⟨rfl, e0, (by decide : 0 + 0 ≤ _), (by decide : 0 + 0 ≤ _)⟩)
  dsimp only [Pt.U, Pt.locs, Pt.cells, Pt.slots] at X2 l2 y2 z2 st2 hQ2
  subst l2 y2 z2
  obtain ⟨rfl, N2q, K2, D2⟩ := hQ2
  have N2 := Fr.app N0 N2q
  obtain ⟨fs, hr, hrun, hended, hW, hsame⟩ := X2.leave (v := some (.ref y)) (fun h => by rw [Bd.returns] at h; cases h)
  refine ⟨_, _, pre0 _ ?_, hrun, hended, _, _, rfl, ?_, ⟨_, rfl⟩, hW, hsame.mono (by decide) (by decide)⟩
  · show Sw s₁ m 0 aa1 [] _
    refine XS.aloadN X0.here hx rfl (hb hby d31_0) rfl rfl ?_
    show Sw s₁ m 1 aa1 [(.ref a1)] _
    refine st2.trans ?_
    show Steps p.tables e below (T2.setTop (mkF m 4 aa1 [(.ref y)])) _
    jvm_step X2.here [X2.here.top, hx, (hb hby d31_4), X2.method', Bd.returns, Value.isRef, FieldType.isReference]
    first | (intro acts; rw [hr _ acts rfl rfl rfl]) | rw [hr _ _ rfl rfl rfl]
    exact Steps.refl _
  · show Qrm31a Z a1 w2 ke es y h0 n0 _ T2.heap _
    exact ⟨rfl, N2, K2, D2⟩
def Qrm33b (Z : State) (a1 : Addr) (w2 : Addr) (k_w2 : ClassId) (vs_w2 : List Value) (y : Addr) (h0 : Heap) (n0 : Nat) (v : Option Value) (h : Heap) (L : List Loc) : Prop := v = some (.ref y) ∧ Fr n0 L ∧ Keep h0 h [w2, a1] ∧ own_D Z h a1 w2 k_w2 (0 : Int32) (vs_w2.set 16 .null)
set_option maxRecDepth 65536 in
set_option maxHeartbeats 40000000 in
theorem rm33b (l : Launch) (Z : State) (a0 : Array Value) (hw : HW a0 Z) (ws : List Jvm.Cond) (a1 : Addr) (w2 : Addr) (k_w2 : ClassId) (vs_w2 : List Value) (y : Addr) (h0 : Heap) (n0 : Nat) (Z0 : n0 ≤ h0.size) (DD : own_D Z h0 a1 w2 k_w2 (16 : Int32) vs_w2) (hy : vs_w2.getD 16 .null = .ref y) (F_elements_a1 : Fld Z h0 a1 "java/util/ArrayDeque" "elements" "[Ljava/lang/Object;" (.ref w2)) (F_head_a1 : Fld Z h0 a1 "java/util/ArrayDeque" "head" "I" (.int 16)) (V_w2 : Arv Z h0 w2 k_w2 (.object "java/lang/Object") (17 : Int32) vs_w2 .null) (g_w2 : n0 ≤ w2) (E_a1 : Exa Z h0 a1 "java/util/ArrayDeque") (g_a1 : n0 ≤ a1) :
    MetFree l ym37 (head1 (Jvm.Cond.code ym37 jdk_21_method_20_code 4 (some (.object "java/lang/Object")) :: ws) rm_07) (fun a U => a = #[(.ref a1)] ∧ Z.Warmed39 U.vm ∧ U.heap = h0) (fun _ _ _ _ _ => True) (fun _ U o U' => ∃ v L, o = .returned v ∧ Qrm33b Z a1 w2 k_w2 vs_w2 y h0 n0 v U'.heap L ∧ FrameEnd U o U' L rm_07.cells rm_07.slots) := by
  refine MetFree.of_bodySF (plainFor_of_name pn_19) hisR ?_
  intro p e s m args below meth c s₁ Bd hml0 hP hK
  obtain ⟨rfl, hZ, hh⟩ := hP
  have hx := Bd.exec
  have hby := Bd.bytes
  have hml : c.maxLocals = 4 := hml0
  have hown : s.vm.findClass "java/util/ArrayDeque" = some m.cls := findClass_of_methodNamed Bd.named
  have X0 : Stand p l e rm_07 s m #[(.ref a1)] below meth c s₁ [] 0 0 := Stand.of_body Bd
  have e0 : s₁.heap = h0 := by rw [← hh, Bd.state]; rfl
  have N0 := Fr.nil n0
  obtain ⟨cl_w2, Ar_w2, C_w2, S_w2, N_w2, H_w2, G_w2⟩ := id V_w2
  let aa1 : Array Slot := #[.val (.ref a1), .unset, .unset, .unset]
  have pre0 : ∀ t, Steps p.tables e below (s₁.setTop (mkF m 0 aa1 [])) t → Steps p.tables e below (s₁.setTop (entryFrame m #[(.ref a1)] 4)) t := fun t k => castTop (ef_33 m a1) k
  obtain ⟨T3, X3, e3, st3⟩ := getF X0 hx hZ hown (host := "") (Or.inl (ww hw 127 rfl)) Via.refl e0 F_elements_a1 (g := (mkF m 1 aa1 [(.ref a1)])) rfl rfl (hb hby d33_1)
  let aa2 : Array Slot := #[.val (.ref a1), .val (.ref w2), .unset, .unset]
  obtain ⟨T5, X5, e5, st5⟩ := getF X3 hx hZ hown (host := "") (Or.inl (ww hw 175 rfl)) Via.refl e3 F_head_a1 (g := (mkF m 7 aa2 [(.ref a1), (.ref w2)])) rfl rfl (hb hby d33_7)
  have ne := E_a1.neArv V_w2 (ww hw 113 rfl)
  have hin23 : ¬ ((16 : Int32) < 0 ∨ cl_w2.slots.size ≤ ((16 : Int32)).toNatClampNeg) := inb_of S_w2 (by decide)
  let aa3 : Array Slot := #[.val (.ref a1), .val (.ref w2), .val (.int 16), .unset]
  obtain ⟨_, _, ⟨T6, L6, k6, n6⟩, -, X6, ⟨Lc6, hQ6, l6, y6, z6⟩, st6⟩ := Jvm.LawKit.callS X5 hx (y := ym34) hown (mvT hZ (ww hw 206 rfl)) (mvT hZ (ww hw 207 rfl)) (mvT hZ (ww hw 114 rfl)) (mvT hZ (ww hw 208 rfl)) (by decide) (backOf (W := 0) (rm34 l Z a0 hw [] w2 (16 : Int32) y cl_w2 h0 n0 Z0 Ar_w2 hin23 (by rw [← hy]; exact H_w2 _ (by rw [S_w2]; decide))) hZ (ww hw 208 rfl) (ww hw 114 rfl) (by decide) (by decide)) (g := (mkF m 12 aa3 [(.int 16), (.ref w2)])) rfl (by rw [hml]; rfl) (argsL := [(.ref w2), (.int 16)]) (rest := []) (lenOf pd_33_24 rfl) rfl (wz rfl) (hb hby d33_12) (fun _ _ => ⟨rfl, e5, (by decide : 0 + 0 ≤ _), (by decide : 0 + 0 ≤ _)⟩)
  dsimp only [Pt.U, Pt.locs, Pt.cells, Pt.slots] at X6 l6 y6 z6 st6 hQ6
  subst l6 y6 z6
  obtain ⟨rfl, N6q, e6⟩ := hQ6
  have N6 := Fr.app N0 N6q
  let aa4 : Array Slot := #[.val (.ref a1), .val (.ref w2), .val (.int 16), .val (.ref y)]
  obtain ⟨T7, h7, X7, e7, W7, st7⟩ := stR X6 hx hZ e6 Ar_w2 (j := (16 : Int32)) hin23 rfl (Or.inl rfl) (g := (mkF m 23 aa4 [.null, (.int 16), (.ref w2)])) rfl rfl (hb hby d33_23)
  have N7 := Fr.snoc X7 N6 g_w2
  have K7 : Keep h0 h7 [w2, a1] := (Keep.refl h0 _).wr W7 (Or.inl (wi 0 rfl))
  obtain ⟨_, _, ⟨T8, L8, k8, n8⟩, -, X8, ⟨Lc8, hQ8, l8, y8, z8⟩, st8⟩ := Jvm.LawKit.callS X7 hx (y := ym32) hown (mvT hZ (ww hw 209 rfl)) (mvT hZ (ww hw 210 rfl)) (mvT hZ (ww hw 114 rfl)) (mvT hZ (ww hw 211 rfl)) (by decide) (backOf (W := 1) (rm35b l Z a0 hw [] (16 : Int32) (17 : Int32) h7 n0 (Nat.le_trans Z0 K7.1) (by decide)) hZ (ww hw 211 rfl) (ww hw 114 rfl) (by decide) (by decide)) (g := (mkF m 28 aa4 [(.int 17), (.int 16), (.ref a1)])) rfl (by rw [hml]; rfl) (argsL := [(.int 16), (.int 17)]) (rest := [(.ref a1)]) (lenOf pd_57_21 rfl) rfl (wz rfl) (hb hby d33_28) (fun _ _ => ⟨rfl, e7, (by decide : 0 + 0 ≤ _), (by decide : 0 + 0 ≤ _)⟩)
  dsimp only [Pt.U, Pt.locs, Pt.cells, Pt.slots] at X8 l8 y8 z8 st8 hQ8
  subst l8 y8 z8
  obtain ⟨rfl, N8q, e8⟩ := hQ8
  have N8 := Fr.app N7 N8q
  obtain ⟨T9, h9, X9, e9, W9, st9⟩ := putF X8 hx hZ hown (host := "") (Or.inl (ww hw 175 rfl)) Via.refl e8 ((F_head_a1.other W7 (Or.inl ne))) ((E_a1.wr W7)) (Or.inl (ww hw 176 rfl)) (ww hw 113 rfl) (ty := .int) (by decide) rfl rfl (g := (mkF m 31 aa4 [(.int 0), (.ref a1)])) rfl rfl (hb hby d33_31)
  have Fw9 := ((F_head_a1.other W7 (Or.inl ne))).same W9
  have K9 : Keep h0 h9 [w2, a1] := K7.wr W9 (Or.inl (wi 1 rfl))
  have N9 := Fr.snoc X9 N8 g_a1
  obtain ⟨fs, hr, hrun, hended, hW, hsame⟩ := X9.leave (v := some (.ref y)) (fun h => by rw [Bd.returns] at h; cases h)
  refine ⟨_, _, pre0 _ ?_, hrun, hended, _, _, rfl, ?_, ⟨_, rfl⟩, hW, hsame.mono (by decide) (by decide)⟩
  · show Sw s₁ m 0 aa1 [] _
    refine XS.aloadN X0.here hx rfl (hb hby d33_0) rfl rfl ?_
    show Sw s₁ m 1 aa1 [(.ref a1)] _
    refine st3 _ ?_
    show Sw T3 m 4 aa1 [(.ref w2)] _
    refine XS.dup X3.here hx rfl (hb hby d33_4) rfl rfl ?_
    show Sw T3 m 5 aa1 [(.ref w2), (.ref w2)] _
    refine XS.astoreN X3.here hx rfl (hb hby d33_5) rfl rfl (l' := aa2) rfl ?_
    show Sw T3 m 6 aa2 [(.ref w2)] _
    refine XS.aloadN X3.here hx rfl (hb hby d33_6) rfl rfl ?_
    show Sw T3 m 7 aa2 [(.ref a1), (.ref w2)] _
    refine st5 _ ?_
    show Sw T5 m 10 aa2 [(.int 16), (.ref w2)] _
    refine XS.dup X5.here hx rfl (hb hby d33_10) rfl rfl ?_
    show Sw T5 m 11 aa2 [(.int 16), (.int 16), (.ref w2)] _
    refine XS.istoreN X5.here hx rfl (hb hby d33_11) rfl (l' := aa3) rfl ?_
    show Sw T5 m 12 aa3 [(.int 16), (.ref w2)] _
    refine st6 _ ?_
    show Sw T6 m 15 aa3 [(.ref y)] _
    refine XS.astoreN X6.here hx rfl (hb hby d33_15) rfl rfl (l' := aa4) rfl ?_
    show Sw T6 m 16 aa4 [] _
    refine XS.aloadN X6.here hx rfl (hb hby d33_16) rfl rfl ?_
    show Sw T6 m 17 aa4 [(.ref y)] _
    refine XS.ifnullNo X6.here hx rfl (hb hby d33_17) rfl ?_
    show Sw T6 m 20 aa4 [] _
    refine XS.aloadN X6.here hx rfl (hb hby d33_20) rfl rfl ?_
    show Sw T6 m 21 aa4 [(.ref w2)] _
    refine XS.iloadN X6.here hx rfl (hb hby d33_21) rfl ?_
    show Sw T6 m 22 aa4 [(.int 16), (.ref w2)] _
    refine XS.aconstNull X6.here hx rfl (hb hby d33_22) ?_
    show Sw T6 m 23 aa4 [.null, (.int 16), (.ref w2)] _
    refine st7 _ ?_
    show Sw T7 m 24 aa4 [] _
    refine XS.aloadN X7.here hx rfl (hb hby d33_24) rfl rfl ?_
    show Sw T7 m 25 aa4 [(.ref a1)] _
    refine XS.iloadN X7.here hx rfl (hb hby d33_25) rfl ?_
    show Sw T7 m 26 aa4 [(.int 16), (.ref a1)] _
    refine XS.aloadN X7.here hx rfl (hb hby d33_26) rfl rfl ?_
    show Sw T7 m 27 aa4 [(.ref w2), (.int 16), (.ref a1)] _
    refine X7.arraylength hx (by rw [e7]; exact (Ar_w2.same W7).1) (State.isArrayOf_alike hZ.alike (Ar_w2.same W7).2.1) (g := (mkF m 27 aa4 [(.ref w2), (.int 16), (.ref a1)])) rfl rfl (hb hby d33_27) _ ?_
    rw [len_of ((sz_set _ _ _).trans S_w2) N_w2]
    show Sw T7 m 28 aa4 [(.int 17), (.int 16), (.ref a1)] _
    refine st8 _ ?_
    show Sw T8 m 31 aa4 [(.int 0), (.ref a1)] _
    refine st9 _ ?_
    show Sw T9 m 34 aa4 [] _
    refine XS.aloadN X9.here hx rfl (hb hby d33_34) rfl rfl ?_
    show Steps p.tables e below (T9.setTop (mkF m 35 aa4 [(.ref y)])) _
    jvm_step X9.here [X9.here.top, hx, (hb hby d33_35), X9.method', Bd.returns, Value.isRef, FieldType.isReference]
    first | (intro acts; rw [hr _ acts rfl rfl rfl]) | rw [hr _ _ rfl rfl rfl]
    exact Steps.refl _
  · show Qrm33b Z a1 w2 k_w2 vs_w2 y h0 n0 _ T9.heap _
    rw [e9]
    have V7 := Arv.set Ar_w2 C_w2 S_w2 N_w2 H_w2 G_w2 rfl W7 16 rfl (by rw [DD.2.2.2.2.2.2]; decide)
    exact ⟨rfl, N9, K9, (E_a1.wr W7).wr W9, (DD.2.1.other W7 (Or.inl ne)).other W9 (Or.inr (slot_ne (Or.inl (ww hw 128 rfl)) (Or.inl (ww hw 176 rfl)) (by decide) (t := (.array (.object "java/lang/Object"))) (t' := .int) (by decide) (by decide))), Fw9, (DD.2.2.2.1.other W7 (Or.inl ne)).other W9 (Or.inr (slot_ne (Or.inl (ww hw 182 rfl)) (Or.inl (ww hw 176 rfl)) (by decide) (t := .int) (t' := .int) (by decide) (by decide))), V7.other W9 ne.symm, DD.2.2.2.2.2.1, by rw [List.length_set]; exact DD.2.2.2.2.2.2⟩
def Qrm32b (Z : State) (a1 : Addr) (w2 : Addr) (ke : ClassId) (es : List Value) (y : Addr) (h0 : Heap) (n0 : Nat) (v : Option Value) (h : Heap) (L : List Loc) : Prop := v = some (.ref y) ∧ Fr n0 L ∧ Keep h0 h [w2, a1] ∧ own_D Z h a1 w2 ke (0 : Int32) (es.set 16 .null)
set_option maxRecDepth 65536 in
set_option maxHeartbeats 40000000 in
theorem rm32b (l : Launch) (Z : State) (a0 : Array Value) (hw : HW a0 Z) (ws : List Jvm.Cond) (a1 : Addr) (w2 : Addr) (ke : ClassId) (es : List Value) (y : Addr) (h0 : Heap) (n0 : Nat) (Z0 : n0 ≤ h0.size) (DD : own_D Z h0 a1 w2 ke (16 : Int32) es) (hy : es.getD 16 .null = .ref y) (g_a1 : n0 ≤ a1) (g_w2 : n0 ≤ w2) (E_a1 : Exa Z h0 a1 "java/util/ArrayDeque") :
    MetFree l ym38 (head1 (Jvm.Cond.code ym38 jdk_21_method_18_code 2 (some (.object "java/lang/Object")) :: ws) rm_09) (fun a U => a = #[(.ref a1)] ∧ Z.Warmed39 U.vm ∧ U.heap = h0) (fun _ _ _ _ _ => True) (fun _ U o U' => ∃ v L, o = .returned v ∧ Qrm32b Z a1 w2 ke es y h0 n0 v U'.heap L ∧ FrameEnd U o U' L rm_09.cells rm_09.slots) := by
  refine MetFree.of_bodySF (plainFor_of_name pn_19) hisR ?_
  intro p e s m args below meth c s₁ Bd hml0 hP hK
  obtain ⟨rfl, hZ, hh⟩ := hP
  have hx := Bd.exec
  have hby := Bd.bytes
  have hml : c.maxLocals = 2 := hml0
  have hown : s.vm.findClass "java/util/ArrayDeque" = some m.cls := findClass_of_methodNamed Bd.named
  have X0 : Stand p l e rm_09 s m #[(.ref a1)] below meth c s₁ [] 0 0 := Stand.of_body Bd
  have e0 : s₁.heap = h0 := by rw [← hh, Bd.state]; rfl
  have N0 := Fr.nil n0
  let aa1 : Array Slot := #[.val (.ref a1), .unset]
  have pre0 : ∀ t, Steps p.tables e below (s₁.setTop (mkF m 0 aa1 [])) t → Steps p.tables e below (s₁.setTop (entryFrame m #[(.ref a1)] 2)) t := fun t k => castTop (ef_32 m a1) k
  obtain ⟨cq2, kq2, q2a, q2b, q2c⟩ := isOf hZ e0 E_a1
  obtain ⟨_, _, ⟨T2, L2, k2, n2⟩, -, X2, ⟨Lc2, hQ2, l2, y2, z2⟩, st2⟩ := X0.virtualBack hx (y := ym37) (z := ym37) hown (mvT hZ (ww hw 201 rfl)) (mvT hZ (ww hw 202 rfl)) (notFace_of_selects (args := #[]) (mvT hZ (ww hw 204 rfl))) (mvT hZ (ww hw 204 rfl)) (mvT hZ (ww hw 203 rfl)) (by decide) (backOf (W := 0) (rm33b l Z a0 hw [] a1 w2 ke es y h0 n0 Z0 DD hy DD.2.1 DD.2.2.1 DD.2.2.2.2.1 g_w2 DD.1 g_a1) hZ (ww hw 205 rfl) (ww hw 114 rfl) (by decide) (by decide)) q2a q2c (g := (mkF m 1 aa1 [(.ref a1)])) rfl (by rw [hml]; rfl) (Steps.refl _) (argsL := []) (rest := []) (lenOf pd_32_23 rfl) rfl (wz rfl) (hb hby d32_1) (fun _ _ => ⟨rfl, e0, (by decide : 0 + 0 ≤ _), (by decide : 0 + 0 ≤ _)⟩)
  dsimp only [Pt.U, Pt.locs, Pt.cells, Pt.slots] at X2 l2 y2 z2 st2 hQ2
  subst l2 y2 z2
  obtain ⟨rfl, N2q, K2, D2⟩ := hQ2
  have N2 := Fr.app N0 N2q
  obtain ⟨fs, hr, hrun, hended, hW, hsame⟩ := X2.leave (v := some (.ref y)) (fun h => by rw [Bd.returns] at h; cases h)
  refine ⟨_, _, pre0 _ ?_, hrun, hended, _, _, rfl, ?_, ⟨_, rfl⟩, hW, hsame.mono (by decide) (by decide)⟩
  · show Sw s₁ m 0 aa1 [] _
    refine XS.aloadN X0.here hx rfl (hb hby d32_0) rfl rfl ?_
    show Sw s₁ m 1 aa1 [(.ref a1)] _
    refine st2.trans ?_
    show Sw T2 m 4 aa1 [(.ref y)] _
    let aa2 : Array Slot := #[.val (.ref a1), .val (.ref y)]
    refine XS.astoreN X2.here hx rfl (hb hby d32_4) rfl rfl (l' := aa2) rfl ?_
    show Sw T2 m 5 aa2 [] _
    refine XS.aloadN X2.here hx rfl (hb hby d32_5) rfl rfl ?_
    show Sw T2 m 6 aa2 [(.ref y)] _
    refine XS.ifnonnullYes X2.here hx rfl (pc0 := 6) (pc' := 17) rfl (hb hby d32_6) rfl (by decide) (by decide) ?_
    show Sw T2 m 17 aa2 [] _
    refine XS.aloadN X2.here hx rfl (hb hby d32_17) rfl rfl ?_
    show Steps p.tables e below (T2.setTop (mkF m 18 aa2 [(.ref y)])) _
    jvm_step X2.here [X2.here.top, hx, (hb hby d32_18), X2.method', Bd.returns, Value.isRef, FieldType.isReference]
    first | (intro acts; rw [hr _ acts rfl rfl rfl]) | rw [hr _ _ rfl rfl rfl]
    exact Steps.refl _
  · show Qrm32b Z a1 w2 ke es y h0 n0 _ T2.heap _
    exact ⟨rfl, N2, K2, D2⟩
def Qrm31b (Z : State) (a1 : Addr) (w2 : Addr) (ke : ClassId) (es : List Value) (y : Addr) (h0 : Heap) (n0 : Nat) (v : Option Value) (h : Heap) (L : List Loc) : Prop := v = some (.ref y) ∧ Fr n0 L ∧ Keep h0 h [w2, a1] ∧ own_D Z h a1 w2 ke (0 : Int32) (es.set 16 .null)
set_option maxRecDepth 65536 in
set_option maxHeartbeats 40000000 in
theorem rm31b (l : Launch) (Z : State) (a0 : Array Value) (hw : HW a0 Z) (ws : List Jvm.Cond) (a1 : Addr) (w2 : Addr) (ke : ClassId) (es : List Value) (y : Addr) (h0 : Heap) (n0 : Nat) (Z0 : n0 ≤ h0.size) (DD : own_D Z h0 a1 w2 ke (16 : Int32) es) (hy : es.getD 16 .null = .ref y) (g_a1 : n0 ≤ a1) (g_w2 : n0 ≤ w2) (E_a1 : Exa Z h0 a1 "java/util/ArrayDeque") :
    MetFree l ym39 (head1 (Jvm.Cond.code ym39 jdk_21_method_35_code 1 (some (.object "java/lang/Object")) :: ws) rm_24) (fun a U => a = #[(.ref a1)] ∧ Z.Warmed39 U.vm ∧ U.heap = h0) (fun _ _ _ _ _ => True) (fun _ U o U' => ∃ v L, o = .returned v ∧ Qrm31b Z a1 w2 ke es y h0 n0 v U'.heap L ∧ FrameEnd U o U' L rm_24.cells rm_24.slots) := by
  refine MetFree.of_bodySF (plainFor_of_name pn_19) hisR ?_
  intro p e s m args below meth c s₁ Bd hml0 hP hK
  obtain ⟨rfl, hZ, hh⟩ := hP
  have hx := Bd.exec
  have hby := Bd.bytes
  have hml : c.maxLocals = 1 := hml0
  have hown : s.vm.findClass "java/util/ArrayDeque" = some m.cls := findClass_of_methodNamed Bd.named
  have X0 : Stand p l e rm_24 s m #[(.ref a1)] below meth c s₁ [] 0 0 := Stand.of_body Bd
  have e0 : s₁.heap = h0 := by rw [← hh, Bd.state]; rfl
  have N0 := Fr.nil n0
  let aa1 : Array Slot := #[.val (.ref a1)]
  have pre0 : ∀ t, Steps p.tables e below (s₁.setTop (mkF m 0 aa1 [])) t → Steps p.tables e below (s₁.setTop (entryFrame m #[(.ref a1)] 1)) t := fun t k => castTop (ef_11 m a1) k
  obtain ⟨cq2, kq2, q2a, q2b, q2c⟩ := isOf hZ e0 E_a1
  obtain ⟨_, _, ⟨T2, L2, k2, n2⟩, -, X2, ⟨Lc2, hQ2, l2, y2, z2⟩, st2⟩ := X0.virtualBack hx (y := ym38) (z := ym38) hown (mvT hZ (ww hw 196 rfl)) (mvT hZ (ww hw 197 rfl)) (notFace_of_selects (args := #[]) (mvT hZ (ww hw 199 rfl))) (mvT hZ (ww hw 199 rfl)) (mvT hZ (ww hw 198 rfl)) (by decide) (backOf (W := 0) (rm32b l Z a0 hw [] a1 w2 ke es y h0 n0 Z0 DD hy g_a1 g_w2 DD.1) hZ (ww hw 200 rfl) (ww hw 114 rfl) (by decide) (by decide)) q2a q2c (g := (mkF m 1 aa1 [(.ref a1)])) rfl (by rw [hml]; rfl) (Steps.refl _) (argsL := []) (rest := []) (lenOf pd_32_23 rfl) rfl (wz rfl) (hb hby d31_1) (fun _ _ => ⟨rfl, e0, (by decide : 0 + 0 ≤ _), (by decide : 0 + 0 ≤ _)⟩)
  dsimp only [Pt.U, Pt.locs, Pt.cells, Pt.slots] at X2 l2 y2 z2 st2 hQ2
  subst l2 y2 z2
  obtain ⟨rfl, N2q, K2, D2⟩ := hQ2
  have N2 := Fr.app N0 N2q
  obtain ⟨fs, hr, hrun, hended, hW, hsame⟩ := X2.leave (v := some (.ref y)) (fun h => by rw [Bd.returns] at h; cases h)
  refine ⟨_, _, pre0 _ ?_, hrun, hended, _, _, rfl, ?_, ⟨_, rfl⟩, hW, hsame.mono (by decide) (by decide)⟩
  · show Sw s₁ m 0 aa1 [] _
    refine XS.aloadN X0.here hx rfl (hb hby d31_0) rfl rfl ?_
    show Sw s₁ m 1 aa1 [(.ref a1)] _
    refine st2.trans ?_
    show Steps p.tables e below (T2.setTop (mkF m 4 aa1 [(.ref y)])) _
    jvm_step X2.here [X2.here.top, hx, (hb hby d31_4), X2.method', Bd.returns, Value.isRef, FieldType.isReference]
    first | (intro acts; rw [hr _ acts rfl rfl rfl]) | rw [hr _ _ rfl rfl rfl]
    exact Steps.refl _
  · show Qrm31b Z a1 w2 ke es y h0 n0 _ T2.heap _
    exact ⟨rfl, N2, K2, D2⟩
/-- an XmlWriter, its builder, its deque -/
def own_W (Z : State) (h : Heap) (w b q : Addr) (f : Int32) : Prop :=
  Exa Z h w "org/athenaeum/xml/XmlWriter" ∧ Fld Z h w "org/athenaeum/xml/XmlWriter" "out" "Ljava/lang/StringBuilder;" (.ref b) ∧ Fld Z h w "org/athenaeum/xml/XmlWriter" "open" "Ljava/util/Deque;" (.ref q) ∧ Fld Z h w "org/athenaeum/xml/XmlWriter" "inStartTag" "Z" (.int f)
def own_X (Z : State) (h : Heap) (w b q va : Addr) (kb : ClassId) (cap n : Int32) (vs : List Value) (ea : Addr) (ke : ClassId) (hd : Int32) (es : List Value) (f : Int32) : Prop :=
  own_W Z h w b q f ∧ own_B Z h b va kb cap n vs ∧ own_D Z h q ea ke hd es ∧ cap.toNatClampNeg ≠ (17 : Int32).toNatClampNeg
def own_I (Z : State) (a0 : Array Value) : Prop := (Jvm.Cond.instantiable "java/lang/String" 4).before a0 Z = true ∧ (Jvm.Cond.instantiable "org/athenaeum/xml/XmlWriter" 3).before a0 Z = true ∧ (Jvm.Cond.instantiable "java/lang/StringBuilder" 4).before a0 Z = true ∧ (Jvm.Cond.instantiable "java/util/ArrayDeque" 3).before a0 Z = true
section
variable {Z : State} {h h' : Heap} {w b q va ea a t x : Addr} {kb kb' ke k : ClassId} {cap cap' n n' hd hd' f f' z : Int32} {vs vs' es es' us : List Value} {l l' : List Addr} {a0 : Array Value}
theorem own_sub (K : Keep h h' l) (q : ∀ x ∈ l, x ∈ l') : Keep h h' l' := ⟨K.1, fun a c e r => K.2.1 a c e (fun z => r (q a z)), K.2.2⟩
theorem own_tr {h1 : Heap} (K : Keep h h1 l) (K' : Keep h1 h' l') (q : ∀ x ∈ l', x ∈ l) : Keep h h' l := K.trans K' (fun x hx => Or.inl (q x hx))
theorem own_W.keep (W : own_W Z h w b q f) (K : Keep h h' l) (q1 : w ∉ l) : own_W Z h' w b q f := ⟨W.1.keep K, W.2.1.keep K q1, W.2.2.1.keep K q1, W.2.2.2.keep K q1⟩
theorem own_X.ext (X : own_X Z h w b q va kb cap n vs ea ke hd es f) (E : Ext h h') : own_X Z h' w b q va kb cap n vs ea ke hd es f := ⟨⟨X.1.1.ext E, X.1.2.1.ext E, X.1.2.2.1.ext E, X.1.2.2.2.ext E⟩, X.2.1.ext E, X.2.2.1.ext E, X.2.2.2⟩
theorem own_dist (X : own_X Z h w b q va kb cap n vs ea ke hd es f) (i : own_I Z a0) : (w ≠ b ∧ w ≠ va ∧ w ≠ q ∧ w ≠ ea) ∧ (b ≠ va ∧ b ≠ q ∧ b ≠ ea) ∧ (va ≠ q ∧ va ≠ ea) ∧ q ≠ ea :=
  ⟨⟨Exa.ne X.1.1 X.2.1.1 (by decide), X.1.1.neArv X.2.1.2.2.2.2.1 i.2.1, Exa.ne X.1.1 X.2.2.1.1 (by decide), X.1.1.neArv X.2.2.1.2.2.2.2.1 i.2.1⟩, ⟨X.2.1.1.neArv X.2.1.2.2.2.2.1 i.2.2.1, Exa.ne X.2.1.1 X.2.2.1.1 (by decide), X.2.1.1.neArv X.2.2.1.2.2.2.2.1 i.2.2.1⟩,
    ⟨(X.2.2.1.1.neArv X.2.1.2.2.2.2.1 i.2.2.2).symm, arv_ne X.2.1.2.2.2.2.1 X.2.2.1.2.2.2.2.1 (Or.inl X.2.2.2)⟩, X.2.2.1.1.neArv X.2.2.1.2.2.2.2.1 i.2.2.2⟩
theorem own_S.kX (S : own_S Z h a t k z us) (X : own_X Z h w b q va kb cap n vs ea ke hd es f) (i : own_I Z a0) (hz : z.toNatClampNeg ≠ cap.toNatClampNeg) (hz' : z.toNatClampNeg ≠ (17 : Int32).toNatClampNeg) (K : Keep h h' l) (hl : ∀ x ∈ l, x = w ∨ x = b ∨ x = va ∨ x = q ∨ x = ea) : own_S Z h' a t k z us := by
  refine S.keep K (fun m => ?_) (fun m => ?_)
  · rcases hl _ m with e | e | e | e | e
    · exact Exa.ne S.1 X.1.1 (by decide) e
    · exact Exa.ne S.1 X.2.1.1 (by decide) e
    · exact S.1.neArv X.2.1.2.2.2.2.1 i.1 e
    · exact Exa.ne S.1 X.2.2.1.1 (by decide) e
    · exact S.1.neArv X.2.2.1.2.2.2.2.1 i.1 e
  · rcases hl _ m with e | e | e | e | e
    · exact X.1.1.neArv S.2.2.2.1 i.2.1 e.symm
    · exact X.2.1.1.neArv S.2.2.2.1 i.2.2.1 e.symm
    · exact arv_ne S.2.2.2.1 X.2.1.2.2.2.2.1 (Or.inl hz) e
    · exact X.2.2.1.1.neArv S.2.2.2.1 i.2.2.2 e.symm
    · exact arv_ne S.2.2.2.1 X.2.2.1.2.2.2.2.1 (Or.inl hz') e
theorem own_staX {C m d : String} {v : Value} (S : Sta Z h C m d v) (X : own_X Z h w b q va kb cap n vs ea ke hd es f) (K : Keep h h' l) (hl : ∀ x ∈ l, x = w ∨ x = b ∨ x = va ∨ x = q ∨ x = ea) : Sta Z h' C m d v := by
  refine own_sta S K (fun x hx => ?_)
  rcases hl _ hx with e | e | e | e | e <;> subst e
  · exact own_plain X.1.1
  · exact own_plain X.2.1.1
  · exact X.2.1.2.2.2.2.1.nostat
  · exact own_plain X.2.2.1.1
  · exact X.2.2.1.2.2.2.2.1.nostat
theorem own_Arv_eq {Z : State} {h : Heap} {b : Addr} {k : ClassId} {ty : FieldType} {z : Int32} {vs vs' : List Value} {d : Value} (A : Arv Z h b k ty z vs d) (e : vs = vs') : Arv Z h b k ty z vs' d := e ▸ A
theorem own_X.eqs {Z : State} {h : Heap} {w b q va : Addr} {kb : ClassId} {cap n : Int32} {vs : List Value} {ea : Addr} {ke : ClassId} {hd : Int32} {es : List Value} {f n' hd' : Int32} (Y : own_X Z h w b q va kb cap n vs ea ke hd es f) (e1 : n = n') (e2 : hd = hd') : own_X Z h w b q va kb cap n' vs ea ke hd' es f := by subst e1 e2; exact Y
theorem own_X.app (X : own_X Z h w b q va kb cap n vs ea ke hd es f) (i : own_I Z a0) (K : Keep h h' [b, va]) (B : own_B Z h' b va kb cap n' vs') : own_X Z h' w b q va kb cap n' vs' ea ke hd es f := by
  obtain ⟨⟨d1, d2, d3, d4⟩, ⟨d5, d6, d7⟩, ⟨d8, d9⟩, d10⟩ := own_dist X i
  exact ⟨X.1.keep K (own_nin2 d1 d2), B, X.2.2.1.keep K (own_nin2 d6.symm d8.symm) (own_nin2 d7.symm d9.symm), X.2.2.2⟩
theorem own_X.grow {va' : Addr} (X : own_X Z h w b q va kb cap n vs ea ke hd es f) (i : own_I Z a0) (K : Keep h h' [b]) (B : own_B Z h' b va' kb' cap' n' vs') (hc : cap'.toNatClampNeg ≠ (17 : Int32).toNatClampNeg) : own_X Z h' w b q va' kb' cap' n' vs' ea ke hd es f := by
  obtain ⟨⟨d1, d2, d3, d4⟩, ⟨d5, d6, d7⟩, ⟨d8, d9⟩, d10⟩ := own_dist X i
  exact ⟨X.1.keep K (own_nin1 d1), B, X.2.2.1.keep K (own_nin1 d6.symm) (own_nin1 d7.symm), hc⟩
theorem own_X.deq (X : own_X Z h w b q va kb cap n vs ea ke hd es f) (i : own_I Z a0) (K : Keep h h' l) (hl : ∀ x ∈ l, x = q ∨ x = ea) (D : own_D Z h' q ea ke hd' es') : own_X Z h' w b q va kb cap n vs ea ke hd' es' f := by
  obtain ⟨⟨d1, d2, d3, d4⟩, ⟨d5, d6, d7⟩, ⟨d8, d9⟩, d10⟩ := own_dist X i
  exact ⟨X.1.keep K (fun m => (hl _ m).elim d3 d4), X.2.1.keep K (fun m => (hl _ m).elim d6 d7) (fun m => (hl _ m).elim d8 d9), D, X.2.2.2⟩
theorem own_X.tag (X : own_X Z h w b q va kb cap n vs ea ke hd es f) (i : own_I Z a0) (K : Keep h h' [w]) (W : own_W Z h' w b q f') : own_X Z h' w b q va kb cap n vs ea ke hd es f' := by
  obtain ⟨⟨d1, d2, d3, d4⟩, ⟨d5, d6, d7⟩, ⟨d8, d9⟩, d10⟩ := own_dist X i
  exact ⟨W, X.2.1.keep K (own_nin1 d1.symm) (own_nin1 d2.symm), X.2.2.1.keep K (own_nin1 d3.symm) (own_nin1 d4.symm), X.2.2.2⟩
end
theorem own_self {s : State} {args : Array Value} {y : MethodName} (hf : NotFace s y) (hp : s.PrivateAt y) (hi : (Jvm.Cond.instanceMethod y).before args s = true) (hy : y.cls ≠ "java/lang/invoke/MethodHandle" ∧ y.cls ≠ "java/lang/invoke/VarHandle") : (Jvm.Cond.selects y.cls y y).before args s = true := by
  obtain ⟨mk, methM, hnamed, hmethM, -, -⟩ := Cond.instanceMethod_spec hi
  obtain ⟨k, hk, hni⟩ := hf mk hnamed
  exact selects_self_of_private (findClass_of_methodNamed hnamed) hk hni hp hi hy
theorem d22_0 : decode cd40 0 = .ok (.aload_n 0, 1) := by decide +kernel
theorem d22_1 : decode cd40 1 = .ok (.getfield 43, 3) := by decide +kernel
theorem d22_4 : decode cd40 4 = .ok (.ifCond .eq 18, 3) := by decide +kernel
theorem d22_22 : decode cd40 22 = .ok (.return_, 1) := by decide +kernel
theorem pn_22 : plainName "org/athenaeum/xml/XmlWriter" = true := by first | (simp [plainName, overriddenIn]; done) | decide +kernel
def Qrm22z (Z : State) (a1 : Addr) (h0 : Heap) (n0 : Nat) (v : Option Value) (h : Heap) (L : List Loc) : Prop := v = none ∧ Fr n0 L ∧ h = h0
set_option maxRecDepth 65536 in
set_option maxHeartbeats 40000000 in
theorem rm22z (l : Launch) (Z : State) (a0 : Array Value) (hw : HW a0 Z) (ws : List Jvm.Cond) (a1 : Addr) (h0 : Heap) (n0 : Nat) (Z0 : n0 ≤ h0.size) (F_inStartTag_a1 : Fld Z h0 a1 "org/athenaeum/xml/XmlWriter" "inStartTag" "Z" (.int 0)) (hc4 : (0 : Int32) = (0 : Int32)) :
    MetFree l ym40 (head1 (Jvm.Cond.code ym40 prog_100_method_8_code 1 none :: ws) rm_00) (fun a U => a = #[(.ref a1)] ∧ Z.Warmed39 U.vm ∧ U.heap = h0) (fun _ _ _ _ _ => True) (fun _ U o U' => ∃ v L, o = .returned v ∧ Qrm22z Z a1 h0 n0 v U'.heap L ∧ FrameEnd U o U' L rm_00.cells rm_00.slots) := by
  refine MetFree.of_bodySF (plainFor_of_name pn_22) hisR ?_
  intro p e s m args below meth c s₁ Bd hml0 hP hK
  obtain ⟨rfl, hZ, hh⟩ := hP
  have hx := Bd.exec
  have hby := Bd.bytes
  have hown : s.vm.findClass "org/athenaeum/xml/XmlWriter" = some m.cls := findClass_of_methodNamed Bd.named
  have X0 : Stand p l e rm_00 s m #[(.ref a1)] below meth c s₁ [] 0 0 := Stand.of_body Bd
  have e0 : s₁.heap = h0 := by rw [← hh, Bd.state]; rfl
  have N0 := Fr.nil n0
  let aa1 : Array Slot := #[.val (.ref a1)]
  have pre0 : ∀ t, Steps p.tables e below (s₁.setTop (mkF m 0 aa1 [])) t → Steps p.tables e below (s₁.setTop (entryFrame m #[(.ref a1)] 1)) t := fun t k => castTop (ef_11 m a1) k
  obtain ⟨T3, X3, e3, st3⟩ := getF X0 hx hZ hown (host := "") (Or.inl (ww hw 140 rfl)) Via.refl e0 F_inStartTag_a1 (g := (mkF m 1 aa1 [(.ref a1)])) rfl rfl (hb hby d22_1)
  obtain ⟨fs, hr, hrun, hended, hW, hsame⟩ := X3.leave (v := none) (fun _ => rfl)
  refine ⟨_, _, pre0 _ ?_, hrun, hended, _, _, rfl, ?_, ⟨_, rfl⟩, hW, hsame.mono (by decide) (by decide)⟩
  · show Sw s₁ m 0 aa1 [] _
    refine XS.aloadN X0.here hx rfl (hb hby d22_0) rfl rfl ?_
    show Sw s₁ m 1 aa1 [(.ref a1)] _
    refine st3 _ ?_
    show Sw T3 m 4 aa1 [(.int 0)] _
    refine XS.ifYes X3.here hx rfl (pc0 := 4) (pc' := 22) rfl (hb hby d22_4) rfl ((if0 _ _).trans (teq hc4).1) (by decide) (by decide) ?_
    show Sw T3 m 22 aa1 [] _
    exact X3.returnOut hx Bd.returns (hb hby d22_22) hr
  · show Qrm22z Z a1 h0 n0 _ T3.heap _
    rw [e3]
    exact ⟨rfl, N0, rfl⟩
theorem d22_7 : decode cd40 7 = .ok (.aload_n 0, 1) := by decide +kernel
theorem d22_8 : decode cd40 8 = .ok (.getfield 14, 3) := by decide +kernel
theorem d22_11 : decode cd40 11 = .ok (.bipush 62, 2) := by decide +kernel
theorem d22_13 : decode cd40 13 = .ok (.invokevirtual 30, 3) := by decide +kernel
theorem d22_16 : decode cd40 16 = .ok (.pop, 1) := by decide +kernel
theorem d22_17 : decode cd40 17 = .ok (.aload_n 0, 1) := by decide +kernel
theorem d22_18 : decode cd40 18 = .ok (.iconst 0, 1) := by decide +kernel
theorem d22_19 : decode cd40 19 = .ok (.putfield 43, 3) := by decide +kernel
theorem pd_22_16 : parseMethodDescriptor "(C)Ljava/lang/StringBuilder;" = some ⟨[.char], some (.object "java/lang/StringBuilder")⟩ := by decide +kernel
def Qrm22o (Z : State) (a1 : Addr) (w4 : Addr) (q : Addr) (va : Addr) (kb : ClassId) (cap n : Int32) (vs : List Value) (ea : Addr) (ke : ClassId) (hd : Int32) (es : List Value) (G1 : Int32) (h0 : Heap) (n0 : Nat) (v : Option Value) (h : Heap) (L : List Loc) : Prop := v = none ∧ Fr n0 L ∧ Keep h0 h [a1, w4, va] ∧ own_X Z h a1 w4 q va kb cap (n + (1 : Int32)) (vs ++ [.int ((62 : Int32).toInt8.toInt32)]) ea ke hd es (0 : Int32)
set_option maxRecDepth 65536 in
set_option maxHeartbeats 40000000 in
theorem rm22o (l : Launch) (Z : State) (a0 : Array Value) (hw : HW a0 Z) (ws : List Jvm.Cond) (a1 : Addr) (w4 : Addr) (q : Addr) (va : Addr) (kb : ClassId) (cap n : Int32) (vs : List Value) (ea : Addr) (ke : ClassId) (hd : Int32) (es : List Value) (G1 : Int32) (h0 : Heap) (n0 : Nat) (Z0 : n0 ≤ h0.size) (SC : Sta Z h0 "java/lang/String" "COMPACT_STRINGS" "Z" (.int G1)) (P3 : ¬ (G1 = (0 : Int32))) (Y0 : own_X Z h0 a1 w4 q va kb cap n vs ea ke hd es (1 : Int32)) (RR : own_R cap n (1 : Int32)) (g_w4 : n0 ≤ w4) (g_va : n0 ≤ va) (F_inStartTag_a1 : Fld Z h0 a1 "org/athenaeum/xml/XmlWriter" "inStartTag" "Z" (.int 1)) (F_out_a1 : Fld Z h0 a1 "org/athenaeum/xml/XmlWriter" "out" "Ljava/lang/StringBuilder;" (.ref w4)) (E_w4 : Exa Z h0 w4 "java/lang/StringBuilder") (E_a1 : Exa Z h0 a1 "org/athenaeum/xml/XmlWriter") (g_a1 : n0 ≤ a1) (hc4 : ¬ ((1 : Int32) = (0 : Int32))) :
    MetFree l ym40 (head1 (Jvm.Cond.code ym40 prog_100_method_8_code 1 none :: ws) rm_25) (fun a U => a = #[(.ref a1)] ∧ Z.Warmed39 U.vm ∧ U.heap = h0) (fun _ _ _ _ _ => True) (fun _ U o U' => ∃ v L, o = .returned v ∧ Qrm22o Z a1 w4 q va kb cap n vs ea ke hd es G1 h0 n0 v U'.heap L ∧ FrameEnd U o U' L rm_25.cells rm_25.slots) := by
  refine MetFree.of_bodySF (plainFor_of_name pn_22) hisR ?_
  intro p e s m args below meth c s₁ Bd hml0 hP hK
  obtain ⟨rfl, hZ, hh⟩ := hP
  have hx := Bd.exec
  have hby := Bd.bytes
  have hml : c.maxLocals = 1 := hml0
  have hown : s.vm.findClass "org/athenaeum/xml/XmlWriter" = some m.cls := findClass_of_methodNamed Bd.named
  have X0 : Stand p l e rm_25 s m #[(.ref a1)] below meth c s₁ [] 0 0 := Stand.of_body Bd
  have e0 : s₁.heap = h0 := by rw [← hh, Bd.state]; rfl
  have N0 := Fr.nil n0
  let aa1 : Array Slot := #[.val (.ref a1)]
  have pre0 : ∀ t, Steps p.tables e below (s₁.setTop (mkF m 0 aa1 [])) t → Steps p.tables e below (s₁.setTop (entryFrame m #[(.ref a1)] 1)) t := fun t k => castTop (ef_11 m a1) k
  obtain ⟨T3, X3, e3, st3⟩ := getF X0 hx hZ hown (host := "") (Or.inl (ww hw 140 rfl)) Via.refl e0 F_inStartTag_a1 (g := (mkF m 1 aa1 [(.ref a1)])) rfl rfl (hb hby d22_1)
  obtain ⟨T5, X5, e5, st5⟩ := getF X3 hx hZ hown (host := "") (Or.inl (ww hw 110 rfl)) Via.refl e3 F_out_a1 (g := (mkF m 8 aa1 [(.ref a1)])) rfl rfl (hb hby d22_8)
  obtain ⟨cq6, kq6, q6a, q6b, q6c⟩ := isOf hZ e5 E_w4
  have iw : own_I Z a0 := ⟨(ww hw 1 rfl), (ww hw 31 rfl), (ww hw 38 rfl), (ww hw 113 rfl)⟩
  obtain ⟨_, _, ⟨T6, L6, k6, n6⟩, -, X6, ⟨Lc6, hQ6, l6, y6, z6⟩, st6⟩ := X5.virtualBack hx (y := ym12) (z := ym12) hown (mvT hZ (ww hw 142 rfl)) (mvT hZ (ww hw 143 rfl)) (notFace_of_selects (args := #[]) (mvT hZ (ww hw 145 rfl))) (mvT hZ (ww hw 145 rfl)) (mvT hZ (ww hw 144 rfl)) (by decide) (backOf (W := 0) (rm23 l Z a0 hw [] w4 (62 : Int32) n va kb cap vs G1 h0 n0 Z0 SC P3 Y0.2.1 RR (by decide) g_w4 g_va Y0.2.1.1) hZ (ww hw 146 rfl) (ww hw 39 rfl) (by decide) (by decide)) q6a q6c (g := (mkF m 13 aa1 [(.int 62), (.ref w4)])) rfl (by rw [hml]; rfl) (Steps.refl _) (argsL := [(.int 62)]) (rest := []) (lenOf pd_22_16 rfl) rfl (wz rfl) (hb hby d22_13) (fun _ _ => ⟨rfl, e5, (by decide : 0 + 0 ≤ _), (by decide : 0 + 0 ≤ _)⟩)
  dsimp only [Pt.U, Pt.locs, Pt.cells, Pt.slots] at X6 l6 y6 z6 st6 hQ6
  subst l6 y6 z6
  obtain ⟨rfl, N6q, K6, B6⟩ := hQ6
  have Y6 := Y0.app iw K6 B6
  have N6 := Fr.app N0 N6q
  obtain ⟨T7, h7, X7, e7, W7, st7⟩ := putFN X6 hx hZ hown (ww hw 140 rfl) Via.refl rfl Y6.1.2.2.2 Y6.1.1 (Or.inl (ww hw 141 rfl)) (ww hw 31 rfl) (ty := .boolean) (v' := (.int (nar .boolean (0 : Int32)))) (by decide) rfl (fits_nar_bool _) (g := (mkF m 19 aa1 [(.int 0), (.ref a1)])) rfl rfl (hb hby d22_19)
  have Fw7 := Y6.1.2.2.2.same W7
  have K7 : Keep h0 h7 [a1, w4, va] := (own_more K6).wr W7 (Or.inl (wi 0 rfl))
  have N7 := Fr.snoc X7 N6 g_a1
  obtain ⟨fs, hr, hrun, hended, hW, hsame⟩ := X7.leave (v := none) (fun _ => rfl)
  refine ⟨_, _, pre0 _ ?_, hrun, hended, _, _, rfl, ?_, ⟨_, rfl⟩, hW, hsame.mono (by decide) (by decide)⟩
  · show Sw s₁ m 0 aa1 [] _
    refine XS.aloadN X0.here hx rfl (hb hby d22_0) rfl rfl ?_
    show Sw s₁ m 1 aa1 [(.ref a1)] _
    refine st3 _ ?_
    show Sw T3 m 4 aa1 [(.int 1)] _
    refine XS.ifNo X3.here hx rfl (hb hby d22_4) rfl ((if0 _ _).trans (feq hc4).1) ?_
    show Sw T3 m 7 aa1 [] _
    refine XS.aloadN X3.here hx rfl (hb hby d22_7) rfl rfl ?_
    show Sw T3 m 8 aa1 [(.ref a1)] _
    refine st5 _ ?_
    show Sw T5 m 11 aa1 [(.ref w4)] _
    refine XS.bipush X5.here hx rfl (hb hby d22_11) ?_
    show Sw T5 m 13 aa1 [(.int 62), (.ref w4)] _
    refine st6.trans ?_
    show Sw T6 m 16 aa1 [(.ref w4)] _
    refine XS.pop X6.here hx rfl (hb hby d22_16) rfl rfl ?_
    show Sw T6 m 17 aa1 [] _
    refine XS.aloadN X6.here hx rfl (hb hby d22_17) rfl rfl ?_
    show Sw T6 m 18 aa1 [(.ref a1)] _
    refine XS.iconst X6.here hx rfl (hb hby d22_18) ?_
    show Sw T6 m 19 aa1 [(.int 0), (.ref a1)] _
    refine st7 _ ?_
    show Sw T7 m 22 aa1 [] _
    exact X7.returnOut hx Bd.returns (hb hby d22_22) hr
  · show Qrm22o Z a1 w4 q va kb cap n vs ea ke hd es G1 h0 n0 _ T7.heap _
    rw [e7]
    exact ⟨rfl, N7, K7, Y6.tag iw (Keep.of_wr W7) ⟨Y6.1.1.wr W7, Y6.1.2.1.other W7 (Or.inr (slot_ne (Or.inr (ww hw 111 rfl)) (Or.inl (ww hw 141 rfl)) (by decide) (t := (.object "java/lang/StringBuilder")) (t' := .boolean) (by decide) (by decide))), Y6.1.2.2.1.other W7 (Or.inr (slot_ne (Or.inr (ww hw 130 rfl)) (Or.inl (ww hw 141 rfl)) (by decide) (t := (.object "java/util/Deque")) (t' := .boolean) (by decide) (by decide))), Fw7⟩⟩
theorem d21_0 : decode cd41 0 = .ok (.aload_n 0, 1) := by decide +kernel
theorem d21_1 : decode cd41 1 = .ok (.invokevirtual 27, 3) := by decide +kernel
theorem d21_4 : decode cd41 4 = .ok (.aload_n 0, 1) := by decide +kernel
theorem d21_5 : decode cd41 5 = .ok (.getfield 14, 3) := by decide +kernel
theorem d21_8 : decode cd41 8 = .ok (.bipush 60, 2) := by decide +kernel
theorem d21_10 : decode cd41 10 = .ok (.invokevirtual 30, 3) := by decide +kernel
theorem d21_13 : decode cd41 13 = .ok (.aload_n 1, 1) := by decide +kernel
theorem d21_14 : decode cd41 14 = .ok (.invokevirtual 34, 3) := by decide +kernel
theorem d21_17 : decode cd41 17 = .ok (.pop, 1) := by decide +kernel
theorem d21_18 : decode cd41 18 = .ok (.aload_n 0, 1) := by decide +kernel
theorem d21_19 : decode cd41 19 = .ok (.getfield 23, 3) := by decide +kernel
theorem d21_22 : decode cd41 22 = .ok (.aload_n 1, 1) := by decide +kernel
theorem d21_23 : decode cd41 23 = .ok (.invokeinterface 37 2, 5) := by decide +kernel
theorem d21_28 : decode cd41 28 = .ok (.aload_n 0, 1) := by decide +kernel
theorem d21_29 : decode cd41 29 = .ok (.iconst 1, 1) := by decide +kernel
theorem d21_30 : decode cd41 30 = .ok (.putfield 43, 3) := by decide +kernel
theorem d21_33 : decode cd41 33 = .ok (.aload_n 0, 1) := by decide +kernel
theorem d21_34 : decode cd41 34 = .ok (.areturn, 1) := by decide +kernel
def Qrm21a (Z : State) (a1 : Addr) (a2 : Addr) (w4 : Addr) (w8 : Addr) (va : Addr) (kb : ClassId) (cap n : Int32) (vs : List Value) (ea : Addr) (ke : ClassId) (es : List Value) (G1 : Int32) (w6 : Addr) (ks : ClassId) (zs : Int32) (us : List Value) (h0 : Heap) (n0 : Nat) (v : Option Value) (h : Heap) (L : List Loc) : Prop := v = some (.ref a1) ∧ Fr n0 L ∧ Keep h0 h [a1, w4, va, w8, ea] ∧ own_X Z h a1 w4 w8 va kb cap ((n + (1 : Int32)) + zs) ((vs ++ [.int ((60 : Int32).toInt8.toInt32)]) ++ us) ea ke ((17 : Int32) - (1 : Int32)) (es.set 16 (.ref a2)) (1 : Int32)
set_option maxRecDepth 65536 in
set_option maxHeartbeats 40000000 in
theorem rm21a (l : Launch) (Z : State) (a0 : Array Value) (hw : HW a0 Z) (ws : List Jvm.Cond) (a1 : Addr) (a2 : Addr) (w4 : Addr) (w8 : Addr) (va : Addr) (kb : ClassId) (cap n : Int32) (vs : List Value) (ea : Addr) (ke : ClassId) (es : List Value) (G1 : Int32) (w6 : Addr) (ks : ClassId) (zs : Int32) (us : List Value) (h0 : Heap) (n0 : Nat) (Z0 : n0 ≤ h0.size) (SC : Sta Z h0 "java/lang/String" "COMPACT_STRINGS" "Z" (.int G1)) (P3 : ¬ (G1 = (0 : Int32))) (Y0 : own_X Z h0 a1 w4 w8 va kb cap n vs ea ke (0 : Int32) es (0 : Int32)) (SS : own_S Z h0 a2 w6 ks zs us) (R1 : own_R cap n (1 : Int32)) (R2 : own_R cap (n + (1 : Int32)) zs) (hz : zs.toNatClampNeg ≠ cap.toNatClampNeg) (hz' : zs.toNatClampNeg ≠ (17 : Int32).toNatClampNeg) (g_w4 : n0 ≤ w4) (g_va : n0 ≤ va) (g_w8 : n0 ≤ w8) (g_ea : n0 ≤ ea) (E_a1 : Exa Z h0 a1 "org/athenaeum/xml/XmlWriter") (F_out_a1 : Fld Z h0 a1 "org/athenaeum/xml/XmlWriter" "out" "Ljava/lang/StringBuilder;" (.ref w4)) (E_w4 : Exa Z h0 w4 "java/lang/StringBuilder") (F_open_a1 : Fld Z h0 a1 "org/athenaeum/xml/XmlWriter" "open" "Ljava/util/Deque;" (.ref w8)) (E_w8 : Exa Z h0 w8 "java/util/ArrayDeque") (F_inStartTag_a1 : Fld Z h0 a1 "org/athenaeum/xml/XmlWriter" "inStartTag" "Z" (.int 0)) (g_a1 : n0 ≤ a1) :
    MetFree l ym41 (head1 (Jvm.Cond.code ym41 prog_100_method_2_code 2 (some (.object "org/athenaeum/xml/XmlWriter")) :: ws) rm_06) (fun a U => a = #[(.ref a1), (.ref a2)] ∧ Z.Warmed39 U.vm ∧ U.heap = h0) (fun _ _ _ _ _ => True) (fun _ U o U' => ∃ v L, o = .returned v ∧ Qrm21a Z a1 a2 w4 w8 va kb cap n vs ea ke es G1 w6 ks zs us h0 n0 v U'.heap L ∧ FrameEnd U o U' L rm_06.cells rm_06.slots) := by
  refine MetFree.of_bodySF (plainFor_of_name pn_22) hisR ?_
  intro p e s m args below meth c s₁ Bd hml0 hP hK
  obtain ⟨rfl, hZ, hh⟩ := hP
  have hx := Bd.exec
  have hby := Bd.bytes
  have hml : c.maxLocals = 2 := hml0
  have hown : s.vm.findClass "org/athenaeum/xml/XmlWriter" = some m.cls := findClass_of_methodNamed Bd.named
  have X0 : Stand p l e rm_06 s m #[(.ref a1), (.ref a2)] below meth c s₁ [] 0 0 := Stand.of_body Bd
  have e0 : s₁.heap = h0 := by rw [← hh, Bd.state]; rfl
  have N0 := Fr.nil n0
  let aa1 : Array Slot := #[.val (.ref a1), .val (.ref a2)]
  have pre0 : ∀ t, Steps p.tables e below (s₁.setTop (mkF m 0 aa1 [])) t → Steps p.tables e below (s₁.setTop (entryFrame m #[(.ref a1), (.ref a2)] 2)) t := fun t k => castTop (ef_17 m a1 a2) k
  obtain ⟨cq3, q3, q3'⟩ := E_a1.cell
  have iw : own_I Z a0 := ⟨(ww hw 1 rfl), (ww hw 31 rfl), (ww hw 38 rfl), (ww hw 113 rfl)⟩
  obtain ⟨_, _, ⟨T3, L3, k3, n3⟩, -, X3, ⟨Lc3, hQ3, l3, y3, z3⟩, st3⟩ := X0.privateBack hx (y := ym40) hown (mvT hZ (ww hw 136 rfl)) (mvT hZ (ww hw 137 rfl)) (own_self (own_nf (args := #[]) (mvT hZ (ww hw 134 rfl)) rfl) (Cond.privateMethod_at (mvP hZ (ww hw 138 rfl) (args := #[]))) (mvT hZ (ww hw 137 rfl)) (by decide)) (Cond.privateMethod_at (mvP hZ (ww hw 138 rfl) (args := #[]))) (mvT hZ (ww hw 139 rfl)) (by decide) (backOf (W := 0) (rm22z l Z a0 hw [] a1 h0 n0 Z0 Y0.1.2.2.2 rfl) hZ (ww hw 139 rfl) (ww hw 32 rfl) (by decide) (by decide)) (g := (mkF m 1 aa1 [(.ref a1)])) rfl (by rw [hml]; rfl) (Steps.refl _) (a := a1) (by rw [e0]; exact q3) q3' (argsL := []) (rest := []) (lenOf pd_19_2 rfl) rfl (wz rfl) (hb hby d21_1) (fun _ _ => ⟨rfl, e0, (by decide : 0 + 0 ≤ _), (by decide : 0 + 0 ≤ _)⟩)
  dsimp only [Pt.U, Pt.locs, Pt.cells, Pt.slots] at X3 l3 y3 z3 st3 hQ3
  subst l3 y3 z3
  obtain ⟨rfl, N3q, e3⟩ := hQ3
  have Y3 := Y0
  have SC3 := SC
  have SS3 := SS
  have N3 := Fr.app N0 N3q
  obtain ⟨T5, X5, e5, st5⟩ := getF X3 hx hZ hown (host := "") (Or.inl (ww hw 110 rfl)) Via.refl e3 Y3.1.2.1 (g := (mkF m 5 aa1 [(.ref a1)])) rfl rfl (hb hby d21_5)
  obtain ⟨cq6, kq6, q6a, q6b, q6c⟩ := isOf hZ e5 Y3.2.1.1
  obtain ⟨_, _, ⟨T6, L6, k6, n6⟩, -, X6, ⟨Lc6, hQ6, l6, y6, z6⟩, st6⟩ := X5.virtualBack hx (y := ym12) (z := ym12) hown (mvT hZ (ww hw 142 rfl)) (mvT hZ (ww hw 143 rfl)) (notFace_of_selects (args := #[]) (mvT hZ (ww hw 145 rfl))) (mvT hZ (ww hw 145 rfl)) (mvT hZ (ww hw 144 rfl)) (by decide) (backOf (W := 0) (rm23 l Z a0 hw [] w4 (60 : Int32) n va kb cap vs G1 h0 n0 Z0 SC3 P3 Y3.2.1 R1 (by decide) g_w4 g_va Y3.2.1.1) hZ (ww hw 146 rfl) (ww hw 39 rfl) (by decide) (by decide)) q6a q6c (g := (mkF m 10 aa1 [(.int 60), (.ref w4)])) rfl (by rw [hml]; rfl) (Steps.refl _) (argsL := [(.int 60)]) (rest := []) (lenOf pd_22_16 rfl) rfl (wz rfl) (hb hby d21_10) (fun _ _ => ⟨rfl, e5, (by decide : 0 + 0 ≤ _), (by decide : 0 + 0 ≤ _)⟩)
  dsimp only [Pt.U, Pt.locs, Pt.cells, Pt.slots] at X6 l6 y6 z6 st6 hQ6
  subst l6 y6 z6
  obtain ⟨rfl, N6q, K6, B6⟩ := hQ6
  have Y6 := Y3.app iw K6 B6
  have SC6 := own_staX SC3 Y3 K6 (by simp)
  have SS6 := SS3.kX Y3 iw hz hz' K6 (by simp)
  have P6 : Keep h0 T6.heap [a1, w4, va, w8, ea] := own_sub K6 (by simp)
  have N6 := Fr.app N3 N6q
  obtain ⟨cq7, kq7, q7a, q7b, q7c⟩ := isOf hZ rfl Y6.2.1.1
  obtain ⟨_, _, ⟨T7, L7, k7, n7⟩, -, X7, ⟨Lc7, hQ7, l7, y7, z7⟩, st7⟩ := X6.virtualBack hx (y := ym07) (z := ym07) hown (mvT hZ (ww hw 160 rfl)) (mvT hZ (ww hw 76 rfl)) (notFace_of_selects (args := #[]) (mvT hZ (ww hw 78 rfl))) (mvT hZ (ww hw 78 rfl)) (mvT hZ (ww hw 77 rfl)) (by decide) (backOf (W := 0) (rm13 l Z a0 hw [] w4 a2 (n + (1 : Int32)) va kb cap (vs ++ [.int ((60 : Int32).toInt8.toInt32)]) w6 ks zs us G1 T6.heap n0 (Nat.le_trans Z0 P6.1) SC6 P3 Y6.2.1 SS6 R2 g_va g_w4 Y6.2.1.1) hZ (ww hw 79 rfl) (ww hw 39 rfl) (by decide) (by decide)) q7a q7c (g := (mkF m 14 aa1 [(.ref a2), (.ref w4)])) rfl (by rw [hml]; rfl) (Steps.refl _) (argsL := [(.ref a2)]) (rest := []) (lenOf pd_12_10 rfl) rfl (wz rfl) (hb hby d21_14) (fun _ _ => ⟨rfl, rfl, (by decide : 0 + 0 ≤ _), (by decide : 0 + 0 ≤ _)⟩)
  dsimp only [Pt.U, Pt.locs, Pt.cells, Pt.slots] at X7 l7 y7 z7 st7 hQ7
  subst l7 y7 z7
  obtain ⟨rfl, N7q, K7, B7⟩ := hQ7
  have Y7 := Y6.app iw K7 B7
  have SS7 := SS6.kX Y6 iw hz hz' K7 (by simp)
  have P7 : Keep h0 T7.heap [a1, w4, va, w8, ea] := own_tr P6 K7 (by simp)
  have N7 := Fr.app N6 N7q
  obtain ⟨T9, X9, e9, st9⟩ := getF X7 hx hZ hown (host := "") (Or.inl (ww hw 129 rfl)) Via.refl rfl Y7.1.2.2.1 (g := (mkF m 19 aa1 [(.ref a1)])) rfl rfl (hb hby d21_19)
  obtain ⟨cq10, kq10, q10a, q10b, q10c⟩ := isOf hZ e9 Y7.2.2.1.1
  obtain ⟨_, _, ⟨T10, L10, k10, n10⟩, -, X10, ⟨Lc10, hQ10, l10, y10, z10⟩, st10⟩ := X9.interfaceBack hx (xi := ym42) (y := ym36) hown (mvT hZ (ww hw 161 rfl)) (mvT hZ (ww hw 162 rfl)) (mvT hZ (ww hw 163 rfl)) (mvT hZ (ww hw 164 rfl)) (mvT hZ (ww hw 165 rfl)) (mvT hZ (ww hw 166 rfl)) (mvT hZ (ww hw 167 rfl)) (mvT hZ (ww hw 168 rfl)) (by decide) (backOf (W := 0) (rm27a l Z a0 hw [] w8 a2 ea ke es T7.heap n0 (Nat.le_trans Z0 P7.1) Y7.2.2.1 SS7.1 g_w8 g_ea Y7.2.2.1.1) hZ (ww hw 169 rfl) (ww hw 114 rfl) (by decide) (by decide)) q10a q10b q10c (g := (mkF m 23 aa1 [(.ref a2), (.ref w8)])) rfl (by rw [hml]; rfl) (Steps.refl _) (argsL := [(.ref a2)]) (rest := []) (lenOf pd_27_20 rfl) rfl (wz rfl) (hb hby d21_23) (fun _ _ => ⟨rfl, e9, (by decide : 0 + 0 ≤ _), (by decide : 0 + 0 ≤ _)⟩)
  dsimp only [Pt.U, Pt.locs, Pt.cells, Pt.slots] at X10 l10 y10 z10 st10 hQ10
  subst l10 y10 z10
  obtain ⟨rfl, N10q, K10, D10⟩ := hQ10
  have Y10 := Y7.deq iw K10 (by simp) D10
  have P10 : Keep h0 T10.heap [a1, w4, va, w8, ea] := own_tr P7 K10 (by simp)
  have N10 := Fr.app N7 N10q
  obtain ⟨T11, h11, X11, e11, W11, st11⟩ := putFN X10 hx hZ hown (ww hw 140 rfl) Via.refl rfl Y10.1.2.2.2 Y10.1.1 (Or.inl (ww hw 141 rfl)) (ww hw 31 rfl) (ty := .boolean) (v' := (.int (nar .boolean (1 : Int32)))) (by decide) rfl (fits_nar_bool _) (g := (mkF m 30 aa1 [(.int 1), (.ref a1)])) rfl rfl (hb hby d21_30)
  have Fw11 := Y10.1.2.2.2.same W11
  have K11 : Keep h0 h11 [a1, w4, va, w8, ea] := P10.wr W11 (Or.inl (by simp))
  have N11 := Fr.snoc X11 N10 g_a1
  obtain ⟨fs, hr, hrun, hended, hW, hsame⟩ := X11.leave (v := some (.ref a1)) (fun h => by rw [Bd.returns] at h; cases h)
  refine ⟨_, _, pre0 _ ?_, hrun, hended, _, _, rfl, ?_, ⟨_, rfl⟩, hW, hsame.mono (by decide) (by decide)⟩
  · show Sw s₁ m 0 aa1 [] _
    refine XS.aloadN X0.here hx rfl (hb hby d21_0) rfl rfl ?_
    show Sw s₁ m 1 aa1 [(.ref a1)] _
    refine st3.trans ?_
    show Sw T3 m 4 aa1 [] _
    refine XS.aloadN X3.here hx rfl (hb hby d21_4) rfl rfl ?_
    show Sw T3 m 5 aa1 [(.ref a1)] _
    refine st5 _ ?_
    show Sw T5 m 8 aa1 [(.ref w4)] _
    refine XS.bipush X5.here hx rfl (hb hby d21_8) ?_
    show Sw T5 m 10 aa1 [(.int 60), (.ref w4)] _
    refine st6.trans ?_
    show Sw T6 m 13 aa1 [(.ref w4)] _
    refine XS.aloadN X6.here hx rfl (hb hby d21_13) rfl rfl ?_
    show Sw T6 m 14 aa1 [(.ref a2), (.ref w4)] _
    refine st7.trans ?_
    show Sw T7 m 17 aa1 [(.ref w4)] _
    refine XS.pop X7.here hx rfl (hb hby d21_17) rfl rfl ?_
    show Sw T7 m 18 aa1 [] _
    refine XS.aloadN X7.here hx rfl (hb hby d21_18) rfl rfl ?_
    show Sw T7 m 19 aa1 [(.ref a1)] _
    refine st9 _ ?_
    show Sw T9 m 22 aa1 [(.ref w8)] _
    refine XS.aloadN X9.here hx rfl (hb hby d21_22) rfl rfl ?_
    show Sw T9 m 23 aa1 [(.ref a2), (.ref w8)] _
    refine st10.trans ?_
    show Sw T10 m 28 aa1 [] _
    refine XS.aloadN X10.here hx rfl (hb hby d21_28) rfl rfl ?_
    show Sw T10 m 29 aa1 [(.ref a1)] _
    refine XS.iconst X10.here hx rfl (hb hby d21_29) ?_
    show Sw T10 m 30 aa1 [(.int 1), (.ref a1)] _
    refine st11 _ ?_
    show Sw T11 m 33 aa1 [] _
    refine XS.aloadN X11.here hx rfl (hb hby d21_33) rfl rfl ?_
    show Steps p.tables e below (T11.setTop (mkF m 34 aa1 [(.ref a1)])) _
    jvm_step X11.here [X11.here.top, hx, (hb hby d21_34), X11.method', Bd.returns, Value.isRef, FieldType.isReference]
    first | (intro acts; rw [hr _ acts rfl rfl rfl]) | rw [hr _ _ rfl rfl rfl]
    exact Steps.refl _
  · show Qrm21a Z a1 a2 w4 w8 va kb cap n vs ea ke es G1 w6 ks zs us h0 n0 _ T11.heap _
    rw [e11]
    exact ⟨rfl, N11, K11, Y10.tag iw (Keep.of_wr W11) ⟨Y10.1.1.wr W11, Y10.1.2.1.other W11 (Or.inr (slot_ne (Or.inr (ww hw 111 rfl)) (Or.inl (ww hw 141 rfl)) (by decide) (t := (.object "java/lang/StringBuilder")) (t' := .boolean) (by decide) (by decide))), Y10.1.2.2.1.other W11 (Or.inr (slot_ne (Or.inr (ww hw 130 rfl)) (Or.inl (ww hw 141 rfl)) (by decide) (t := (.object "java/util/Deque")) (t' := .boolean) (by decide) (by decide))), Fw11⟩⟩
def Qrm21b (Z : State) (a1 : Addr) (a2 : Addr) (w4 : Addr) (w8 : Addr) (va : Addr) (kb : ClassId) (cap n : Int32) (vs : List Value) (ea : Addr) (ke : ClassId) (es : List Value) (G1 : Int32) (w6 : Addr) (ks : ClassId) (zs : Int32) (us : List Value) (h0 : Heap) (n0 : Nat) (v : Option Value) (h : Heap) (L : List Loc) : Prop := v = some (.ref a1) ∧ Fr n0 L ∧ Keep h0 h [a1, w4, va, w8, ea] ∧ own_X Z h a1 w4 w8 va kb cap (((n + (1 : Int32)) + (1 : Int32)) + zs) (((vs ++ [.int ((62 : Int32).toInt8.toInt32)]) ++ [.int ((60 : Int32).toInt8.toInt32)]) ++ us) ea ke ((16 : Int32) + (-1 : Int32)) (es.set 15 (.ref a2)) (1 : Int32)
set_option maxRecDepth 65536 in
set_option maxHeartbeats 40000000 in
theorem rm21b (l : Launch) (Z : State) (a0 : Array Value) (hw : HW a0 Z) (ws : List Jvm.Cond) (a1 : Addr) (a2 : Addr) (w4 : Addr) (w8 : Addr) (va : Addr) (kb : ClassId) (cap n : Int32) (vs : List Value) (ea : Addr) (ke : ClassId) (es : List Value) (G1 : Int32) (w6 : Addr) (ks : ClassId) (zs : Int32) (us : List Value) (h0 : Heap) (n0 : Nat) (Z0 : n0 ≤ h0.size) (SC : Sta Z h0 "java/lang/String" "COMPACT_STRINGS" "Z" (.int G1)) (P3 : ¬ (G1 = (0 : Int32))) (Y0 : own_X Z h0 a1 w4 w8 va kb cap n vs ea ke (16 : Int32) es (1 : Int32)) (SS : own_S Z h0 a2 w6 ks zs us) (R0 : own_R cap n (1 : Int32)) (R1 : own_R cap (n + (1 : Int32)) (1 : Int32)) (R2 : own_R cap ((n + (1 : Int32)) + (1 : Int32)) zs) (hz : zs.toNatClampNeg ≠ cap.toNatClampNeg) (hz' : zs.toNatClampNeg ≠ (17 : Int32).toNatClampNeg) (g_w4 : n0 ≤ w4) (g_va : n0 ≤ va) (g_w8 : n0 ≤ w8) (g_ea : n0 ≤ ea) (E_a1 : Exa Z h0 a1 "org/athenaeum/xml/XmlWriter") (F_out_a1 : Fld Z h0 a1 "org/athenaeum/xml/XmlWriter" "out" "Ljava/lang/StringBuilder;" (.ref w4)) (E_w4 : Exa Z h0 w4 "java/lang/StringBuilder") (F_open_a1 : Fld Z h0 a1 "org/athenaeum/xml/XmlWriter" "open" "Ljava/util/Deque;" (.ref w8)) (E_w8 : Exa Z h0 w8 "java/util/ArrayDeque") (F_inStartTag_a1 : Fld Z h0 a1 "org/athenaeum/xml/XmlWriter" "inStartTag" "Z" (.int 1)) (g_a1 : n0 ≤ a1) :
    MetFree l ym41 (head1 (Jvm.Cond.code ym41 prog_100_method_2_code 2 (some (.object "org/athenaeum/xml/XmlWriter")) :: ws) rm_06) (fun a U => a = #[(.ref a1), (.ref a2)] ∧ Z.Warmed39 U.vm ∧ U.heap = h0) (fun _ _ _ _ _ => True) (fun _ U o U' => ∃ v L, o = .returned v ∧ Qrm21b Z a1 a2 w4 w8 va kb cap n vs ea ke es G1 w6 ks zs us h0 n0 v U'.heap L ∧ FrameEnd U o U' L rm_06.cells rm_06.slots) := by
  refine MetFree.of_bodySF (plainFor_of_name pn_22) hisR ?_
  intro p e s m args below meth c s₁ Bd hml0 hP hK
  obtain ⟨rfl, hZ, hh⟩ := hP
  have hx := Bd.exec
  have hby := Bd.bytes
  have hml : c.maxLocals = 2 := hml0
  have hown : s.vm.findClass "org/athenaeum/xml/XmlWriter" = some m.cls := findClass_of_methodNamed Bd.named
  have X0 : Stand p l e rm_06 s m #[(.ref a1), (.ref a2)] below meth c s₁ [] 0 0 := Stand.of_body Bd
  have e0 : s₁.heap = h0 := by rw [← hh, Bd.state]; rfl
  have N0 := Fr.nil n0
  let aa1 : Array Slot := #[.val (.ref a1), .val (.ref a2)]
  have pre0 : ∀ t, Steps p.tables e below (s₁.setTop (mkF m 0 aa1 [])) t → Steps p.tables e below (s₁.setTop (entryFrame m #[(.ref a1), (.ref a2)] 2)) t := fun t k => castTop (ef_17 m a1 a2) k
  obtain ⟨cq3, q3, q3'⟩ := E_a1.cell
  have iw : own_I Z a0 := ⟨(ww hw 1 rfl), (ww hw 31 rfl), (ww hw 38 rfl), (ww hw 113 rfl)⟩
  obtain ⟨_, _, ⟨T3, L3, k3, n3⟩, -, X3, ⟨Lc3, hQ3, l3, y3, z3⟩, st3⟩ := X0.privateBack hx (y := ym40) hown (mvT hZ (ww hw 136 rfl)) (mvT hZ (ww hw 137 rfl)) (own_self (own_nf (args := #[]) (mvT hZ (ww hw 134 rfl)) rfl) (Cond.privateMethod_at (mvP hZ (ww hw 138 rfl) (args := #[]))) (mvT hZ (ww hw 137 rfl)) (by decide)) (Cond.privateMethod_at (mvP hZ (ww hw 138 rfl) (args := #[]))) (mvT hZ (ww hw 139 rfl)) (by decide) (backOf (W := 0) (rm22o l Z a0 hw [] a1 w4 w8 va kb cap n vs ea ke (16 : Int32) es G1 h0 n0 Z0 SC P3 Y0 R0 g_w4 g_va Y0.1.2.2.2 Y0.1.2.1 Y0.2.1.1 Y0.1.1 g_a1 (by decide)) hZ (ww hw 139 rfl) (ww hw 32 rfl) (by decide) (by decide)) (g := (mkF m 1 aa1 [(.ref a1)])) rfl (by rw [hml]; rfl) (Steps.refl _) (a := a1) (by rw [e0]; exact q3) q3' (argsL := []) (rest := []) (lenOf pd_19_2 rfl) rfl (wz rfl) (hb hby d21_1) (fun _ _ => ⟨rfl, e0, (by decide : 0 + 0 ≤ _), (by decide : 0 + 0 ≤ _)⟩)
  dsimp only [Pt.U, Pt.locs, Pt.cells, Pt.slots] at X3 l3 y3 z3 st3 hQ3
  subst l3 y3 z3
  obtain ⟨rfl, N3q, K3, Y3⟩ := hQ3
  have P3k : Keep h0 T3.heap [a1, w4, va, w8, ea] := own_sub K3 (by simp)
  have SC3 := own_staX SC Y0 K3 (by simp)
  have SS3 := SS.kX Y0 iw hz hz' K3 (by simp)
  have N3 := Fr.app N0 N3q
  obtain ⟨T5, X5, e5, st5⟩ := getF X3 hx hZ hown (host := "") (Or.inl (ww hw 110 rfl)) Via.refl rfl Y3.1.2.1 (g := (mkF m 5 aa1 [(.ref a1)])) rfl rfl (hb hby d21_5)
  obtain ⟨cq6, kq6, q6a, q6b, q6c⟩ := isOf hZ e5 Y3.2.1.1
  obtain ⟨_, _, ⟨T6, L6, k6, n6⟩, -, X6, ⟨Lc6, hQ6, l6, y6, z6⟩, st6⟩ := X5.virtualBack hx (y := ym12) (z := ym12) hown (mvT hZ (ww hw 142 rfl)) (mvT hZ (ww hw 143 rfl)) (notFace_of_selects (args := #[]) (mvT hZ (ww hw 145 rfl))) (mvT hZ (ww hw 145 rfl)) (mvT hZ (ww hw 144 rfl)) (by decide) (backOf (W := 0) (rm23 l Z a0 hw [] w4 (60 : Int32) (n + (1 : Int32)) va kb cap (vs ++ [.int ((62 : Int32).toInt8.toInt32)]) G1 T3.heap n0 (Nat.le_trans Z0 K3.1) SC3 P3 Y3.2.1 R1 (by decide) g_w4 g_va Y3.2.1.1) hZ (ww hw 146 rfl) (ww hw 39 rfl) (by decide) (by decide)) q6a q6c (g := (mkF m 10 aa1 [(.int 60), (.ref w4)])) rfl (by rw [hml]; rfl) (Steps.refl _) (argsL := [(.int 60)]) (rest := []) (lenOf pd_22_16 rfl) rfl (wz rfl) (hb hby d21_10) (fun _ _ => ⟨rfl, e5, (by decide : 0 + 0 ≤ _), (by decide : 0 + 0 ≤ _)⟩)
  dsimp only [Pt.U, Pt.locs, Pt.cells, Pt.slots] at X6 l6 y6 z6 st6 hQ6
  subst l6 y6 z6
  obtain ⟨rfl, N6q, K6, B6⟩ := hQ6
  have Y6 := Y3.app iw K6 B6
  have SC6 := own_staX SC3 Y3 K6 (by simp)
  have SS6 := SS3.kX Y3 iw hz hz' K6 (by simp)
  have P6 : Keep h0 T6.heap [a1, w4, va, w8, ea] := own_tr P3k K6 (by simp)
  have N6 := Fr.app N3 N6q
  obtain ⟨cq7, kq7, q7a, q7b, q7c⟩ := isOf hZ rfl Y6.2.1.1
  obtain ⟨_, _, ⟨T7, L7, k7, n7⟩, -, X7, ⟨Lc7, hQ7, l7, y7, z7⟩, st7⟩ := X6.virtualBack hx (y := ym07) (z := ym07) hown (mvT hZ (ww hw 160 rfl)) (mvT hZ (ww hw 76 rfl)) (notFace_of_selects (args := #[]) (mvT hZ (ww hw 78 rfl))) (mvT hZ (ww hw 78 rfl)) (mvT hZ (ww hw 77 rfl)) (by decide) (backOf (W := 0) (rm13 l Z a0 hw [] w4 a2 ((n + (1 : Int32)) + (1 : Int32)) va kb cap ((vs ++ [.int ((62 : Int32).toInt8.toInt32)]) ++ [.int ((60 : Int32).toInt8.toInt32)]) w6 ks zs us G1 T6.heap n0 (Nat.le_trans Z0 P6.1) SC6 P3 Y6.2.1 SS6 R2 g_va g_w4 Y6.2.1.1) hZ (ww hw 79 rfl) (ww hw 39 rfl) (by decide) (by decide)) q7a q7c (g := (mkF m 14 aa1 [(.ref a2), (.ref w4)])) rfl (by rw [hml]; rfl) (Steps.refl _) (argsL := [(.ref a2)]) (rest := []) (lenOf pd_12_10 rfl) rfl (wz rfl) (hb hby d21_14) (fun _ _ => ⟨rfl, rfl, (by decide : 0 + 0 ≤ _), (by decide : 0 + 0 ≤ _)⟩)
  dsimp only [Pt.U, Pt.locs, Pt.cells, Pt.slots] at X7 l7 y7 z7 st7 hQ7
  subst l7 y7 z7
  obtain ⟨rfl, N7q, K7, B7⟩ := hQ7
  have Y7 := Y6.app iw K7 B7
  have SS7 := SS6.kX Y6 iw hz hz' K7 (by simp)
  have P7 : Keep h0 T7.heap [a1, w4, va, w8, ea] := own_tr P6 K7 (by simp)
  have N7 := Fr.app N6 N7q
  obtain ⟨T9, X9, e9, st9⟩ := getF X7 hx hZ hown (host := "") (Or.inl (ww hw 129 rfl)) Via.refl rfl Y7.1.2.2.1 (g := (mkF m 19 aa1 [(.ref a1)])) rfl rfl (hb hby d21_19)
  obtain ⟨cq10, kq10, q10a, q10b, q10c⟩ := isOf hZ e9 Y7.2.2.1.1
  obtain ⟨_, _, ⟨T10, L10, k10, n10⟩, -, X10, ⟨Lc10, hQ10, l10, y10, z10⟩, st10⟩ := X9.interfaceBack hx (xi := ym42) (y := ym36) hown (mvT hZ (ww hw 161 rfl)) (mvT hZ (ww hw 162 rfl)) (mvT hZ (ww hw 163 rfl)) (mvT hZ (ww hw 164 rfl)) (mvT hZ (ww hw 165 rfl)) (mvT hZ (ww hw 166 rfl)) (mvT hZ (ww hw 167 rfl)) (mvT hZ (ww hw 168 rfl)) (by decide) (backOf (W := 0) (rm27b l Z a0 hw [] w8 a2 ea ke es T7.heap n0 (Nat.le_trans Z0 P7.1) Y7.2.2.1 SS7.1 g_w8 g_ea Y7.2.2.1.1) hZ (ww hw 169 rfl) (ww hw 114 rfl) (by decide) (by decide)) q10a q10b q10c (g := (mkF m 23 aa1 [(.ref a2), (.ref w8)])) rfl (by rw [hml]; rfl) (Steps.refl _) (argsL := [(.ref a2)]) (rest := []) (lenOf pd_27_20 rfl) rfl (wz rfl) (hb hby d21_23) (fun _ _ => ⟨rfl, e9, (by decide : 0 + 0 ≤ _), (by decide : 0 + 0 ≤ _)⟩)
  dsimp only [Pt.U, Pt.locs, Pt.cells, Pt.slots] at X10 l10 y10 z10 st10 hQ10
  subst l10 y10 z10
  obtain ⟨rfl, N10q, K10, D10⟩ := hQ10
  have Y10 := Y7.deq iw K10 (by simp) D10
  have P10 : Keep h0 T10.heap [a1, w4, va, w8, ea] := own_tr P7 K10 (by simp)
  have N10 := Fr.app N7 N10q
  obtain ⟨T11, h11, X11, e11, W11, st11⟩ := putFN X10 hx hZ hown (ww hw 140 rfl) Via.refl rfl Y10.1.2.2.2 Y10.1.1 (Or.inl (ww hw 141 rfl)) (ww hw 31 rfl) (ty := .boolean) (v' := (.int (nar .boolean (1 : Int32)))) (by decide) rfl (fits_nar_bool _) (g := (mkF m 30 aa1 [(.int 1), (.ref a1)])) rfl rfl (hb hby d21_30)
  have Fw11 := Y10.1.2.2.2.same W11
  have K11 : Keep h0 h11 [a1, w4, va, w8, ea] := P10.wr W11 (Or.inl (by simp))
  have N11 := Fr.snoc X11 N10 g_a1
  obtain ⟨fs, hr, hrun, hended, hW, hsame⟩ := X11.leave (v := some (.ref a1)) (fun h => by rw [Bd.returns] at h; cases h)
  refine ⟨_, _, pre0 _ ?_, hrun, hended, _, _, rfl, ?_, ⟨_, rfl⟩, hW, hsame.mono (by decide) (by decide)⟩
  · show Sw s₁ m 0 aa1 [] _
    refine XS.aloadN X0.here hx rfl (hb hby d21_0) rfl rfl ?_
    show Sw s₁ m 1 aa1 [(.ref a1)] _
    refine st3.trans ?_
    show Sw T3 m 4 aa1 [] _
    refine XS.aloadN X3.here hx rfl (hb hby d21_4) rfl rfl ?_
    show Sw T3 m 5 aa1 [(.ref a1)] _
    refine st5 _ ?_
    show Sw T5 m 8 aa1 [(.ref w4)] _
    refine XS.bipush X5.here hx rfl (hb hby d21_8) ?_
    show Sw T5 m 10 aa1 [(.int 60), (.ref w4)] _
    refine st6.trans ?_
    show Sw T6 m 13 aa1 [(.ref w4)] _
    refine XS.aloadN X6.here hx rfl (hb hby d21_13) rfl rfl ?_
    show Sw T6 m 14 aa1 [(.ref a2), (.ref w4)] _
    refine st7.trans ?_
    show Sw T7 m 17 aa1 [(.ref w4)] _
    refine XS.pop X7.here hx rfl (hb hby d21_17) rfl rfl ?_
    show Sw T7 m 18 aa1 [] _
    refine XS.aloadN X7.here hx rfl (hb hby d21_18) rfl rfl ?_
    show Sw T7 m 19 aa1 [(.ref a1)] _
    refine st9 _ ?_
    show Sw T9 m 22 aa1 [(.ref w8)] _
    refine XS.aloadN X9.here hx rfl (hb hby d21_22) rfl rfl ?_
    show Sw T9 m 23 aa1 [(.ref a2), (.ref w8)] _
    refine st10.trans ?_
    show Sw T10 m 28 aa1 [] _
    refine XS.aloadN X10.here hx rfl (hb hby d21_28) rfl rfl ?_
    show Sw T10 m 29 aa1 [(.ref a1)] _
    refine XS.iconst X10.here hx rfl (hb hby d21_29) ?_
    show Sw T10 m 30 aa1 [(.int 1), (.ref a1)] _
    refine st11 _ ?_
    show Sw T11 m 33 aa1 [] _
    refine XS.aloadN X11.here hx rfl (hb hby d21_33) rfl rfl ?_
    show Steps p.tables e below (T11.setTop (mkF m 34 aa1 [(.ref a1)])) _
    jvm_step X11.here [X11.here.top, hx, (hb hby d21_34), X11.method', Bd.returns, Value.isRef, FieldType.isReference]
    first | (intro acts; rw [hr _ acts rfl rfl rfl]) | rw [hr _ _ rfl rfl rfl]
    exact Steps.refl _
  · show Qrm21b Z a1 a2 w4 w8 va kb cap n vs ea ke es G1 w6 ks zs us h0 n0 _ T11.heap _
    rw [e11]
    exact ⟨rfl, N11, K11, Y10.tag iw (Keep.of_wr W11) ⟨Y10.1.1.wr W11, Y10.1.2.1.other W11 (Or.inr (slot_ne (Or.inr (ww hw 111 rfl)) (Or.inl (ww hw 141 rfl)) (by decide) (t := (.object "java/lang/StringBuilder")) (t' := .boolean) (by decide) (by decide))), Y10.1.2.2.1.other W11 (Or.inr (slot_ne (Or.inr (ww hw 130 rfl)) (Or.inl (ww hw 141 rfl)) (by decide) (t := (.object "java/util/Deque")) (t' := .boolean) (by decide) (by decide))), Fw11⟩⟩
theorem d55_0 : decode cd42 0 = .ok (.iconst 0, 1) := by decide +kernel
theorem d55_1 : decode cd42 1 = .ok (.istore_n 3, 1) := by decide +kernel
theorem d55_2 : decode cd42 2 = .ok (.iload_n 3, 1) := by decide +kernel
theorem d55_3 : decode cd42 3 = .ok (.aload_n 1, 1) := by decide +kernel
theorem d55_4 : decode cd42 4 = .ok (.invokevirtual 89, 3) := by decide +kernel
theorem d55_7 : decode cd42 7 = .ok (.if_icmp .ge 229, 3) := by decide +kernel
theorem d55_236 : decode cd42 236 = .ok (.return_, 1) := by decide +kernel
theorem ef_55 (m : MethodId) (x0 : Addr) (x1 : Addr) (x2 : Int32) : entryFrame m #[(.ref x0), (.ref x1), (.int x2)] 5 = mkF m 0 #[.val (.ref x0), .val (.ref x1), .val (.int x2), .unset, .unset] [] := by first | (simp [entryFrame, mkF, argsToLocals, Value.category]; done) | rfl
def Qrm55 (Z : State) (a1 : Addr) (a2 : Addr) (p3 : Int32) (w6 : Addr) (ks : ClassId) (us : List Value) (G1 : Int32) (h0 : Heap) (n0 : Nat) (v : Option Value) (h : Heap) (L : List Loc) : Prop := v = none ∧ Fr n0 L ∧ h = h0
set_option maxRecDepth 65536 in
set_option maxHeartbeats 40000000 in
theorem rm55 (l : Launch) (Z : State) (a0 : Array Value) (hw : HW a0 Z) (ws : List Jvm.Cond) (a1 : Addr) (a2 : Addr) (p3 : Int32) (w6 : Addr) (ks : ClassId) (us : List Value) (G1 : Int32) (h0 : Heap) (n0 : Nat) (Z0 : n0 ≤ h0.size) (SC : Sta Z h0 "java/lang/String" "COMPACT_STRINGS" "Z" (.int G1)) (P3 : ¬ (G1 = (0 : Int32))) (SS : own_S Z h0 a2 w6 ks (0 : Int32) us) (E_a2 : Exa Z h0 a2 "java/lang/String") :
    MetFree l ym43 (head1 (Jvm.Cond.code ym43 prog_100_method_9_code 5 none :: ws) rm_26) (fun a U => a = #[(.ref a1), (.ref a2), (.int p3)] ∧ Z.Warmed39 U.vm ∧ U.heap = h0) (fun _ _ _ _ _ => True) (fun _ U o U' => ∃ v L, o = .returned v ∧ Qrm55 Z a1 a2 p3 w6 ks us G1 h0 n0 v U'.heap L ∧ FrameEnd U o U' L rm_26.cells rm_26.slots) := by
  refine MetFree.of_bodySF (plainFor_of_name pn_22) hisR ?_
  intro p e s m args below meth c s₁ Bd hml0 hP hK
  obtain ⟨rfl, hZ, hh⟩ := hP
  have hx := Bd.exec
  have hby := Bd.bytes
  have hml : c.maxLocals = 5 := hml0
  have hown : s.vm.findClass "org/athenaeum/xml/XmlWriter" = some m.cls := findClass_of_methodNamed Bd.named
  have X0 : Stand p l e rm_26 s m #[(.ref a1), (.ref a2), (.int p3)] below meth c s₁ [] 0 0 := Stand.of_body Bd
  have e0 : s₁.heap = h0 := by rw [← hh, Bd.state]; rfl
  have N0 := Fr.nil n0
  let aa1 : Array Slot := #[.val (.ref a1), .val (.ref a2), .val (.int p3), .unset, .unset]
  have pre0 : ∀ t, Steps p.tables e below (s₁.setTop (mkF m 0 aa1 [])) t → Steps p.tables e below (s₁.setTop (entryFrame m #[(.ref a1), (.ref a2), (.int p3)] 5)) t := fun t k => castTop (ef_55 m a1 a2 p3) k
  obtain ⟨cq4, kq4, q4a, q4b, q4c⟩ := isOf hZ e0 E_a2
  obtain ⟨cls, As, -, Ss, Ns, -, -⟩ := id SS.2.2.2.1
  let aa2 : Array Slot := #[.val (.ref a1), .val (.ref a2), .val (.int p3), .val (.int 0), .unset]
  obtain ⟨_, _, ⟨T4, L4, k4, n4⟩, -, X4, ⟨Lc4, hQ4, l4, y4, z4⟩, st4⟩ := X0.virtualBack hx (y := ym01) (z := ym01) hown (mvT hZ (ww hw 304 rfl)) (mvT hZ (ww hw 54 rfl)) (notFace_of_selects (args := #[]) (mvT hZ (ww hw 56 rfl))) (mvT hZ (ww hw 56 rfl)) (mvT hZ (ww hw 55 rfl)) (by decide) (backOf (W := 1) (rm10 l Z a0 hw [] a2 w6 cls (0 : Int32) G1 h0 n0 Z0 SC P3 SS.2.2.1 SS.2.1 As Ss Ns SS.1) hZ (ww hw 57 rfl) (ww hw 2 rfl) (by decide) (by decide)) q4a q4c (g := (mkF m 4 aa2 [(.ref a2), (.int 0)])) rfl (by rw [hml]; rfl) (Steps.refl _) (argsL := []) (rest := [(.int 0)]) (lenOf pd_14_7 rfl) rfl (wz rfl) (hb hby d55_4) (fun _ _ => ⟨rfl, e0, (by decide : 0 + 0 ≤ _), (by decide : 0 + 0 ≤ _)⟩)
  dsimp only [Pt.U, Pt.locs, Pt.cells, Pt.slots] at X4 l4 y4 z4 st4 hQ4
  subst l4 y4 z4
  obtain ⟨rfl, N4q, e4⟩ := hQ4
  have N4 := Fr.app N0 N4q
  obtain ⟨fs, hr, hrun, hended, hW, hsame⟩ := X4.leave (v := none) (fun _ => rfl)
  refine ⟨_, _, pre0 _ ?_, hrun, hended, _, _, rfl, ?_, ⟨_, rfl⟩, hW, hsame.mono (by decide) (by decide)⟩
  · show Sw s₁ m 0 aa1 [] _
    refine XS.iconst X0.here hx rfl (hb hby d55_0) ?_
    show Sw s₁ m 1 aa1 [(.int 0)] _
    refine XS.istoreN X0.here hx rfl (hb hby d55_1) rfl (l' := aa2) rfl ?_
    show Sw s₁ m 2 aa2 [] _
    refine XS.iloadN X0.here hx rfl (hb hby d55_2) rfl ?_
    show Sw s₁ m 3 aa2 [(.int 0)] _
    refine XS.aloadN X0.here hx rfl (hb hby d55_3) rfl rfl ?_
    show Sw s₁ m 4 aa2 [(.ref a2), (.int 0)] _
    refine st4.trans ?_
    show Sw T4 m 7 aa2 [(.int 0), (.int 0)] _
    refine XS.icmpYes X4.here hx rfl (pc0 := 7) (pc' := 236) rfl (hb hby d55_7) rfl (flt (by decide : ¬ ((0 : Int32) < (0 : Int32)))).2.1 (by decide) (by decide) ?_
    show Sw T4 m 236 aa2 [] _
    exact X4.returnOut hx Bd.returns (hb hby d55_236) hr
  · show Qrm55 Z a1 a2 p3 w6 ks us G1 h0 n0 _ T4.heap _
    exact ⟨rfl, N4, e4⟩
theorem d54_0 : decode cd43 0 = .ok (.aload_n 0, 1) := by decide +kernel
theorem d54_1 : decode cd43 1 = .ok (.invokevirtual 27, 3) := by decide +kernel
theorem d54_4 : decode cd43 4 = .ok (.aload_n 0, 1) := by decide +kernel
theorem d54_5 : decode cd43 5 = .ok (.aload_n 1, 1) := by decide +kernel
theorem d54_6 : decode cd43 6 = .ok (.iconst 0, 1) := by decide +kernel
theorem d54_7 : decode cd43 7 = .ok (.invokevirtual 56, 3) := by decide +kernel
theorem d54_10 : decode cd43 10 = .ok (.aload_n 0, 1) := by decide +kernel
theorem d54_11 : decode cd43 11 = .ok (.areturn, 1) := by decide +kernel
theorem pd_54_35 : parseMethodDescriptor "(Ljava/lang/String;Z)V" = some ⟨[(.object "java/lang/String"), .boolean], none⟩ := by decide +kernel
def Qrm54 (Z : State) (a1 : Addr) (a2 : Addr) (w4 q : Addr) (va : Addr) (kb : ClassId) (cap n : Int32) (vs : List Value) (ea : Addr) (ke : ClassId) (hd : Int32) (es : List Value) (G1 : Int32) (w6 : Addr) (ks : ClassId) (us : List Value) (h0 : Heap) (n0 : Nat) (v : Option Value) (h : Heap) (L : List Loc) : Prop := v = some (.ref a1) ∧ Fr n0 L ∧ Keep h0 h [a1, w4, va] ∧ own_X Z h a1 w4 q va kb cap (n + (1 : Int32)) (vs ++ [.int ((62 : Int32).toInt8.toInt32)]) ea ke hd es (0 : Int32)
set_option maxRecDepth 65536 in
set_option maxHeartbeats 40000000 in
theorem rm54 (l : Launch) (Z : State) (a0 : Array Value) (hw : HW a0 Z) (ws : List Jvm.Cond) (a1 : Addr) (a2 : Addr) (w4 q : Addr) (va : Addr) (kb : ClassId) (cap n : Int32) (vs : List Value) (ea : Addr) (ke : ClassId) (hd : Int32) (es : List Value) (G1 : Int32) (w6 : Addr) (ks : ClassId) (us : List Value) (h0 : Heap) (n0 : Nat) (Z0 : n0 ≤ h0.size) (SC : Sta Z h0 "java/lang/String" "COMPACT_STRINGS" "Z" (.int G1)) (P3 : ¬ (G1 = (0 : Int32))) (Y0 : own_X Z h0 a1 w4 q va kb cap n vs ea ke hd es (1 : Int32)) (SS : own_S Z h0 a2 w6 ks (0 : Int32) us) (RR : own_R cap n (1 : Int32)) (hz : (0 : Int32).toNatClampNeg ≠ cap.toNatClampNeg) (g_a1 : n0 ≤ a1) (g_w4 : n0 ≤ w4) (g_va : n0 ≤ va) (E_a1 : Exa Z h0 a1 "org/athenaeum/xml/XmlWriter") :
    MetFree l ym44 (head1 (Jvm.Cond.code ym44 prog_100_method_4_code 2 (some (.object "org/athenaeum/xml/XmlWriter")) :: ws) rm_27) (fun a U => a = #[(.ref a1), (.ref a2)] ∧ Z.Warmed39 U.vm ∧ U.heap = h0) (fun _ _ _ _ _ => True) (fun _ U o U' => ∃ v L, o = .returned v ∧ Qrm54 Z a1 a2 w4 q va kb cap n vs ea ke hd es G1 w6 ks us h0 n0 v U'.heap L ∧ FrameEnd U o U' L rm_27.cells rm_27.slots) := by
  refine MetFree.of_bodySF (plainFor_of_name pn_22) hisR ?_
  intro p e s m args below meth c s₁ Bd hml0 hP hK
  obtain ⟨rfl, hZ, hh⟩ := hP
  have hx := Bd.exec
  have hby := Bd.bytes
  have hml : c.maxLocals = 2 := hml0
  have hown : s.vm.findClass "org/athenaeum/xml/XmlWriter" = some m.cls := findClass_of_methodNamed Bd.named
  have X0 : Stand p l e rm_27 s m #[(.ref a1), (.ref a2)] below meth c s₁ [] 0 0 := Stand.of_body Bd
  have e0 : s₁.heap = h0 := by rw [← hh, Bd.state]; rfl
  have N0 := Fr.nil n0
  let aa1 : Array Slot := #[.val (.ref a1), .val (.ref a2)]
  have pre0 : ∀ t, Steps p.tables e below (s₁.setTop (mkF m 0 aa1 [])) t → Steps p.tables e below (s₁.setTop (entryFrame m #[(.ref a1), (.ref a2)] 2)) t := fun t k => castTop (ef_17 m a1 a2) k
  obtain ⟨cq3, q3, q3'⟩ := E_a1.cell
  have iw : own_I Z a0 := ⟨(ww hw 1 rfl), (ww hw 31 rfl), (ww hw 38 rfl), (ww hw 113 rfl)⟩
  obtain ⟨_, _, ⟨T3, L3, k3, n3⟩, -, X3, ⟨Lc3, hQ3, l3, y3, z3⟩, st3⟩ := X0.privateBack hx (y := ym40) hown (mvT hZ (ww hw 136 rfl)) (mvT hZ (ww hw 137 rfl)) (own_self (own_nf (args := #[]) (mvT hZ (ww hw 134 rfl)) rfl) (Cond.privateMethod_at (mvP hZ (ww hw 138 rfl) (args := #[]))) (mvT hZ (ww hw 137 rfl)) (by decide)) (Cond.privateMethod_at (mvP hZ (ww hw 138 rfl) (args := #[]))) (mvT hZ (ww hw 139 rfl)) (by decide) (backOf (W := 0) (rm22o l Z a0 hw [] a1 w4 q va kb cap n vs ea ke hd es G1 h0 n0 Z0 SC P3 Y0 RR g_w4 g_va Y0.1.2.2.2 Y0.1.2.1 Y0.2.1.1 Y0.1.1 g_a1 (by decide)) hZ (ww hw 139 rfl) (ww hw 32 rfl) (by decide) (by decide)) (g := (mkF m 1 aa1 [(.ref a1)])) rfl (by rw [hml]; rfl) (Steps.refl _) (a := a1) (by rw [e0]; exact q3) q3' (argsL := []) (rest := []) (lenOf pd_19_2 rfl) rfl (wz rfl) (hb hby d54_1) (fun _ _ => ⟨rfl, e0, (by decide : 0 + 0 ≤ _), (by decide : 0 + 0 ≤ _)⟩)
  dsimp only [Pt.U, Pt.locs, Pt.cells, Pt.slots] at X3 l3 y3 z3 st3 hQ3
  subst l3 y3 z3
  obtain ⟨rfl, N3q, K3, Y3⟩ := hQ3
  have SC3 := own_staX SC Y0 K3 (by simp)
  have SS3 := SS.kX Y0 iw hz (by decide) K3 (by simp)
  have N3 := Fr.app N0 N3q
  obtain ⟨cq4, q4, q4'⟩ := Y3.1.1.cell
  obtain ⟨_, _, ⟨T4, L4, k4, n4⟩, -, X4, ⟨Lc4, hQ4, l4, y4, z4⟩, st4⟩ := X3.privateBack hx (y := ym43) hown (mvT hZ (ww hw 300 rfl)) (mvT hZ (ww hw 301 rfl)) (own_self (own_nf (args := #[]) (mvT hZ (ww hw 134 rfl)) rfl) (Cond.privateMethod_at (mvP hZ (ww hw 302 rfl) (args := #[]))) (mvT hZ (ww hw 301 rfl)) (by decide)) (Cond.privateMethod_at (mvP hZ (ww hw 302 rfl) (args := #[]))) (mvT hZ (ww hw 303 rfl)) (by decide) (backOf (W := 0) (rm55 l Z a0 hw [] a1 a2 (0 : Int32) w6 ks us G1 T3.heap n0 (Nat.le_trans Z0 K3.1) SC3 P3 SS3 SS3.1) hZ (ww hw 303 rfl) (ww hw 32 rfl) (by decide) (by decide)) (g := (mkF m 7 aa1 [(.int 0), (.ref a2), (.ref a1)])) rfl (by rw [hml]; rfl) (Steps.refl _) (a := a1) q4 q4' (argsL := [(.ref a2), (.int 0)]) (rest := []) (lenOf pd_54_35 rfl) rfl (wz rfl) (hb hby d54_7) (fun _ _ => ⟨rfl, rfl, (by decide : 0 + 0 ≤ _), (by decide : 0 + 0 ≤ _)⟩)
  dsimp only [Pt.U, Pt.locs, Pt.cells, Pt.slots] at X4 l4 y4 z4 st4 hQ4
  subst l4 y4 z4
  obtain ⟨rfl, N4q, e4⟩ := hQ4
  have N4 := Fr.app N3 N4q
  obtain ⟨fs, hr, hrun, hended, hW, hsame⟩ := X4.leave (v := some (.ref a1)) (fun h => by rw [Bd.returns] at h; cases h)
  refine ⟨_, _, pre0 _ ?_, hrun, hended, _, _, rfl, ?_, ⟨_, rfl⟩, hW, hsame.mono (by decide) (by decide)⟩
  · show Sw s₁ m 0 aa1 [] _
    refine XS.aloadN X0.here hx rfl (hb hby d54_0) rfl rfl ?_
    show Sw s₁ m 1 aa1 [(.ref a1)] _
    refine st3.trans ?_
    show Sw T3 m 4 aa1 [] _
    refine XS.aloadN X3.here hx rfl (hb hby d54_4) rfl rfl ?_
    show Sw T3 m 5 aa1 [(.ref a1)] _
    refine XS.aloadN X3.here hx rfl (hb hby d54_5) rfl rfl ?_
    show Sw T3 m 6 aa1 [(.ref a2), (.ref a1)] _
    refine XS.iconst X3.here hx rfl (hb hby d54_6) ?_
    show Sw T3 m 7 aa1 [(.int 0), (.ref a2), (.ref a1)] _
    refine st4.trans ?_
    show Sw T4 m 10 aa1 [] _
    refine XS.aloadN X4.here hx rfl (hb hby d54_10) rfl rfl ?_
    show Steps p.tables e below (T4.setTop (mkF m 11 aa1 [(.ref a1)])) _
    jvm_step X4.here [X4.here.top, hx, (hb hby d54_11), X4.method', Bd.returns, Value.isRef, FieldType.isReference]
    first | (intro acts; rw [hr _ acts rfl rfl rfl]) | rw [hr _ _ rfl rfl rfl]
    exact Steps.refl _
  · show Qrm54 Z a1 a2 w4 q va kb cap n vs ea ke hd es G1 w6 ks us h0 n0 _ T4.heap _
    rw [e4]; exact ⟨rfl, N4, K3, Y3⟩
abbrev own_EL : List (String × Nat) := [("org/athenaeum/xml/XmlWriter", 9), ("org/athenaeum/xml/XmlWriter", 66), ("org/athenaeum/xml/XmlWriter", 68), ("org/athenaeum/xml/XmlWriterEndPinLaw", 23)]
def own_len (cap : Int32) : Prop := cap.toNatClampNeg ≠ 39 ∧ cap.toNatClampNeg ≠ 2 ∧ cap.toNatClampNeg ≠ 0
section
variable {Z : State} {a0 : Array Value} {vm : Vm} {h : Heap} {w b q va ea x : Addr} {kb ke k : ClassId} {cap n hd f : Int32} {vs es : List Value} {d : Value} {l : List Addr}
theorem own_EW (hw : HW a0 Z) : EW Z a0 own_EL :=
  EW.cons (ww hw 40 rfl) (by decide) (EW.cons (ww hw 213 rfl) (by decide) (EW.cons (ww hw 305 rfl) (by decide) (EW.cons (ww hw 294 rfl) (by decide) EW.nil)))
theorem own_text (hw : HW a0 Z) : ∀ p ∈ own_EL, ∃ t : String, (Jvm.Cond.stringLink p.1 p.2 t).before a0 Z = true ∧ (∀ c ∈ t.toList, c.toNat < 256) ∧ (t.toList.length = 39 ∨ t.toList.length = 2 ∨ t.toList.length = 0) := by
  intro p hp
  simp only [own_EL, List.mem_cons, List.not_mem_nil, or_false] at hp
  rcases hp with rfl | rfl | rfl | rfl
  · exact ⟨_, hw _ (wi 40 rfl), by decide, by decide⟩
  · exact ⟨_, hw _ (wi 213 rfl), by decide, by decide⟩
  · exact ⟨_, hw _ (wi 305 rfl), by decide, by decide⟩
  · exact ⟨_, hw _ (wi 294 rfl), by decide, by decide⟩
/-- a byte[] whose length is none of the constants' is no constant's -/
theorem own_safe (hw : HW a0 Z) (hZ : Z.Warmed39 vm) (V : Arv Z h x k .byte cap vs d) (hc : own_len cap) : Safe Z own_EL vm h x := fun B => by
  obtain ⟨cl, A, -, hsz, -⟩ := V
  obtain ⟨A1, ⟨-, kA, hkA, compA, hkindA⟩, -⟩ := A
  obtain ⟨kA', hkA', ekA⟩ := hZ.alike.2.2 _ _ hkA
  obtain ⟨p, hp, u, a, hb, q, -, F, rfl | rfl⟩ := B
  · cases (show h[q.sa]? = some q.sC from F.ha).symm.trans A1
    obtain ⟨cS, ⟨-, -, e⟩, ⟨kS, g1, g2, -⟩, -⟩ := F
    subst e
    cases (show vm.classes[q.sC.cls]? = some kS from g1).symm.trans hkA'
    rw [ekA] at g2
    have := hkindA.symm.trans g2
    cases this
  · cases (show h[q.sd]? = some q.SA from F.hd).symm.trans A1
    obtain ⟨t, wt, hlat, hlen⟩ := own_text hw p hp
    obtain ⟨c, kc, cf, i, b1, b2, b3, b4, b5, -⟩ := hb
    obtain ⟨k', cf', i', units, hk', hcf', hp', hu', -, htext, -⟩ := Cond.stringLink_spec (s := Wst Z vm h) b1 (mvS (s := Wst Z vm h) (args := a0) hZ wt)
    cases (show vm.classes[c]? = some k' from hk').symm.trans b2
    cases hcf'.symm.trans b3
    cases hp'.symm.trans b4
    cases hu'.symm.trans b5
    obtain ⟨cS, -, -, -, hby⟩ := F
    have hsize : q.SA.slots.size = t.toList.length := by
      rw [hby, Jvm.Free.SBG.stringBytes_lat (Jvm.ClassFile.lat_of_text htext hlat), Array.size_map, ← Array.length_toList, Jvm.ClassFile.units_of_text htext hlat, List.length_map]
    rw [hsize] at hsz
    obtain ⟨c1, c2, c3⟩ := hc
    omega
theorem own_safeX (hw : HW a0 Z) (X : own_X Z h w b q va kb cap n vs ea ke hd es f) (hZ : Z.Warmed39 vm) (hc : own_len cap) (hl : ∀ x ∈ l, x = w ∨ x = b ∨ x = va ∨ x = q ∨ x = ea) : ∀ x ∈ l, Safe Z own_EL vm h x := fun x hx => by
  rcases hl _ hx with e | e | e | e | e <;> subst e
  · exact Safe.exa hZ.alike X.1.1 (by decide) (by decide)
  · exact Safe.exa hZ.alike X.2.1.1 (by decide) (by decide)
  · exact own_safe hw hZ X.2.1.2.2.2.2.1 hc
  · exact Safe.exa hZ.alike X.2.2.1.1 (by decide) (by decide)
  · exact Safe.arv hZ.alike X.2.2.1.2.2.2.2.1 (by decide)
end
abbrev own_by (cs : List Int32) : List Value := (cs.map fun c => c.toInt8.toInt32).map Value.int
abbrev own_decl : List Value := own_by [60, 63, 120, 109, 108, 32, 118, 101, 114, 115, 105, 111, 110, 61, 34, 49, 46, 48, 34, 32, 101, 110, 99, 111, 100, 105, 110, 103, 61, 34, 85, 84, 70, 45, 56, 34, 63, 62, 10]
abbrev own_sl : List Value := own_by [47, 62]
abbrev own_lt : List Value := own_by [60, 47]
theorem d7_0 : decode cd44 0 = .ok (.aload_n 0, 1) := by decide +kernel
theorem d7_1 : decode cd44 1 = .ok (.invokespecial 1, 3) := by decide +kernel
theorem d7_4 : decode cd44 4 = .ok (.aload_n 0, 1) := by decide +kernel
theorem d7_5 : decode cd44 5 = .ok (.new 7, 3) := by decide +kernel
theorem d7_8 : decode cd44 8 = .ok (.dup, 1) := by decide +kernel
theorem d7_9 : decode cd44 9 = .ok (.ldc 9, 2) := by decide +kernel
theorem d7_11 : decode cd44 11 = .ok (.invokespecial 11, 3) := by decide +kernel
theorem d7_14 : decode cd44 14 = .ok (.putfield 14, 3) := by decide +kernel
theorem d7_17 : decode cd44 17 = .ok (.aload_n 0, 1) := by decide +kernel
theorem d7_18 : decode cd44 18 = .ok (.new 20, 3) := by decide +kernel
theorem d7_21 : decode cd44 21 = .ok (.dup, 1) := by decide +kernel
theorem d7_22 : decode cd44 22 = .ok (.invokespecial 22, 3) := by decide +kernel
theorem d7_25 : decode cd44 25 = .ok (.putfield 23, 3) := by decide +kernel
theorem d7_28 : decode cd44 28 = .ok (.return_, 1) := by decide +kernel
theorem own_Bwr {Z : State} {h h' : Heap} {b va a : Addr} {k : ClassId} {cap n : Int32} {vs : List Value} {sl : Nat} {v : Value} (B : own_B Z h b va k cap n vs) (W : Wr h h' a sl v) (q1 : a ≠ b) (q2 : a ≠ va) : own_B Z h' b va k cap n vs := B.keep (Keep.of_wr W) (own_nin1 q1.symm) (own_nin1 q2.symm)
theorem own_Dwr {Z : State} {h h' : Heap} {q ea a : Addr} {k : ClassId} {hd : Int32} {es : List Value} {sl : Nat} {v : Value} (D : own_D Z h q ea k hd es) (W : Wr h h' a sl v) (q1 : a ≠ q) (q2 : a ≠ ea) : own_D Z h' q ea k hd es := D.keep (Keep.of_wr W) (own_nin1 q1.symm) (own_nin1 q2.symm)
def Qrm7 (Z : State) (a1 : Addr) (G1 : Int32) (h0 : Heap) (n0 : Nat) (v : Option Value) (h : Heap) (L : List Loc) : Prop := ∃ b q va kb ea ke, (h0.size ≤ b ∧ h0.size ≤ q ∧ h0.size ≤ va ∧ h0.size ≤ ea) ∧ v = none ∧ Fr n0 L ∧ Keep h0 h [a1] ∧ own_X Z h a1 b q va kb (55 : Int32) (39 : Int32) own_decl ea ke (0 : Int32) (List.replicate 17 .null) (0 : Int32)
set_option maxRecDepth 65536 in
set_option maxHeartbeats 40000000 in
theorem rm7 (l : Launch) (Z : State) (a0 : Array Value) (hw : HW a0 Z) (ws : List Jvm.Cond) (a1 : Addr) (G1 : Int32) (h0 : Heap) (n0 : Nat) (Z0 : n0 ≤ h0.size) (SC : Sta Z h0 "java/lang/String" "COMPACT_STRINGS" "Z" (.int G1)) (P3 : ¬ (G1 = (0 : Int32))) (Ft : Fld Z h0 a1 "org/athenaeum/xml/XmlWriter" "inStartTag" "Z" (.int 0)) (E_a1 : Exa Z h0 a1 "org/athenaeum/xml/XmlWriter") (F_out_a1 : Fld Z h0 a1 "org/athenaeum/xml/XmlWriter" "out" "Ljava/lang/StringBuilder;" .null) (g_a1 : n0 ≤ a1) (F_open_a1 : Fld Z h0 a1 "org/athenaeum/xml/XmlWriter" "open" "Ljava/util/Deque;" .null) :
    MetFree l ym45 (head1 (Jvm.Cond.code ym45 prog_100_method_1_code 1 none :: ws) rm_28) (fun a U => a = #[(.ref a1)] ∧ Z.Warmed39 U.vm ∧ U.heap = h0 ∧ CHv Z own_EL U.vm h0) (fun _ _ _ _ _ => True) (fun _ U o U' => ∃ v L, o = .returned v ∧ Qrm7 Z a1 G1 h0 n0 v U'.heap L ∧ CHr Z own_EL U.vm U.heap U'.vm U'.heap ∧ ReturnedEndW U o U' L rm_28.cells rm_28.slots) := by
  refine MetFree.of_bodySF (plainFor_of_name pn_22) hisR ?_
  intro p e s m args below meth c s₁ Bd hml0 hP hK
  obtain ⟨rfl, hZ, hh, CH0⟩ := hP
  have S0 : s.Since s.vm h0.size := (State.WarmedH.refl s).since _
  have C0 : CHr Z own_EL s.vm h0 s.vm h0 := CHr.refl CH0
  have hEL := own_EW hw
  have wS : ∀ a ∈ Bundle.stringAtoms, a.before a0 Z = true := fun d hd => hw d ((by decide +kernel : ∀ d ∈ Bundle.stringAtoms, d ∈ tables_1) d hd)
  have hx := Bd.exec
  have hby := Bd.bytes
  have hml : c.maxLocals = 1 := hml0
  have hown : s.vm.findClass "org/athenaeum/xml/XmlWriter" = some m.cls := findClass_of_methodNamed Bd.named
  have hnm := (name_of_methodNamed Bd.named Bd.method).1
  have X0 : Stand p l e rm_28 s m #[(.ref a1)] below meth c s₁ [] 0 0 := Stand.of_body Bd
  have e0 : s₁.heap = h0 := by rw [← hh, Bd.state]; rfl
  have N0 := Fr.nil n0
  let aa1 : Array Slot := #[.val (.ref a1)]
  have pre0 : ∀ t, Steps p.tables e below (s₁.setTop (mkF m 0 aa1 [])) t → Steps p.tables e below (s₁.setTop (entryFrame m #[(.ref a1)] 1)) t := fun t k => castTop (ef_11 m a1) k
  obtain ⟨T2, X2, e2, st2⟩ := initO X0 hx hZ hown (ww hw 36 rfl) (ww hw 12 rfl) (ww hw 13 rfl) e0 (g := (mkF m 1 aa1 [(.ref a1)])) rfl (by rw [hml]; rfl) rfl (hb hby d7_1) (by decide) (W := 0) (wz rfl) (by decide)
  obtain ⟨T3, h3, X3, e3, E3, A3, D3, -, st3⟩ := newO X2 hx hZ hown (ww hw 37 rfl) (ww hw 38 rfl) (ww hw 39 rfl) e2 (g := (mkF m 5 aa1 [(.ref a1)])) rfl (hb hby d7_5) (by decide) (by decide)
  obtain ⟨b3, g3⟩ : ∃ z, z = h0.size := ⟨_, rfl⟩
  rw [← g3] at A3 D3 st3
  have F_coder_b3 : Fld Z h3 b3 "java/lang/AbstractStringBuilder" "coder" "B" (.int 0) := D3 (Or.inl (ww hw 66 rfl)) (ty := .byte) (by decide)
  have F_value_b3 : Fld Z h3 b3 "java/lang/AbstractStringBuilder" "value" "[B" .null := D3 (Or.inl (ww hw 68 rfl)) (ty := (.array .byte)) (by decide)
  have F_count_b3 : Fld Z h3 b3 "java/lang/AbstractStringBuilder" "count" "I" (.int 0) := D3 (Or.inl (ww hw 84 rfl)) (ty := .int) (by decide)
  have E_b3 := A3
  have g_b3 : n0 ≤ b3 := Nat.le_trans Z0 (Nat.le_of_eq g3.symm)
  have sz_b3 : h0.size ≤ b3 := (Nat.le_trans (Keep.refl h0 [a1]).1 (Nat.le_of_eq g3.symm))
  have K3 : Keep h0 h3 [a1] := (Keep.refl h0 [a1]).ext E3
  obtain ⟨la4, T4, h4, k4, lb4, lk4, X4, e4, E4, S4, kk4, hZ4, hown4, El4, Fc4, Fv4, Vl4, lt4, ltb4, C4, -, ns4, st4⟩ := ldcCH (s := s) (vm0 := s.vm) X3 hx hZ hown (ww hw 40 rfl) wS e3 S0 E3.1 hEL (by simp) (C0.trans (CHr.ext E3 C0.1)).1 (text := "<?xml version=\"1.0\" encoding=\"UTF-8\"?>\n") (vs := own_decl) (z := (39 : Int32)) ⟨by decide, by rfl⟩ (by decide) rfl (g := (mkF m 9 aa1 [(.ref b3), (.ref b3), (.ref a1)])) rfl (hb hby d7_9) (n := 156) (by decide) (by decide) (by decide) (by decide)
  have K4 : Keep h0 h4 [a1] := K3.ext E4
  have ne3 : a1 ≠ b3 := Nat.ne_of_lt (Nat.lt_of_lt_of_le E_a1.lt sz_b3)
  have D4 := (C0.trans (CHr.ext E3 C0.1)).trans C4
  obtain ⟨_, _, ⟨T5, L5, k5, n5⟩, -, X5, ⟨Lc5, hQ5, l5, y5, z5⟩, st5⟩ := X4.specialBack hx (y := ym19) rfl hown4 (mvT hZ4 (ww hw 43 rfl)) (mvT hZ4 (ww hw 44 rfl)) (mvT hZ4 (ww hw 45 rfl)) (by decide) (backOf (W := 2) (rm8 l Z a0 hw [] b3 la4 lb4 lk4 own_decl G1 h4 n0 (Nat.le_trans (Nat.le_trans Z0 E3.1) E4.1) ((SC.ext E3).ext E4) P3 ⟨El4, Fv4, Fc4, Vl4, rfl⟩ (E_b3.ext E4) g_b3 (F_count_b3.ext E4) (F_coder_b3.ext E4) (F_value_b3.ext E4)) hZ4 (ww hw 45 rfl) (ww hw 39 rfl) (by decide) (by decide)) (g := (mkF m 11 aa1 [(.ref la4), (.ref b3), (.ref b3), (.ref a1)])) rfl (by rw [hml]; rfl) (Steps.refl _) (a := b3) (argsL := [(.ref la4)]) (rest := [(.ref b3), (.ref a1)]) (lenOf pd_16_6 rfl) rfl (wz rfl) (hb hby d7_11) (fun _ _ => ⟨rfl, e4, (by decide : 3 + 1 ≤ _), (by decide : 164 + 55 ≤ _)⟩)
  dsimp only [Pt.U, Pt.locs, Pt.cells, Pt.slots] at X5 l5 y5 z5 st5 hQ5
  subst l5 y5 z5
  obtain ⟨x5, k5', s5, rfl, N5q, K5, B5⟩ := hQ5
  have P5 : Keep h0 T5.heap [a1] := K4.trans K5 (allS (Or.inr sz_b3) all0)
  have D5 := D4.trans (CHr.keep K5 (sfS (Safe.exa hZ4.alike (E_b3.ext E4) (by decide) (by decide)) sf0) D4.1)
  have N5 := Fr.app N0 N5q
  obtain ⟨T6, h6, X6, e6, W6, st6⟩ := putF X5 hx hZ4 hown4 (host := "") (Or.inl (ww hw 110 rfl)) Via.refl rfl (((F_out_a1.ext E3).ext E4).keep K5 (own_nin1 ne3)) (((E_a1.ext E3).ext E4).keep K5) (Or.inr ⟨(ww hw 111 rfl), rfl, hnm⟩) (ww hw 31 rfl) (ty := (.object "java/lang/StringBuilder")) (by decide) rfl rfl (g := (mkF m 14 aa1 [(.ref b3), (.ref a1)])) rfl rfl (hb hby d7_14)
  have Fw6 := (((F_out_a1.ext E3).ext E4).keep K5 (own_nin1 ne3)).same W6
  have K6 : Keep h0 h6 [a1] := P5.wr W6 (Or.inl (wi 0 rfl))
  have N6 := Fr.snoc X6 N5 g_a1
  have D6 := D5.trans (CHr.wr W6 (Safe.exa hZ4.alike (((E_a1.ext E3).ext E4).keep K5) (by decide) (by decide)) D5.1)
  obtain ⟨T7, h7, X7, e7, E7, A7, D7, -, st7⟩ := newO X6 hx hZ4 hown4 (ww hw 112 rfl) (ww hw 113 rfl) (ww hw 114 rfl) e6 (g := (mkF m 18 aa1 [(.ref a1)])) rfl (hb hby d7_18) (by decide) (by decide)
  obtain ⟨b7, g7⟩ : ∃ z, z = h6.size := ⟨_, rfl⟩
  rw [← g7] at A7 D7 st7
  have F_elements_b7 : Fld Z h7 b7 "java/util/ArrayDeque" "elements" "[Ljava/lang/Object;" .null := D7 (Or.inl (ww hw 128 rfl)) (ty := (.array (.object "java/lang/Object"))) (by decide)
  have F_head_b7 : Fld Z h7 b7 "java/util/ArrayDeque" "head" "I" (.int 0) := D7 (Or.inl (ww hw 176 rfl)) (ty := .int) (by decide)
  have F_tail_b7 : Fld Z h7 b7 "java/util/ArrayDeque" "tail" "I" (.int 0) := D7 (Or.inl (ww hw 182 rfl)) (ty := .int) (by decide)
  have E_b7 := A7
  have g_b7 : n0 ≤ b7 := Nat.le_trans (Nat.le_trans (Nat.le_trans (Nat.le_trans (Nat.le_trans Z0 E3.1) E4.1) K5.1) (Keep.of_wr W6).1) (Nat.le_of_eq g7.symm)
  have sz_b7 : h0.size ≤ b7 := (Nat.le_trans K6.1 (Nat.le_of_eq g7.symm))
  have K7 : Keep h0 h7 [a1] := K6.ext E7
  have ne7 : a1 ≠ b7 := Nat.ne_of_lt (Nat.lt_of_lt_of_le E_a1.lt sz_b7)
  have D7 := D6.trans (CHr.ext E7 D6.1)
  obtain ⟨_, _, ⟨T8, L8, k8, n8⟩, -, X8, ⟨Lc8, hQ8, l8, y8, z8⟩, st8⟩ := X7.specialBack hx (y := ym30) rfl hown4 (mvT hZ4 (ww hw 115 rfl)) (mvT hZ4 (ww hw 116 rfl)) (mvT hZ4 (ww hw 117 rfl)) (by decide) (backOf (W := 2) (rm19 l Z a0 hw [] b7 h7 n0 (Nat.le_trans Z0 K7.1) F_head_b7 F_tail_b7 E_b7 F_elements_b7 g_b7) hZ4 (ww hw 117 rfl) (ww hw 114 rfl) (by decide) (by decide)) (g := (mkF m 22 aa1 [(.ref b7), (.ref b7), (.ref a1)])) rfl (by rw [hml]; rfl) (Steps.refl _) (a := b7) (argsL := []) (rest := [(.ref b7), (.ref a1)]) (lenOf pd_19_2 rfl) rfl (wz rfl) (hb hby d7_22) (fun _ _ => ⟨rfl, e7, (by decide : 5 + 1 ≤ _), (by decide : 222 + 17 ≤ _)⟩)
  dsimp only [Pt.U, Pt.locs, Pt.cells, Pt.slots] at X8 l8 y8 z8 st8 hQ8
  subst l8 y8 z8
  obtain ⟨x8, k8', s8, rfl, N8q, K8, D8q⟩ := hQ8
  have P8 : Keep h0 T8.heap [a1] := K7.trans K8 (allS (Or.inr sz_b7) all0)
  have D8 := D7.trans (CHr.keep K8 (sfS (Safe.exa hZ4.alike E_b7 (by decide) (by decide)) sf0) D7.1)
  have N8 := Fr.app N6 N8q
  obtain ⟨T9, h9, X9, e9, W9, st9⟩ := putF X8 hx hZ4 hown4 (host := "") (Or.inl (ww hw 129 rfl)) Via.refl rfl ((((((F_open_a1.ext E3).ext E4).keep K5 (own_nin1 ne3)).other W6 (Or.inr (slot_ne (Or.inr (ww hw 130 rfl)) (Or.inr (ww hw 111 rfl)) (by decide) (t := (.object "java/util/Deque")) (t' := (.object "java/lang/StringBuilder")) (by decide) (by decide)))).ext E7).keep K8 (own_nin1 ne7)) ((((((E_a1.ext E3).ext E4).keep K5).wr W6).ext E7).keep K8) (Or.inr ⟨(ww hw 130 rfl), rfl, hnm⟩) (ww hw 31 rfl) (ty := (.object "java/util/Deque")) (by decide) rfl rfl (g := (mkF m 25 aa1 [(.ref b7), (.ref a1)])) rfl rfl (hb hby d7_25)
  have Fw9 := ((((((F_open_a1.ext E3).ext E4).keep K5 (own_nin1 ne3)).other W6 (Or.inr (slot_ne (Or.inr (ww hw 130 rfl)) (Or.inr (ww hw 111 rfl)) (by decide) (t := (.object "java/util/Deque")) (t' := (.object "java/lang/StringBuilder")) (by decide) (by decide)))).ext E7).keep K8 (own_nin1 ne7)).same W9
  have K9 : Keep h0 h9 [a1] := P8.wr W9 (Or.inl (wi 0 rfl))
  have N9 := Fr.snoc X9 N8 g_a1
  have E8 := (((((E_a1.ext E3).ext E4).keep K5).wr W6).ext E7).keep K8
  have D9 := D8.trans (CHr.wr W9 (Safe.exa hZ4.alike E8 (by decide) (by decide)) D8.1)
  obtain ⟨fs, hr, hrun, hended, hRE⟩ := X9.leaveW S4 (by rw [e9]; have := K5.1; have := (Keep.of_wr W6).1; have := E7.1; have := K8.1; have := (Keep.of_wr W9).1; omega) (v := none) (fun _ => rfl)
  refine ⟨_, _, pre0 _ ?_, hrun, hended, _, _, rfl, ?_, ?_, hRE.1, hRE.2.1, hRE.2.2.1, hRE.2.2.2.mono (by decide) (by decide)⟩
  · show Sw s₁ m 0 aa1 [] _
    refine XS.aloadN X0.here hx rfl (hb hby d7_0) rfl rfl ?_
    show Sw s₁ m 1 aa1 [(.ref a1)] _
    refine st2 _ ?_
    show Sw T2 m 4 aa1 [] _
    refine XS.aloadN X2.here hx rfl (hb hby d7_4) rfl rfl ?_
    show Sw T2 m 5 aa1 [(.ref a1)] _
    refine st3 _ ?_
    show Sw T3 m 8 aa1 [(.ref b3), (.ref a1)] _
    refine XS.dup X3.here hx rfl (hb hby d7_8) rfl rfl ?_
    show Sw T3 m 9 aa1 [(.ref b3), (.ref b3), (.ref a1)] _
    refine st4 _ ?_
    show Sw T4 m 11 aa1 [(.ref la4), (.ref b3), (.ref b3), (.ref a1)] _
    refine st5.trans ?_
    show Sw T5 m 14 aa1 [(.ref b3), (.ref a1)] _
    refine st6 _ ?_
    show Sw T6 m 17 aa1 [] _
    refine XS.aloadN X6.here hx rfl (hb hby d7_17) rfl rfl ?_
    show Sw T6 m 18 aa1 [(.ref a1)] _
    refine st7 _ ?_
    show Sw T7 m 21 aa1 [(.ref b7), (.ref a1)] _
    refine XS.dup X7.here hx rfl (hb hby d7_21) rfl rfl ?_
    show Sw T7 m 22 aa1 [(.ref b7), (.ref b7), (.ref a1)] _
    refine st8.trans ?_
    show Sw T8 m 25 aa1 [(.ref b7), (.ref a1)] _
    refine st9 _ ?_
    show Sw T9 m 28 aa1 [] _
    exact X9.returnOut hx Bd.returns (hb hby d7_28) hr
  · show Qrm7 Z a1 G1 h0 n0 _ T9.heap _
    rw [e9]
    have nbq : b3 ∉ [b7] := own_nin1 (Nat.ne_of_lt (Nat.lt_of_lt_of_le (B5.1.wr W6).lt (Nat.le_of_eq g7.symm)))
    have nvq : x5 ∉ [b7] := own_nin1 (Nat.ne_of_lt (Nat.lt_of_lt_of_le (B5.2.2.2.2.1.other W6 (Nat.ne_of_gt (Nat.lt_of_lt_of_le E_a1.lt (Nat.le_trans K4.1 s5)))).lt (Nat.le_of_eq g7.symm)))
    exact ⟨b3, b7, x5, k5', x8, k8', ⟨sz_b3, sz_b7, Nat.le_trans K4.1 s5, Nat.le_trans K7.1 s8⟩, rfl, N9, K9, ⟨E8.wr W9, ((Fw6.ext E7).keep K8 (own_nin1 ne7)).other W9 (Or.inr (slot_ne (Or.inr (ww hw 111 rfl)) (Or.inr (ww hw 130 rfl)) (by decide) (t := (.object "java/lang/StringBuilder")) (t' := (.object "java/util/Deque")) (by decide) (by decide))), Fw9, (((((Ft.ext E3).ext E4).keep K5 (own_nin1 ne3)).other W6 (Or.inr (slot_ne (Or.inl (ww hw 141 rfl)) (Or.inr (ww hw 111 rfl)) (by decide) (t := .boolean) (t' := (.object "java/lang/StringBuilder")) (by decide) (by decide))) |>.ext E7).keep K8 (own_nin1 ne7)).other W9 (Or.inr (slot_ne (Or.inl (ww hw 141 rfl)) (Or.inr (ww hw 130 rfl)) (by decide) (t := .boolean) (t' := (.object "java/util/Deque")) (by decide) (by decide)))⟩, own_Bwr ((own_Bwr B5 W6 ne3 (Nat.ne_of_lt (Nat.lt_of_lt_of_le E_a1.lt (Nat.le_trans K4.1 s5)))).ext E7 |>.keep K8 nbq nvq) W9 ne3 (Nat.ne_of_lt (Nat.lt_of_lt_of_le E_a1.lt (Nat.le_trans K4.1 s5))), own_Dwr D8q W9 ne7 (Nat.ne_of_lt (Nat.lt_of_lt_of_le E_a1.lt (Nat.le_trans K7.1 s8))), by decide⟩
  · show CHr Z own_EL s.vm s.heap T9.vm T9.heap
    rw [hh, e9]
    exact D9.trans (CHv.at (s := s) (vm0 := T4.vm) X9 hZ4 hEL D9.1)
theorem d30_0 : decode cd45 0 = .ok (.aload_n 0, 1) := by decide +kernel
theorem d30_1 : decode cd45 1 = .ok (.getfield 23, 3) := by decide +kernel
theorem d30_4 : decode cd45 4 = .ok (.invokeinterface 60 1, 5) := by decide +kernel
theorem d30_9 : decode cd45 9 = .ok (.checkcast 64, 3) := by decide +kernel
theorem d30_12 : decode cd45 12 = .ok (.astore_n 1, 1) := by decide +kernel
theorem d30_13 : decode cd45 13 = .ok (.aload_n 0, 1) := by decide +kernel
theorem d30_14 : decode cd45 14 = .ok (.getfield 43, 3) := by decide +kernel
theorem d30_17 : decode cd45 17 = .ok (.ifCond .eq 21, 3) := by decide +kernel
theorem d30_20 : decode cd45 20 = .ok (.aload_n 0, 1) := by decide +kernel
theorem d30_21 : decode cd45 21 = .ok (.getfield 14, 3) := by decide +kernel
theorem d30_24 : decode cd45 24 = .ok (.ldc 66, 2) := by decide +kernel
theorem d30_26 : decode cd45 26 = .ok (.invokevirtual 34, 3) := by decide +kernel
theorem d30_29 : decode cd45 29 = .ok (.pop, 1) := by decide +kernel
theorem d30_30 : decode cd45 30 = .ok (.aload_n 0, 1) := by decide +kernel
theorem d30_31 : decode cd45 31 = .ok (.iconst 0, 1) := by decide +kernel
theorem d30_32 : decode cd45 32 = .ok (.putfield 43, 3) := by decide +kernel
theorem d30_35 : decode cd45 35 = .ok (.goto 22, 3) := by decide +kernel
theorem d30_57 : decode cd45 57 = .ok (.aload_n 0, 1) := by decide +kernel
theorem d30_58 : decode cd45 58 = .ok (.areturn, 1) := by decide +kernel
def Qrm30A (Z : State) (a1 : Addr) (w2 : Addr) (w8 : Addr) (va : Addr) (kb : ClassId) (cap n : Int32) (vs : List Value) (ea : Addr) (ke : ClassId) (es : List Value) (y t : Addr) (ks : ClassId) (us : List Value) (G1 : Int32) (h0 : Heap) (n0 : Nat) (v : Option Value) (h : Heap) (L : List Loc) : Prop := v = some (.ref a1) ∧ Fr n0 L ∧ Keep h0 h [a1, w8, va, w2, ea] ∧ own_X Z h a1 w8 w2 va kb cap (n + (2 : Int32)) (vs ++ own_sl) ea ke ((15 : Int32) + (1 : Int32)) (es.set 15 .null) (0 : Int32)
set_option maxRecDepth 65536 in
set_option maxHeartbeats 40000000 in
theorem rm30A (l : Launch) (Z : State) (a0 : Array Value) (hw : HW a0 Z) (ws : List Jvm.Cond) (a1 : Addr) (w2 : Addr) (w8 : Addr) (va : Addr) (kb : ClassId) (cap n : Int32) (vs : List Value) (ea : Addr) (ke : ClassId) (es : List Value) (y t : Addr) (ks : ClassId) (us : List Value) (G1 : Int32) (h0 : Heap) (n0 : Nat) (Z0 : n0 ≤ h0.size) (SC : Sta Z h0 "java/lang/String" "COMPACT_STRINGS" "Z" (.int G1)) (P3 : ¬ (G1 = (0 : Int32))) (Y0 : own_X Z h0 a1 w8 w2 va kb cap n vs ea ke (15 : Int32) es (1 : Int32)) (SS : own_S Z h0 y t ks (2 : Int32) us) (hy : es.getD 15 .null = .ref y) (hz : (2 : Int32).toNatClampNeg ≠ cap.toNatClampNeg) (hc : own_len cap) (g_w8 : n0 ≤ w8) (g_va : n0 ≤ va) (g_w2 : n0 ≤ w2) (g_ea : n0 ≤ ea) (R1 : own_R cap n (2 : Int32)) (F_open_a1 : Fld Z h0 a1 "org/athenaeum/xml/XmlWriter" "open" "Ljava/util/Deque;" (.ref w2)) (E_w2 : Exa Z h0 w2 "java/util/ArrayDeque") (F_inStartTag_a1 : Fld Z h0 a1 "org/athenaeum/xml/XmlWriter" "inStartTag" "Z" (.int 1)) (F_out_a1 : Fld Z h0 a1 "org/athenaeum/xml/XmlWriter" "out" "Ljava/lang/StringBuilder;" (.ref w8)) (E_w8 : Exa Z h0 w8 "java/lang/StringBuilder") (E_a1 : Exa Z h0 a1 "org/athenaeum/xml/XmlWriter") (g_a1 : n0 ≤ a1) (hc17 : ¬ ((1 : Int32) = (0 : Int32))) :
    MetFree l ym46 (head1 (Jvm.Cond.code ym46 prog_100_method_5_code 2 (some (.object "org/athenaeum/xml/XmlWriter")) :: ws) rm_29) (fun a U => a = #[(.ref a1)] ∧ Z.Warmed39 U.vm ∧ U.heap = h0 ∧ CHv Z own_EL U.vm h0) (fun _ _ _ _ _ => True) (fun _ U o U' => ∃ v L, o = .returned v ∧ Qrm30A Z a1 w2 w8 va kb cap n vs ea ke es y t ks us G1 h0 n0 v U'.heap L ∧ CHr Z own_EL U.vm U.heap U'.vm U'.heap ∧ ReturnedEndW U o U' L rm_29.cells rm_29.slots) := by
  refine MetFree.of_bodySF (plainFor_of_name pn_22) hisR ?_
  intro p e s m args below meth c s₁ Bd hml0 hP hK
  obtain ⟨rfl, hZ, hh, CH0⟩ := hP
  have S0 : s.Since s.vm h0.size := (State.WarmedH.refl s).since _
  have C0 : CHr Z own_EL s.vm h0 s.vm h0 := CHr.refl CH0
  have hEL := own_EW hw
  have wS : ∀ a ∈ Bundle.stringAtoms, a.before a0 Z = true := fun d hd => hw d ((by decide +kernel : ∀ d ∈ Bundle.stringAtoms, d ∈ tables_1) d hd)
  have hx := Bd.exec
  have hby := Bd.bytes
  have hml : c.maxLocals = 2 := hml0
  have hown : s.vm.findClass "org/athenaeum/xml/XmlWriter" = some m.cls := findClass_of_methodNamed Bd.named
  have X0 : Stand p l e rm_29 s m #[(.ref a1)] below meth c s₁ [] 0 0 := Stand.of_body Bd
  have e0 : s₁.heap = h0 := by rw [← hh, Bd.state]; rfl
  have N0 := Fr.nil n0
  let aa1 : Array Slot := #[.val (.ref a1), .unset]
  have pre0 : ∀ t, Steps p.tables e below (s₁.setTop (mkF m 0 aa1 [])) t → Steps p.tables e below (s₁.setTop (entryFrame m #[(.ref a1)] 2)) t := fun t k => castTop (ef_32 m a1) k
  obtain ⟨T3, X3, e3, st3⟩ := getF X0 hx hZ hown (host := "") (Or.inl (ww hw 129 rfl)) Via.refl e0 F_open_a1 (g := (mkF m 1 aa1 [(.ref a1)])) rfl rfl (hb hby d30_1)
  obtain ⟨cq4, kq4, q4a, q4b, q4c⟩ := isOf hZ e3 E_w2
  have iw : own_I Z a0 := ⟨(ww hw 1 rfl), (ww hw 31 rfl), (ww hw 38 rfl), (ww hw 113 rfl)⟩
  obtain ⟨_, _, ⟨T4, L4, k4, n4⟩, -, X4, ⟨Lc4, hQ4, l4, y4, z4⟩, st4⟩ := X3.interfaceBack hx (xi := ym47) (y := ym39) hown (mvT hZ (ww hw 188 rfl)) (mvT hZ (ww hw 189 rfl)) (mvT hZ (ww hw 190 rfl)) (mvT hZ (ww hw 191 rfl)) (mvT hZ (ww hw 192 rfl)) (mvT hZ (ww hw 193 rfl)) (mvT hZ (ww hw 194 rfl)) (mvT hZ (ww hw 168 rfl)) (by decide) (backOf (W := 0) (rm31a l Z a0 hw [] w2 ea ke es y h0 n0 Z0 Y0.2.2.1 hy g_w2 g_ea Y0.2.2.1.1) hZ (ww hw 195 rfl) (ww hw 114 rfl) (by decide) (by decide)) q4a q4b q4c (g := (mkF m 4 aa1 [(.ref w2)])) rfl (by rw [hml]; rfl) (Steps.refl _) (argsL := []) (rest := []) (lenOf pd_32_23 rfl) rfl (wz rfl) (hb hby d30_4) (fun _ _ => ⟨rfl, e3, (by decide : 0 + 0 ≤ _), (by decide : 0 + 0 ≤ _)⟩)
  dsimp only [Pt.U, Pt.locs, Pt.cells, Pt.slots] at X4 l4 y4 z4 st4 hQ4
  subst l4 y4 z4
  obtain ⟨rfl, N4q, K4, D4q⟩ := hQ4
  have Y4 := Y0.deq iw K4 (by simp) D4q
  have SC4 := own_staX SC Y0 K4 (by simp)
  have SS4 := SS.kX Y0 iw hz (by decide) K4 (by simp)
  have P4 : Keep h0 T4.heap [a1, w8, va, w2, ea] := own_sub K4 (by simp)
  have D4 := C0.trans (CHr.keep K4 (own_safeX hw Y0 hZ hc (by simp)) C0.1)
  have N4 := Fr.app N0 N4q
  obtain ⟨T5, X5, e5, st5⟩ := castY X4 hx hZ hown (ww hw 212 rfl) rfl (Ins.self SS4.1) (g := (mkF m 9 aa1 [(.ref y)])) rfl rfl (hb hby d30_9)
  let aa2 : Array Slot := #[.val (.ref a1), .val (.ref y)]
  obtain ⟨T7, X7, e7, st7⟩ := getF X5 hx hZ hown (host := "") (Or.inl (ww hw 140 rfl)) Via.refl e5 Y4.1.2.2.2 (g := (mkF m 14 aa2 [(.ref a1)])) rfl rfl (hb hby d30_14)
  obtain ⟨T9, X9, e9, st9⟩ := getF X7 hx hZ hown (host := "") (Or.inl (ww hw 110 rfl)) Via.refl e7 Y4.1.2.1 (g := (mkF m 21 aa2 [(.ref a1)])) rfl rfl (hb hby d30_21)
  obtain ⟨la10, T10, h10, k10, lb10, lk10, X10, e10, E10, S10, kk10, hZ10, hown10, El10, Fc10, Fv10, Vl10, lt10, ltb10, C10, -, ns10, st10⟩ := ldcCH (s := s) (vm0 := s.vm) X9 hx hZ hown (ww hw 213 rfl) wS e9 S0 K4.1 hEL (by simp) D4.1 (text := "/>") (vs := own_sl) (z := (2 : Int32)) ⟨by decide, by rfl⟩ (by decide) rfl (g := (mkF m 24 aa2 [(.ref w8)])) rfl (hb hby d30_24) (n := 8) (by decide) (by decide) (by decide) (by decide)
  have K10 : Keep h0 h10 [a1, w8, va, w2, ea] := P4.ext E10
  have Y10 := Y4.ext E10
  have SC10 := SC4.ext E10
  have D10 := D4.trans C10
  obtain ⟨cq11, kq11, q11a, q11b, q11c⟩ := isOf hZ10 e10 Y10.2.1.1
  obtain ⟨_, _, ⟨T11, L11, k11, n11⟩, -, X11, ⟨Lc11, hQ11, l11, y11, z11⟩, st11⟩ := X10.virtualBack hx (y := ym07) (z := ym07) hown10 (mvT hZ10 (ww hw 160 rfl)) (mvT hZ10 (ww hw 76 rfl)) (notFace_of_selects (args := #[]) (mvT hZ10 (ww hw 78 rfl))) (mvT hZ10 (ww hw 78 rfl)) (mvT hZ10 (ww hw 77 rfl)) (by decide) (backOf (W := 0) (rm13 l Z a0 hw [] w8 la10 n va kb cap vs lb10 lk10 (2 : Int32) own_sl G1 h10 n0 (Nat.le_trans Z0 K10.1) SC10 P3 Y10.2.1 ⟨El10, Fv10, Fc10, Vl10, rfl⟩ R1 g_va g_w8 Y10.2.1.1) hZ10 (ww hw 79 rfl) (ww hw 39 rfl) (by decide) (by decide)) q11a q11c (g := (mkF m 26 aa2 [(.ref la10), (.ref w8)])) rfl (by rw [hml]; rfl) (Steps.refl _) (argsL := [(.ref la10)]) (rest := []) (lenOf pd_12_10 rfl) rfl (wz rfl) (hb hby d30_26) (fun _ _ => ⟨rfl, e10, (by decide : 2 + 0 ≤ _), (by decide : 12 + 0 ≤ _)⟩)
  dsimp only [Pt.U, Pt.locs, Pt.cells, Pt.slots] at X11 l11 y11 z11 st11 hQ11
  subst l11 y11 z11
  obtain ⟨rfl, N11q, K11, B11⟩ := hQ11
  have Y11 := Y10.app iw K11 B11
  have P11 : Keep h0 T11.heap [a1, w8, va, w2, ea] := own_tr K10 K11 (by simp)
  have D11 := D10.trans (CHr.keep K11 (own_safeX hw Y10 hZ10 hc (by simp)) D10.1)
  have N11 := Fr.app N4 N11q
  obtain ⟨T12, h12, X12, e12, W12, st12⟩ := putFN X11 hx hZ10 hown10 (ww hw 140 rfl) Via.refl rfl Y11.1.2.2.2 Y11.1.1 (Or.inl (ww hw 141 rfl)) (ww hw 31 rfl) (ty := .boolean) (v' := (.int (nar .boolean (0 : Int32)))) (by decide) rfl (fits_nar_bool _) (g := (mkF m 32 aa2 [(.int 0), (.ref a1)])) rfl rfl (hb hby d30_32)
  have Fw12 := Y11.1.2.2.2.same W12
  have K12 : Keep h0 h12 [a1, w8, va, w2, ea] := P11.wr W12 (Or.inl (by simp))
  have N12 := Fr.snoc X12 N11 g_a1
  have D12 := D11.trans (CHr.wr W12 (Safe.exa hZ10.alike Y11.1.1 (by decide) (by decide)) D11.1)
  obtain ⟨fs, hr, hrun, hended, hRE⟩ := X12.leaveW S10 (by rw [e12]; have := K11.1; have := (Keep.of_wr W12).1; omega) (v := some (.ref a1)) (fun h => by rw [Bd.returns] at h; cases h)
  refine ⟨_, _, pre0 _ ?_, hrun, hended, _, _, rfl, ?_, ?_, hRE.1, hRE.2.1, hRE.2.2.1, hRE.2.2.2.mono (by decide) (by decide)⟩
  · show Sw s₁ m 0 aa1 [] _
    refine XS.aloadN X0.here hx rfl (hb hby d30_0) rfl rfl ?_
    show Sw s₁ m 1 aa1 [(.ref a1)] _
    refine st3 _ ?_
    show Sw T3 m 4 aa1 [(.ref w2)] _
    refine st4.trans ?_
    show Sw T4 m 9 aa1 [(.ref y)] _
    refine st5 _ ?_
    show Sw T5 m 12 aa1 [(.ref y)] _
    refine XS.astoreN X5.here hx rfl (hb hby d30_12) rfl rfl (l' := aa2) rfl ?_
    show Sw T5 m 13 aa2 [] _
    refine XS.aloadN X5.here hx rfl (hb hby d30_13) rfl rfl ?_
    show Sw T5 m 14 aa2 [(.ref a1)] _
    refine st7 _ ?_
    show Sw T7 m 17 aa2 [(.int 1)] _
    refine XS.ifNo X7.here hx rfl (hb hby d30_17) rfl ((if0 _ _).trans (feq hc17).1) ?_
    show Sw T7 m 20 aa2 [] _
    refine XS.aloadN X7.here hx rfl (hb hby d30_20) rfl rfl ?_
    show Sw T7 m 21 aa2 [(.ref a1)] _
    refine st9 _ ?_
    show Sw T9 m 24 aa2 [(.ref w8)] _
    refine st10 _ ?_
    show Sw T10 m 26 aa2 [(.ref la10), (.ref w8)] _
    refine st11.trans ?_
    show Sw T11 m 29 aa2 [(.ref w8)] _
    refine XS.pop X11.here hx rfl (hb hby d30_29) rfl rfl ?_
    show Sw T11 m 30 aa2 [] _
    refine XS.aloadN X11.here hx rfl (hb hby d30_30) rfl rfl ?_
    show Sw T11 m 31 aa2 [(.ref a1)] _
    refine XS.iconst X11.here hx rfl (hb hby d30_31) ?_
    show Sw T11 m 32 aa2 [(.int 0), (.ref a1)] _
    refine st12 _ ?_
    show Sw T12 m 35 aa2 [] _
    refine XS.goto X12.here hx rfl (pc0 := 35) (pc' := 57) rfl (hb hby d30_35) (by decide) (by decide) ?_
    show Sw T12 m 57 aa2 [] _
    refine XS.aloadN X12.here hx rfl (hb hby d30_57) rfl rfl ?_
    show Steps p.tables e below (T12.setTop (mkF m 58 aa2 [(.ref a1)])) _
    jvm_step X12.here [X12.here.top, hx, (hb hby d30_58), X12.method', Bd.returns, Value.isRef, FieldType.isReference]
    first | (intro acts; rw [hr _ acts rfl rfl rfl]) | rw [hr _ _ rfl rfl rfl]
    exact Steps.refl _
  · show Qrm30A Z a1 w2 w8 va kb cap n vs ea ke es y t ks us G1 h0 n0 _ T12.heap _
    rw [e12]
    exact ⟨rfl, N12, K12, Y11.tag iw (Keep.of_wr W12) ⟨Y11.1.1.wr W12, Y11.1.2.1.other W12 (Or.inr (slot_ne (Or.inr (ww hw 111 rfl)) (Or.inl (ww hw 141 rfl)) (by decide) (t := (.object "java/lang/StringBuilder")) (t' := .boolean) (by decide) (by decide))), Y11.1.2.2.1.other W12 (Or.inr (slot_ne (Or.inr (ww hw 130 rfl)) (Or.inl (ww hw 141 rfl)) (by decide) (t := (.object "java/util/Deque")) (t' := .boolean) (by decide) (by decide))), Fw12⟩⟩
  · show CHr Z own_EL s.vm s.heap T12.vm T12.heap
    rw [hh, e12]
    exact D12.trans (CHv.at (s := s) (vm0 := T10.vm) X12 hZ10 hEL D12.1)
def Qrm30a (Z : State) (a1 : Addr) (w2 : Addr) (w8 : Addr) (va : Addr) (kb : ClassId) (cap n : Int32) (vs : List Value) (ea : Addr) (ke : ClassId) (es : List Value) (y t : Addr) (ks : ClassId) (us : List Value) (G1 : Int32) (h0 : Heap) (n0 : Nat) (v : Option Value) (h : Heap) (L : List Loc) : Prop := v = some (.ref a1) ∧ Fr n0 L ∧ Keep h0 h [a1, w8, va, w2, ea] ∧ own_X Z h a1 w8 w2 va kb cap (n + (2 : Int32)) (vs ++ own_sl) ea ke (0 : Int32) (es.set 16 .null) (0 : Int32)
set_option maxRecDepth 65536 in
set_option maxHeartbeats 40000000 in
theorem rm30a (l : Launch) (Z : State) (a0 : Array Value) (hw : HW a0 Z) (ws : List Jvm.Cond) (a1 : Addr) (w2 : Addr) (w8 : Addr) (va : Addr) (kb : ClassId) (cap n : Int32) (vs : List Value) (ea : Addr) (ke : ClassId) (es : List Value) (y t : Addr) (ks : ClassId) (us : List Value) (G1 : Int32) (h0 : Heap) (n0 : Nat) (Z0 : n0 ≤ h0.size) (SC : Sta Z h0 "java/lang/String" "COMPACT_STRINGS" "Z" (.int G1)) (P3 : ¬ (G1 = (0 : Int32))) (Y0 : own_X Z h0 a1 w8 w2 va kb cap n vs ea ke (16 : Int32) es (1 : Int32)) (SS : own_S Z h0 y t ks (2 : Int32) us) (hy : es.getD 16 .null = .ref y) (hz : (2 : Int32).toNatClampNeg ≠ cap.toNatClampNeg) (hc : own_len cap) (g_w8 : n0 ≤ w8) (g_va : n0 ≤ va) (g_w2 : n0 ≤ w2) (g_ea : n0 ≤ ea) (R1 : own_R cap n (2 : Int32)) (F_open_a1 : Fld Z h0 a1 "org/athenaeum/xml/XmlWriter" "open" "Ljava/util/Deque;" (.ref w2)) (E_w2 : Exa Z h0 w2 "java/util/ArrayDeque") (F_inStartTag_a1 : Fld Z h0 a1 "org/athenaeum/xml/XmlWriter" "inStartTag" "Z" (.int 1)) (F_out_a1 : Fld Z h0 a1 "org/athenaeum/xml/XmlWriter" "out" "Ljava/lang/StringBuilder;" (.ref w8)) (E_w8 : Exa Z h0 w8 "java/lang/StringBuilder") (E_a1 : Exa Z h0 a1 "org/athenaeum/xml/XmlWriter") (g_a1 : n0 ≤ a1) (hc17 : ¬ ((1 : Int32) = (0 : Int32))) :
    MetFree l ym46 (head1 (Jvm.Cond.code ym46 prog_100_method_5_code 2 (some (.object "org/athenaeum/xml/XmlWriter")) :: ws) rm_29) (fun a U => a = #[(.ref a1)] ∧ Z.Warmed39 U.vm ∧ U.heap = h0 ∧ CHv Z own_EL U.vm h0) (fun _ _ _ _ _ => True) (fun _ U o U' => ∃ v L, o = .returned v ∧ Qrm30a Z a1 w2 w8 va kb cap n vs ea ke es y t ks us G1 h0 n0 v U'.heap L ∧ CHr Z own_EL U.vm U.heap U'.vm U'.heap ∧ ReturnedEndW U o U' L rm_29.cells rm_29.slots) := by
  refine MetFree.of_bodySF (plainFor_of_name pn_22) hisR ?_
  intro p e s m args below meth c s₁ Bd hml0 hP hK
  obtain ⟨rfl, hZ, hh, CH0⟩ := hP
  have S0 : s.Since s.vm h0.size := (State.WarmedH.refl s).since _
  have C0 : CHr Z own_EL s.vm h0 s.vm h0 := CHr.refl CH0
  have hEL := own_EW hw
  have wS : ∀ a ∈ Bundle.stringAtoms, a.before a0 Z = true := fun d hd => hw d ((by decide +kernel : ∀ d ∈ Bundle.stringAtoms, d ∈ tables_1) d hd)
  have hx := Bd.exec
  have hby := Bd.bytes
  have hml : c.maxLocals = 2 := hml0
  have hown : s.vm.findClass "org/athenaeum/xml/XmlWriter" = some m.cls := findClass_of_methodNamed Bd.named
  have X0 : Stand p l e rm_29 s m #[(.ref a1)] below meth c s₁ [] 0 0 := Stand.of_body Bd
  have e0 : s₁.heap = h0 := by rw [← hh, Bd.state]; rfl
  have N0 := Fr.nil n0
  let aa1 : Array Slot := #[.val (.ref a1), .unset]
  have pre0 : ∀ t, Steps p.tables e below (s₁.setTop (mkF m 0 aa1 [])) t → Steps p.tables e below (s₁.setTop (entryFrame m #[(.ref a1)] 2)) t := fun t k => castTop (ef_32 m a1) k
  obtain ⟨T3, X3, e3, st3⟩ := getF X0 hx hZ hown (host := "") (Or.inl (ww hw 129 rfl)) Via.refl e0 F_open_a1 (g := (mkF m 1 aa1 [(.ref a1)])) rfl rfl (hb hby d30_1)
  obtain ⟨cq4, kq4, q4a, q4b, q4c⟩ := isOf hZ e3 E_w2
  have iw : own_I Z a0 := ⟨(ww hw 1 rfl), (ww hw 31 rfl), (ww hw 38 rfl), (ww hw 113 rfl)⟩
  obtain ⟨_, _, ⟨T4, L4, k4, n4⟩, -, X4, ⟨Lc4, hQ4, l4, y4, z4⟩, st4⟩ := X3.interfaceBack hx (xi := ym47) (y := ym39) hown (mvT hZ (ww hw 188 rfl)) (mvT hZ (ww hw 189 rfl)) (mvT hZ (ww hw 190 rfl)) (mvT hZ (ww hw 191 rfl)) (mvT hZ (ww hw 192 rfl)) (mvT hZ (ww hw 193 rfl)) (mvT hZ (ww hw 194 rfl)) (mvT hZ (ww hw 168 rfl)) (by decide) (backOf (W := 0) (rm31b l Z a0 hw [] w2 ea ke es y h0 n0 Z0 Y0.2.2.1 hy g_w2 g_ea Y0.2.2.1.1) hZ (ww hw 195 rfl) (ww hw 114 rfl) (by decide) (by decide)) q4a q4b q4c (g := (mkF m 4 aa1 [(.ref w2)])) rfl (by rw [hml]; rfl) (Steps.refl _) (argsL := []) (rest := []) (lenOf pd_32_23 rfl) rfl (wz rfl) (hb hby d30_4) (fun _ _ => ⟨rfl, e3, (by decide : 0 + 0 ≤ _), (by decide : 0 + 0 ≤ _)⟩)
  dsimp only [Pt.U, Pt.locs, Pt.cells, Pt.slots] at X4 l4 y4 z4 st4 hQ4
  subst l4 y4 z4
  obtain ⟨rfl, N4q, K4, D4q⟩ := hQ4
  have Y4 := Y0.deq iw K4 (by simp) D4q
  have SC4 := own_staX SC Y0 K4 (by simp)
  have SS4 := SS.kX Y0 iw hz (by decide) K4 (by simp)
  have P4 : Keep h0 T4.heap [a1, w8, va, w2, ea] := own_sub K4 (by simp)
  have D4 := C0.trans (CHr.keep K4 (own_safeX hw Y0 hZ hc (by simp)) C0.1)
  have N4 := Fr.app N0 N4q
  obtain ⟨T5, X5, e5, st5⟩ := castY X4 hx hZ hown (ww hw 212 rfl) rfl (Ins.self SS4.1) (g := (mkF m 9 aa1 [(.ref y)])) rfl rfl (hb hby d30_9)
  let aa2 : Array Slot := #[.val (.ref a1), .val (.ref y)]
  obtain ⟨T7, X7, e7, st7⟩ := getF X5 hx hZ hown (host := "") (Or.inl (ww hw 140 rfl)) Via.refl e5 Y4.1.2.2.2 (g := (mkF m 14 aa2 [(.ref a1)])) rfl rfl (hb hby d30_14)
  obtain ⟨T9, X9, e9, st9⟩ := getF X7 hx hZ hown (host := "") (Or.inl (ww hw 110 rfl)) Via.refl e7 Y4.1.2.1 (g := (mkF m 21 aa2 [(.ref a1)])) rfl rfl (hb hby d30_21)
  obtain ⟨la10, T10, h10, k10, lb10, lk10, X10, e10, E10, S10, kk10, hZ10, hown10, El10, Fc10, Fv10, Vl10, lt10, ltb10, C10, -, ns10, st10⟩ := ldcCH (s := s) (vm0 := s.vm) X9 hx hZ hown (ww hw 213 rfl) wS e9 S0 K4.1 hEL (by simp) D4.1 (text := "/>") (vs := own_sl) (z := (2 : Int32)) ⟨by decide, by rfl⟩ (by decide) rfl (g := (mkF m 24 aa2 [(.ref w8)])) rfl (hb hby d30_24) (n := 8) (by decide) (by decide) (by decide) (by decide)
  have K10 : Keep h0 h10 [a1, w8, va, w2, ea] := P4.ext E10
  have Y10 := Y4.ext E10
  have SC10 := SC4.ext E10
  have D10 := D4.trans C10
  obtain ⟨cq11, kq11, q11a, q11b, q11c⟩ := isOf hZ10 e10 Y10.2.1.1
  obtain ⟨_, _, ⟨T11, L11, k11, n11⟩, -, X11, ⟨Lc11, hQ11, l11, y11, z11⟩, st11⟩ := X10.virtualBack hx (y := ym07) (z := ym07) hown10 (mvT hZ10 (ww hw 160 rfl)) (mvT hZ10 (ww hw 76 rfl)) (notFace_of_selects (args := #[]) (mvT hZ10 (ww hw 78 rfl))) (mvT hZ10 (ww hw 78 rfl)) (mvT hZ10 (ww hw 77 rfl)) (by decide) (backOf (W := 0) (rm13 l Z a0 hw [] w8 la10 n va kb cap vs lb10 lk10 (2 : Int32) own_sl G1 h10 n0 (Nat.le_trans Z0 K10.1) SC10 P3 Y10.2.1 ⟨El10, Fv10, Fc10, Vl10, rfl⟩ R1 g_va g_w8 Y10.2.1.1) hZ10 (ww hw 79 rfl) (ww hw 39 rfl) (by decide) (by decide)) q11a q11c (g := (mkF m 26 aa2 [(.ref la10), (.ref w8)])) rfl (by rw [hml]; rfl) (Steps.refl _) (argsL := [(.ref la10)]) (rest := []) (lenOf pd_12_10 rfl) rfl (wz rfl) (hb hby d30_26) (fun _ _ => ⟨rfl, e10, (by decide : 2 + 0 ≤ _), (by decide : 12 + 0 ≤ _)⟩)
  dsimp only [Pt.U, Pt.locs, Pt.cells, Pt.slots] at X11 l11 y11 z11 st11 hQ11
  subst l11 y11 z11
  obtain ⟨rfl, N11q, K11, B11⟩ := hQ11
  have Y11 := Y10.app iw K11 B11
  have P11 : Keep h0 T11.heap [a1, w8, va, w2, ea] := own_tr K10 K11 (by simp)
  have D11 := D10.trans (CHr.keep K11 (own_safeX hw Y10 hZ10 hc (by simp)) D10.1)
  have N11 := Fr.app N4 N11q
  obtain ⟨T12, h12, X12, e12, W12, st12⟩ := putFN X11 hx hZ10 hown10 (ww hw 140 rfl) Via.refl rfl Y11.1.2.2.2 Y11.1.1 (Or.inl (ww hw 141 rfl)) (ww hw 31 rfl) (ty := .boolean) (v' := (.int (nar .boolean (0 : Int32)))) (by decide) rfl (fits_nar_bool _) (g := (mkF m 32 aa2 [(.int 0), (.ref a1)])) rfl rfl (hb hby d30_32)
  have Fw12 := Y11.1.2.2.2.same W12
  have K12 : Keep h0 h12 [a1, w8, va, w2, ea] := P11.wr W12 (Or.inl (by simp))
  have N12 := Fr.snoc X12 N11 g_a1
  have D12 := D11.trans (CHr.wr W12 (Safe.exa hZ10.alike Y11.1.1 (by decide) (by decide)) D11.1)
  obtain ⟨fs, hr, hrun, hended, hRE⟩ := X12.leaveW S10 (by rw [e12]; have := K11.1; have := (Keep.of_wr W12).1; omega) (v := some (.ref a1)) (fun h => by rw [Bd.returns] at h; cases h)
  refine ⟨_, _, pre0 _ ?_, hrun, hended, _, _, rfl, ?_, ?_, hRE.1, hRE.2.1, hRE.2.2.1, hRE.2.2.2.mono (by decide) (by decide)⟩
  · show Sw s₁ m 0 aa1 [] _
    refine XS.aloadN X0.here hx rfl (hb hby d30_0) rfl rfl ?_
    show Sw s₁ m 1 aa1 [(.ref a1)] _
    refine st3 _ ?_
    show Sw T3 m 4 aa1 [(.ref w2)] _
    refine st4.trans ?_
    show Sw T4 m 9 aa1 [(.ref y)] _
    refine st5 _ ?_
    show Sw T5 m 12 aa1 [(.ref y)] _
    refine XS.astoreN X5.here hx rfl (hb hby d30_12) rfl rfl (l' := aa2) rfl ?_
    show Sw T5 m 13 aa2 [] _
    refine XS.aloadN X5.here hx rfl (hb hby d30_13) rfl rfl ?_
    show Sw T5 m 14 aa2 [(.ref a1)] _
    refine st7 _ ?_
    show Sw T7 m 17 aa2 [(.int 1)] _
    refine XS.ifNo X7.here hx rfl (hb hby d30_17) rfl ((if0 _ _).trans (feq hc17).1) ?_
    show Sw T7 m 20 aa2 [] _
    refine XS.aloadN X7.here hx rfl (hb hby d30_20) rfl rfl ?_
    show Sw T7 m 21 aa2 [(.ref a1)] _
    refine st9 _ ?_
    show Sw T9 m 24 aa2 [(.ref w8)] _
    refine st10 _ ?_
    show Sw T10 m 26 aa2 [(.ref la10), (.ref w8)] _
    refine st11.trans ?_
    show Sw T11 m 29 aa2 [(.ref w8)] _
    refine XS.pop X11.here hx rfl (hb hby d30_29) rfl rfl ?_
    show Sw T11 m 30 aa2 [] _
    refine XS.aloadN X11.here hx rfl (hb hby d30_30) rfl rfl ?_
    show Sw T11 m 31 aa2 [(.ref a1)] _
    refine XS.iconst X11.here hx rfl (hb hby d30_31) ?_
    show Sw T11 m 32 aa2 [(.int 0), (.ref a1)] _
    refine st12 _ ?_
    show Sw T12 m 35 aa2 [] _
    refine XS.goto X12.here hx rfl (pc0 := 35) (pc' := 57) rfl (hb hby d30_35) (by decide) (by decide) ?_
    show Sw T12 m 57 aa2 [] _
    refine XS.aloadN X12.here hx rfl (hb hby d30_57) rfl rfl ?_
    show Steps p.tables e below (T12.setTop (mkF m 58 aa2 [(.ref a1)])) _
    jvm_step X12.here [X12.here.top, hx, (hb hby d30_58), X12.method', Bd.returns, Value.isRef, FieldType.isReference]
    first | (intro acts; rw [hr _ acts rfl rfl rfl]) | rw [hr _ _ rfl rfl rfl]
    exact Steps.refl _
  · show Qrm30a Z a1 w2 w8 va kb cap n vs ea ke es y t ks us G1 h0 n0 _ T12.heap _
    rw [e12]
    exact ⟨rfl, N12, K12, Y11.tag iw (Keep.of_wr W12) ⟨Y11.1.1.wr W12, Y11.1.2.1.other W12 (Or.inr (slot_ne (Or.inr (ww hw 111 rfl)) (Or.inl (ww hw 141 rfl)) (by decide) (t := (.object "java/lang/StringBuilder")) (t' := .boolean) (by decide) (by decide))), Y11.1.2.2.1.other W12 (Or.inr (slot_ne (Or.inr (ww hw 130 rfl)) (Or.inl (ww hw 141 rfl)) (by decide) (t := (.object "java/util/Deque")) (t' := .boolean) (by decide) (by decide))), Fw12⟩⟩
  · show CHr Z own_EL s.vm s.heap T12.vm T12.heap
    rw [hh, e12]
    exact D12.trans (CHv.at (s := s) (vm0 := T10.vm) X12 hZ10 hEL D12.1)
theorem d30_38 : decode cd45 38 = .ok (.aload_n 0, 1) := by decide +kernel
theorem d30_39 : decode cd45 39 = .ok (.getfield 14, 3) := by decide +kernel
theorem d30_42 : decode cd45 42 = .ok (.ldc 68, 2) := by decide +kernel
theorem d30_44 : decode cd45 44 = .ok (.invokevirtual 34, 3) := by decide +kernel
theorem d30_47 : decode cd45 47 = .ok (.aload_n 1, 1) := by decide +kernel
theorem d30_48 : decode cd45 48 = .ok (.invokevirtual 34, 3) := by decide +kernel
theorem d30_51 : decode cd45 51 = .ok (.bipush 62, 2) := by decide +kernel
theorem d30_53 : decode cd45 53 = .ok (.invokevirtual 30, 3) := by decide +kernel
theorem d30_56 : decode cd45 56 = .ok (.pop, 1) := by decide +kernel
def Qrm30B (Z : State) (a1 : Addr) (w2 : Addr) (w8 : Addr) (va : Addr) (kb : ClassId) (cap n : Int32) (vs : List Value) (ea : Addr) (ke : ClassId) (es : List Value) (y t : Addr) (ks : ClassId) (us : List Value) (G1 : Int32) (h0 : Heap) (n0 : Nat) (v : Option Value) (h : Heap) (L : List Loc) : Prop := v = some (.ref a1) ∧ Fr n0 L ∧ Keep h0 h [a1, w8, va, w2, ea] ∧ own_X Z h a1 w8 w2 va kb cap (((n + (2 : Int32)) + (2 : Int32)) + (1 : Int32)) (((vs ++ own_lt) ++ us) ++ [.int ((62 : Int32).toInt8.toInt32)]) ea ke ((15 : Int32) + (1 : Int32)) (es.set 15 .null) (0 : Int32)
set_option maxRecDepth 65536 in
set_option maxHeartbeats 40000000 in
theorem rm30B (l : Launch) (Z : State) (a0 : Array Value) (hw : HW a0 Z) (ws : List Jvm.Cond) (a1 : Addr) (w2 : Addr) (w8 : Addr) (va : Addr) (kb : ClassId) (cap n : Int32) (vs : List Value) (ea : Addr) (ke : ClassId) (es : List Value) (y t : Addr) (ks : ClassId) (us : List Value) (G1 : Int32) (h0 : Heap) (n0 : Nat) (Z0 : n0 ≤ h0.size) (SC : Sta Z h0 "java/lang/String" "COMPACT_STRINGS" "Z" (.int G1)) (P3 : ¬ (G1 = (0 : Int32))) (Y0 : own_X Z h0 a1 w8 w2 va kb cap n vs ea ke (15 : Int32) es (0 : Int32)) (SS : own_S Z h0 y t ks (2 : Int32) us) (hy : es.getD 15 .null = .ref y) (hz : (2 : Int32).toNatClampNeg ≠ cap.toNatClampNeg) (hc : own_len cap) (g_a1 : n0 ≤ a1) (g_w8 : n0 ≤ w8) (g_va : n0 ≤ va) (g_w2 : n0 ≤ w2) (g_ea : n0 ≤ ea) (R1 : own_R cap n (2 : Int32)) (R2 : own_R cap (n + (2 : Int32)) (2 : Int32)) (R3 : own_R cap ((n + (2 : Int32)) + (2 : Int32)) (1 : Int32)) (F_open_a1 : Fld Z h0 a1 "org/athenaeum/xml/XmlWriter" "open" "Ljava/util/Deque;" (.ref w2)) (E_w2 : Exa Z h0 w2 "java/util/ArrayDeque") (F_inStartTag_a1 : Fld Z h0 a1 "org/athenaeum/xml/XmlWriter" "inStartTag" "Z" (.int 0)) (F_out_a1 : Fld Z h0 a1 "org/athenaeum/xml/XmlWriter" "out" "Ljava/lang/StringBuilder;" (.ref w8)) (E_w8 : Exa Z h0 w8 "java/lang/StringBuilder") (hc17 : (0 : Int32) = (0 : Int32)) :
    MetFree l ym46 (head1 (Jvm.Cond.code ym46 prog_100_method_5_code 2 (some (.object "org/athenaeum/xml/XmlWriter")) :: ws) rm_30) (fun a U => a = #[(.ref a1)] ∧ Z.Warmed39 U.vm ∧ U.heap = h0 ∧ CHv Z own_EL U.vm h0) (fun _ _ _ _ _ => True) (fun _ U o U' => ∃ v L, o = .returned v ∧ Qrm30B Z a1 w2 w8 va kb cap n vs ea ke es y t ks us G1 h0 n0 v U'.heap L ∧ CHr Z own_EL U.vm U.heap U'.vm U'.heap ∧ ReturnedEndW U o U' L rm_30.cells rm_30.slots) := by
  refine MetFree.of_bodySF (plainFor_of_name pn_22) hisR ?_
  intro p e s m args below meth c s₁ Bd hml0 hP hK
  obtain ⟨rfl, hZ, hh, CH0⟩ := hP
  have S0 : s.Since s.vm h0.size := (State.WarmedH.refl s).since _
  have C0 : CHr Z own_EL s.vm h0 s.vm h0 := CHr.refl CH0
  have hEL := own_EW hw
  have wS : ∀ a ∈ Bundle.stringAtoms, a.before a0 Z = true := fun d hd => hw d ((by decide +kernel : ∀ d ∈ Bundle.stringAtoms, d ∈ tables_1) d hd)
  have hx := Bd.exec
  have hby := Bd.bytes
  have hml : c.maxLocals = 2 := hml0
  have hown : s.vm.findClass "org/athenaeum/xml/XmlWriter" = some m.cls := findClass_of_methodNamed Bd.named
  have X0 : Stand p l e rm_30 s m #[(.ref a1)] below meth c s₁ [] 0 0 := Stand.of_body Bd
  have e0 : s₁.heap = h0 := by rw [← hh, Bd.state]; rfl
  have N0 := Fr.nil n0
  let aa1 : Array Slot := #[.val (.ref a1), .unset]
  have pre0 : ∀ t, Steps p.tables e below (s₁.setTop (mkF m 0 aa1 [])) t → Steps p.tables e below (s₁.setTop (entryFrame m #[(.ref a1)] 2)) t := fun t k => castTop (ef_32 m a1) k
  obtain ⟨T3, X3, e3, st3⟩ := getF X0 hx hZ hown (host := "") (Or.inl (ww hw 129 rfl)) Via.refl e0 F_open_a1 (g := (mkF m 1 aa1 [(.ref a1)])) rfl rfl (hb hby d30_1)
  obtain ⟨cq4, kq4, q4a, q4b, q4c⟩ := isOf hZ e3 E_w2
  have iw : own_I Z a0 := ⟨(ww hw 1 rfl), (ww hw 31 rfl), (ww hw 38 rfl), (ww hw 113 rfl)⟩
  obtain ⟨_, _, ⟨T4, L4, k4, n4⟩, -, X4, ⟨Lc4, hQ4, l4, y4, z4⟩, st4⟩ := X3.interfaceBack hx (xi := ym47) (y := ym39) hown (mvT hZ (ww hw 188 rfl)) (mvT hZ (ww hw 189 rfl)) (mvT hZ (ww hw 190 rfl)) (mvT hZ (ww hw 191 rfl)) (mvT hZ (ww hw 192 rfl)) (mvT hZ (ww hw 193 rfl)) (mvT hZ (ww hw 194 rfl)) (mvT hZ (ww hw 168 rfl)) (by decide) (backOf (W := 0) (rm31a l Z a0 hw [] w2 ea ke es y h0 n0 Z0 Y0.2.2.1 hy g_w2 g_ea Y0.2.2.1.1) hZ (ww hw 195 rfl) (ww hw 114 rfl) (by decide) (by decide)) q4a q4b q4c (g := (mkF m 4 aa1 [(.ref w2)])) rfl (by rw [hml]; rfl) (Steps.refl _) (argsL := []) (rest := []) (lenOf pd_32_23 rfl) rfl (wz rfl) (hb hby d30_4) (fun _ _ => ⟨rfl, e3, (by decide : 0 + 0 ≤ _), (by decide : 0 + 0 ≤ _)⟩)
  dsimp only [Pt.U, Pt.locs, Pt.cells, Pt.slots] at X4 l4 y4 z4 st4 hQ4
  subst l4 y4 z4
  obtain ⟨rfl, N4q, K4, D4q⟩ := hQ4
  have Y4 := Y0.deq iw K4 (by simp) D4q
  have SC4 := own_staX SC Y0 K4 (by simp)
  have SS4 := SS.kX Y0 iw hz (by decide) K4 (by simp)
  have P4 : Keep h0 T4.heap [a1, w8, va, w2, ea] := own_sub K4 (by simp)
  have D4 := C0.trans (CHr.keep K4 (own_safeX hw Y0 hZ hc (by simp)) C0.1)
  have N4 := Fr.app N0 N4q
  obtain ⟨T5, X5, e5, st5⟩ := castY X4 hx hZ hown (ww hw 212 rfl) rfl (Ins.self SS4.1) (g := (mkF m 9 aa1 [(.ref y)])) rfl rfl (hb hby d30_9)
  let aa2 : Array Slot := #[.val (.ref a1), .val (.ref y)]
  obtain ⟨T7, X7, e7, st7⟩ := getF X5 hx hZ hown (host := "") (Or.inl (ww hw 140 rfl)) Via.refl e5 Y4.1.2.2.2 (g := (mkF m 14 aa2 [(.ref a1)])) rfl rfl (hb hby d30_14)
  obtain ⟨T9, X9, e9, st9⟩ := getF X7 hx hZ hown (host := "") (Or.inl (ww hw 110 rfl)) Via.refl e7 Y4.1.2.1 (g := (mkF m 39 aa2 [(.ref a1)])) rfl rfl (hb hby d30_39)
  obtain ⟨la10, T10, h10, k10, lb10, lk10, X10, e10, E10, S10, kk10, hZ10, hown10, El10, Fc10, Fv10, Vl10, lt10, ltb10, C10, -, ns10, st10⟩ := ldcCH (s := s) (vm0 := s.vm) X9 hx hZ hown (ww hw 305 rfl) wS e9 S0 K4.1 hEL (by simp) D4.1 (text := "</") (vs := own_lt) (z := (2 : Int32)) ⟨by decide, by rfl⟩ (by decide) rfl (g := (mkF m 42 aa2 [(.ref w8)])) rfl (hb hby d30_42) (n := 8) (by decide) (by decide) (by decide) (by decide)
  have K10 : Keep h0 h10 [a1, w8, va, w2, ea] := P4.ext E10
  have Y10 := Y4.ext E10
  have SC10 := SC4.ext E10
  have D10 := D4.trans C10
  obtain ⟨cq11, kq11, q11a, q11b, q11c⟩ := isOf hZ10 e10 Y10.2.1.1
  obtain ⟨_, _, ⟨T11, L11, k11, n11⟩, -, X11, ⟨Lc11, hQ11, l11, y11, z11⟩, st11⟩ := X10.virtualBack hx (y := ym07) (z := ym07) hown10 (mvT hZ10 (ww hw 160 rfl)) (mvT hZ10 (ww hw 76 rfl)) (notFace_of_selects (args := #[]) (mvT hZ10 (ww hw 78 rfl))) (mvT hZ10 (ww hw 78 rfl)) (mvT hZ10 (ww hw 77 rfl)) (by decide) (backOf (W := 0) (rm13 l Z a0 hw [] w8 la10 n va kb cap vs lb10 lk10 (2 : Int32) own_lt G1 h10 n0 (Nat.le_trans Z0 K10.1) SC10 P3 Y10.2.1 ⟨El10, Fv10, Fc10, Vl10, rfl⟩ R1 g_va g_w8 Y10.2.1.1) hZ10 (ww hw 79 rfl) (ww hw 39 rfl) (by decide) (by decide)) q11a q11c (g := (mkF m 44 aa2 [(.ref la10), (.ref w8)])) rfl (by rw [hml]; rfl) (Steps.refl _) (argsL := [(.ref la10)]) (rest := []) (lenOf pd_12_10 rfl) rfl (wz rfl) (hb hby d30_44) (fun _ _ => ⟨rfl, e10, (by decide : 2 + 0 ≤ _), (by decide : 12 + 0 ≤ _)⟩)
  dsimp only [Pt.U, Pt.locs, Pt.cells, Pt.slots] at X11 l11 y11 z11 st11 hQ11
  subst l11 y11 z11
  obtain ⟨rfl, N11q, K11, B11⟩ := hQ11
  have Y11 := Y10.app iw K11 B11
  have SC11 := own_staX SC10 Y10 K11 (by simp)
  have SS11 := (SS4.ext E10).kX Y10 iw hz (by decide) K11 (by simp)
  have P11 : Keep h0 T11.heap [a1, w8, va, w2, ea] := own_tr K10 K11 (by simp)
  have D11 := D10.trans (CHr.keep K11 (own_safeX hw Y10 hZ10 hc (by simp)) D10.1)
  have N11 := Fr.app N4 N11q
  obtain ⟨cq12, kq12, q12a, q12b, q12c⟩ := isOf hZ10 rfl Y11.2.1.1
  obtain ⟨_, _, ⟨T12, L12, k12, n12⟩, -, X12, ⟨Lc12, hQ12, l12, y12, z12⟩, st12⟩ := X11.virtualBack hx (y := ym07) (z := ym07) hown10 (mvT hZ10 (ww hw 160 rfl)) (mvT hZ10 (ww hw 76 rfl)) (notFace_of_selects (args := #[]) (mvT hZ10 (ww hw 78 rfl))) (mvT hZ10 (ww hw 78 rfl)) (mvT hZ10 (ww hw 77 rfl)) (by decide) (backOf (W := 0) (rm13 l Z a0 hw [] w8 y (n + (2 : Int32)) va kb cap (vs ++ own_lt) t ks (2 : Int32) us G1 T11.heap n0 (Nat.le_trans Z0 P11.1) SC11 P3 Y11.2.1 SS11 R2 g_va g_w8 Y11.2.1.1) hZ10 (ww hw 79 rfl) (ww hw 39 rfl) (by decide) (by decide)) q12a q12c (g := (mkF m 48 aa2 [(.ref y), (.ref w8)])) rfl (by rw [hml]; rfl) (Steps.refl _) (argsL := [(.ref y)]) (rest := []) (lenOf pd_12_10 rfl) rfl (wz rfl) (hb hby d30_48) (fun _ _ => ⟨rfl, rfl, (by decide : 2 + 0 ≤ _), (by decide : 12 + 0 ≤ _)⟩)
  dsimp only [Pt.U, Pt.locs, Pt.cells, Pt.slots] at X12 l12 y12 z12 st12 hQ12
  subst l12 y12 z12
  obtain ⟨rfl, N12q, K12, B12⟩ := hQ12
  have Y12 := Y11.app iw K12 B12
  have SC12 := own_staX SC11 Y11 K12 (by simp)
  have P12 : Keep h0 T12.heap [a1, w8, va, w2, ea] := own_tr P11 K12 (by simp)
  have D12 := D11.trans (CHr.keep K12 (own_safeX hw Y11 hZ10 hc (by simp)) D11.1)
  have N12 := Fr.app N11 N12q
  obtain ⟨cq13, kq13, q13a, q13b, q13c⟩ := isOf hZ10 rfl Y12.2.1.1
  obtain ⟨_, _, ⟨T13, L13, k13, n13⟩, -, X13, ⟨Lc13, hQ13, l13, y13, z13⟩, st13⟩ := X12.virtualBack hx (y := ym12) (z := ym12) hown10 (mvT hZ10 (ww hw 142 rfl)) (mvT hZ10 (ww hw 143 rfl)) (notFace_of_selects (args := #[]) (mvT hZ10 (ww hw 145 rfl))) (mvT hZ10 (ww hw 145 rfl)) (mvT hZ10 (ww hw 144 rfl)) (by decide) (backOf (W := 0) (rm23 l Z a0 hw [] w8 (62 : Int32) ((n + (2 : Int32)) + (2 : Int32)) va kb cap ((vs ++ own_lt) ++ us) G1 T12.heap n0 (Nat.le_trans Z0 P12.1) SC12 P3 Y12.2.1 R3 (by decide) g_w8 g_va Y12.2.1.1) hZ10 (ww hw 146 rfl) (ww hw 39 rfl) (by decide) (by decide)) q13a q13c (g := (mkF m 53 aa2 [(.int 62), (.ref w8)])) rfl (by rw [hml]; rfl) (Steps.refl _) (argsL := [(.int 62)]) (rest := []) (lenOf pd_22_16 rfl) rfl (wz rfl) (hb hby d30_53) (fun _ _ => ⟨rfl, rfl, (by decide : 2 + 0 ≤ _), (by decide : 12 + 0 ≤ _)⟩)
  dsimp only [Pt.U, Pt.locs, Pt.cells, Pt.slots] at X13 l13 y13 z13 st13 hQ13
  subst l13 y13 z13
  obtain ⟨rfl, N13q, K13, B13⟩ := hQ13
  have Y13 := Y12.app iw K13 B13
  have P13 : Keep h0 T13.heap [a1, w8, va, w2, ea] := own_tr P12 K13 (by simp)
  have D13 := D12.trans (CHr.keep K13 (own_safeX hw Y12 hZ10 hc (by simp)) D12.1)
  have N13 := Fr.app N12 N13q
  obtain ⟨fs, hr, hrun, hended, hRE⟩ := X13.leaveW S10 (by have := K11.1; have := K12.1; have := K13.1; omega) (v := some (.ref a1)) (fun h => by rw [Bd.returns] at h; cases h)
  refine ⟨_, _, pre0 _ ?_, hrun, hended, _, _, rfl, ?_, ?_, hRE.1, hRE.2.1, hRE.2.2.1, hRE.2.2.2.mono (by decide) (by decide)⟩
  · show Sw s₁ m 0 aa1 [] _
    refine XS.aloadN X0.here hx rfl (hb hby d30_0) rfl rfl ?_
    show Sw s₁ m 1 aa1 [(.ref a1)] _
    refine st3 _ ?_
    show Sw T3 m 4 aa1 [(.ref w2)] _
    refine st4.trans ?_
    show Sw T4 m 9 aa1 [(.ref y)] _
    refine st5 _ ?_
    show Sw T5 m 12 aa1 [(.ref y)] _
    refine XS.astoreN X5.here hx rfl (hb hby d30_12) rfl rfl (l' := aa2) rfl ?_
    show Sw T5 m 13 aa2 [] _
    refine XS.aloadN X5.here hx rfl (hb hby d30_13) rfl rfl ?_
    show Sw T5 m 14 aa2 [(.ref a1)] _
    refine st7 _ ?_
    show Sw T7 m 17 aa2 [(.int 0)] _
    refine XS.ifYes X7.here hx rfl (pc0 := 17) (pc' := 38) rfl (hb hby d30_17) rfl ((if0 _ _).trans (teq hc17).1) (by decide) (by decide) ?_
    show Sw T7 m 38 aa2 [] _
    refine XS.aloadN X7.here hx rfl (hb hby d30_38) rfl rfl ?_
    show Sw T7 m 39 aa2 [(.ref a1)] _
    refine st9 _ ?_
    show Sw T9 m 42 aa2 [(.ref w8)] _
    refine st10 _ ?_
    show Sw T10 m 44 aa2 [(.ref la10), (.ref w8)] _
    refine st11.trans ?_
    show Sw T11 m 47 aa2 [(.ref w8)] _
    refine XS.aloadN X11.here hx rfl (hb hby d30_47) rfl rfl ?_
    show Sw T11 m 48 aa2 [(.ref y), (.ref w8)] _
    refine st12.trans ?_
    show Sw T12 m 51 aa2 [(.ref w8)] _
    refine XS.bipush X12.here hx rfl (hb hby d30_51) ?_
    show Sw T12 m 53 aa2 [(.int 62), (.ref w8)] _
    refine st13.trans ?_
    show Sw T13 m 56 aa2 [(.ref w8)] _
    refine XS.pop X13.here hx rfl (hb hby d30_56) rfl rfl ?_
    show Sw T13 m 57 aa2 [] _
    refine XS.aloadN X13.here hx rfl (hb hby d30_57) rfl rfl ?_
    show Steps p.tables e below (T13.setTop (mkF m 58 aa2 [(.ref a1)])) _
    jvm_step X13.here [X13.here.top, hx, (hb hby d30_58), X13.method', Bd.returns, Value.isRef, FieldType.isReference]
    first | (intro acts; rw [hr _ acts rfl rfl rfl]) | rw [hr _ _ rfl rfl rfl]
    exact Steps.refl _
  · show Qrm30B Z a1 w2 w8 va kb cap n vs ea ke es y t ks us G1 h0 n0 _ T13.heap _
    exact ⟨rfl, N13, P13, Y13⟩
  · show CHr Z own_EL s.vm s.heap T13.vm T13.heap
    rw [hh]
    exact D13.trans (CHv.at (s := s) (vm0 := T10.vm) X13 hZ10 hEL D13.1)
def Qrm30b (Z : State) (a1 : Addr) (w2 : Addr) (w8 : Addr) (va : Addr) (kb : ClassId) (cap n : Int32) (vs : List Value) (ea : Addr) (ke : ClassId) (es : List Value) (y t : Addr) (ks : ClassId) (us : List Value) (G1 : Int32) (h0 : Heap) (n0 : Nat) (v : Option Value) (h : Heap) (L : List Loc) : Prop := v = some (.ref a1) ∧ Fr n0 L ∧ Keep h0 h [a1, w8, va, w2, ea] ∧ own_X Z h a1 w8 w2 va kb cap (((n + (2 : Int32)) + (2 : Int32)) + (1 : Int32)) (((vs ++ own_lt) ++ us) ++ [.int ((62 : Int32).toInt8.toInt32)]) ea ke (0 : Int32) (es.set 16 .null) (0 : Int32)
set_option maxRecDepth 65536 in
set_option maxHeartbeats 40000000 in
theorem rm30b (l : Launch) (Z : State) (a0 : Array Value) (hw : HW a0 Z) (ws : List Jvm.Cond) (a1 : Addr) (w2 : Addr) (w8 : Addr) (va : Addr) (kb : ClassId) (cap n : Int32) (vs : List Value) (ea : Addr) (ke : ClassId) (es : List Value) (y t : Addr) (ks : ClassId) (us : List Value) (G1 : Int32) (h0 : Heap) (n0 : Nat) (Z0 : n0 ≤ h0.size) (SC : Sta Z h0 "java/lang/String" "COMPACT_STRINGS" "Z" (.int G1)) (P3 : ¬ (G1 = (0 : Int32))) (Y0 : own_X Z h0 a1 w8 w2 va kb cap n vs ea ke (16 : Int32) es (0 : Int32)) (SS : own_S Z h0 y t ks (2 : Int32) us) (hy : es.getD 16 .null = .ref y) (hz : (2 : Int32).toNatClampNeg ≠ cap.toNatClampNeg) (hc : own_len cap) (g_a1 : n0 ≤ a1) (g_w8 : n0 ≤ w8) (g_va : n0 ≤ va) (g_w2 : n0 ≤ w2) (g_ea : n0 ≤ ea) (R1 : own_R cap n (2 : Int32)) (R2 : own_R cap (n + (2 : Int32)) (2 : Int32)) (R3 : own_R cap ((n + (2 : Int32)) + (2 : Int32)) (1 : Int32)) (F_open_a1 : Fld Z h0 a1 "org/athenaeum/xml/XmlWriter" "open" "Ljava/util/Deque;" (.ref w2)) (E_w2 : Exa Z h0 w2 "java/util/ArrayDeque") (F_inStartTag_a1 : Fld Z h0 a1 "org/athenaeum/xml/XmlWriter" "inStartTag" "Z" (.int 0)) (F_out_a1 : Fld Z h0 a1 "org/athenaeum/xml/XmlWriter" "out" "Ljava/lang/StringBuilder;" (.ref w8)) (E_w8 : Exa Z h0 w8 "java/lang/StringBuilder") (hc17 : (0 : Int32) = (0 : Int32)) :
    MetFree l ym46 (head1 (Jvm.Cond.code ym46 prog_100_method_5_code 2 (some (.object "org/athenaeum/xml/XmlWriter")) :: ws) rm_30) (fun a U => a = #[(.ref a1)] ∧ Z.Warmed39 U.vm ∧ U.heap = h0 ∧ CHv Z own_EL U.vm h0) (fun _ _ _ _ _ => True) (fun _ U o U' => ∃ v L, o = .returned v ∧ Qrm30b Z a1 w2 w8 va kb cap n vs ea ke es y t ks us G1 h0 n0 v U'.heap L ∧ CHr Z own_EL U.vm U.heap U'.vm U'.heap ∧ ReturnedEndW U o U' L rm_30.cells rm_30.slots) := by
  refine MetFree.of_bodySF (plainFor_of_name pn_22) hisR ?_
  intro p e s m args below meth c s₁ Bd hml0 hP hK
  obtain ⟨rfl, hZ, hh, CH0⟩ := hP
  have S0 : s.Since s.vm h0.size := (State.WarmedH.refl s).since _
  have C0 : CHr Z own_EL s.vm h0 s.vm h0 := CHr.refl CH0
  have hEL := own_EW hw
  have wS : ∀ a ∈ Bundle.stringAtoms, a.before a0 Z = true := fun d hd => hw d ((by decide +kernel : ∀ d ∈ Bundle.stringAtoms, d ∈ tables_1) d hd)
  have hx := Bd.exec
  have hby := Bd.bytes
  have hml : c.maxLocals = 2 := hml0
  have hown : s.vm.findClass "org/athenaeum/xml/XmlWriter" = some m.cls := findClass_of_methodNamed Bd.named
  have X0 : Stand p l e rm_30 s m #[(.ref a1)] below meth c s₁ [] 0 0 := Stand.of_body Bd
  have e0 : s₁.heap = h0 := by rw [← hh, Bd.state]; rfl
  have N0 := Fr.nil n0
  let aa1 : Array Slot := #[.val (.ref a1), .unset]
  have pre0 : ∀ t, Steps p.tables e below (s₁.setTop (mkF m 0 aa1 [])) t → Steps p.tables e below (s₁.setTop (entryFrame m #[(.ref a1)] 2)) t := fun t k => castTop (ef_32 m a1) k
  obtain ⟨T3, X3, e3, st3⟩ := getF X0 hx hZ hown (host := "") (Or.inl (ww hw 129 rfl)) Via.refl e0 F_open_a1 (g := (mkF m 1 aa1 [(.ref a1)])) rfl rfl (hb hby d30_1)
  obtain ⟨cq4, kq4, q4a, q4b, q4c⟩ := isOf hZ e3 E_w2
  have iw : own_I Z a0 := ⟨(ww hw 1 rfl), (ww hw 31 rfl), (ww hw 38 rfl), (ww hw 113 rfl)⟩
  obtain ⟨_, _, ⟨T4, L4, k4, n4⟩, -, X4, ⟨Lc4, hQ4, l4, y4, z4⟩, st4⟩ := X3.interfaceBack hx (xi := ym47) (y := ym39) hown (mvT hZ (ww hw 188 rfl)) (mvT hZ (ww hw 189 rfl)) (mvT hZ (ww hw 190 rfl)) (mvT hZ (ww hw 191 rfl)) (mvT hZ (ww hw 192 rfl)) (mvT hZ (ww hw 193 rfl)) (mvT hZ (ww hw 194 rfl)) (mvT hZ (ww hw 168 rfl)) (by decide) (backOf (W := 0) (rm31b l Z a0 hw [] w2 ea ke es y h0 n0 Z0 Y0.2.2.1 hy g_w2 g_ea Y0.2.2.1.1) hZ (ww hw 195 rfl) (ww hw 114 rfl) (by decide) (by decide)) q4a q4b q4c (g := (mkF m 4 aa1 [(.ref w2)])) rfl (by rw [hml]; rfl) (Steps.refl _) (argsL := []) (rest := []) (lenOf pd_32_23 rfl) rfl (wz rfl) (hb hby d30_4) (fun _ _ => ⟨rfl, e3, (by decide : 0 + 0 ≤ _), (by decide : 0 + 0 ≤ _)⟩)
  dsimp only [Pt.U, Pt.locs, Pt.cells, Pt.slots] at X4 l4 y4 z4 st4 hQ4
  subst l4 y4 z4
  obtain ⟨rfl, N4q, K4, D4q⟩ := hQ4
  have Y4 := Y0.deq iw K4 (by simp) D4q
  have SC4 := own_staX SC Y0 K4 (by simp)
  have SS4 := SS.kX Y0 iw hz (by decide) K4 (by simp)
  have P4 : Keep h0 T4.heap [a1, w8, va, w2, ea] := own_sub K4 (by simp)
  have D4 := C0.trans (CHr.keep K4 (own_safeX hw Y0 hZ hc (by simp)) C0.1)
  have N4 := Fr.app N0 N4q
  obtain ⟨T5, X5, e5, st5⟩ := castY X4 hx hZ hown (ww hw 212 rfl) rfl (Ins.self SS4.1) (g := (mkF m 9 aa1 [(.ref y)])) rfl rfl (hb hby d30_9)
  let aa2 : Array Slot := #[.val (.ref a1), .val (.ref y)]
  obtain ⟨T7, X7, e7, st7⟩ := getF X5 hx hZ hown (host := "") (Or.inl (ww hw 140 rfl)) Via.refl e5 Y4.1.2.2.2 (g := (mkF m 14 aa2 [(.ref a1)])) rfl rfl (hb hby d30_14)
  obtain ⟨T9, X9, e9, st9⟩ := getF X7 hx hZ hown (host := "") (Or.inl (ww hw 110 rfl)) Via.refl e7 Y4.1.2.1 (g := (mkF m 39 aa2 [(.ref a1)])) rfl rfl (hb hby d30_39)
  obtain ⟨la10, T10, h10, k10, lb10, lk10, X10, e10, E10, S10, kk10, hZ10, hown10, El10, Fc10, Fv10, Vl10, lt10, ltb10, C10, -, ns10, st10⟩ := ldcCH (s := s) (vm0 := s.vm) X9 hx hZ hown (ww hw 305 rfl) wS e9 S0 K4.1 hEL (by simp) D4.1 (text := "</") (vs := own_lt) (z := (2 : Int32)) ⟨by decide, by rfl⟩ (by decide) rfl (g := (mkF m 42 aa2 [(.ref w8)])) rfl (hb hby d30_42) (n := 8) (by decide) (by decide) (by decide) (by decide)
  have K10 : Keep h0 h10 [a1, w8, va, w2, ea] := P4.ext E10
  have Y10 := Y4.ext E10
  have SC10 := SC4.ext E10
  have D10 := D4.trans C10
  obtain ⟨cq11, kq11, q11a, q11b, q11c⟩ := isOf hZ10 e10 Y10.2.1.1
  obtain ⟨_, _, ⟨T11, L11, k11, n11⟩, -, X11, ⟨Lc11, hQ11, l11, y11, z11⟩, st11⟩ := X10.virtualBack hx (y := ym07) (z := ym07) hown10 (mvT hZ10 (ww hw 160 rfl)) (mvT hZ10 (ww hw 76 rfl)) (notFace_of_selects (args := #[]) (mvT hZ10 (ww hw 78 rfl))) (mvT hZ10 (ww hw 78 rfl)) (mvT hZ10 (ww hw 77 rfl)) (by decide) (backOf (W := 0) (rm13 l Z a0 hw [] w8 la10 n va kb cap vs lb10 lk10 (2 : Int32) own_lt G1 h10 n0 (Nat.le_trans Z0 K10.1) SC10 P3 Y10.2.1 ⟨El10, Fv10, Fc10, Vl10, rfl⟩ R1 g_va g_w8 Y10.2.1.1) hZ10 (ww hw 79 rfl) (ww hw 39 rfl) (by decide) (by decide)) q11a q11c (g := (mkF m 44 aa2 [(.ref la10), (.ref w8)])) rfl (by rw [hml]; rfl) (Steps.refl _) (argsL := [(.ref la10)]) (rest := []) (lenOf pd_12_10 rfl) rfl (wz rfl) (hb hby d30_44) (fun _ _ => ⟨rfl, e10, (by decide : 2 + 0 ≤ _), (by decide : 12 + 0 ≤ _)⟩)
  dsimp only [Pt.U, Pt.locs, Pt.cells, Pt.slots] at X11 l11 y11 z11 st11 hQ11
  subst l11 y11 z11
  obtain ⟨rfl, N11q, K11, B11⟩ := hQ11
  have Y11 := Y10.app iw K11 B11
  have SC11 := own_staX SC10 Y10 K11 (by simp)
  have SS11 := (SS4.ext E10).kX Y10 iw hz (by decide) K11 (by simp)
  have P11 : Keep h0 T11.heap [a1, w8, va, w2, ea] := own_tr K10 K11 (by simp)
  have D11 := D10.trans (CHr.keep K11 (own_safeX hw Y10 hZ10 hc (by simp)) D10.1)
  have N11 := Fr.app N4 N11q
  obtain ⟨cq12, kq12, q12a, q12b, q12c⟩ := isOf hZ10 rfl Y11.2.1.1
  obtain ⟨_, _, ⟨T12, L12, k12, n12⟩, -, X12, ⟨Lc12, hQ12, l12, y12, z12⟩, st12⟩ := X11.virtualBack hx (y := ym07) (z := ym07) hown10 (mvT hZ10 (ww hw 160 rfl)) (mvT hZ10 (ww hw 76 rfl)) (notFace_of_selects (args := #[]) (mvT hZ10 (ww hw 78 rfl))) (mvT hZ10 (ww hw 78 rfl)) (mvT hZ10 (ww hw 77 rfl)) (by decide) (backOf (W := 0) (rm13 l Z a0 hw [] w8 y (n + (2 : Int32)) va kb cap (vs ++ own_lt) t ks (2 : Int32) us G1 T11.heap n0 (Nat.le_trans Z0 P11.1) SC11 P3 Y11.2.1 SS11 R2 g_va g_w8 Y11.2.1.1) hZ10 (ww hw 79 rfl) (ww hw 39 rfl) (by decide) (by decide)) q12a q12c (g := (mkF m 48 aa2 [(.ref y), (.ref w8)])) rfl (by rw [hml]; rfl) (Steps.refl _) (argsL := [(.ref y)]) (rest := []) (lenOf pd_12_10 rfl) rfl (wz rfl) (hb hby d30_48) (fun _ _ => ⟨rfl, rfl, (by decide : 2 + 0 ≤ _), (by decide : 12 + 0 ≤ _)⟩)
  dsimp only [Pt.U, Pt.locs, Pt.cells, Pt.slots] at X12 l12 y12 z12 st12 hQ12
  subst l12 y12 z12
  obtain ⟨rfl, N12q, K12, B12⟩ := hQ12
  have Y12 := Y11.app iw K12 B12
  have SC12 := own_staX SC11 Y11 K12 (by simp)
  have P12 : Keep h0 T12.heap [a1, w8, va, w2, ea] := own_tr P11 K12 (by simp)
  have D12 := D11.trans (CHr.keep K12 (own_safeX hw Y11 hZ10 hc (by simp)) D11.1)
  have N12 := Fr.app N11 N12q
  obtain ⟨cq13, kq13, q13a, q13b, q13c⟩ := isOf hZ10 rfl Y12.2.1.1
  obtain ⟨_, _, ⟨T13, L13, k13, n13⟩, -, X13, ⟨Lc13, hQ13, l13, y13, z13⟩, st13⟩ := X12.virtualBack hx (y := ym12) (z := ym12) hown10 (mvT hZ10 (ww hw 142 rfl)) (mvT hZ10 (ww hw 143 rfl)) (notFace_of_selects (args := #[]) (mvT hZ10 (ww hw 145 rfl))) (mvT hZ10 (ww hw 145 rfl)) (mvT hZ10 (ww hw 144 rfl)) (by decide) (backOf (W := 0) (rm23 l Z a0 hw [] w8 (62 : Int32) ((n + (2 : Int32)) + (2 : Int32)) va kb cap ((vs ++ own_lt) ++ us) G1 T12.heap n0 (Nat.le_trans Z0 P12.1) SC12 P3 Y12.2.1 R3 (by decide) g_w8 g_va Y12.2.1.1) hZ10 (ww hw 146 rfl) (ww hw 39 rfl) (by decide) (by decide)) q13a q13c (g := (mkF m 53 aa2 [(.int 62), (.ref w8)])) rfl (by rw [hml]; rfl) (Steps.refl _) (argsL := [(.int 62)]) (rest := []) (lenOf pd_22_16 rfl) rfl (wz rfl) (hb hby d30_53) (fun _ _ => ⟨rfl, rfl, (by decide : 2 + 0 ≤ _), (by decide : 12 + 0 ≤ _)⟩)
  dsimp only [Pt.U, Pt.locs, Pt.cells, Pt.slots] at X13 l13 y13 z13 st13 hQ13
  subst l13 y13 z13
  obtain ⟨rfl, N13q, K13, B13⟩ := hQ13
  have Y13 := Y12.app iw K13 B13
  have P13 : Keep h0 T13.heap [a1, w8, va, w2, ea] := own_tr P12 K13 (by simp)
  have D13 := D12.trans (CHr.keep K13 (own_safeX hw Y12 hZ10 hc (by simp)) D12.1)
  have N13 := Fr.app N12 N13q
  obtain ⟨fs, hr, hrun, hended, hRE⟩ := X13.leaveW S10 (by have := K11.1; have := K12.1; have := K13.1; omega) (v := some (.ref a1)) (fun h => by rw [Bd.returns] at h; cases h)
  refine ⟨_, _, pre0 _ ?_, hrun, hended, _, _, rfl, ?_, ?_, hRE.1, hRE.2.1, hRE.2.2.1, hRE.2.2.2.mono (by decide) (by decide)⟩
  · show Sw s₁ m 0 aa1 [] _
    refine XS.aloadN X0.here hx rfl (hb hby d30_0) rfl rfl ?_
    show Sw s₁ m 1 aa1 [(.ref a1)] _
    refine st3 _ ?_
    show Sw T3 m 4 aa1 [(.ref w2)] _
    refine st4.trans ?_
    show Sw T4 m 9 aa1 [(.ref y)] _
    refine st5 _ ?_
    show Sw T5 m 12 aa1 [(.ref y)] _
    refine XS.astoreN X5.here hx rfl (hb hby d30_12) rfl rfl (l' := aa2) rfl ?_
    show Sw T5 m 13 aa2 [] _
    refine XS.aloadN X5.here hx rfl (hb hby d30_13) rfl rfl ?_
    show Sw T5 m 14 aa2 [(.ref a1)] _
    refine st7 _ ?_
    show Sw T7 m 17 aa2 [(.int 0)] _
    refine XS.ifYes X7.here hx rfl (pc0 := 17) (pc' := 38) rfl (hb hby d30_17) rfl ((if0 _ _).trans (teq hc17).1) (by decide) (by decide) ?_
    show Sw T7 m 38 aa2 [] _
    refine XS.aloadN X7.here hx rfl (hb hby d30_38) rfl rfl ?_
    show Sw T7 m 39 aa2 [(.ref a1)] _
    refine st9 _ ?_
    show Sw T9 m 42 aa2 [(.ref w8)] _
    refine st10 _ ?_
    show Sw T10 m 44 aa2 [(.ref la10), (.ref w8)] _
    refine st11.trans ?_
    show Sw T11 m 47 aa2 [(.ref w8)] _
    refine XS.aloadN X11.here hx rfl (hb hby d30_47) rfl rfl ?_
    show Sw T11 m 48 aa2 [(.ref y), (.ref w8)] _
    refine st12.trans ?_
    show Sw T12 m 51 aa2 [(.ref w8)] _
    refine XS.bipush X12.here hx rfl (hb hby d30_51) ?_
    show Sw T12 m 53 aa2 [(.int 62), (.ref w8)] _
    refine st13.trans ?_
    show Sw T13 m 56 aa2 [(.ref w8)] _
    refine XS.pop X13.here hx rfl (hb hby d30_56) rfl rfl ?_
    show Sw T13 m 57 aa2 [] _
    refine XS.aloadN X13.here hx rfl (hb hby d30_57) rfl rfl ?_
    show Steps p.tables e below (T13.setTop (mkF m 58 aa2 [(.ref a1)])) _
    jvm_step X13.here [X13.here.top, hx, (hb hby d30_58), X13.method', Bd.returns, Value.isRef, FieldType.isReference]
    first | (intro acts; rw [hr _ acts rfl rfl rfl]) | rw [hr _ _ rfl rfl rfl]
    exact Steps.refl _
  · show Qrm30b Z a1 w2 w8 va kb cap n vs ea ke es y t ks us G1 h0 n0 _ T13.heap _
    exact ⟨rfl, N13, P13, Y13⟩
  · show CHr Z own_EL s.vm s.heap T13.vm T13.heap
    rw [hh]
    exact D13.trans (CHv.at (s := s) (vm0 := T10.vm) X13 hZ10 hEL D13.1)
def Qrm30g (Z : State) (a1 : Addr) (w2 : Addr) (w8 : Addr) (va : Addr) (kb : ClassId) (vs : List Value) (ea : Addr) (ke : ClassId) (es : List Value) (y t : Addr) (ks : ClassId) (us : List Value) (G1 : Int32) (h0 : Heap) (n0 : Nat) (v : Option Value) (h : Heap) (L : List Loc) : Prop := ∃ x k', h0.size ≤ x ∧ v = some (.ref a1) ∧ Fr n0 L ∧ Keep h0 h [a1, w8, va, w2, ea] ∧ own_X Z h a1 w8 w2 x k' (112 : Int32) (((54 : Int32) + (2 : Int32)) + (1 : Int32)) (((vs ++ own_lt) ++ us) ++ [.int ((62 : Int32).toInt8.toInt32)]) ea ke (0 : Int32) (es.set 16 .null) (0 : Int32)
set_option maxRecDepth 65536 in
set_option maxHeartbeats 40000000 in
theorem rm30g (l : Launch) (Z : State) (a0 : Array Value) (hw : HW a0 Z) (ws : List Jvm.Cond) (a1 : Addr) (w2 : Addr) (w8 : Addr) (va : Addr) (kb : ClassId) (vs : List Value) (ea : Addr) (ke : ClassId) (es : List Value) (y t : Addr) (ks : ClassId) (us : List Value) (G1 : Int32) (h0 : Heap) (n0 : Nat) (Z0 : n0 ≤ h0.size) (SC : Sta Z h0 "java/lang/String" "COMPACT_STRINGS" "Z" (.int G1)) (P3 : ¬ (G1 = (0 : Int32))) (Y0 : own_X Z h0 a1 w8 w2 va kb (55 : Int32) (52 : Int32) vs ea ke (16 : Int32) es (0 : Int32)) (SS : own_S Z h0 y t ks (2 : Int32) us) (hy : es.getD 16 .null = .ref y) (hz : (2 : Int32).toNatClampNeg ≠ (55 : Int32).toNatClampNeg) (hc : own_len (55 : Int32)) (g_a1 : n0 ≤ a1) (g_w8 : n0 ≤ w8) (g_va : n0 ≤ va) (g_w2 : n0 ≤ w2) (g_ea : n0 ≤ ea) (F_open_a1 : Fld Z h0 a1 "org/athenaeum/xml/XmlWriter" "open" "Ljava/util/Deque;" (.ref w2)) (E_w2 : Exa Z h0 w2 "java/util/ArrayDeque") (F_inStartTag_a1 : Fld Z h0 a1 "org/athenaeum/xml/XmlWriter" "inStartTag" "Z" (.int 0)) (F_out_a1 : Fld Z h0 a1 "org/athenaeum/xml/XmlWriter" "out" "Ljava/lang/StringBuilder;" (.ref w8)) (E_w8 : Exa Z h0 w8 "java/lang/StringBuilder") (hc17 : (0 : Int32) = (0 : Int32)) :
    MetFree l ym46 (head1 (Jvm.Cond.code ym46 prog_100_method_5_code 2 (some (.object "org/athenaeum/xml/XmlWriter")) :: ws) rm_30) (fun a U => a = #[(.ref a1)] ∧ Z.Warmed39 U.vm ∧ U.heap = h0 ∧ CHv Z own_EL U.vm h0) (fun _ _ _ _ _ => True) (fun _ U o U' => ∃ v L, o = .returned v ∧ Qrm30g Z a1 w2 w8 va kb vs ea ke es y t ks us G1 h0 n0 v U'.heap L ∧ CHr Z own_EL U.vm U.heap U'.vm U'.heap ∧ ReturnedEndW U o U' L rm_30.cells rm_30.slots) := by
  refine MetFree.of_bodySF (plainFor_of_name pn_22) hisR ?_
  intro p e s m args below meth c s₁ Bd hml0 hP hK
  obtain ⟨rfl, hZ, hh, CH0⟩ := hP
  have S0 : s.Since s.vm h0.size := (State.WarmedH.refl s).since _
  have C0 : CHr Z own_EL s.vm h0 s.vm h0 := CHr.refl CH0
  have hEL := own_EW hw
  have wS : ∀ a ∈ Bundle.stringAtoms, a.before a0 Z = true := fun d hd => hw d ((by decide +kernel : ∀ d ∈ Bundle.stringAtoms, d ∈ tables_1) d hd)
  have hx := Bd.exec
  have hby := Bd.bytes
  have hml : c.maxLocals = 2 := hml0
  have hown : s.vm.findClass "org/athenaeum/xml/XmlWriter" = some m.cls := findClass_of_methodNamed Bd.named
  have X0 : Stand p l e rm_30 s m #[(.ref a1)] below meth c s₁ [] 0 0 := Stand.of_body Bd
  have e0 : s₁.heap = h0 := by rw [← hh, Bd.state]; rfl
  have N0 := Fr.nil n0
  let aa1 : Array Slot := #[.val (.ref a1), .unset]
  have pre0 : ∀ t, Steps p.tables e below (s₁.setTop (mkF m 0 aa1 [])) t → Steps p.tables e below (s₁.setTop (entryFrame m #[(.ref a1)] 2)) t := fun t k => castTop (ef_32 m a1) k
  obtain ⟨T3, X3, e3, st3⟩ := getF X0 hx hZ hown (host := "") (Or.inl (ww hw 129 rfl)) Via.refl e0 F_open_a1 (g := (mkF m 1 aa1 [(.ref a1)])) rfl rfl (hb hby d30_1)
  obtain ⟨cq4, kq4, q4a, q4b, q4c⟩ := isOf hZ e3 E_w2
  have iw : own_I Z a0 := ⟨(ww hw 1 rfl), (ww hw 31 rfl), (ww hw 38 rfl), (ww hw 113 rfl)⟩
  obtain ⟨_, _, ⟨T4, L4, k4, n4⟩, -, X4, ⟨Lc4, hQ4, l4, y4, z4⟩, st4⟩ := X3.interfaceBack hx (xi := ym47) (y := ym39) hown (mvT hZ (ww hw 188 rfl)) (mvT hZ (ww hw 189 rfl)) (mvT hZ (ww hw 190 rfl)) (mvT hZ (ww hw 191 rfl)) (mvT hZ (ww hw 192 rfl)) (mvT hZ (ww hw 193 rfl)) (mvT hZ (ww hw 194 rfl)) (mvT hZ (ww hw 168 rfl)) (by decide) (backOf (W := 0) (rm31b l Z a0 hw [] w2 ea ke es y h0 n0 Z0 Y0.2.2.1 hy g_w2 g_ea Y0.2.2.1.1) hZ (ww hw 195 rfl) (ww hw 114 rfl) (by decide) (by decide)) q4a q4b q4c (g := (mkF m 4 aa1 [(.ref w2)])) rfl (by rw [hml]; rfl) (Steps.refl _) (argsL := []) (rest := []) (lenOf pd_32_23 rfl) rfl (wz rfl) (hb hby d30_4) (fun _ _ => ⟨rfl, e3, (by decide : 0 + 0 ≤ _), (by decide : 0 + 0 ≤ _)⟩)
  dsimp only [Pt.U, Pt.locs, Pt.cells, Pt.slots] at X4 l4 y4 z4 st4 hQ4
  subst l4 y4 z4
  obtain ⟨rfl, N4q, K4, D4q⟩ := hQ4
  have Y4 := Y0.deq iw K4 (by simp) D4q
  have SC4 := own_staX SC Y0 K4 (by simp)
  have SS4 := SS.kX Y0 iw hz (by decide) K4 (by simp)
  have P4 : Keep h0 T4.heap [a1, w8, va, w2, ea] := own_sub K4 (by simp)
  have D4 := C0.trans (CHr.keep K4 (own_safeX hw Y0 hZ hc (by simp)) C0.1)
  have N4 := Fr.app N0 N4q
  obtain ⟨T5, X5, e5, st5⟩ := castY X4 hx hZ hown (ww hw 212 rfl) rfl (Ins.self SS4.1) (g := (mkF m 9 aa1 [(.ref y)])) rfl rfl (hb hby d30_9)
  let aa2 : Array Slot := #[.val (.ref a1), .val (.ref y)]
  obtain ⟨T7, X7, e7, st7⟩ := getF X5 hx hZ hown (host := "") (Or.inl (ww hw 140 rfl)) Via.refl e5 Y4.1.2.2.2 (g := (mkF m 14 aa2 [(.ref a1)])) rfl rfl (hb hby d30_14)
  obtain ⟨T9, X9, e9, st9⟩ := getF X7 hx hZ hown (host := "") (Or.inl (ww hw 110 rfl)) Via.refl e7 Y4.1.2.1 (g := (mkF m 39 aa2 [(.ref a1)])) rfl rfl (hb hby d30_39)
  obtain ⟨la10, T10, h10, k10, lb10, lk10, X10, e10, E10, S10, kk10, hZ10, hown10, El10, Fc10, Fv10, Vl10, lt10, ltb10, C10, -, ns10, st10⟩ := ldcCH (s := s) (vm0 := s.vm) X9 hx hZ hown (ww hw 305 rfl) wS e9 S0 K4.1 hEL (by simp) D4.1 (text := "</") (vs := own_lt) (z := (2 : Int32)) ⟨by decide, by rfl⟩ (by decide) rfl (g := (mkF m 42 aa2 [(.ref w8)])) rfl (hb hby d30_42) (n := 8) (by decide) (by decide) (by decide) (by decide)
  have K10 : Keep h0 h10 [a1, w8, va, w2, ea] := P4.ext E10
  have Y10 := Y4.ext E10
  have SC10 := SC4.ext E10
  have D10 := D4.trans C10
  obtain ⟨cq11, kq11, q11a, q11b, q11c⟩ := isOf hZ10 e10 Y10.2.1.1
  obtain ⟨_, _, ⟨T11, L11, k11, n11⟩, -, X11, ⟨Lc11, hQ11, l11, y11, z11⟩, st11⟩ := X10.virtualBack hx (y := ym07) (z := ym07) hown10 (mvT hZ10 (ww hw 160 rfl)) (mvT hZ10 (ww hw 76 rfl)) (notFace_of_selects (args := #[]) (mvT hZ10 (ww hw 78 rfl))) (mvT hZ10 (ww hw 78 rfl)) (mvT hZ10 (ww hw 77 rfl)) (by decide) (backOf (W := 0) (rm13 l Z a0 hw [] w8 la10 (52 : Int32) va kb (55 : Int32) vs lb10 lk10 (2 : Int32) own_lt G1 h10 n0 (Nat.le_trans Z0 K10.1) SC10 P3 Y10.2.1 ⟨El10, Fv10, Fc10, Vl10, rfl⟩ (by unfold own_R; decide) g_va g_w8 Y10.2.1.1) hZ10 (ww hw 79 rfl) (ww hw 39 rfl) (by decide) (by decide)) q11a q11c (g := (mkF m 44 aa2 [(.ref la10), (.ref w8)])) rfl (by rw [hml]; rfl) (Steps.refl _) (argsL := [(.ref la10)]) (rest := []) (lenOf pd_12_10 rfl) rfl (wz rfl) (hb hby d30_44) (fun _ _ => ⟨rfl, e10, (by decide : 2 + 0 ≤ _), (by decide : 12 + 0 ≤ _)⟩)
  dsimp only [Pt.U, Pt.locs, Pt.cells, Pt.slots] at X11 l11 y11 z11 st11 hQ11
  subst l11 y11 z11
  obtain ⟨rfl, N11q, K11, B11⟩ := hQ11
  have Y11 := Y10.app iw K11 B11
  have SC11 := own_staX SC10 Y10 K11 (by simp)
  have SS11 := (SS4.ext E10).kX Y10 iw hz (by decide) K11 (by simp)
  have P11 : Keep h0 T11.heap [a1, w8, va, w2, ea] := own_tr K10 K11 (by simp)
  have D11 := D10.trans (CHr.keep K11 (own_safeX hw Y10 hZ10 hc (by simp)) D10.1)
  have N11 := Fr.app N4 N11q
  obtain ⟨cq12, kq12, q12a, q12b, q12c⟩ := isOf hZ10 rfl Y11.2.1.1
  have B11g : own_B Z T11.heap w8 va kb (55 : Int32) (54 : Int32) (vs ++ own_lt) := Y11.2.1
  obtain ⟨_, _, ⟨T12, L12, k12, n12⟩, -, X12, ⟨Lc12, hQ12, l12, y12, z12⟩, st12⟩ := X11.virtualBack hx (y := ym07) (z := ym07) hown10 (mvT hZ10 (ww hw 160 rfl)) (mvT hZ10 (ww hw 76 rfl)) (notFace_of_selects (args := #[]) (mvT hZ10 (ww hw 78 rfl))) (mvT hZ10 (ww hw 78 rfl)) (mvT hZ10 (ww hw 77 rfl)) (by decide) (backOf (W := 0) (rm13g l Z a0 hw [] w8 y va kb (vs ++ own_lt) t ks us G1 T11.heap n0 (Nat.le_trans Z0 P11.1) SC11 P3 B11g SS11 g_w8 Y11.2.1.1) hZ10 (ww hw 79 rfl) (ww hw 39 rfl) (by decide) (by decide)) q12a q12c (g := (mkF m 48 aa2 [(.ref y), (.ref w8)])) rfl (by rw [hml]; rfl) (Steps.refl _) (argsL := [(.ref y)]) (rest := []) (lenOf pd_12_10 rfl) rfl (wz rfl) (hb hby d30_48) (fun _ _ => ⟨rfl, rfl, (by decide : 2 + 1 ≤ _), (by decide : 12 + 112 ≤ _)⟩)
  dsimp only [Pt.U, Pt.locs, Pt.cells, Pt.slots] at X12 l12 y12 z12 st12 hQ12
  subst l12 y12 z12
  obtain ⟨x12, k12', s12, rfl, N12q, K12, B12⟩ := hQ12
  have Y12 := Y11.grow iw K12 B12 (by decide)
  have SC12 := own_staX SC11 Y11 K12 (by simp)
  have P12 : Keep h0 T12.heap [a1, w8, va, w2, ea] := own_tr P11 K12 (by simp)
  have D12 := D11.trans (CHr.keep K12 (own_safeX hw Y11 hZ10 hc (by simp)) D11.1)
  have sx : h0.size ≤ x12 := Nat.le_trans P11.1 s12
  have N12 := Fr.app N11 N12q
  obtain ⟨cq13, kq13, q13a, q13b, q13c⟩ := isOf hZ10 rfl Y12.2.1.1
  obtain ⟨_, _, ⟨T13, L13, k13, n13⟩, -, X13, ⟨Lc13, hQ13, l13, y13, z13⟩, st13⟩ := X12.virtualBack hx (y := ym12) (z := ym12) hown10 (mvT hZ10 (ww hw 142 rfl)) (mvT hZ10 (ww hw 143 rfl)) (notFace_of_selects (args := #[]) (mvT hZ10 (ww hw 145 rfl))) (mvT hZ10 (ww hw 145 rfl)) (mvT hZ10 (ww hw 144 rfl)) (by decide) (backOf (W := 0) (rm23 l Z a0 hw [] w8 (62 : Int32) ((54 : Int32) + (2 : Int32)) x12 k12' (112 : Int32) ((vs ++ own_lt) ++ us) G1 T12.heap n0 (Nat.le_trans Z0 P12.1) SC12 P3 Y12.2.1 (by unfold own_R; decide) (by decide) g_w8 (Nat.le_trans Z0 sx) Y12.2.1.1) hZ10 (ww hw 146 rfl) (ww hw 39 rfl) (by decide) (by decide)) q13a q13c (g := (mkF m 53 aa2 [(.int 62), (.ref w8)])) rfl (by rw [hml]; rfl) (Steps.refl _) (argsL := [(.int 62)]) (rest := []) (lenOf pd_22_16 rfl) rfl (wz rfl) (hb hby d30_53) (fun _ _ => ⟨rfl, rfl, (by decide : 3 + 0 ≤ _), (by decide : 124 + 0 ≤ _)⟩)
  dsimp only [Pt.U, Pt.locs, Pt.cells, Pt.slots] at X13 l13 y13 z13 st13 hQ13
  subst l13 y13 z13
  obtain ⟨rfl, N13q, K13, B13⟩ := hQ13
  have Y13 := Y12.app iw K13 B13
  have P13 : Keep h0 T13.heap [a1, w8, va, w2, ea] := P12.trans K13 (allS (Or.inl (by simp)) (allS (Or.inr sx) all0))
  have D13 := D12.trans (CHr.keep K13 (own_safeX hw Y12 hZ10 (by unfold own_len; decide) (by simp)) D12.1)
  have N13 := Fr.app N12 N13q
  obtain ⟨fs, hr, hrun, hended, hRE⟩ := X13.leaveW S10 (by have := K11.1; have := K12.1; have := K13.1; omega) (v := some (.ref a1)) (fun h => by rw [Bd.returns] at h; cases h)
  refine ⟨_, _, pre0 _ ?_, hrun, hended, _, _, rfl, ?_, ?_, hRE.1, hRE.2.1, hRE.2.2.1, hRE.2.2.2.mono (by decide) (by decide)⟩
  · show Sw s₁ m 0 aa1 [] _
    refine XS.aloadN X0.here hx rfl (hb hby d30_0) rfl rfl ?_
    show Sw s₁ m 1 aa1 [(.ref a1)] _
    refine st3 _ ?_
    show Sw T3 m 4 aa1 [(.ref w2)] _
    refine st4.trans ?_
    show Sw T4 m 9 aa1 [(.ref y)] _
    refine st5 _ ?_
    show Sw T5 m 12 aa1 [(.ref y)] _
    refine XS.astoreN X5.here hx rfl (hb hby d30_12) rfl rfl (l' := aa2) rfl ?_
    show Sw T5 m 13 aa2 [] _
    refine XS.aloadN X5.here hx rfl (hb hby d30_13) rfl rfl ?_
    show Sw T5 m 14 aa2 [(.ref a1)] _
    refine st7 _ ?_
    show Sw T7 m 17 aa2 [(.int 0)] _
    refine XS.ifYes X7.here hx rfl (pc0 := 17) (pc' := 38) rfl (hb hby d30_17) rfl ((if0 _ _).trans (teq hc17).1) (by decide) (by decide) ?_
    show Sw T7 m 38 aa2 [] _
    refine XS.aloadN X7.here hx rfl (hb hby d30_38) rfl rfl ?_
    show Sw T7 m 39 aa2 [(.ref a1)] _
    refine st9 _ ?_
    show Sw T9 m 42 aa2 [(.ref w8)] _
    refine st10 _ ?_
    show Sw T10 m 44 aa2 [(.ref la10), (.ref w8)] _
    refine st11.trans ?_
    show Sw T11 m 47 aa2 [(.ref w8)] _
    refine XS.aloadN X11.here hx rfl (hb hby d30_47) rfl rfl ?_
    show Sw T11 m 48 aa2 [(.ref y), (.ref w8)] _
    refine st12.trans ?_
    show Sw T12 m 51 aa2 [(.ref w8)] _
    refine XS.bipush X12.here hx rfl (hb hby d30_51) ?_
    show Sw T12 m 53 aa2 [(.int 62), (.ref w8)] _
    refine st13.trans ?_
    show Sw T13 m 56 aa2 [(.ref w8)] _
    refine XS.pop X13.here hx rfl (hb hby d30_56) rfl rfl ?_
    show Sw T13 m 57 aa2 [] _
    refine XS.aloadN X13.here hx rfl (hb hby d30_57) rfl rfl ?_
    show Steps p.tables e below (T13.setTop (mkF m 58 aa2 [(.ref a1)])) _
    jvm_step X13.here [X13.here.top, hx, (hb hby d30_58), X13.method', Bd.returns, Value.isRef, FieldType.isReference]
    first | (intro acts; rw [hr _ acts rfl rfl rfl]) | rw [hr _ _ rfl rfl rfl]
    exact Steps.refl _
  · show Qrm30g Z a1 w2 w8 va kb vs ea ke es y t ks us G1 h0 n0 _ T13.heap _
    exact ⟨x12, k12', sx, rfl, N13, P13, Y13⟩
  · show CHr Z own_EL s.vm s.heap T13.vm T13.heap
    rw [hh]
    exact D13.trans (CHv.at (s := s) (vm0 := T10.vm) X13 hZ10 hEL D13.1)
section
theorem own_acc {vm : Vm} {flags : Nat} {c t d : ClassId} {ck tk dk : Class} {n : String} (h : (plainAccess vm flags c ck t d dk || (tk.isArray && n == "clone" && c != t)) = true) (hn : n ≠ "clone") : vm.Plain flags c ck t d dk := by
  have e : (n == "clone") = false := by simp [hn]
  rw [e] at h
  simp only [Bool.and_false, Bool.false_and, Bool.or_false] at h
  simpa [Vm.Plain, plainAccess, or_assoc, and_assoc] using h
/-- a methodLink word, opened: its entry, what the entry names, the access -/
theorem own_word {a : Array Value} {s : State} {C : String} {i : Nat} {x : MethodName} {d c : ClassId} {r : MethodId} {mt : Method} {dk ck rk : Class} (hd : s.vm.findClass C = some d) (hc : s.vm.findClass x.cls = some c) (hf : s.methodFound? x.cls x.name x.desc = some r) (hm : s.vm.method? r = some mt) (h1 : s.vm.classes[d]? = some dk) (h2 : s.vm.classes[c]? = some ck) (h3 : s.vm.classes[r.cls]? = some rk) (h : (Cond.methodLink C i x).before a s = true) :
    ∃ ci, s.memberEntry? C i = some (ci, ck.isInterface) ∧ s.classLinks C ci x.cls = some true ∧ s.names C i (.method x.cls x.name x.desc) = true ∧ s.openOr C i (.method r) = true ∧ rk.loader = none ∧ (plainAccess s.vm mt.accessFlags r.cls rk c d dk || (ck.isArray && x.name == "clone" && r.cls != c)) = true := by
  have k := Cond.before_iff.mp h
  simp only [Cond.value, hd, hc, hf] at k
  rcases e1 : s.memberEntry? C i with _ | ⟨ci, via⟩ <;> rw [e1] at k
  · cases k
  rcases e2 : s.classLinks C ci x.cls with _ | b
  · simp [e2] at k
  simp only [e2, h1, h2, h3, hm, Option.bind_eq_bind, Option.bind_some, Option.pure_def, Option.some.injEq, Bool.and_eq_true, beq_iff_eq, Option.isNone_iff_eq_none] at k
  exact ⟨ci, by rw [← k.1.1.1.1.2], by rw [e2, k.1.1.1.1.1.1.1], k.1.1.1.1.1.1.2, k.1.1.1.1.1.2, k.1.2, k.2⟩
/-- the entry of an interface reference whose method another class or interface declares -/
theorem own_links {a : Array Value} {s : State} {C : String} {i : Nat} {x : MethodName} {d c : ClassId} {r : MethodId} {mt : Method} {ck rk : Class} (hd : s.vm.findClass C = some d) (hc : s.vm.findClass x.cls = some c) (h2 : s.vm.classes[c]? = some ck) (hi : ck.isInterface = true) (hno : ck.findMethod x.name x.desc = none) (hf : s.methodFound? x.cls x.name x.desc = some r) (h3 : s.vm.classes[r.cls]? = some rk) (hrm : rk.methods[r.idx]? = some mt) (hn : x.name ≠ "clone") (hx : x.cls ≠ "java/lang/invoke/MethodHandle" ∧ x.cls ≠ "java/lang/invoke/VarHandle") (h : (Cond.methodLink C i x).before a s = true) (pl : Platform) (hpl : pl.magicAccessors = ({} : Platform).magicAccessors) :
    ∃ ci, s.vm.MethodLinksFF pl d i ci c r ∧ s.rightAt d i (.method r) = true := by
  obtain ⟨dk, h1, -⟩ := Vm.findClass_spec hd
  obtain ⟨q, hq, hnm⟩ := Vm.findClass_spec hc
  obtain rfl : ck = q := Option.some.inj (h2.symm.trans hq)
  obtain ⟨ci, hme, hcl, hna, hop, hlo, hac⟩ := own_word (mt := mt) hd hc hf (by simp [Vm.method?, h3, hrm]) h1 h2 h3 h
  obtain ⟨c', hc', K⟩ := State.classLinks_spec hd hcl pl hpl
  obtain rfl : c = c' := Option.some.inj (hc.symm.trans hc')
  obtain ⟨cp, hcp, hns⟩ := State.names_spec hna
  obtain ⟨dk', cf, h1', hcf, rfl⟩ := State.poolOf?_spec hd hcp
  obtain rfl : dk = dk' := Option.some.inj (h1.symm.trans h1')
  obtain ⟨cj, nt, hent, hnt, -⟩ := namesOf?_method hns
  have hp : cf.constantPool[i]? = some (.interfaceMethodref ci nt) := by
    rcases hent with t | t
    · simp [State.memberEntry?, hcp, t, hi] at hme
    · simp only [State.memberEntry?, hcp, Option.bind_eq_bind, Option.bind_some, t, Option.some.injEq, Prod.mk.injEq] at hme
      rw [t, hme.1]
  have poly : ∀ y, signaturePolymorphic ck y = false := fun y => by simp [signaturePolymorphic, hnm, hx.1, hx.2]
  obtain ⟨dk2, cf2, nm2, -, u1, u2, u3, u4, -⟩ := K.here
  obtain rfl : dk = dk2 := Option.some.inj (h1.symm.trans u1)
  obtain rfl : cf = cf2 := Option.some.inj (hcf.symm.trans u2)
  have ne : ci ≠ i := fun e => by rw [e] at u4; simp [ConstantPool.className?, hp] at u4
  exact ⟨ci, ⟨dk, cf, nt, x.name, x.desc, ck, rk, mt, h1, hcf, hp, hnt, K, ne, h2, hi, poly, hno, State.faceFind_of_found hc h2 hi poly hno hf, h3, hrm, u3.trans hlo.symm, own_acc hac hn, State.openOr_spec hd h1 hop⟩, by simp [State.rightAt, h1, hcf, hns, hf]⟩
variable {p : Program} {l : Launch} {e : Env} {R : Room} {s : State} {m : MethodId} {args : Array Value} {below : List Frame} {meth : Method} {c : Code} {T : State} {locs : List Loc} {cells slots : Nat}
/-- an interface that finds a method of another's under a name declares none of that name itself -/
theorem own_none {s : State} {I n d : String} {c : ClassId} {k rk : Class} {r : MethodId} {J : String} (hc : s.vm.findClass I = some c) (hk : s.vm.classes[c]? = some k) (hx : I ≠ "java/lang/invoke/MethodHandle" ∧ I ≠ "java/lang/invoke/VarHandle") (hf : s.methodFound? I n d = some r) (hr : s.vm.classes[r.cls]? = some rk) (hJ : rk.name = J) (ne : I ≠ J) : k.findMethod n d = none := by
  obtain ⟨q, hq, hnm⟩ := Vm.findClass_spec hc
  obtain rfl : k = q := Option.some.inj (hk.symm.trans hq)
  rcases t : k.findMethod n d with _ | j
  · rfl
  · have hlt := (Array.findIdx?_eq_some_iff_getElem.mp t).1
    have e1 := State.methodFound?_declared hc hk (fun y => by simp [signaturePolymorphic, hnm, hx.1, hx.2]) t (by simp [hlt])
    have e2 : r.cls = c := by rw [Option.some.inj (hf.symm.trans e1)]
    rw [e2] at hr
    exact absurd (hnm.symm.trans ((congrArg Class.name (Option.some.inj (hk.symm.trans hr))).trans hJ)) ne
/-- a call through an interface of a method that a superinterface declares; the access is what the methodLink word says -/
theorem own_ifUp (X : Stand p l e R s m args below meth c T locs cells slots) (hexec : p.tables.exec = Jvm.exec) {own C J : String} {index count : Nat} {xi y : MethodName}
    (hown : s.vm.findClass own = some m.cls) (hlink : (Cond.methodLink own index xi).before args s = true) (hdecl : (Cond.declares ⟨J, xi.name, xi.desc⟩).before args s = true) (hclo : xi.name ≠ "clone")
    (hface : (Cond.interfaceMethod xi.cls J xi.name xi.desc).before args s = true) (hxo : xi.cls ≠ J) (hsel : (Cond.selects C xi y).before args s = true) (hinst : (Cond.instanceMethod y).before args s = true)
    (hpub : (Cond.publicMethod y).before args s = true) (hunh : (Cond.unhidden C xi.name xi.desc).before args s = true) (hcast : (Cond.castable C xi.cls).before args s = true)
    (hx : xi.cls ≠ "java/lang/invoke/MethodHandle" ∧ xi.cls ≠ "java/lang/invoke/VarHandle")
    {W : Nat} {Pre : Pt → Array Value → Prop} {Post : Pt → Array Value → Option Value → Pt → Prop} (hK : Back l R p e below s args y 5 W Pre Post)
    {b : Addr} {cB : ClassId} {kB : Class} (hcB : s.vm.findClass C = some cB) (hkB : s.vm.classes[cB]? = some kB) (hrecv : IsOf cB T b)
    {g : JFrame} (hg : g.method = m) (hsize : g.locals.size = c.maxLocals) {s₀ : State} (hcome : Steps p.tables e below s₀ (T.setTop g)) {argsL rest : List Value}
    (hlen : ∀ sig, parseMethodDescriptor xi.desc = some sig → argsL.length = sig.parameters.length) (hstack : g.stack = argsL.reverse ++ .ref b :: rest) (hW : 2 * g.monitorRoom + (rest.map fun v => v.category).sum ≤ W)
    (hdg : decode c.code g.pc = .ok (.invokeinterface index count, 5)) (hpre : ∀ vm₁, s.WarmedH vm₁ → Pre ⟨T.setVm vm₁, locs, cells, slots⟩ (.ref b :: argsL).toArray) :
    ∃ (v : Option Value) (vm₁ : Vm) (B : Pt), s.WarmedH vm₁ ∧ Stand p l e R s m args below meth c B.U B.locs B.cells B.slots ∧ Post ⟨T.setVm vm₁, locs, cells, slots⟩ (.ref b :: argsL).toArray v B ∧
      Steps p.tables e below s₀ (B.U.setTop { g with pc := g.pc + 5, stack := v.toList ++ rest }) := by
  subst hg
  obtain ⟨cell, hcell, rfl, hst⟩ := hrecv
  obtain ⟨r0, r, hn, hr, hnst, hsig⟩ := Cond.declares_spec hdecl
  obtain ⟨cI, kI, r1, hI, hkI, hiI, hfI, hn1⟩ := Cond.interfaceMethod_spec hface
  obtain rfl : r0 = r1 := Option.some.inj (hn.symm.trans hn1)
  obtain ⟨k, mt, hk, hmt, -, hab⟩ := Cond.instanceMethod_spec hinst
  obtain ⟨c2, r2, m2, a1, a2, a3, a4, -⟩ := Cond.selects_spec hsel
  obtain rfl : cell.cls = c2 := Option.some.inj (hcB.symm.trans a1)
  obtain rfl : r0 = r2 := Option.some.inj (hfI.symm.trans a2)
  obtain rfl : k = m2 := Option.some.inj (hk.symm.trans a3)
  obtain ⟨c3, t3, b1, b2, b3⟩ := Cond.castable_spec hcast
  obtain rfl : cell.cls = c3 := Option.some.inj (hcB.symm.trans b1)
  obtain rfl : cI = t3 := Option.some.inj (hI.symm.trans b2)
  obtain ⟨rk, hrk, hJ⟩ := className_of_methodNamed hn
  obtain ⟨nm, ds⟩ := name_of_methodNamed hn hr
  obtain ⟨ci, hl, hri⟩ := own_links hown hI hkI hiI (own_none hI hkI hx hfI hrk hJ hxo) hfI hrk (by simpa [Vm.method?, hrk] using hr) hclo hx hlink e.platform (by rw [X.admits.platform])
  have E : s.MethodEntryUp e T.vm g.method.cls index cI r0 ci := State.methodEntryFF X.warmed hl hri
  obtain ⟨dk, cf, nt, -, -, q, -, -, hdk, hcf, hcp, -, -, -, hq, -⟩ := hl.here
  obtain rfl : kI = q := Option.some.inj (hkI.symm.trans hq)
  have al := E.warmed.alike
  obtain ⟨dk', hdk', hres⟩ := E.classReady
  obtain ⟨dk2, f1, f2⟩ := al.2.2 _ _ hdk
  obtain rfl : dk' = dk2 := Option.some.inj (hdk'.symm.trans f1)
  obtain ⟨kI', hkI', f3⟩ := al.2.2 _ _ hkI
  obtain ⟨kB', hkB', -⟩ := al.2.2 _ _ hkB
  have way : ((cell.cls :: (T.vm.calledUp g.method.cls ci index cI r0).superclasses cell.cls).any fun z => (declaredIn (T.vm.calledUp g.method.cls ci index cI r0) r.name r.desc z).any fun (_, w) => w.isPrivate || w.isStatic) = false := by
    have t := Cond.unhidden_spec hcB hunh
    rw [nm, ds]
    simpa only [al.superclasses, al.declaredIn] using t
  have X1 := X.noted E.warmed
  obtain ⟨v, B, X', hpost, hs⟩ := hK g.method meth c ⟨T.setVm (T.vm.calledUp g.method.cls ci index cI r0), locs, cells, slots⟩ { g with stack := rest } (.invokeinterface index count) k (.ref b :: argsL).toArray X1 rfl hsize hdg hW (X1.named hk) (hpre _ E.warmed)
  refine ⟨v, _, B, E.warmed, X', hpost, hcome.trans ?_⟩
  refine Steps.trans ?_ hs
  jvm_step X.here [hexec, hdg, invokeinterface.wp_coldFace (count := count) X.here.top X.warmed E hdk hcf (Or.inr hcp) hkI hiI,
    invokeinterface.wp_ready (s := T.setVm (T.vm.calledUp g.method.cls ci index cI r0)) (count := count) X.here.top E.ready ((al.method? r0).trans hr) hnst (hlen _ hsig) hstack hcell (fun z h => by rw [h] at hst; cases hst) hkB' hdk' (by rw [f2]; exact hcf) hcp hres hkI' (by rw [f3]; exact hiI) ((al.assignable _ _).trans b3) ((al.selectMethod _ _ _).trans ((Launch.admits_selectMethod X.admits _ _ _).trans a4)) ((al.method? k).trans hmt) (Or.inr (Or.inr way)) (Or.inl (Cond.publicMethod_spec hk hmt hpub)) hab]
  intro acts
  rw [doInvoke_state]
  exact Steps.refl _
end
theorem own_mvI {Z s : State} {a0 args : Array Value} {I J n d : String} (hZ : Z.Warmed39 s.vm) (w : (Jvm.Cond.interfaceMethod I J n d).before a0 Z = true) : (Jvm.Cond.interfaceMethod I J n d).before args s = true := by
  obtain ⟨cL, kL, r1, hcL, hkL, hiL, hfL, hn1⟩ := Cond.interfaceMethod_spec w
  have hal := hZ.alike
  obtain ⟨k', hk', ek⟩ := hal.2.2 _ _ hkL
  have h1 : s.vm.findClass I = some cL := by rw [hal.findClass]; exact hcL
  have h2 : s.methodFound? I n d = some r1 := (State.methodFound?_setVm (s := Z) hal I n d).trans hfL
  have h3 : s.methodNamed? ⟨J, n, d⟩ = some r1 := by
    have e := State.methodNamed?_setVm (s := Z) hal ⟨J, n, d⟩
    exact e.trans hn1
  have h4 : k'.isInterface = true := by rw [ek]; exact hiL
  simp [Cond.before, Cond.holds, Cond.value, h1, h2, h3, hk', h4]
/-- a builder of cap places with n signs: n < cap, and few of them -/
def own_T (cap n : Int32) : Prop := n.toNatClampNeg ≤ 58 ∧ n < cap ∧ n.toNatClampNeg ≤ cap.toNatClampNeg ∧ ¬ (n = cap)
theorem d36_0 : decode cd46 0 = .ok (.aload_n 0, 1) := by decide +kernel
theorem d36_1 : decode cd46 1 = .ok (.getfield 23, 3) := by decide +kernel
theorem d36_4 : decode cd46 4 = .ok (.invokeinterface 81 1, 5) := by decide +kernel
theorem d36_9 : decode cd46 9 = .ok (.ifCond .ne 11, 3) := by decide +kernel
theorem d36_20 : decode cd46 20 = .ok (.aload_n 0, 1) := by decide +kernel
theorem d36_21 : decode cd46 21 = .ok (.getfield 14, 3) := by decide +kernel
theorem d36_24 : decode cd46 24 = .ok (.bipush 10, 2) := by decide +kernel
theorem d36_26 : decode cd46 26 = .ok (.invokevirtual 30, 3) := by decide +kernel
theorem d36_29 : decode cd46 29 = .ok (.invokevirtual 85, 3) := by decide +kernel
theorem d36_32 : decode cd46 32 = .ok (.areturn, 1) := by decide +kernel
theorem pd_36_25 : parseMethodDescriptor "()Ljava/lang/String;" = some ⟨[], some (.object "java/lang/String")⟩ := by decide +kernel
def Qrm36z (Z : State) (a1 : Addr) (w2 : Addr) (w5 : Addr) (va : Addr) (kb : ClassId) (cap n : Int32) (vs : List Value) (ea : Addr) (ke : ClassId) (es : List Value) (f : Int32) (G1 : Int32) (h0 : Heap) (n0 : Nat) (v : Option Value) (h : Heap) (L : List Loc) : Prop := ∃ y x k', v = some (.ref y) ∧ Fr n0 L ∧ Keep h0 h [w5, va] ∧ own_S Z h y x k' (n + (1 : Int32)) (vs ++ [.int ((10 : Int32).toInt8.toInt32)])
set_option maxRecDepth 65536 in
set_option maxHeartbeats 40000000 in
theorem rm36z (l : Launch) (Z : State) (a0 : Array Value) (hw : HW a0 Z) (ws : List Jvm.Cond) (a1 : Addr) (w2 : Addr) (w5 : Addr) (va : Addr) (kb : ClassId) (cap n : Int32) (vs : List Value) (ea : Addr) (ke : ClassId) (es : List Value) (f : Int32) (G1 : Int32) (h0 : Heap) (n0 : Nat) (Z0 : n0 ≤ h0.size) (SC : Sta Z h0 "java/lang/String" "COMPACT_STRINGS" "Z" (.int G1)) (P3 : ¬ (G1 = (0 : Int32))) (Y0 : own_X Z h0 a1 w5 w2 va kb cap n vs ea ke (0 : Int32) es f) (R1 : own_R cap n (1 : Int32)) (TT : own_T cap (n + (1 : Int32))) (g_w5 : n0 ≤ w5) (g_va : n0 ≤ va) (F_open_a1 : Fld Z h0 a1 "org/athenaeum/xml/XmlWriter" "open" "Ljava/util/Deque;" (.ref w2)) (E_w2 : Exa Z h0 w2 "java/util/ArrayDeque") (F_out_a1 : Fld Z h0 a1 "org/athenaeum/xml/XmlWriter" "out" "Ljava/lang/StringBuilder;" (.ref w5)) (E_w5 : Exa Z h0 w5 "java/lang/StringBuilder") :
    MetFree l ym48 (head1 (Jvm.Cond.code ym48 prog_100_method_7_code 1 (some (.object "java/lang/String")) :: ws) rm_31) (fun a U => a = #[(.ref a1)] ∧ Z.Warmed39 U.vm ∧ U.heap = h0) (fun _ _ _ _ _ => True) (fun _ U o U' => ∃ v L, o = .returned v ∧ Qrm36z Z a1 w2 w5 va kb cap n vs ea ke es f G1 h0 n0 v U'.heap L ∧ FrameEnd U o U' L rm_31.cells rm_31.slots) := by
  refine MetFree.of_bodySF (plainFor_of_name pn_22) hisR ?_
  intro p e s m args below meth c s₁ Bd hml0 hP hK
  obtain ⟨rfl, hZ, hh⟩ := hP
  have hx := Bd.exec
  have hby := Bd.bytes
  have hml : c.maxLocals = 1 := hml0
  have hown : s.vm.findClass "org/athenaeum/xml/XmlWriter" = some m.cls := findClass_of_methodNamed Bd.named
  have X0 : Stand p l e rm_31 s m #[(.ref a1)] below meth c s₁ [] 0 0 := Stand.of_body Bd
  have e0 : s₁.heap = h0 := by rw [← hh, Bd.state]; rfl
  have N0 := Fr.nil n0
  let aa1 : Array Slot := #[.val (.ref a1)]
  have pre0 : ∀ t, Steps p.tables e below (s₁.setTop (mkF m 0 aa1 [])) t → Steps p.tables e below (s₁.setTop (entryFrame m #[(.ref a1)] 1)) t := fun t k => castTop (ef_11 m a1) k
  obtain ⟨T3, X3, e3, st3⟩ := getF X0 hx hZ hown (host := "") (Or.inl (ww hw 129 rfl)) Via.refl e0 F_open_a1 (g := (mkF m 1 aa1 [(.ref a1)])) rfl rfl (hb hby d36_1)
  obtain ⟨cq4, kq4, q4a, q4b, q4c⟩ := isOf hZ e3 E_w2
  obtain ⟨_, _, ⟨T4, L4, k4, n4⟩, -, X4, ⟨Lc4, hQ4, l4, y4, z4⟩, st4⟩ := own_ifUp X3 hx (J := "java/util/Collection") (xi := ym49) (y := ym33) hown (mvT hZ (ww hw 219 rfl)) (mvT hZ (ww hw 220 rfl)) (by decide) (own_mvI hZ (ww hw 221 rfl)) (by decide) (mvT hZ (ww hw 222 rfl)) (mvT hZ (ww hw 223 rfl)) (mvT hZ (ww hw 224 rfl)) (mvT hZ (ww hw 225 rfl)) (mvT hZ (ww hw 168 rfl)) (by decide) (backOf (W := 0) (rm37b l Z a0 hw [] w2 (0 : Int32) (0 : Int32) h0 n0 Z0 Y0.2.2.1.2.2.1 Y0.2.2.1.2.2.2.1 rfl) hZ (ww hw 226 rfl) (ww hw 114 rfl) (by decide) (by decide)) q4a q4b q4c (g := (mkF m 4 aa1 [(.ref w2)])) rfl (by rw [hml]; rfl) (Steps.refl _) (argsL := []) (rest := []) (lenOf pd_24_18 rfl) rfl (wz rfl) (hb hby d36_4) (fun _ _ => ⟨rfl, e3, (by decide : 0 + 0 ≤ _), (by decide : 0 + 0 ≤ _)⟩)
  dsimp only [Pt.U, Pt.locs, Pt.cells, Pt.slots] at X4 l4 y4 z4 st4 hQ4
  subst l4 y4 z4
  obtain ⟨rfl, N4q, e4⟩ := hQ4
  have N4 := Fr.app N0 N4q
  obtain ⟨T6, X6, e6, st6⟩ := getF X4 hx hZ hown (host := "") (Or.inl (ww hw 110 rfl)) Via.refl e4 F_out_a1 (g := (mkF m 21 aa1 [(.ref a1)])) rfl rfl (hb hby d36_21)
  obtain ⟨cq7, kq7, q7a, q7b, q7c⟩ := isOf hZ e6 E_w5
  obtain ⟨_, _, ⟨T7, L7, k7, n7⟩, -, X7, ⟨Lc7, hQ7, l7, y7, z7⟩, st7⟩ := X6.virtualBack hx (y := ym12) (z := ym12) hown (mvT hZ (ww hw 142 rfl)) (mvT hZ (ww hw 143 rfl)) (notFace_of_selects (args := #[]) (mvT hZ (ww hw 145 rfl))) (mvT hZ (ww hw 145 rfl)) (mvT hZ (ww hw 144 rfl)) (by decide) (backOf (W := 0) (rm23 l Z a0 hw [] w5 (10 : Int32) n va kb cap vs G1 h0 n0 Z0 SC P3 Y0.2.1 R1 (by decide) g_w5 g_va Y0.2.1.1) hZ (ww hw 146 rfl) (ww hw 39 rfl) (by decide) (by decide)) q7a q7c (g := (mkF m 26 aa1 [(.int 10), (.ref w5)])) rfl (by rw [hml]; rfl) (Steps.refl _) (argsL := [(.int 10)]) (rest := []) (lenOf pd_22_16 rfl) rfl (wz rfl) (hb hby d36_26) (fun _ _ => ⟨rfl, e6, (by decide : 0 + 0 ≤ _), (by decide : 0 + 0 ≤ _)⟩)
  dsimp only [Pt.U, Pt.locs, Pt.cells, Pt.slots] at X7 l7 y7 z7 st7 hQ7
  subst l7 y7 z7
  obtain ⟨rfl, N7q, K7, B7⟩ := hQ7
  have SC7 := own_staX SC Y0 K7 (by simp)
  have N7 := Fr.app N4 N7q
  obtain ⟨cq8, kq8, q8a, q8b, q8c⟩ := isOf hZ rfl B7.1
  obtain ⟨_, _, ⟨T8, L8, k8, n8⟩, -, X8, ⟨Lc8, hQ8, l8, y8, z8⟩, st8⟩ := X7.virtualBack hx (y := ym28) (z := ym28) hown (mvT hZ (ww hw 227 rfl)) (mvT hZ (ww hw 228 rfl)) (notFace_of_selects (args := #[]) (mvT hZ (ww hw 230 rfl))) (mvT hZ (ww hw 230 rfl)) (mvT hZ (ww hw 229 rfl)) (by decide) (backOf (W := 0) (rm38 l Z a0 hw [] w5 va kb cap (n + (1 : Int32)) (vs ++ [.int ((10 : Int32).toInt8.toInt32)]) G1 T7.heap n0 (Nat.le_trans Z0 K7.1) SC7 P3 B7 TT.1 TT.2.1 TT.2.2.1 TT.2.2.2) hZ (ww hw 231 rfl) (ww hw 39 rfl) (by decide) (by decide)) q8a q8c (g := (mkF m 29 aa1 [(.ref w5)])) rfl (by rw [hml]; rfl) (Steps.refl _) (argsL := []) (rest := []) (lenOf pd_36_25 rfl) rfl (wz rfl) (hb hby d36_29) (fun _ _ => ⟨rfl, rfl, (by decide : 0 + 2 ≤ _), (by decide : 0 + 62 ≤ _)⟩)
  dsimp only [Pt.U, Pt.locs, Pt.cells, Pt.slots] at X8 l8 y8 z8 st8 hQ8
  subst l8 y8 z8
  obtain ⟨y8, x8, k8', s8, rfl, N8q, K8, S8⟩ := hQ8
  have N8 := Fr.app N7 N8q
  obtain ⟨fs, hr, hrun, hended, hW, hsame⟩ := X8.leave (v := some (.ref y8)) (fun h => by rw [Bd.returns] at h; cases h)
  refine ⟨_, _, pre0 _ ?_, hrun, hended, _, _, rfl, ?_, ⟨_, rfl⟩, hW, hsame.mono (by decide) (by decide)⟩
  · show Sw s₁ m 0 aa1 [] _
    refine XS.aloadN X0.here hx rfl (hb hby d36_0) rfl rfl ?_
    show Sw s₁ m 1 aa1 [(.ref a1)] _
    refine st3 _ ?_
    show Sw T3 m 4 aa1 [(.ref w2)] _
    refine st4.trans ?_
    show Sw T4 m 9 aa1 [(.int 1)] _
    refine XS.ifYes X4.here hx rfl (pc0 := 9) (pc' := 20) rfl (hb hby d36_9) rfl ((if0 _ _).trans (feq (by decide : ¬ ((1 : Int32) = (0 : Int32)))).2) (by decide) (by decide) ?_
    show Sw T4 m 20 aa1 [] _
    refine XS.aloadN X4.here hx rfl (hb hby d36_20) rfl rfl ?_
    show Sw T4 m 21 aa1 [(.ref a1)] _
    refine st6 _ ?_
    show Sw T6 m 24 aa1 [(.ref w5)] _
    refine XS.bipush X6.here hx rfl (hb hby d36_24) ?_
    show Sw T6 m 26 aa1 [(.int 10), (.ref w5)] _
    refine st7.trans ?_
    show Sw T7 m 29 aa1 [(.ref w5)] _
    refine st8.trans ?_
    show Steps p.tables e below (T8.setTop (mkF m 32 aa1 [(.ref y8)])) _
    jvm_step X8.here [X8.here.top, hx, (hb hby d36_32), X8.method', Bd.returns, Value.isRef, FieldType.isReference]
    first | (intro acts; rw [hr _ acts rfl rfl rfl]) | rw [hr _ _ rfl rfl rfl]
    exact Steps.refl _
  · show Qrm36z Z a1 w2 w5 va kb cap n vs ea ke es f G1 h0 n0 _ T8.heap _
    exact ⟨y8, x8, k8', rfl, N8, K7.trans K8 all0, S8⟩
theorem d36_12 : decode cd46 12 = .ok (.aload_n 0, 1) := by decide +kernel
theorem d36_13 : decode cd46 13 = .ok (.invokevirtual 77, 3) := by decide +kernel
theorem d36_16 : decode cd46 16 = .ok (.pop, 1) := by decide +kernel
theorem d36_17 : decode cd46 17 = .ok (.goto (-17), 3) := by decide +kernel
theorem pd_36_22 : parseMethodDescriptor "()Lorg/athenaeum/xml/XmlWriter;" = some ⟨[], some (.object "org/athenaeum/xml/XmlWriter")⟩ := by decide +kernel
def Qrm36b (Z : State) (a1 : Addr) (w2 : Addr) (w9 : Addr) (va : Addr) (kb : ClassId) (cap n : Int32) (vs : List Value) (ea : Addr) (ke : ClassId) (es : List Value) (y t : Addr) (ks : ClassId) (us : List Value) (G1 : Int32) (h0 : Heap) (n0 : Nat) (v : Option Value) (h : Heap) (L : List Loc) : Prop := ∃ d x k', v = some (.ref d) ∧ Fr n0 L ∧ Keep h0 h [a1, w9, va, w2, ea] ∧ own_S Z h d x k' ((((n + (2 : Int32)) + (2 : Int32)) + (1 : Int32)) + (1 : Int32)) ((((vs ++ own_lt) ++ us) ++ [.int ((62 : Int32).toInt8.toInt32)]) ++ [.int ((10 : Int32).toInt8.toInt32)])
set_option maxRecDepth 65536 in
set_option maxHeartbeats 40000000 in
theorem rm36b (l : Launch) (Z : State) (a0 : Array Value) (hw : HW a0 Z) (ws : List Jvm.Cond) (a1 : Addr) (w2 : Addr) (w9 : Addr) (va : Addr) (kb : ClassId) (cap n : Int32) (vs : List Value) (ea : Addr) (ke : ClassId) (es : List Value) (y t : Addr) (ks : ClassId) (us : List Value) (G1 : Int32) (h0 : Heap) (n0 : Nat) (Z0 : n0 ≤ h0.size) (SC : Sta Z h0 "java/lang/String" "COMPACT_STRINGS" "Z" (.int G1)) (P3 : ¬ (G1 = (0 : Int32))) (Y0 : own_X Z h0 a1 w9 w2 va kb cap n vs ea ke (16 : Int32) es (0 : Int32)) (SS : own_S Z h0 y t ks (2 : Int32) us) (hy : es.getD 16 .null = .ref y) (hz : (2 : Int32).toNatClampNeg ≠ cap.toNatClampNeg) (hc : own_len cap) (g_a1 : n0 ≤ a1) (g_w9 : n0 ≤ w9) (g_va : n0 ≤ va) (g_w2 : n0 ≤ w2) (g_ea : n0 ≤ ea) (R1 : own_R cap n (2 : Int32)) (R2 : own_R cap (n + (2 : Int32)) (2 : Int32)) (R3 : own_R cap ((n + (2 : Int32)) + (2 : Int32)) (1 : Int32)) (R4 : own_R cap (((n + (2 : Int32)) + (2 : Int32)) + (1 : Int32)) (1 : Int32)) (TT : own_T cap ((((n + (2 : Int32)) + (2 : Int32)) + (1 : Int32)) + (1 : Int32))) (F_open_a1 : Fld Z h0 a1 "org/athenaeum/xml/XmlWriter" "open" "Ljava/util/Deque;" (.ref w2)) (E_w2 : Exa Z h0 w2 "java/util/ArrayDeque") (E_a1 : Exa Z h0 a1 "org/athenaeum/xml/XmlWriter") (E_w6 : Exa Z h0 w2 "java/util/ArrayDeque") (F_out_a1 : Fld Z h0 a1 "org/athenaeum/xml/XmlWriter" "out" "Ljava/lang/StringBuilder;" (.ref w9)) (E_w9 : Exa Z h0 w9 "java/lang/StringBuilder") :
    MetFree l ym48 (head1 (Jvm.Cond.code ym48 prog_100_method_7_code 1 (some (.object "java/lang/String")) :: ws) rm_32) (fun a U => a = #[(.ref a1)] ∧ Z.Warmed39 U.vm ∧ U.heap = h0 ∧ CHv Z own_EL U.vm h0) (fun _ _ _ _ _ => True) (fun _ U o U' => ∃ v L, o = .returned v ∧ Qrm36b Z a1 w2 w9 va kb cap n vs ea ke es y t ks us G1 h0 n0 v U'.heap L ∧ CHr Z own_EL U.vm U.heap U'.vm U'.heap ∧ ReturnedEndW U o U' L rm_32.cells rm_32.slots) := by
  refine MetFree.of_bodySF (plainFor_of_name pn_22) hisR ?_
  intro p e s m args below meth c s₁ Bd hml0 hP hK
  obtain ⟨rfl, hZ, hh, CH0⟩ := hP
  have S0 : s.Since s.vm h0.size := (State.WarmedH.refl s).since _
  have C0 : CHr Z own_EL s.vm h0 s.vm h0 := CHr.refl CH0
  have hEL := own_EW hw
  have hx := Bd.exec
  have hby := Bd.bytes
  have hml : c.maxLocals = 1 := hml0
  have hown : s.vm.findClass "org/athenaeum/xml/XmlWriter" = some m.cls := findClass_of_methodNamed Bd.named
  have X0 : Stand p l e rm_32 s m #[(.ref a1)] below meth c s₁ [] 0 0 := Stand.of_body Bd
  have e0 : s₁.heap = h0 := by rw [← hh, Bd.state]; rfl
  have N0 := Fr.nil n0
  let aa1 : Array Slot := #[.val (.ref a1)]
  have pre0 : ∀ t, Steps p.tables e below (s₁.setTop (mkF m 0 aa1 [])) t → Steps p.tables e below (s₁.setTop (entryFrame m #[(.ref a1)] 1)) t := fun t k => castTop (ef_11 m a1) k
  obtain ⟨T3, X3, e3, st3⟩ := getF X0 hx hZ hown (host := "") (Or.inl (ww hw 129 rfl)) Via.refl e0 F_open_a1 (g := (mkF m 1 aa1 [(.ref a1)])) rfl rfl (hb hby d36_1)
  obtain ⟨cq4, kq4, q4a, q4b, q4c⟩ := isOf hZ e3 E_w2
  obtain ⟨_, _, ⟨T4, L4, k4, n4⟩, -, X4, ⟨Lc4, hQ4, l4, y4, z4⟩, st4⟩ := own_ifUp X3 hx (J := "java/util/Collection") (xi := ym49) (y := ym33) hown (mvT hZ (ww hw 219 rfl)) (mvT hZ (ww hw 220 rfl)) (by decide) (own_mvI hZ (ww hw 221 rfl)) (by decide) (mvT hZ (ww hw 222 rfl)) (mvT hZ (ww hw 223 rfl)) (mvT hZ (ww hw 224 rfl)) (mvT hZ (ww hw 225 rfl)) (mvT hZ (ww hw 168 rfl)) (by decide) (backOf (W := 0) (rm37a l Z a0 hw [] w2 (16 : Int32) (0 : Int32) h0 n0 Z0 Y0.2.2.1.2.2.1 Y0.2.2.1.2.2.2.1 (by decide)) hZ (ww hw 226 rfl) (ww hw 114 rfl) (by decide) (by decide)) q4a q4b q4c (g := (mkF m 4 aa1 [(.ref w2)])) rfl (by rw [hml]; rfl) (Steps.refl _) (argsL := []) (rest := []) (lenOf pd_24_18 rfl) rfl (wz rfl) (hb hby d36_4) (fun _ _ => ⟨rfl, e3, (by decide : 0 + 0 ≤ _), (by decide : 0 + 0 ≤ _)⟩)
  dsimp only [Pt.U, Pt.locs, Pt.cells, Pt.slots] at X4 l4 y4 z4 st4 hQ4
  subst l4 y4 z4
  obtain ⟨rfl, N4q, e4⟩ := hQ4
  have N4 := Fr.app N0 N4q
  obtain ⟨cq5, kq5, q5a, q5b, q5c⟩ := isOf hZ e4 E_a1
  obtain ⟨_, _, ⟨T5, L5, k5, n5⟩, -, X5, S5, G5, ⟨Lc5, hQ5, l5, y5, z5, C5⟩, st5⟩ := X4.virtualBackS hx (y := ym46) (z := ym46) hown (mvT hZ (ww hw 306 rfl)) (mvT hZ (ww hw 184 rfl)) (notFace_of_selects (args := #[]) (mvT hZ (ww hw 186 rfl))) (mvT hZ (ww hw 186 rfl)) (mvT hZ (ww hw 185 rfl)) (by decide) (backOfSH (s := s) (vm0 := s.vm) (W := 0) (rm30b l Z a0 hw [] a1 w2 w9 va kb cap n vs ea ke es y t ks us G1 h0 n0 Z0 SC P3 Y0 SS hy hz hc g_a1 g_w9 g_va g_w2 g_ea R1 R2 R3 Y0.1.2.2.1 Y0.2.2.1.1 Y0.1.2.2.2 Y0.1.2.1 Y0.2.1.1 rfl) hZ (ww hw 187 rfl) (ww hw 32 rfl) (by decide) (by decide) hEL C0.1) q5a q5c (g := (mkF m 13 aa1 [(.ref a1)])) rfl (by rw [hml]; rfl) (Steps.refl _) (argsL := []) (rest := []) (lenOf pd_36_22 rfl) rfl (wz rfl) (hb hby d36_13) (fun _ _ => ⟨rfl, e4, (by decide : 0 + 3 ≤ _), (by decide : 0 + 124 ≤ _)⟩)
  dsimp only [Pt.U, Pt.locs, Pt.cells, Pt.slots] at X5 S5 G5 C5 l5 y5 z5 st5 hQ5
  subst l5 y5 z5
  obtain ⟨X5, S5, hZ5, hown5⟩ := rebS S0 (Nat.le_trans (Nat.le_refl _) (by rw [e4]; exact Nat.le_refl _)) X5 S5 G5 hZ hown
  obtain ⟨rfl, N5q, K5, Y5⟩ := hQ5
  have D5 := C0.trans C5
  have SC5 := own_staX SC Y0 K5 (by simp)
  have N5 := Fr.app N4 N5q
  obtain ⟨T7, X7, e7, st7⟩ := getF X5 hx hZ5 hown5 (host := "") (Or.inl (ww hw 129 rfl)) Via.refl rfl Y5.1.2.2.1 (g := (mkF m 1 aa1 [(.ref a1)])) rfl rfl (hb hby d36_1)
  obtain ⟨cq8, kq8, q8a, q8b, q8c⟩ := isOf hZ5 e7 Y5.2.2.1.1
  obtain ⟨_, _, ⟨T8, L8, k8, n8⟩, -, X8, ⟨Lc8, hQ8, l8, y8, z8⟩, st8⟩ := own_ifUp X7 hx (J := "java/util/Collection") (xi := ym49) (y := ym33) hown5 (mvT hZ5 (ww hw 219 rfl)) (mvT hZ5 (ww hw 220 rfl)) (by decide) (own_mvI hZ5 (ww hw 221 rfl)) (by decide) (mvT hZ5 (ww hw 222 rfl)) (mvT hZ5 (ww hw 223 rfl)) (mvT hZ5 (ww hw 224 rfl)) (mvT hZ5 (ww hw 225 rfl)) (mvT hZ5 (ww hw 168 rfl)) (by decide) (backOf (W := 0) (rm37b l Z a0 hw [] w2 (0 : Int32) (0 : Int32) T5.heap n0 (Nat.le_trans Z0 K5.1) Y5.2.2.1.2.2.1 Y5.2.2.1.2.2.2.1 rfl) hZ5 (ww hw 226 rfl) (ww hw 114 rfl) (by decide) (by decide)) q8a q8b q8c (g := (mkF m 4 aa1 [(.ref w2)])) rfl (by rw [hml]; rfl) (Steps.refl _) (argsL := []) (rest := []) (lenOf pd_24_18 rfl) rfl (wz rfl) (hb hby d36_4) (fun _ _ => ⟨rfl, e7, (by decide : 3 + 0 ≤ _), (by decide : 124 + 0 ≤ _)⟩)
  dsimp only [Pt.U, Pt.locs, Pt.cells, Pt.slots] at X8 l8 y8 z8 st8 hQ8
  subst l8 y8 z8
  obtain ⟨rfl, N8q, e8⟩ := hQ8
  have N8 := Fr.app N5 N8q
  obtain ⟨T10, X10, e10, st10⟩ := getF X8 hx hZ5 hown5 (host := "") (Or.inl (ww hw 110 rfl)) Via.refl e8 Y5.1.2.1 (g := (mkF m 21 aa1 [(.ref a1)])) rfl rfl (hb hby d36_21)
  obtain ⟨cq11, kq11, q11a, q11b, q11c⟩ := isOf hZ5 e10 Y5.2.1.1
  obtain ⟨_, _, ⟨T11, L11, k11, n11⟩, -, X11, ⟨Lc11, hQ11, l11, y11, z11⟩, st11⟩ := X10.virtualBack hx (y := ym12) (z := ym12) hown5 (mvT hZ5 (ww hw 142 rfl)) (mvT hZ5 (ww hw 143 rfl)) (notFace_of_selects (args := #[]) (mvT hZ5 (ww hw 145 rfl))) (mvT hZ5 (ww hw 145 rfl)) (mvT hZ5 (ww hw 144 rfl)) (by decide) (backOf (W := 0) (rm23 l Z a0 hw [] w9 (10 : Int32) (((n + (2 : Int32)) + (2 : Int32)) + (1 : Int32)) va kb cap (((vs ++ own_lt) ++ us) ++ [.int ((62 : Int32).toInt8.toInt32)]) G1 T5.heap n0 (Nat.le_trans Z0 K5.1) SC5 P3 Y5.2.1 R4 (by decide) g_w9 g_va Y5.2.1.1) hZ5 (ww hw 146 rfl) (ww hw 39 rfl) (by decide) (by decide)) q11a q11c (g := (mkF m 26 aa1 [(.int 10), (.ref w9)])) rfl (by rw [hml]; rfl) (Steps.refl _) (argsL := [(.int 10)]) (rest := []) (lenOf pd_22_16 rfl) rfl (wz rfl) (hb hby d36_26) (fun _ _ => ⟨rfl, e10, (by decide : 3 + 0 ≤ _), (by decide : 124 + 0 ≤ _)⟩)
  dsimp only [Pt.U, Pt.locs, Pt.cells, Pt.slots] at X11 l11 y11 z11 st11 hQ11
  subst l11 y11 z11
  obtain ⟨rfl, N11q, K11, B11⟩ := hQ11
  have SC11 := own_staX SC5 Y5 K11 (by simp)
  have D11 := D5.trans (CHr.keep K11 (own_safeX hw Y5 hZ5 hc (by simp)) D5.1)
  have N11 := Fr.app N8 N11q
  obtain ⟨cq12, kq12, q12a, q12b, q12c⟩ := isOf hZ5 rfl B11.1
  obtain ⟨_, _, ⟨T12, L12, k12, n12⟩, -, X12, ⟨Lc12, hQ12, l12, y12, z12⟩, st12⟩ := X11.virtualBack hx (y := ym28) (z := ym28) hown5 (mvT hZ5 (ww hw 227 rfl)) (mvT hZ5 (ww hw 228 rfl)) (notFace_of_selects (args := #[]) (mvT hZ5 (ww hw 230 rfl))) (mvT hZ5 (ww hw 230 rfl)) (mvT hZ5 (ww hw 229 rfl)) (by decide) (backOf (W := 0) (rm38 l Z a0 hw [] w9 va kb cap ((((n + (2 : Int32)) + (2 : Int32)) + (1 : Int32)) + (1 : Int32)) ((((vs ++ own_lt) ++ us) ++ [.int ((62 : Int32).toInt8.toInt32)]) ++ [.int ((10 : Int32).toInt8.toInt32)]) G1 T11.heap n0 (Nat.le_trans (Nat.le_trans Z0 K5.1) K11.1) SC11 P3 B11 TT.1 TT.2.1 TT.2.2.1 TT.2.2.2) hZ5 (ww hw 231 rfl) (ww hw 39 rfl) (by decide) (by decide)) q12a q12c (g := (mkF m 29 aa1 [(.ref w9)])) rfl (by rw [hml]; rfl) (Steps.refl _) (argsL := []) (rest := []) (lenOf pd_36_25 rfl) rfl (wz rfl) (hb hby d36_29) (fun _ _ => ⟨rfl, rfl, (by decide : 3 + 2 ≤ _), (by decide : 124 + 62 ≤ _)⟩)
  dsimp only [Pt.U, Pt.locs, Pt.cells, Pt.slots] at X12 l12 y12 z12 st12 hQ12
  subst l12 y12 z12
  obtain ⟨y12, x12, k12', s12, rfl, N12q, K12, S12⟩ := hQ12
  have D12 := D11.trans (CHr.keep K12 sf0 D11.1)
  have N12 := Fr.app N11 N12q
  obtain ⟨fs, hr, hrun, hended, hRE⟩ := X12.leaveW S5 (by have := K11.1; have := K12.1; omega) (v := some (.ref y12)) (fun h => by rw [Bd.returns] at h; cases h)
  refine ⟨_, _, pre0 _ ?_, hrun, hended, _, _, rfl, ?_, ?_, hRE.1, hRE.2.1, hRE.2.2.1, hRE.2.2.2.mono (by decide) (by decide)⟩
  · show Sw s₁ m 0 aa1 [] _
    refine XS.aloadN X0.here hx rfl (hb hby d36_0) rfl rfl ?_
    show Sw s₁ m 1 aa1 [(.ref a1)] _
    refine st3 _ ?_
    show Sw T3 m 4 aa1 [(.ref w2)] _
    refine st4.trans ?_
    show Sw T4 m 9 aa1 [(.int 0)] _
    refine XS.ifNo X4.here hx rfl (hb hby d36_9) rfl ((if0 _ _).trans (teq (by decide : (0 : Int32) = (0 : Int32))).2) ?_
    show Sw T4 m 12 aa1 [] _
    refine XS.aloadN X4.here hx rfl (hb hby d36_12) rfl rfl ?_
    show Sw T4 m 13 aa1 [(.ref a1)] _
    refine st5.trans ?_
    show Sw T5 m 16 aa1 [(.ref a1)] _
    refine XS.pop X5.here hx rfl (hb hby d36_16) rfl rfl ?_
    show Sw T5 m 17 aa1 [] _
    refine XS.goto X5.here hx rfl (pc0 := 17) (pc' := 0) rfl (hb hby d36_17) (by decide) (by decide) ?_
    show Sw T5 m 0 aa1 [] _
    refine XS.aloadN X5.here hx rfl (hb hby d36_0) rfl rfl ?_
    show Sw T5 m 1 aa1 [(.ref a1)] _
    refine st7 _ ?_
    show Sw T7 m 4 aa1 [(.ref w2)] _
    refine st8.trans ?_
    show Sw T8 m 9 aa1 [(.int 1)] _
    refine XS.ifYes X8.here hx rfl (pc0 := 9) (pc' := 20) rfl (hb hby d36_9) rfl ((if0 _ _).trans (feq (by decide : ¬ ((1 : Int32) = (0 : Int32)))).2) (by decide) (by decide) ?_
    show Sw T8 m 20 aa1 [] _
    refine XS.aloadN X8.here hx rfl (hb hby d36_20) rfl rfl ?_
    show Sw T8 m 21 aa1 [(.ref a1)] _
    refine st10 _ ?_
    show Sw T10 m 24 aa1 [(.ref w9)] _
    refine XS.bipush X10.here hx rfl (hb hby d36_24) ?_
    show Sw T10 m 26 aa1 [(.int 10), (.ref w9)] _
    refine st11.trans ?_
    show Sw T11 m 29 aa1 [(.ref w9)] _
    refine st12.trans ?_
    show Steps p.tables e below (T12.setTop (mkF m 32 aa1 [(.ref y12)])) _
    jvm_step X12.here [X12.here.top, hx, (hb hby d36_32), X12.method', Bd.returns, Value.isRef, FieldType.isReference]
    first | (intro acts; rw [hr _ acts rfl rfl rfl]) | rw [hr _ _ rfl rfl rfl]
    exact Steps.refl _
  · show Qrm36b Z a1 w2 w9 va kb cap n vs ea ke es y t ks us G1 h0 n0 _ T12.heap _
    exact ⟨y12, x12, k12', rfl, N12, (K5.trans K11 (allS (Or.inl (by simp)) (allS (Or.inl (by simp)) all0))).trans K12 all0, S12⟩
  · show CHr Z own_EL s.vm s.heap T12.vm T12.heap
    rw [hh]
    exact D12.trans (CHv.at (s := s) (vm0 := T5.vm) X12 hZ5 hEL D12.1)
def Qrm36g (Z : State) (a1 : Addr) (w2 : Addr) (w9 : Addr) (va : Addr) (kb : ClassId) (vs : List Value) (ea : Addr) (ke : ClassId) (es : List Value) (y t : Addr) (ks : ClassId) (us : List Value) (G1 : Int32) (h0 : Heap) (n0 : Nat) (v : Option Value) (h : Heap) (L : List Loc) : Prop := ∃ d x k', v = some (.ref d) ∧ Fr n0 L ∧ Keep h0 h [a1, w9, va, w2, ea] ∧ own_S Z h d x k' ((((54 : Int32) + (2 : Int32)) + (1 : Int32)) + (1 : Int32)) ((((vs ++ own_lt) ++ us) ++ [.int ((62 : Int32).toInt8.toInt32)]) ++ [.int ((10 : Int32).toInt8.toInt32)])
set_option maxRecDepth 65536 in
set_option maxHeartbeats 40000000 in
theorem rm36g (l : Launch) (Z : State) (a0 : Array Value) (hw : HW a0 Z) (ws : List Jvm.Cond) (a1 : Addr) (w2 : Addr) (w9 : Addr) (va : Addr) (kb : ClassId) (vs : List Value) (ea : Addr) (ke : ClassId) (es : List Value) (y t : Addr) (ks : ClassId) (us : List Value) (G1 : Int32) (h0 : Heap) (n0 : Nat) (Z0 : n0 ≤ h0.size) (SC : Sta Z h0 "java/lang/String" "COMPACT_STRINGS" "Z" (.int G1)) (P3 : ¬ (G1 = (0 : Int32))) (Y0 : own_X Z h0 a1 w9 w2 va kb (55 : Int32) (52 : Int32) vs ea ke (16 : Int32) es (0 : Int32)) (SS : own_S Z h0 y t ks (2 : Int32) us) (hy : es.getD 16 .null = .ref y) (hz : (2 : Int32).toNatClampNeg ≠ (55 : Int32).toNatClampNeg) (hc : own_len (55 : Int32)) (g_a1 : n0 ≤ a1) (g_w9 : n0 ≤ w9) (g_va : n0 ≤ va) (g_w2 : n0 ≤ w2) (g_ea : n0 ≤ ea) (F_open_a1 : Fld Z h0 a1 "org/athenaeum/xml/XmlWriter" "open" "Ljava/util/Deque;" (.ref w2)) (E_w2 : Exa Z h0 w2 "java/util/ArrayDeque") (E_a1 : Exa Z h0 a1 "org/athenaeum/xml/XmlWriter") (E_w6 : Exa Z h0 w2 "java/util/ArrayDeque") (F_out_a1 : Fld Z h0 a1 "org/athenaeum/xml/XmlWriter" "out" "Ljava/lang/StringBuilder;" (.ref w9)) (E_w9 : Exa Z h0 w9 "java/lang/StringBuilder") :
    MetFree l ym48 (head1 (Jvm.Cond.code ym48 prog_100_method_7_code 1 (some (.object "java/lang/String")) :: ws) rm_32) (fun a U => a = #[(.ref a1)] ∧ Z.Warmed39 U.vm ∧ U.heap = h0 ∧ CHv Z own_EL U.vm h0) (fun _ _ _ _ _ => True) (fun _ U o U' => ∃ v L, o = .returned v ∧ Qrm36g Z a1 w2 w9 va kb vs ea ke es y t ks us G1 h0 n0 v U'.heap L ∧ CHr Z own_EL U.vm U.heap U'.vm U'.heap ∧ ReturnedEndW U o U' L rm_32.cells rm_32.slots) := by
  refine MetFree.of_bodySF (plainFor_of_name pn_22) hisR ?_
  intro p e s m args below meth c s₁ Bd hml0 hP hK
  obtain ⟨rfl, hZ, hh, CH0⟩ := hP
  have S0 : s.Since s.vm h0.size := (State.WarmedH.refl s).since _
  have C0 : CHr Z own_EL s.vm h0 s.vm h0 := CHr.refl CH0
  have hEL := own_EW hw
  have hx := Bd.exec
  have hby := Bd.bytes
  have hml : c.maxLocals = 1 := hml0
  have hown : s.vm.findClass "org/athenaeum/xml/XmlWriter" = some m.cls := findClass_of_methodNamed Bd.named
  have X0 : Stand p l e rm_32 s m #[(.ref a1)] below meth c s₁ [] 0 0 := Stand.of_body Bd
  have e0 : s₁.heap = h0 := by rw [← hh, Bd.state]; rfl
  have N0 := Fr.nil n0
  let aa1 : Array Slot := #[.val (.ref a1)]
  have pre0 : ∀ t, Steps p.tables e below (s₁.setTop (mkF m 0 aa1 [])) t → Steps p.tables e below (s₁.setTop (entryFrame m #[(.ref a1)] 1)) t := fun t k => castTop (ef_11 m a1) k
  obtain ⟨T3, X3, e3, st3⟩ := getF X0 hx hZ hown (host := "") (Or.inl (ww hw 129 rfl)) Via.refl e0 F_open_a1 (g := (mkF m 1 aa1 [(.ref a1)])) rfl rfl (hb hby d36_1)
  obtain ⟨cq4, kq4, q4a, q4b, q4c⟩ := isOf hZ e3 E_w2
  obtain ⟨_, _, ⟨T4, L4, k4, n4⟩, -, X4, ⟨Lc4, hQ4, l4, y4, z4⟩, st4⟩ := own_ifUp X3 hx (J := "java/util/Collection") (xi := ym49) (y := ym33) hown (mvT hZ (ww hw 219 rfl)) (mvT hZ (ww hw 220 rfl)) (by decide) (own_mvI hZ (ww hw 221 rfl)) (by decide) (mvT hZ (ww hw 222 rfl)) (mvT hZ (ww hw 223 rfl)) (mvT hZ (ww hw 224 rfl)) (mvT hZ (ww hw 225 rfl)) (mvT hZ (ww hw 168 rfl)) (by decide) (backOf (W := 0) (rm37a l Z a0 hw [] w2 (16 : Int32) (0 : Int32) h0 n0 Z0 Y0.2.2.1.2.2.1 Y0.2.2.1.2.2.2.1 (by decide)) hZ (ww hw 226 rfl) (ww hw 114 rfl) (by decide) (by decide)) q4a q4b q4c (g := (mkF m 4 aa1 [(.ref w2)])) rfl (by rw [hml]; rfl) (Steps.refl _) (argsL := []) (rest := []) (lenOf pd_24_18 rfl) rfl (wz rfl) (hb hby d36_4) (fun _ _ => ⟨rfl, e3, (by decide : 0 + 0 ≤ _), (by decide : 0 + 0 ≤ _)⟩)
  dsimp only [Pt.U, Pt.locs, Pt.cells, Pt.slots] at X4 l4 y4 z4 st4 hQ4
  subst l4 y4 z4
  obtain ⟨rfl, N4q, e4⟩ := hQ4
  have N4 := Fr.app N0 N4q
  obtain ⟨cq5, kq5, q5a, q5b, q5c⟩ := isOf hZ e4 E_a1
  obtain ⟨_, _, ⟨T5, L5, k5, n5⟩, -, X5, S5, G5, ⟨Lc5, hQ5, l5, y5, z5, C5⟩, st5⟩ := X4.virtualBackS hx (y := ym46) (z := ym46) hown (mvT hZ (ww hw 306 rfl)) (mvT hZ (ww hw 184 rfl)) (notFace_of_selects (args := #[]) (mvT hZ (ww hw 186 rfl))) (mvT hZ (ww hw 186 rfl)) (mvT hZ (ww hw 185 rfl)) (by decide) (backOfSH (s := s) (vm0 := s.vm) (W := 0) (rm30g l Z a0 hw [] a1 w2 w9 va kb vs ea ke es y t ks us G1 h0 n0 Z0 SC P3 Y0 SS hy hz hc g_a1 g_w9 g_va g_w2 g_ea Y0.1.2.2.1 Y0.2.2.1.1 Y0.1.2.2.2 Y0.1.2.1 Y0.2.1.1 rfl) hZ (ww hw 187 rfl) (ww hw 32 rfl) (by decide) (by decide) hEL C0.1) q5a q5c (g := (mkF m 13 aa1 [(.ref a1)])) rfl (by rw [hml]; rfl) (Steps.refl _) (argsL := []) (rest := []) (lenOf pd_36_22 rfl) rfl (wz rfl) (hb hby d36_13) (fun _ _ => ⟨rfl, e4, (by decide : 0 + 3 ≤ _), (by decide : 0 + 124 ≤ _)⟩)
  dsimp only [Pt.U, Pt.locs, Pt.cells, Pt.slots] at X5 S5 G5 C5 l5 y5 z5 st5 hQ5
  subst l5 y5 z5
  obtain ⟨X5, S5, hZ5, hown5⟩ := rebS S0 (Nat.le_trans (Nat.le_refl _) (by rw [e4]; exact Nat.le_refl _)) X5 S5 G5 hZ hown
  obtain ⟨x5, k5', s5, rfl, N5q, K5, Y5⟩ := hQ5
  have D5 := C0.trans C5
  have SC5 := own_staX SC Y0 K5 (by simp)
  have N5 := Fr.app N4 N5q
  obtain ⟨T7, X7, e7, st7⟩ := getF X5 hx hZ5 hown5 (host := "") (Or.inl (ww hw 129 rfl)) Via.refl rfl Y5.1.2.2.1 (g := (mkF m 1 aa1 [(.ref a1)])) rfl rfl (hb hby d36_1)
  obtain ⟨cq8, kq8, q8a, q8b, q8c⟩ := isOf hZ5 e7 Y5.2.2.1.1
  obtain ⟨_, _, ⟨T8, L8, k8, n8⟩, -, X8, ⟨Lc8, hQ8, l8, y8, z8⟩, st8⟩ := own_ifUp X7 hx (J := "java/util/Collection") (xi := ym49) (y := ym33) hown5 (mvT hZ5 (ww hw 219 rfl)) (mvT hZ5 (ww hw 220 rfl)) (by decide) (own_mvI hZ5 (ww hw 221 rfl)) (by decide) (mvT hZ5 (ww hw 222 rfl)) (mvT hZ5 (ww hw 223 rfl)) (mvT hZ5 (ww hw 224 rfl)) (mvT hZ5 (ww hw 225 rfl)) (mvT hZ5 (ww hw 168 rfl)) (by decide) (backOf (W := 0) (rm37b l Z a0 hw [] w2 (0 : Int32) (0 : Int32) T5.heap n0 (Nat.le_trans Z0 K5.1) Y5.2.2.1.2.2.1 Y5.2.2.1.2.2.2.1 rfl) hZ5 (ww hw 226 rfl) (ww hw 114 rfl) (by decide) (by decide)) q8a q8b q8c (g := (mkF m 4 aa1 [(.ref w2)])) rfl (by rw [hml]; rfl) (Steps.refl _) (argsL := []) (rest := []) (lenOf pd_24_18 rfl) rfl (wz rfl) (hb hby d36_4) (fun _ _ => ⟨rfl, e7, (by decide : 3 + 0 ≤ _), (by decide : 124 + 0 ≤ _)⟩)
  dsimp only [Pt.U, Pt.locs, Pt.cells, Pt.slots] at X8 l8 y8 z8 st8 hQ8
  subst l8 y8 z8
  obtain ⟨rfl, N8q, e8⟩ := hQ8
  have N8 := Fr.app N5 N8q
  obtain ⟨T10, X10, e10, st10⟩ := getF X8 hx hZ5 hown5 (host := "") (Or.inl (ww hw 110 rfl)) Via.refl e8 Y5.1.2.1 (g := (mkF m 21 aa1 [(.ref a1)])) rfl rfl (hb hby d36_21)
  obtain ⟨cq11, kq11, q11a, q11b, q11c⟩ := isOf hZ5 e10 Y5.2.1.1
  obtain ⟨_, _, ⟨T11, L11, k11, n11⟩, -, X11, ⟨Lc11, hQ11, l11, y11, z11⟩, st11⟩ := X10.virtualBack hx (y := ym12) (z := ym12) hown5 (mvT hZ5 (ww hw 142 rfl)) (mvT hZ5 (ww hw 143 rfl)) (notFace_of_selects (args := #[]) (mvT hZ5 (ww hw 145 rfl))) (mvT hZ5 (ww hw 145 rfl)) (mvT hZ5 (ww hw 144 rfl)) (by decide) (backOf (W := 0) (rm23 l Z a0 hw [] w9 (10 : Int32) (((54 : Int32) + (2 : Int32)) + (1 : Int32)) x5 k5' (112 : Int32) (((vs ++ own_lt) ++ us) ++ [.int ((62 : Int32).toInt8.toInt32)]) G1 T5.heap n0 (Nat.le_trans Z0 K5.1) SC5 P3 Y5.2.1 (by unfold own_R; decide) (by decide) g_w9 (Nat.le_trans Z0 s5) Y5.2.1.1) hZ5 (ww hw 146 rfl) (ww hw 39 rfl) (by decide) (by decide)) q11a q11c (g := (mkF m 26 aa1 [(.int 10), (.ref w9)])) rfl (by rw [hml]; rfl) (Steps.refl _) (argsL := [(.int 10)]) (rest := []) (lenOf pd_22_16 rfl) rfl (wz rfl) (hb hby d36_26) (fun _ _ => ⟨rfl, e10, (by decide : 3 + 0 ≤ _), (by decide : 124 + 0 ≤ _)⟩)
  dsimp only [Pt.U, Pt.locs, Pt.cells, Pt.slots] at X11 l11 y11 z11 st11 hQ11
  subst l11 y11 z11
  obtain ⟨rfl, N11q, K11, B11⟩ := hQ11
  have SC11 := own_staX SC5 Y5 K11 (by simp)
  have D11 := D5.trans (CHr.keep K11 (own_safeX hw Y5 hZ5 (by unfold own_len; decide) (by simp)) D5.1)
  have N11 := Fr.app N8 N11q
  obtain ⟨cq12, kq12, q12a, q12b, q12c⟩ := isOf hZ5 rfl B11.1
  obtain ⟨_, _, ⟨T12, L12, k12, n12⟩, -, X12, ⟨Lc12, hQ12, l12, y12, z12⟩, st12⟩ := X11.virtualBack hx (y := ym28) (z := ym28) hown5 (mvT hZ5 (ww hw 227 rfl)) (mvT hZ5 (ww hw 228 rfl)) (notFace_of_selects (args := #[]) (mvT hZ5 (ww hw 230 rfl))) (mvT hZ5 (ww hw 230 rfl)) (mvT hZ5 (ww hw 229 rfl)) (by decide) (backOf (W := 0) (rm38 l Z a0 hw [] w9 x5 k5' (112 : Int32) ((((54 : Int32) + (2 : Int32)) + (1 : Int32)) + (1 : Int32)) ((((vs ++ own_lt) ++ us) ++ [.int ((62 : Int32).toInt8.toInt32)]) ++ [.int ((10 : Int32).toInt8.toInt32)]) G1 T11.heap n0 (Nat.le_trans (Nat.le_trans Z0 K5.1) K11.1) SC11 P3 B11 (by decide) (by decide) (by decide) (by decide)) hZ5 (ww hw 231 rfl) (ww hw 39 rfl) (by decide) (by decide)) q12a q12c (g := (mkF m 29 aa1 [(.ref w9)])) rfl (by rw [hml]; rfl) (Steps.refl _) (argsL := []) (rest := []) (lenOf pd_36_25 rfl) rfl (wz rfl) (hb hby d36_29) (fun _ _ => ⟨rfl, rfl, (by decide : 3 + 2 ≤ _), (by decide : 124 + 62 ≤ _)⟩)
  dsimp only [Pt.U, Pt.locs, Pt.cells, Pt.slots] at X12 l12 y12 z12 st12 hQ12
  subst l12 y12 z12
  obtain ⟨y12, x12, k12', s12, rfl, N12q, K12, S12⟩ := hQ12
  have D12 := D11.trans (CHr.keep K12 sf0 D11.1)
  have N12 := Fr.app N11 N12q
  obtain ⟨fs, hr, hrun, hended, hRE⟩ := X12.leaveW S5 (by have := K11.1; have := K12.1; omega) (v := some (.ref y12)) (fun h => by rw [Bd.returns] at h; cases h)
  refine ⟨_, _, pre0 _ ?_, hrun, hended, _, _, rfl, ?_, ?_, hRE.1, hRE.2.1, hRE.2.2.1, hRE.2.2.2.mono (by decide) (by decide)⟩
  · show Sw s₁ m 0 aa1 [] _
    refine XS.aloadN X0.here hx rfl (hb hby d36_0) rfl rfl ?_
    show Sw s₁ m 1 aa1 [(.ref a1)] _
    refine st3 _ ?_
    show Sw T3 m 4 aa1 [(.ref w2)] _
    refine st4.trans ?_
    show Sw T4 m 9 aa1 [(.int 0)] _
    refine XS.ifNo X4.here hx rfl (hb hby d36_9) rfl ((if0 _ _).trans (teq (by decide : (0 : Int32) = (0 : Int32))).2) ?_
    show Sw T4 m 12 aa1 [] _
    refine XS.aloadN X4.here hx rfl (hb hby d36_12) rfl rfl ?_
    show Sw T4 m 13 aa1 [(.ref a1)] _
    refine st5.trans ?_
    show Sw T5 m 16 aa1 [(.ref a1)] _
    refine XS.pop X5.here hx rfl (hb hby d36_16) rfl rfl ?_
    show Sw T5 m 17 aa1 [] _
    refine XS.goto X5.here hx rfl (pc0 := 17) (pc' := 0) rfl (hb hby d36_17) (by decide) (by decide) ?_
    show Sw T5 m 0 aa1 [] _
    refine XS.aloadN X5.here hx rfl (hb hby d36_0) rfl rfl ?_
    show Sw T5 m 1 aa1 [(.ref a1)] _
    refine st7 _ ?_
    show Sw T7 m 4 aa1 [(.ref w2)] _
    refine st8.trans ?_
    show Sw T8 m 9 aa1 [(.int 1)] _
    refine XS.ifYes X8.here hx rfl (pc0 := 9) (pc' := 20) rfl (hb hby d36_9) rfl ((if0 _ _).trans (feq (by decide : ¬ ((1 : Int32) = (0 : Int32)))).2) (by decide) (by decide) ?_
    show Sw T8 m 20 aa1 [] _
    refine XS.aloadN X8.here hx rfl (hb hby d36_20) rfl rfl ?_
    show Sw T8 m 21 aa1 [(.ref a1)] _
    refine st10 _ ?_
    show Sw T10 m 24 aa1 [(.ref w9)] _
    refine XS.bipush X10.here hx rfl (hb hby d36_24) ?_
    show Sw T10 m 26 aa1 [(.int 10), (.ref w9)] _
    refine st11.trans ?_
    show Sw T11 m 29 aa1 [(.ref w9)] _
    refine st12.trans ?_
    show Steps p.tables e below (T12.setTop (mkF m 32 aa1 [(.ref y12)])) _
    jvm_step X12.here [X12.here.top, hx, (hb hby d36_32), X12.method', Bd.returns, Value.isRef, FieldType.isReference]
    first | (intro acts; rw [hr _ acts rfl rfl rfl]) | rw [hr _ _ rfl rfl rfl]
    exact Steps.refl _
  · show Qrm36g Z a1 w2 w9 va kb vs ea ke es y t ks us G1 h0 n0 _ T12.heap _
    exact ⟨y12, x12, k12', rfl, N12, (K5.trans K11 (allS (Or.inl (by simp)) (allS (Or.inr s5) all0))).trans K12 all0, S12⟩
  · show CHr Z own_EL s.vm s.heap T12.vm T12.heap
    rw [hh]
    exact D12.trans (CHv.at (s := s) (vm0 := T5.vm) X12 hZ5 hEL D12.1)
theorem d48_0 : decode method_2_code 0 = .ok (.iload_n 3, 1) := by decide +kernel
theorem d48_1 : decode method_2_code 1 = .ok (.iload_n 2, 1) := by decide +kernel
theorem d48_2 : decode method_2_code 2 = .ok (.if_icmp .ge 17, 3) := by decide +kernel
theorem d48_19 : decode method_2_code 19 = .ok (.iconst 1, 1) := by decide +kernel
theorem d48_20 : decode method_2_code 20 = .ok (.goto 4, 3) := by decide +kernel
theorem d48_24 : decode method_2_code 24 = .ok (.ireturn, 1) := by decide +kernel
theorem pn_48 : plainName "org/athenaeum/xml/XmlWriterEndPinLaw" = true := by first | (simp [plainName, overriddenIn]; done) | decide +kernel
def Qrm48t (Z : State) (a1 : Addr) (a2 : Addr) (p3 : Int32) (p4 : Int32) (h0 : Heap) (n0 : Nat) (v : Option Value) (h : Heap) (L : List Loc) : Prop := v = some (.int 1) ∧ Fr n0 L ∧ h = h0
set_option maxRecDepth 65536 in
set_option maxHeartbeats 40000000 in
theorem rm48t (l : Launch) (Z : State) (a0 : Array Value) (hw : HW a0 Z) (ws : List Jvm.Cond) (a1 : Addr) (a2 : Addr) (p3 : Int32) (p4 : Int32) (h0 : Heap) (n0 : Nat) (Z0 : n0 ≤ h0.size) (hc2 : ¬ (p4 < p3)) :
    MetFree l ym50 (head1 (Jvm.Cond.code ym50 method_2_code 4 (some .boolean) :: ws) rm_33) (fun a U => a = #[(.ref a1), (.ref a2), (.int p3), (.int p4)] ∧ Z.Warmed39 U.vm ∧ U.heap = h0) (fun _ _ _ _ _ => True) (fun _ U o U' => ∃ v L, o = .returned v ∧ Qrm48t Z a1 a2 p3 p4 h0 n0 v U'.heap L ∧ FrameEnd U o U' L rm_33.cells rm_33.slots) := by
  refine MetFree.of_bodySF (plainFor_of_name pn_48) hisR ?_
  intro p e s m args below meth c s₁ Bd hml0 hP hK
  obtain ⟨rfl, hZ, hh⟩ := hP
  have hx := Bd.exec
  have hby := Bd.bytes
  have X0 : Stand p l e rm_33 s m #[(.ref a1), (.ref a2), (.int p3), (.int p4)] below meth c s₁ [] 0 0 := Stand.of_body Bd
  have e0 : s₁.heap = h0 := by rw [← hh, Bd.state]; rfl
  have N0 := Fr.nil n0
  let aa1 : Array Slot := #[.val (.ref a1), .val (.ref a2), .val (.int p3), .val (.int p4)]
  have pre0 : ∀ t, Steps p.tables e below (s₁.setTop (mkF m 0 aa1 [])) t → Steps p.tables e below (s₁.setTop (entryFrame m #[(.ref a1), (.ref a2), (.int p3), (.int p4)] 4)) t := fun t k => castTop (ef_18 m a1 a2 p3 p4) k
  obtain ⟨fs, hr, hrun, hended, hW, hsame⟩ := X0.leave (v := some (.int 1)) (fun h => by rw [Bd.returns] at h; cases h)
  refine ⟨_, _, pre0 _ ?_, hrun, hended, _, _, rfl, ?_, ⟨_, rfl⟩, hW, hsame.mono (by decide) (by decide)⟩
  · show Sw s₁ m 0 aa1 [] _
    refine XS.iloadN X0.here hx rfl (hb hby d48_0) rfl ?_
    show Sw s₁ m 1 aa1 [(.int p4)] _
    refine XS.iloadN X0.here hx rfl (hb hby d48_1) rfl ?_
    show Sw s₁ m 2 aa1 [(.int p3), (.int p4)] _
    refine XS.icmpYes X0.here hx rfl (pc0 := 2) (pc' := 19) rfl (hb hby d48_2) rfl (flt hc2).2.1 (by decide) (by decide) ?_
    show Sw s₁ m 19 aa1 [] _
    refine XS.iconst X0.here hx rfl (hb hby d48_19) ?_
    show Sw s₁ m 20 aa1 [(.int 1)] _
    refine XS.goto X0.here hx rfl (pc0 := 20) (pc' := 24) rfl (hb hby d48_20) (by decide) (by decide) ?_
    show Sw s₁ m 24 aa1 [(.int 1)] _
    exact retN X0 hx (t := .boolean) Bd.returns (by simp) (hb hby d48_24) hr
  · show Qrm48t Z a1 a2 p3 p4 h0 n0 _ s₁.heap _
    rw [e0]
    exact ⟨rfl, N0, rfl⟩
theorem own_fr0 {L : List Loc} (h : L = []) (n0 : Nat) : Fr n0 L := by rw [h]; exact Fr.nil n0
theorem own_getD (es : List Int32) (j : Nat) : (es.map Value.int).getD j (.int 0) = .int (es.getD j 0) := by
  simp only [List.getD_eq_getElem?_getD, List.getElem?_map]
  cases es[j]? <;> rfl
/-- what the last part of the law rests on: the document d and the array e -/
def own_K (Z : State) (h : Heap) (d e : Addr) (cs es : List Int32) (t : Addr) (kt : ClassId) (n : Int32) (ka : ClassId) : Prop :=
  own_S Z h d t kt n (own_by cs) ∧ n = Int32.ofNat cs.length ∧ cs.length ≤ 4000 ∧ (∀ c ∈ cs, ¬ c < 0 ∧ ¬ (255 : Int32) < c) ∧ Arv Z h e ka .char (19 : Int32) (es.map Value.int) (.int 0) ∧ es.length = 19
theorem d48_5 : decode method_2_code 5 = .ok (.aload_n 0, 1) := by decide +kernel
theorem d48_6 : decode method_2_code 6 = .ok (.bipush 39, 2) := by decide +kernel
theorem d48_8 : decode method_2_code 8 = .ok (.iload_n 3, 1) := by decide +kernel
theorem d48_9 : decode method_2_code 9 = .ok (.iadd, 1) := by decide +kernel
theorem d48_10 : decode method_2_code 10 = .ok (.invokevirtual 7, 3) := by decide +kernel
theorem d48_13 : decode method_2_code 13 = .ok (.aload_n 1, 1) := by decide +kernel
theorem d48_14 : decode method_2_code 14 = .ok (.iload_n 3, 1) := by decide +kernel
theorem d48_15 : decode method_2_code 15 = .ok (.caload, 1) := by decide +kernel
theorem d48_16 : decode method_2_code 16 = .ok (.if_icmp .ne 7, 3) := by decide +kernel
theorem pd_48_32 : parseMethodDescriptor "(I)C" = some ⟨[.int], some .char⟩ := by decide +kernel
def Qrm48f (Z : State) (a1 : Addr) (a2 : Addr) (p3 : Int32) (p4 : Int32) (cs es : List Int32) (t : Addr) (kt : ClassId) (n : Int32) (ka : ClassId) (j : Nat) (G1 : Int32) (fm : Value) (h0 : Heap) (n0 : Nat) (v : Option Value) (h : Heap) (L : List Loc) : Prop := v = some (.int 1) ∧ Fr n0 L ∧ h = h0
set_option maxRecDepth 65536 in
set_option maxHeartbeats 40000000 in
theorem rm48f (l : Launch) (Z : State) (a0 : Array Value) (hw : HW a0 Z) (ws : List Jvm.Cond) (a1 : Addr) (a2 : Addr) (p3 : Int32) (p4 : Int32) (cs es : List Int32) (t : Addr) (kt : ClassId) (n : Int32) (ka : ClassId) (j : Nat) (G1 : Int32) (fm : Value) (h0 : Heap) (n0 : Nat) (Z0 : n0 ≤ h0.size) (SC : Sta Z h0 "java/lang/String" "COMPACT_STRINGS" "Z" (.int G1)) (P3 : ¬ (G1 = (0 : Int32))) (SF : Sta Z h0 "jdk/internal/util/Preconditions" "SIOOBE_FORMATTER" "Ljava/util/function/BiFunction;" fm) (rf : fm.isRef = true) (KK : own_K Z h0 a1 a2 cs es t kt n ka) (hj : p4 = Int32.ofNat j) (hj19 : j < 19) (H : 39 + j < cs.length ∧ cs.getD (39 + j) 0 = es.getD j 0) (hc2 : p4 < p3) :
    MetFree l ym50 (head1 (Jvm.Cond.code ym50 method_2_code 4 (some .boolean) :: ws) rm_33) (fun a U => a = #[(.ref a1), (.ref a2), (.int p3), (.int p4)] ∧ Z.Warmed39 U.vm ∧ U.heap = h0) (fun _ _ _ _ _ => True) (fun _ U o U' => ∃ v L, o = .returned v ∧ Qrm48f Z a1 a2 p3 p4 cs es t kt n ka j G1 fm h0 n0 v U'.heap L ∧ FrameEnd U o U' L rm_33.cells rm_33.slots) := by
  refine MetFree.of_bodySF (plainFor_of_name pn_48) hisR ?_
  intro p e s m args below meth c s₁ Bd hml0 hP hK
  obtain ⟨rfl, hZ, hh⟩ := hP
  have hx := Bd.exec
  have hby := Bd.bytes
  have hml : c.maxLocals = 4 := hml0
  have hown : s.vm.findClass "org/athenaeum/xml/XmlWriterEndPinLaw" = some m.cls := findClass_of_methodNamed Bd.named
  have X0 : Stand p l e rm_33 s m #[(.ref a1), (.ref a2), (.int p3), (.int p4)] below meth c s₁ [] 0 0 := Stand.of_body Bd
  have e0 : s₁.heap = h0 := by rw [← hh, Bd.state]; rfl
  have N0 := Fr.nil n0
  let aa1 : Array Slot := #[.val (.ref a1), .val (.ref a2), .val (.int p3), .val (.int p4)]
  have pre0 : ∀ t, Steps p.tables e below (s₁.setTop (mkF m 0 aa1 [])) t → Steps p.tables e below (s₁.setTop (entryFrame m #[(.ref a1), (.ref a2), (.int p3), (.int p4)] 4)) t := fun t k => castTop (ef_18 m a1 a2 p3 p4) k
  obtain ⟨cq5, kq5, q5a, q5b, q5c⟩ := isOf hZ e0 KK.1.1
  have hws : ∀ d ∈ StrChars.Road.wordsChN, d.before a0 Z = true := fun d hd => hw d ((by decide +kernel : ∀ d ∈ StrChars.Road.wordsChN, d ∈ tables_1) d hd)
  obtain ⟨cl_a2, Ar_a2, -, S_a2, N_a2, H_a2, -⟩ := id KK.2.2.2.2.1
  have hjn : p4.toNatClampNeg = j := by rw [hj]; exact Int32.toNatClampNeg_ofNat_of_lt (by omega)
  have hb6 : ∀ c ∈ cs, ¬ c < 0 ∧ ¬ (65535 : Int32) < c := fun c hc => by
    obtain ⟨u1, u2⟩ := KK.2.2.2.1 c hc
    rw [Int32.lt_iff_toInt_lt] at u1 u2 ⊢
    rw [Int32.lt_iff_toInt_lt]
    have k0 : (0 : Int32).toInt = 0 := rfl
    have k1 : (255 : Int32).toInt = 255 := rfl
    have k2 : (65535 : Int32).toInt = 65535 := rfl
    omega
  have hj39 : (39 : Int32) + p4 = Int32.ofNat (39 + j) := by rw [hj]; exact (Int32.ofNat_add 39 j).symm
  have hin15 : ¬ (p4 < 0 ∨ cl_a2.slots.size ≤ (p4).toNatClampNeg) := by
    have e19 : (19 : Int32).toNatClampNeg = 19 := rfl
    have pz : ¬ p4 < 0 := by rw [hj]; intro q; rw [Int32.lt_iff_toInt_lt] at q; have z0 : (0 : Int32).toInt = 0 := rfl; have := Int32.toInt_ofNat_of_lt (n := j) (by omega); omega
    rintro (q | q)
    · exact pz q
    · omega
  have hat15 : cl_a2.slots[(p4).toNatClampNeg]? = some (.int (es.getD j 0)) := by
    rw [hjn, H_a2 j (by rw [S_a2]; exact hj19), own_getD]
  obtain ⟨_, _, ⟨T5, L5, k5, n5⟩, -, X5, ⟨Lc5, hQ5, l5, y5, z5⟩, st5⟩ := X0.virtualBack hx (y := ym51) (z := ym51) hown (mvT hZ (ww hw 273 rfl)) (mvT hZ (ww hw 274 rfl)) (notFace_of_selects (args := #[]) (mvT hZ (ww hw 276 rfl))) (mvT hZ (ww hw 276 rfl)) (mvT hZ (ww hw 275 rfl)) (by decide) (StrChars.Road.chN (W := 0) hZ hws (kI := 4) (ww hw 1 rfl) (cs := cs) (i := 39 + j) (j := (39 : Int32) + p4) KK.1.1 KK.1.2.1 KK.1.2.2.1 KK.1.2.2.2.1 (by have q := StrChars.Road.codOf (cs := cs) rfl (fun c hc => (KK.2.2.2.1 c hc).2); rw [← KK.2.1] at q; exact q) hb6 SC P3 SF rf KK.2.2.1 H.1 hj39 (by decide) (by decide)) q5a q5c (g := (mkF m 10 aa1 [(.int ((39 : Int32) + p4)), (.ref a1)])) rfl (by rw [hml]; rfl) (Steps.refl _) (argsL := [(.int ((39 : Int32) + p4))]) (rest := []) (lenOf pd_48_32 rfl) rfl (wz rfl) (hb hby d48_10) (fun _ _ => ⟨rfl, e0, (by decide : 0 + 0 ≤ _), (by decide : 0 + 0 ≤ _)⟩)
  dsimp only [Pt.U, Pt.locs, Pt.cells, Pt.slots] at X5 l5 y5 z5 st5 hQ5
  subst l5 y5 z5
  obtain ⟨rfl, hL5, e5⟩ := hQ5
  have N5q := own_fr0 hL5 n0
  have N5 := Fr.app N0 N5q
  obtain ⟨fs, hr, hrun, hended, hW, hsame⟩ := X5.leave (v := some (.int 1)) (fun h => by rw [Bd.returns] at h; cases h)
  refine ⟨_, _, pre0 _ ?_, hrun, hended, _, _, rfl, ?_, ⟨_, rfl⟩, hW, hsame.mono (by decide) (by decide)⟩
  · show Sw s₁ m 0 aa1 [] _
    refine XS.iloadN X0.here hx rfl (hb hby d48_0) rfl ?_
    show Sw s₁ m 1 aa1 [(.int p4)] _
    refine XS.iloadN X0.here hx rfl (hb hby d48_1) rfl ?_
    show Sw s₁ m 2 aa1 [(.int p3), (.int p4)] _
    refine XS.icmpNo X0.here hx rfl (hb hby d48_2) rfl (tlt hc2).2.1 ?_
    show Sw s₁ m 5 aa1 [] _
    refine XS.aloadN X0.here hx rfl (hb hby d48_5) rfl rfl ?_
    show Sw s₁ m 6 aa1 [(.ref a1)] _
    refine XS.bipush X0.here hx rfl (hb hby d48_6) ?_
    show Sw s₁ m 8 aa1 [(.int 39), (.ref a1)] _
    refine XS.iloadN X0.here hx rfl (hb hby d48_8) rfl ?_
    show Sw s₁ m 9 aa1 [(.int p4), (.int 39), (.ref a1)] _
    refine XS.iadd X0.here hx rfl (hb hby d48_9) rfl ?_
    show Sw s₁ m 10 aa1 [(.int ((39 : Int32) + p4)), (.ref a1)] _
    refine st5.trans ?_
    show Sw T5 m 13 aa1 [(.int (cs.getD (39 + j) 0))] _
    refine XS.aloadN X5.here hx rfl (hb hby d48_13) rfl rfl ?_
    show Sw T5 m 14 aa1 [(.ref a2), (.int (cs.getD (39 + j) 0))] _
    refine XS.iloadN X5.here hx rfl (hb hby d48_14) rfl ?_
    show Sw T5 m 15 aa1 [(.int p4), (.ref a2), (.int (cs.getD (39 + j) 0))] _
    refine X5.caload hx (j := p4) (v := (.int (es.getD j 0))) (by rw [e5]; exact Ar_a2.1) (State.isArrayOf_alike hZ.alike Ar_a2.2.1) Ar_a2.2.2 hin15 hat15 (g := (mkF m 15 aa1 [(.int p4), (.ref a2), (.int (cs.getD (39 + j) 0))])) rfl rfl (hb hby d48_15) _ ?_
    show Sw T5 m 16 aa1 [(.int (es.getD j 0)), (.int (cs.getD (39 + j) 0))] _
    refine XS.icmpNo X5.here hx rfl (hb hby d48_16) rfl (teq (H.2 : (cs.getD (39 + j) 0) = (es.getD j 0))).2 ?_
    show Sw T5 m 19 aa1 [] _
    refine XS.iconst X5.here hx rfl (hb hby d48_19) ?_
    show Sw T5 m 20 aa1 [(.int 1)] _
    refine XS.goto X5.here hx rfl (pc0 := 20) (pc' := 24) rfl (hb hby d48_20) (by decide) (by decide) ?_
    show Sw T5 m 24 aa1 [(.int 1)] _
    exact retN X5 hx (t := .boolean) Bd.returns (by simp) (hb hby d48_24) hr
  · show Qrm48f Z a1 a2 p3 p4 cs es t kt n ka j G1 fm h0 n0 _ T5.heap _
    exact ⟨rfl, N5, e5⟩
def Qrm48 (h0 : Heap) (n0 : Nat) (v : Option Value) (h : Heap) (L : List Loc) : Prop := v = some (.int 1) ∧ Fr n0 L ∧ h = h0
theorem rm48 (l : Launch) (Z : State) (a0 : Array Value) (hw : HW a0 Z) (ws : List Jvm.Cond) (a1 : Addr) (a2 : Addr) (p3 : Int32) (p4 : Int32) (cs es : List Int32) (t : Addr) (kt : ClassId) (n : Int32) (ka : ClassId) (j : Nat) (G1 : Int32) (fm : Value) (h0 : Heap) (n0 : Nat) (Z0 : n0 ≤ h0.size) (SC : Sta Z h0 "java/lang/String" "COMPACT_STRINGS" "Z" (.int G1)) (P3 : ¬ (G1 = (0 : Int32))) (SF : Sta Z h0 "jdk/internal/util/Preconditions" "SIOOBE_FORMATTER" "Ljava/util/function/BiFunction;" fm) (rf : fm.isRef = true) (KK : own_K Z h0 a1 a2 cs es t kt n ka) (hj : p4 = Int32.ofNat j) (hj19 : j < 19) (H : p4 < p3 → 39 + j < cs.length ∧ cs.getD (39 + j) 0 = es.getD j 0) :
    MetFree l ym50 (head1 (Jvm.Cond.code ym50 method_2_code 4 (some .boolean) :: ws) rm_33) (fun a U => a = #[(.ref a1), (.ref a2), (.int p3), (.int p4)] ∧ Z.Warmed39 U.vm ∧ U.heap = h0) (fun _ _ _ _ _ => True) (fun _ U o U' => ∃ v L, o = .returned v ∧ Qrm48 h0 n0 v U'.heap L ∧ FrameEnd U o U' L rm_33.cells rm_33.slots) := by
  by_cases c : p4 < p3
  · exact rm48f l Z a0 hw ws a1 a2 p3 p4 cs es t kt n ka j G1 fm h0 n0 Z0 SC P3 SF rf KK hj hj19 (H c) c
  · exact rm48t l Z a0 hw ws a1 a2 p3 p4 h0 n0 Z0 c
theorem pd_0_at : parseMethodDescriptor "(Ljava/lang/String;[CII)Z" = some ⟨[(.object "java/lang/String"), (.array .char), .int, .int], some .boolean⟩ := by decide +kernel
theorem own_at {p : Program} {l : Launch} {e : Env} {s : State} {m : MethodId} {args : Array Value} {below : List Frame} {meth : Method} {c : Code} {T0 : State} {locs : List Loc} {cells slots : Nat} {Z : State} {a0 : Array Value} {h0 : Heap} (X0 : Stand p l e room_1 s m args below meth c T0 locs cells slots) (hx : p.tables.exec = Jvm.exec) (hZ : Z.Warmed39 s.vm) (hw : HW a0 Z) (hml : c.maxLocals = 20) (hown : s.vm.findClass "org/athenaeum/xml/XmlWriterEndPinLaw" = some m.cls) (e0 : T0.heap = h0) (n0 : Nat) (Z0 : n0 ≤ h0.size) (N0 : Fr n0 locs) {G1 : Int32} {fm : Value} {cs es : List Int32} {t : Addr} {kt : ClassId} {n : Int32} {ka : ClassId} {o17 o18 : Addr} {i19 : Int32} (SC : Sta Z h0 "java/lang/String" "COMPACT_STRINGS" "Z" (.int G1)) (P3 : ¬ (G1 = (0 : Int32))) (SF : Sta Z h0 "jdk/internal/util/Preconditions" "SIOOBE_FORMATTER" "Ljava/util/function/BiFunction;" fm) (rf : fm.isRef = true) (KK : own_K Z h0 o17 o18 cs es t kt n ka) (hcs : cells ≤ room_1.cells) (hsl : slots ≤ room_1.slots) (j : Nat) (i : Int32) (hj : i = Int32.ofNat j) (hj19 : j < 19) (H : i < i19 → 39 + j < cs.length ∧ cs.getD (39 + j) 0 = es.getD j 0) {Ls : Array Slot} (hLs : Ls.size = 20) {pc : Nat} (hd : decode c.code pc = .ok (.invokestatic 40, 3)) :
    ∃ (T' : State) (locs' : List Loc), Stand p l e room_1 s m args below meth c T' locs' cells slots ∧ T'.heap = h0 ∧ Fr n0 locs' ∧
      ∀ target, Steps p.tables e below (T'.setTop (mkF m (pc + 3) Ls [(.int 1)])) target → Steps p.tables e below (T0.setTop (mkF m pc Ls [(.int i), (.int i19), (.ref o18), (.ref o17)])) target := by
  obtain ⟨_, _, ⟨T6, L6, k6, n6⟩, -, X6, ⟨Lc6, hQ6, l6, y6, z6⟩, st6⟩ := Jvm.LawKit.callS X0 hx (y := ym50) hown (mvT hZ (ww hw 269 rfl)) (mvT hZ (ww hw 270 rfl)) (mvT hZ (ww hw 271 rfl)) (mvT hZ (ww hw 272 rfl)) (by decide) (backOf (W := 0) (rm48 l Z a0 hw [] o17 o18 i19 i cs es t kt n ka j G1 fm h0 n0 Z0 SC P3 SF rf KK hj hj19 H) hZ (ww hw 272 rfl) (ww hw 271 rfl) (by decide) (by decide)) (g := mkF m pc Ls [(.int i), (.int i19), (.ref o18), (.ref o17)]) rfl (by rw [hml]; exact hLs) (argsL := [(.ref o17), (.ref o18), (.int i19), (.int i)]) (rest := []) (lenOf pd_0_at rfl) rfl (wz rfl) hd (fun _ _ => ⟨rfl, e0, hcs, hsl⟩)
  dsimp only [Pt.U, Pt.locs, Pt.cells, Pt.slots] at X6 l6 y6 z6 st6 hQ6
  subst l6 y6 z6
  obtain ⟨rfl, N6q, e6⟩ := hQ6
  exact ⟨T6, _, X6, e6, Fr.app N0 N6q, fun target k => st6 target k⟩
set_option maxRecDepth 65536 in
set_option maxHeartbeats 40000000 in
theorem own_last {p : Program} {l : Launch} {e : Env} {s : State} {m : MethodId} {args : Array Value} {below : List Frame} {meth : Method} {c : Code} {T0 : State} {locs : List Loc} {cells slots : Nat} {Z : State} {a0 : Array Value} {h0 : Heap} (s0 : Slot) (s1 : Slot) (s2 : Slot) (s3 : Slot) (s4 : Slot) (s5 : Slot) (s6 : Slot) (s7 : Slot) (s8 : Slot) (s9 : Slot) (s10 : Slot) (s11 : Slot) (s12 : Slot) (s13 : Slot) (s14 : Slot) (s15 : Slot) (s16 : Slot) (X0 : Stand p l e room_1 s m args below meth c T0 locs cells slots) (hx : p.tables.exec = Jvm.exec) (hZ : Z.Warmed39 s.vm) (hw : HW a0 Z) (hml : c.maxLocals = 20) (hown : s.vm.findClass "org/athenaeum/xml/XmlWriterEndPinLaw" = some m.cls) (e0 : T0.heap = h0) (n0 : Nat) (Z0 : n0 ≤ h0.size) (N0 : Fr n0 locs) {G1 : Int32} {fm : Value} {cs es : List Int32} {t : Addr} {kt : ClassId} {n : Int32} {ka : ClassId} {o17 o18 : Addr} {i19 : Int32} (SC : Sta Z h0 "java/lang/String" "COMPACT_STRINGS" "Z" (.int G1)) (P3 : ¬ (G1 = (0 : Int32))) (SF : Sta Z h0 "jdk/internal/util/Preconditions" "SIOOBE_FORMATTER" "Ljava/util/function/BiFunction;" fm) (rf : fm.isRef = true) (KK : own_K Z h0 o17 o18 cs es t kt n ka) (hcs : cells ≤ room_1.cells) (hsl : slots ≤ room_1.slots) (hby : c.code = code) (H : ∀ j : Nat, j < 19 → Int32.ofNat j < i19 → 39 + j < cs.length ∧ cs.getD (39 + j) 0 = es.getD j 0) :
    ∃ (T' : State) (locs' : List Loc), Stand p l e room_1 s m args below meth c T' locs' cells slots ∧ T'.heap = h0 ∧ Fr n0 locs' ∧
      ∀ target, Steps p.tables e below (T'.setTop (mkF m 717 #[s0, s1, s2, s3, s4, s5, s6, s7, s8, s9, s10, s11, s12, s13, s14, s15, s16, .val (.ref o17), .val (.ref o18), .val (.int i19)] [(.int 1)])) target → Steps p.tables e below (T0.setTop (mkF m 452 #[s0, s1, s2, s3, s4, s5, s6, s7, s8, s9, s10, s11, s12, s13, s14, s15, s16, .val (.ref o17), .val (.ref o18), .val (.int i19)] [])) target := by
  obtain ⟨T6, L6, X6, e6, N6, st6⟩ := own_at X0 hx hZ hw hml hown e0 n0 Z0 N0 SC P3 SF rf KK hcs hsl 0 (0 : Int32) rfl (by decide) (H 0 (by decide)) (Ls := #[s0, s1, s2, s3, s4, s5, s6, s7, s8, s9, s10, s11, s12, s13, s14, s15, s16, .val (.ref o17), .val (.ref o18), .val (.int i19)]) rfl (hb hby at_459)
  obtain ⟨T7, L7, X7, e7, N7, st7⟩ := own_at X6 hx hZ hw hml hown e6 n0 Z0 N6 SC P3 SF rf KK hcs hsl 1 (1 : Int32) rfl (by decide) (H 1 (by decide)) (Ls := #[s0, s1, s2, s3, s4, s5, s6, s7, s8, s9, s10, s11, s12, s13, s14, s15, s16, .val (.ref o17), .val (.ref o18), .val (.int i19)]) rfl (hb hby at_472)
  obtain ⟨T8, L8, X8, e8, N8, st8⟩ := own_at X7 hx hZ hw hml hown e7 n0 Z0 N7 SC P3 SF rf KK hcs hsl 2 (2 : Int32) rfl (by decide) (H 2 (by decide)) (Ls := #[s0, s1, s2, s3, s4, s5, s6, s7, s8, s9, s10, s11, s12, s13, s14, s15, s16, .val (.ref o17), .val (.ref o18), .val (.int i19)]) rfl (hb hby at_485)
  obtain ⟨T9, L9, X9, e9, N9, st9⟩ := own_at X8 hx hZ hw hml hown e8 n0 Z0 N8 SC P3 SF rf KK hcs hsl 3 (3 : Int32) rfl (by decide) (H 3 (by decide)) (Ls := #[s0, s1, s2, s3, s4, s5, s6, s7, s8, s9, s10, s11, s12, s13, s14, s15, s16, .val (.ref o17), .val (.ref o18), .val (.int i19)]) rfl (hb hby at_498)
  obtain ⟨T10, L10, X10, e10, N10, st10⟩ := own_at X9 hx hZ hw hml hown e9 n0 Z0 N9 SC P3 SF rf KK hcs hsl 4 (4 : Int32) rfl (by decide) (H 4 (by decide)) (Ls := #[s0, s1, s2, s3, s4, s5, s6, s7, s8, s9, s10, s11, s12, s13, s14, s15, s16, .val (.ref o17), .val (.ref o18), .val (.int i19)]) rfl (hb hby at_511)
  obtain ⟨T11, L11, X11, e11, N11, st11⟩ := own_at X10 hx hZ hw hml hown e10 n0 Z0 N10 SC P3 SF rf KK hcs hsl 5 (5 : Int32) rfl (by decide) (H 5 (by decide)) (Ls := #[s0, s1, s2, s3, s4, s5, s6, s7, s8, s9, s10, s11, s12, s13, s14, s15, s16, .val (.ref o17), .val (.ref o18), .val (.int i19)]) rfl (hb hby at_524)
  obtain ⟨T12, L12, X12, e12, N12, st12⟩ := own_at X11 hx hZ hw hml hown e11 n0 Z0 N11 SC P3 SF rf KK hcs hsl 6 (6 : Int32) rfl (by decide) (H 6 (by decide)) (Ls := #[s0, s1, s2, s3, s4, s5, s6, s7, s8, s9, s10, s11, s12, s13, s14, s15, s16, .val (.ref o17), .val (.ref o18), .val (.int i19)]) rfl (hb hby at_538)
  obtain ⟨T13, L13, X13, e13, N13, st13⟩ := own_at X12 hx hZ hw hml hown e12 n0 Z0 N12 SC P3 SF rf KK hcs hsl 7 (7 : Int32) rfl (by decide) (H 7 (by decide)) (Ls := #[s0, s1, s2, s3, s4, s5, s6, s7, s8, s9, s10, s11, s12, s13, s14, s15, s16, .val (.ref o17), .val (.ref o18), .val (.int i19)]) rfl (hb hby at_552)
  obtain ⟨T14, L14, X14, e14, N14, st14⟩ := own_at X13 hx hZ hw hml hown e13 n0 Z0 N13 SC P3 SF rf KK hcs hsl 8 (8 : Int32) rfl (by decide) (H 8 (by decide)) (Ls := #[s0, s1, s2, s3, s4, s5, s6, s7, s8, s9, s10, s11, s12, s13, s14, s15, s16, .val (.ref o17), .val (.ref o18), .val (.int i19)]) rfl (hb hby at_566)
  obtain ⟨T15, L15, X15, e15, N15, st15⟩ := own_at X14 hx hZ hw hml hown e14 n0 Z0 N14 SC P3 SF rf KK hcs hsl 9 (9 : Int32) rfl (by decide) (H 9 (by decide)) (Ls := #[s0, s1, s2, s3, s4, s5, s6, s7, s8, s9, s10, s11, s12, s13, s14, s15, s16, .val (.ref o17), .val (.ref o18), .val (.int i19)]) rfl (hb hby at_580)
  obtain ⟨T16, L16, X16, e16, N16, st16⟩ := own_at X15 hx hZ hw hml hown e15 n0 Z0 N15 SC P3 SF rf KK hcs hsl 10 (10 : Int32) rfl (by decide) (H 10 (by decide)) (Ls := #[s0, s1, s2, s3, s4, s5, s6, s7, s8, s9, s10, s11, s12, s13, s14, s15, s16, .val (.ref o17), .val (.ref o18), .val (.int i19)]) rfl (hb hby at_594)
  obtain ⟨T17, L17, X17, e17, N17, st17⟩ := own_at X16 hx hZ hw hml hown e16 n0 Z0 N16 SC P3 SF rf KK hcs hsl 11 (11 : Int32) rfl (by decide) (H 11 (by decide)) (Ls := #[s0, s1, s2, s3, s4, s5, s6, s7, s8, s9, s10, s11, s12, s13, s14, s15, s16, .val (.ref o17), .val (.ref o18), .val (.int i19)]) rfl (hb hby at_608)
  obtain ⟨T18, L18, X18, e18, N18, st18⟩ := own_at X17 hx hZ hw hml hown e17 n0 Z0 N17 SC P3 SF rf KK hcs hsl 12 (12 : Int32) rfl (by decide) (H 12 (by decide)) (Ls := #[s0, s1, s2, s3, s4, s5, s6, s7, s8, s9, s10, s11, s12, s13, s14, s15, s16, .val (.ref o17), .val (.ref o18), .val (.int i19)]) rfl (hb hby at_622)
  obtain ⟨T19, L19, X19, e19, N19, st19⟩ := own_at X18 hx hZ hw hml hown e18 n0 Z0 N18 SC P3 SF rf KK hcs hsl 13 (13 : Int32) rfl (by decide) (H 13 (by decide)) (Ls := #[s0, s1, s2, s3, s4, s5, s6, s7, s8, s9, s10, s11, s12, s13, s14, s15, s16, .val (.ref o17), .val (.ref o18), .val (.int i19)]) rfl (hb hby at_636)
  obtain ⟨T20, L20, X20, e20, N20, st20⟩ := own_at X19 hx hZ hw hml hown e19 n0 Z0 N19 SC P3 SF rf KK hcs hsl 14 (14 : Int32) rfl (by decide) (H 14 (by decide)) (Ls := #[s0, s1, s2, s3, s4, s5, s6, s7, s8, s9, s10, s11, s12, s13, s14, s15, s16, .val (.ref o17), .val (.ref o18), .val (.int i19)]) rfl (hb hby at_650)
  obtain ⟨T21, L21, X21, e21, N21, st21⟩ := own_at X20 hx hZ hw hml hown e20 n0 Z0 N20 SC P3 SF rf KK hcs hsl 15 (15 : Int32) rfl (by decide) (H 15 (by decide)) (Ls := #[s0, s1, s2, s3, s4, s5, s6, s7, s8, s9, s10, s11, s12, s13, s14, s15, s16, .val (.ref o17), .val (.ref o18), .val (.int i19)]) rfl (hb hby at_664)
  obtain ⟨T22, L22, X22, e22, N22, st22⟩ := own_at X21 hx hZ hw hml hown e21 n0 Z0 N21 SC P3 SF rf KK hcs hsl 16 (16 : Int32) rfl (by decide) (H 16 (by decide)) (Ls := #[s0, s1, s2, s3, s4, s5, s6, s7, s8, s9, s10, s11, s12, s13, s14, s15, s16, .val (.ref o17), .val (.ref o18), .val (.int i19)]) rfl (hb hby at_678)
  obtain ⟨T23, L23, X23, e23, N23, st23⟩ := own_at X22 hx hZ hw hml hown e22 n0 Z0 N22 SC P3 SF rf KK hcs hsl 17 (17 : Int32) rfl (by decide) (H 17 (by decide)) (Ls := #[s0, s1, s2, s3, s4, s5, s6, s7, s8, s9, s10, s11, s12, s13, s14, s15, s16, .val (.ref o17), .val (.ref o18), .val (.int i19)]) rfl (hb hby at_692)
  obtain ⟨T24, L24, X24, e24, N24, st24⟩ := own_at X23 hx hZ hw hml hown e23 n0 Z0 N23 SC P3 SF rf KK hcs hsl 18 (18 : Int32) rfl (by decide) (H 18 (by decide)) (Ls := #[s0, s1, s2, s3, s4, s5, s6, s7, s8, s9, s10, s11, s12, s13, s14, s15, s16, .val (.ref o17), .val (.ref o18), .val (.int i19)]) rfl (hb hby at_706)
  refine ⟨T24, _, X24, e24, N24, fun target kt => ?_⟩
  let aa1 : Array Slot := #[s0, s1, s2, s3, s4, s5, s6, s7, s8, s9, s10, s11, s12, s13, s14, s15, s16, .val (.ref o17), .val (.ref o18), .val (.int i19)]
  show Sw T0 m 452 aa1 [] _
  refine XS.aload X0.here hx rfl (hb hby at_452) rfl rfl ?_
  show Sw T0 m 454 aa1 [(.ref o17)] _
  refine XS.aload X0.here hx rfl (hb hby at_454) rfl rfl ?_
  show Sw T0 m 456 aa1 [(.ref o18), (.ref o17)] _
  refine XS.iload X0.here hx rfl (hb hby at_456) rfl ?_
  show Sw T0 m 458 aa1 [(.int i19), (.ref o18), (.ref o17)] _
  refine XS.iconst X0.here hx rfl (hb hby at_458) ?_
  show Sw T0 m 459 aa1 [(.int 0), (.int i19), (.ref o18), (.ref o17)] _
  refine st6 _ ?_
  show Sw T6 m 462 aa1 [(.int 1)] _
  refine XS.ifNo X6.here hx rfl (hb hby at_462) rfl ((if0 _ _).trans (feq (by decide : ¬ ((1 : Int32) = (0 : Int32)))).1) ?_
  show Sw T6 m 465 aa1 [] _
  refine XS.aload X6.here hx rfl (hb hby at_465) rfl rfl ?_
  show Sw T6 m 467 aa1 [(.ref o17)] _
  refine XS.aload X6.here hx rfl (hb hby at_467) rfl rfl ?_
  show Sw T6 m 469 aa1 [(.ref o18), (.ref o17)] _
  refine XS.iload X6.here hx rfl (hb hby at_469) rfl ?_
  show Sw T6 m 471 aa1 [(.int i19), (.ref o18), (.ref o17)] _
  refine XS.iconst X6.here hx rfl (hb hby at_471) ?_
  show Sw T6 m 472 aa1 [(.int 1), (.int i19), (.ref o18), (.ref o17)] _
  refine st7 _ ?_
  show Sw T7 m 475 aa1 [(.int 1)] _
  refine XS.ifNo X7.here hx rfl (hb hby at_475) rfl ((if0 _ _).trans (feq (by decide : ¬ ((1 : Int32) = (0 : Int32)))).1) ?_
  show Sw T7 m 478 aa1 [] _
  refine XS.aload X7.here hx rfl (hb hby at_478) rfl rfl ?_
  show Sw T7 m 480 aa1 [(.ref o17)] _
  refine XS.aload X7.here hx rfl (hb hby at_480) rfl rfl ?_
  show Sw T7 m 482 aa1 [(.ref o18), (.ref o17)] _
  refine XS.iload X7.here hx rfl (hb hby at_482) rfl ?_
  show Sw T7 m 484 aa1 [(.int i19), (.ref o18), (.ref o17)] _
  refine XS.iconst X7.here hx rfl (hb hby at_484) ?_
  show Sw T7 m 485 aa1 [(.int 2), (.int i19), (.ref o18), (.ref o17)] _
  refine st8 _ ?_
  show Sw T8 m 488 aa1 [(.int 1)] _
  refine XS.ifNo X8.here hx rfl (hb hby at_488) rfl ((if0 _ _).trans (feq (by decide : ¬ ((1 : Int32) = (0 : Int32)))).1) ?_
  show Sw T8 m 491 aa1 [] _
  refine XS.aload X8.here hx rfl (hb hby at_491) rfl rfl ?_
  show Sw T8 m 493 aa1 [(.ref o17)] _
  refine XS.aload X8.here hx rfl (hb hby at_493) rfl rfl ?_
  show Sw T8 m 495 aa1 [(.ref o18), (.ref o17)] _
  refine XS.iload X8.here hx rfl (hb hby at_495) rfl ?_
  show Sw T8 m 497 aa1 [(.int i19), (.ref o18), (.ref o17)] _
  refine XS.iconst X8.here hx rfl (hb hby at_497) ?_
  show Sw T8 m 498 aa1 [(.int 3), (.int i19), (.ref o18), (.ref o17)] _
  refine st9 _ ?_
  show Sw T9 m 501 aa1 [(.int 1)] _
  refine XS.ifNo X9.here hx rfl (hb hby at_501) rfl ((if0 _ _).trans (feq (by decide : ¬ ((1 : Int32) = (0 : Int32)))).1) ?_
  show Sw T9 m 504 aa1 [] _
  refine XS.aload X9.here hx rfl (hb hby at_504) rfl rfl ?_
  show Sw T9 m 506 aa1 [(.ref o17)] _
  refine XS.aload X9.here hx rfl (hb hby at_506) rfl rfl ?_
  show Sw T9 m 508 aa1 [(.ref o18), (.ref o17)] _
  refine XS.iload X9.here hx rfl (hb hby at_508) rfl ?_
  show Sw T9 m 510 aa1 [(.int i19), (.ref o18), (.ref o17)] _
  refine XS.iconst X9.here hx rfl (hb hby at_510) ?_
  show Sw T9 m 511 aa1 [(.int 4), (.int i19), (.ref o18), (.ref o17)] _
  refine st10 _ ?_
  show Sw T10 m 514 aa1 [(.int 1)] _
  refine XS.ifNo X10.here hx rfl (hb hby at_514) rfl ((if0 _ _).trans (feq (by decide : ¬ ((1 : Int32) = (0 : Int32)))).1) ?_
  show Sw T10 m 517 aa1 [] _
  refine XS.aload X10.here hx rfl (hb hby at_517) rfl rfl ?_
  show Sw T10 m 519 aa1 [(.ref o17)] _
  refine XS.aload X10.here hx rfl (hb hby at_519) rfl rfl ?_
  show Sw T10 m 521 aa1 [(.ref o18), (.ref o17)] _
  refine XS.iload X10.here hx rfl (hb hby at_521) rfl ?_
  show Sw T10 m 523 aa1 [(.int i19), (.ref o18), (.ref o17)] _
  refine XS.iconst X10.here hx rfl (hb hby at_523) ?_
  show Sw T10 m 524 aa1 [(.int 5), (.int i19), (.ref o18), (.ref o17)] _
  refine st11 _ ?_
  show Sw T11 m 527 aa1 [(.int 1)] _
  refine XS.ifNo X11.here hx rfl (hb hby at_527) rfl ((if0 _ _).trans (feq (by decide : ¬ ((1 : Int32) = (0 : Int32)))).1) ?_
  show Sw T11 m 530 aa1 [] _
  refine XS.aload X11.here hx rfl (hb hby at_530) rfl rfl ?_
  show Sw T11 m 532 aa1 [(.ref o17)] _
  refine XS.aload X11.here hx rfl (hb hby at_532) rfl rfl ?_
  show Sw T11 m 534 aa1 [(.ref o18), (.ref o17)] _
  refine XS.iload X11.here hx rfl (hb hby at_534) rfl ?_
  show Sw T11 m 536 aa1 [(.int i19), (.ref o18), (.ref o17)] _
  refine XS.bipush X11.here hx rfl (hb hby at_536) ?_
  show Sw T11 m 538 aa1 [(.int 6), (.int i19), (.ref o18), (.ref o17)] _
  refine st12 _ ?_
  show Sw T12 m 541 aa1 [(.int 1)] _
  refine XS.ifNo X12.here hx rfl (hb hby at_541) rfl ((if0 _ _).trans (feq (by decide : ¬ ((1 : Int32) = (0 : Int32)))).1) ?_
  show Sw T12 m 544 aa1 [] _
  refine XS.aload X12.here hx rfl (hb hby at_544) rfl rfl ?_
  show Sw T12 m 546 aa1 [(.ref o17)] _
  refine XS.aload X12.here hx rfl (hb hby at_546) rfl rfl ?_
  show Sw T12 m 548 aa1 [(.ref o18), (.ref o17)] _
  refine XS.iload X12.here hx rfl (hb hby at_548) rfl ?_
  show Sw T12 m 550 aa1 [(.int i19), (.ref o18), (.ref o17)] _
  refine XS.bipush X12.here hx rfl (hb hby at_550) ?_
  show Sw T12 m 552 aa1 [(.int 7), (.int i19), (.ref o18), (.ref o17)] _
  refine st13 _ ?_
  show Sw T13 m 555 aa1 [(.int 1)] _
  refine XS.ifNo X13.here hx rfl (hb hby at_555) rfl ((if0 _ _).trans (feq (by decide : ¬ ((1 : Int32) = (0 : Int32)))).1) ?_
  show Sw T13 m 558 aa1 [] _
  refine XS.aload X13.here hx rfl (hb hby at_558) rfl rfl ?_
  show Sw T13 m 560 aa1 [(.ref o17)] _
  refine XS.aload X13.here hx rfl (hb hby at_560) rfl rfl ?_
  show Sw T13 m 562 aa1 [(.ref o18), (.ref o17)] _
  refine XS.iload X13.here hx rfl (hb hby at_562) rfl ?_
  show Sw T13 m 564 aa1 [(.int i19), (.ref o18), (.ref o17)] _
  refine XS.bipush X13.here hx rfl (hb hby at_564) ?_
  show Sw T13 m 566 aa1 [(.int 8), (.int i19), (.ref o18), (.ref o17)] _
  refine st14 _ ?_
  show Sw T14 m 569 aa1 [(.int 1)] _
  refine XS.ifNo X14.here hx rfl (hb hby at_569) rfl ((if0 _ _).trans (feq (by decide : ¬ ((1 : Int32) = (0 : Int32)))).1) ?_
  show Sw T14 m 572 aa1 [] _
  refine XS.aload X14.here hx rfl (hb hby at_572) rfl rfl ?_
  show Sw T14 m 574 aa1 [(.ref o17)] _
  refine XS.aload X14.here hx rfl (hb hby at_574) rfl rfl ?_
  show Sw T14 m 576 aa1 [(.ref o18), (.ref o17)] _
  refine XS.iload X14.here hx rfl (hb hby at_576) rfl ?_
  show Sw T14 m 578 aa1 [(.int i19), (.ref o18), (.ref o17)] _
  refine XS.bipush X14.here hx rfl (hb hby at_578) ?_
  show Sw T14 m 580 aa1 [(.int 9), (.int i19), (.ref o18), (.ref o17)] _
  refine st15 _ ?_
  show Sw T15 m 583 aa1 [(.int 1)] _
  refine XS.ifNo X15.here hx rfl (hb hby at_583) rfl ((if0 _ _).trans (feq (by decide : ¬ ((1 : Int32) = (0 : Int32)))).1) ?_
  show Sw T15 m 586 aa1 [] _
  refine XS.aload X15.here hx rfl (hb hby at_586) rfl rfl ?_
  show Sw T15 m 588 aa1 [(.ref o17)] _
  refine XS.aload X15.here hx rfl (hb hby at_588) rfl rfl ?_
  show Sw T15 m 590 aa1 [(.ref o18), (.ref o17)] _
  refine XS.iload X15.here hx rfl (hb hby at_590) rfl ?_
  show Sw T15 m 592 aa1 [(.int i19), (.ref o18), (.ref o17)] _
  refine XS.bipush X15.here hx rfl (hb hby at_592) ?_
  show Sw T15 m 594 aa1 [(.int 10), (.int i19), (.ref o18), (.ref o17)] _
  refine st16 _ ?_
  show Sw T16 m 597 aa1 [(.int 1)] _
  refine XS.ifNo X16.here hx rfl (hb hby at_597) rfl ((if0 _ _).trans (feq (by decide : ¬ ((1 : Int32) = (0 : Int32)))).1) ?_
  show Sw T16 m 600 aa1 [] _
  refine XS.aload X16.here hx rfl (hb hby at_600) rfl rfl ?_
  show Sw T16 m 602 aa1 [(.ref o17)] _
  refine XS.aload X16.here hx rfl (hb hby at_602) rfl rfl ?_
  show Sw T16 m 604 aa1 [(.ref o18), (.ref o17)] _
  refine XS.iload X16.here hx rfl (hb hby at_604) rfl ?_
  show Sw T16 m 606 aa1 [(.int i19), (.ref o18), (.ref o17)] _
  refine XS.bipush X16.here hx rfl (hb hby at_606) ?_
  show Sw T16 m 608 aa1 [(.int 11), (.int i19), (.ref o18), (.ref o17)] _
  refine st17 _ ?_
  show Sw T17 m 611 aa1 [(.int 1)] _
  refine XS.ifNo X17.here hx rfl (hb hby at_611) rfl ((if0 _ _).trans (feq (by decide : ¬ ((1 : Int32) = (0 : Int32)))).1) ?_
  show Sw T17 m 614 aa1 [] _
  refine XS.aload X17.here hx rfl (hb hby at_614) rfl rfl ?_
  show Sw T17 m 616 aa1 [(.ref o17)] _
  refine XS.aload X17.here hx rfl (hb hby at_616) rfl rfl ?_
  show Sw T17 m 618 aa1 [(.ref o18), (.ref o17)] _
  refine XS.iload X17.here hx rfl (hb hby at_618) rfl ?_
  show Sw T17 m 620 aa1 [(.int i19), (.ref o18), (.ref o17)] _
  refine XS.bipush X17.here hx rfl (hb hby at_620) ?_
  show Sw T17 m 622 aa1 [(.int 12), (.int i19), (.ref o18), (.ref o17)] _
  refine st18 _ ?_
  show Sw T18 m 625 aa1 [(.int 1)] _
  refine XS.ifNo X18.here hx rfl (hb hby at_625) rfl ((if0 _ _).trans (feq (by decide : ¬ ((1 : Int32) = (0 : Int32)))).1) ?_
  show Sw T18 m 628 aa1 [] _
  refine XS.aload X18.here hx rfl (hb hby at_628) rfl rfl ?_
  show Sw T18 m 630 aa1 [(.ref o17)] _
  refine XS.aload X18.here hx rfl (hb hby at_630) rfl rfl ?_
  show Sw T18 m 632 aa1 [(.ref o18), (.ref o17)] _
  refine XS.iload X18.here hx rfl (hb hby at_632) rfl ?_
  show Sw T18 m 634 aa1 [(.int i19), (.ref o18), (.ref o17)] _
  refine XS.bipush X18.here hx rfl (hb hby at_634) ?_
  show Sw T18 m 636 aa1 [(.int 13), (.int i19), (.ref o18), (.ref o17)] _
  refine st19 _ ?_
  show Sw T19 m 639 aa1 [(.int 1)] _
  refine XS.ifNo X19.here hx rfl (hb hby at_639) rfl ((if0 _ _).trans (feq (by decide : ¬ ((1 : Int32) = (0 : Int32)))).1) ?_
  show Sw T19 m 642 aa1 [] _
  refine XS.aload X19.here hx rfl (hb hby at_642) rfl rfl ?_
  show Sw T19 m 644 aa1 [(.ref o17)] _
  refine XS.aload X19.here hx rfl (hb hby at_644) rfl rfl ?_
  show Sw T19 m 646 aa1 [(.ref o18), (.ref o17)] _
  refine XS.iload X19.here hx rfl (hb hby at_646) rfl ?_
  show Sw T19 m 648 aa1 [(.int i19), (.ref o18), (.ref o17)] _
  refine XS.bipush X19.here hx rfl (hb hby at_648) ?_
  show Sw T19 m 650 aa1 [(.int 14), (.int i19), (.ref o18), (.ref o17)] _
  refine st20 _ ?_
  show Sw T20 m 653 aa1 [(.int 1)] _
  refine XS.ifNo X20.here hx rfl (hb hby at_653) rfl ((if0 _ _).trans (feq (by decide : ¬ ((1 : Int32) = (0 : Int32)))).1) ?_
  show Sw T20 m 656 aa1 [] _
  refine XS.aload X20.here hx rfl (hb hby at_656) rfl rfl ?_
  show Sw T20 m 658 aa1 [(.ref o17)] _
  refine XS.aload X20.here hx rfl (hb hby at_658) rfl rfl ?_
  show Sw T20 m 660 aa1 [(.ref o18), (.ref o17)] _
  refine XS.iload X20.here hx rfl (hb hby at_660) rfl ?_
  show Sw T20 m 662 aa1 [(.int i19), (.ref o18), (.ref o17)] _
  refine XS.bipush X20.here hx rfl (hb hby at_662) ?_
  show Sw T20 m 664 aa1 [(.int 15), (.int i19), (.ref o18), (.ref o17)] _
  refine st21 _ ?_
  show Sw T21 m 667 aa1 [(.int 1)] _
  refine XS.ifNo X21.here hx rfl (hb hby at_667) rfl ((if0 _ _).trans (feq (by decide : ¬ ((1 : Int32) = (0 : Int32)))).1) ?_
  show Sw T21 m 670 aa1 [] _
  refine XS.aload X21.here hx rfl (hb hby at_670) rfl rfl ?_
  show Sw T21 m 672 aa1 [(.ref o17)] _
  refine XS.aload X21.here hx rfl (hb hby at_672) rfl rfl ?_
  show Sw T21 m 674 aa1 [(.ref o18), (.ref o17)] _
  refine XS.iload X21.here hx rfl (hb hby at_674) rfl ?_
  show Sw T21 m 676 aa1 [(.int i19), (.ref o18), (.ref o17)] _
  refine XS.bipush X21.here hx rfl (hb hby at_676) ?_
  show Sw T21 m 678 aa1 [(.int 16), (.int i19), (.ref o18), (.ref o17)] _
  refine st22 _ ?_
  show Sw T22 m 681 aa1 [(.int 1)] _
  refine XS.ifNo X22.here hx rfl (hb hby at_681) rfl ((if0 _ _).trans (feq (by decide : ¬ ((1 : Int32) = (0 : Int32)))).1) ?_
  show Sw T22 m 684 aa1 [] _
  refine XS.aload X22.here hx rfl (hb hby at_684) rfl rfl ?_
  show Sw T22 m 686 aa1 [(.ref o17)] _
  refine XS.aload X22.here hx rfl (hb hby at_686) rfl rfl ?_
  show Sw T22 m 688 aa1 [(.ref o18), (.ref o17)] _
  refine XS.iload X22.here hx rfl (hb hby at_688) rfl ?_
  show Sw T22 m 690 aa1 [(.int i19), (.ref o18), (.ref o17)] _
  refine XS.bipush X22.here hx rfl (hb hby at_690) ?_
  show Sw T22 m 692 aa1 [(.int 17), (.int i19), (.ref o18), (.ref o17)] _
  refine st23 _ ?_
  show Sw T23 m 695 aa1 [(.int 1)] _
  refine XS.ifNo X23.here hx rfl (hb hby at_695) rfl ((if0 _ _).trans (feq (by decide : ¬ ((1 : Int32) = (0 : Int32)))).1) ?_
  show Sw T23 m 698 aa1 [] _
  refine XS.aload X23.here hx rfl (hb hby at_698) rfl rfl ?_
  show Sw T23 m 700 aa1 [(.ref o17)] _
  refine XS.aload X23.here hx rfl (hb hby at_700) rfl rfl ?_
  show Sw T23 m 702 aa1 [(.ref o18), (.ref o17)] _
  refine XS.iload X23.here hx rfl (hb hby at_702) rfl ?_
  show Sw T23 m 704 aa1 [(.int i19), (.ref o18), (.ref o17)] _
  refine XS.bipush X23.here hx rfl (hb hby at_704) ?_
  show Sw T23 m 706 aa1 [(.int 18), (.int i19), (.ref o18), (.ref o17)] _
  refine st24 _ ?_
  show Sw T24 m 709 aa1 [(.int 1)] _
  refine XS.ifNo X24.here hx rfl (hb hby at_709) rfl ((if0 _ _).trans (feq (by decide : ¬ ((1 : Int32) = (0 : Int32)))).1) ?_
  show Sw T24 m 712 aa1 [] _
  refine XS.iconst X24.here hx rfl (hb hby at_712) ?_
  show Sw T24 m 713 aa1 [(.int 1)] _
  refine XS.goto X24.here hx rfl (pc0 := 713) (pc' := 717) rfl (hb hby at_713) (by decide) (by decide) ?_
  exact kt
theorem own_put {p : Program} {l : Launch} {e : Env} {s : State} {m : MethodId} {args : Array Value} {below : List Frame} {meth : Method} {c : Code} {T0 : State} {locs : List Loc} {cells slots : Nat} {Z : State} {h0 : Heap} (X0 : Stand p l e room_1 s m args below meth c T0 locs cells slots) (hx : p.tables.exec = Jvm.exec) (hZ : Z.Warmed39 s.vm) (e0 : T0.heap = h0) {n0 : Nat} (N0 : Fr n0 locs) {o18 : Addr} {ka : ClassId} {es : List Int32} (g : n0 ≤ o18) (V : Arv Z h0 o18 ka .char (19 : Int32) (es.map Value.int) (.int 0)) (x i : Int32) (j : Nat) (hj : i.toNatClampNeg = j ∧ ¬ i < 0) (hl : j < es.length) (h19 : j < 19) (Ls : Array Slot) {pc : Nat} (hd : decode c.code pc = .ok (.castore, 1)) :
    ∃ (T' : State) (h' : Heap) (locs' : List Loc), Stand p l e room_1 s m args below meth c T' locs' cells slots ∧ T'.heap = h' ∧ Fr n0 locs' ∧ Keep h0 h' [o18] ∧ Arv Z h' o18 ka .char (19 : Int32) ((es.set j (nar .char x)).map Value.int) (.int 0) ∧
      ∀ target, Steps p.tables e below (T'.setTop (mkF m (pc + 1) Ls [])) target → Steps p.tables e below (T0.setTop (mkF m pc Ls [(.int x), (.int i), (.ref o18)])) target := by
  obtain ⟨cl, Ar, q1, S1, N1, H1, G1⟩ := V
  have e19 : (19 : Int32).toNatClampNeg = 19 := rfl
  have hin : ¬ (i < 0 ∨ cl.slots.size ≤ i.toNatClampNeg) := by
    rintro (q | q)
    · exact hj.2 q
    · have := hj.1; omega
  obtain ⟨T6, h6, X6, e6, W6, st6⟩ := stC X0 hx hZ e0 Ar (j := i) hin (g := mkF m pc Ls [(.int x), (.int i), (.ref o18)]) rfl rfl hd
  refine ⟨T6, h6, _, X6, e6, Fr.snoc X6 N0 g, Keep.of_wr W6, ?_, fun target k => st6 target k⟩
  rw [List.map_set]
  exact Arv.set Ar q1 S1 N1 H1 G1 (fits_nar_char _) W6 j hj.1 (by rw [List.length_map]; exact hl)
theorem own_ix {i : Int32} {kk : Nat} (hk : i = Int32.ofNat kk) (hb : kk ≤ 18) (d : Nat) (hd : d ≤ 19) : (i + Int32.ofNat d).toNatClampNeg = kk + d ∧ ¬ (i + Int32.ofNat d) < 0 := by
  have e1 : i + Int32.ofNat d = Int32.ofNat (kk + d) := by rw [hk]; exact (Int32.ofNat_add kk d).symm
  rw [e1]
  refine ⟨Int32.toNatClampNeg_ofNat_of_lt (by omega), fun q => ?_⟩
  rw [Int32.lt_iff_toInt_lt, Int32.toInt_ofNat_of_lt (by omega)] at q
  have z0 : (0 : Int32).toInt = 0 := rfl
  omega
theorem own_ix0 {i : Int32} {kk : Nat} (hk : i = Int32.ofNat kk) (hb : kk ≤ 18) : i.toNatClampNeg = kk ∧ ¬ i < 0 := by
  rw [hk]
  refine ⟨Int32.toNatClampNeg_ofNat_of_lt (by omega), fun q => ?_⟩
  rw [Int32.lt_iff_toInt_lt, Int32.toInt_ofNat_of_lt (by omega)] at q
  have z0 : (0 : Int32).toInt = 0 := rfl
  omega
theorem os0_233 {s0 : Slot} {s1 : Slot} {s2 : Slot} {s3 : Slot} {s4 : Slot} {z5 : Value} {s6 : Slot} {s7 : Slot} {z8 : Value} {z9 : Value} {s10 : Slot} {s11 : Slot} {s12 : Slot} {s13 : Slot} {s14 : Slot} {s15 : Slot} {s16 : Slot} {s17 : Slot} {z18 : Value} {s19 : Slot} {v : Int32} (h : One s19) : storeLocals #[s0, s1, s2, s3, s4, .val z5, s6, s7, .val z8, .val z9, s10, s11, s12, s13, s14, s15, s16, s17, .val z18, s19] 19 (.int v) = some #[s0, s1, s2, s3, s4, .val z5, s6, s7, .val z8, .val z9, s10, s11, s12, s13, s14, s15, s16, s17, .val z18, .val (.int v)] := by
  rcases h with rfl | ⟨w, rfl, hw⟩
  · rfl
  · cases w <;> first | rfl | (simp [Value.category] at hw)
set_option maxRecDepth 65536 in
set_option maxHeartbeats 40000000 in
theorem own_c2o {p : Program} {l : Launch} {e : Env} {s : State} {m : MethodId} {args : Array Value} {below : List Frame} {meth : Method} {c : Code} {T0 : State} {locs : List Loc} {cells slots : Nat} {Z : State} {a0 : Array Value} {h0 : Heap} (s0 : Slot) (s1 : Slot) (s2 : Slot) (s3 : Slot) (s4 : Slot) (i5 : Int32) (s6 : Slot) (s7 : Slot) (i8 : Int32) (i9 : Int32) (s10 : Slot) (s11 : Slot) (s12 : Slot) (s13 : Slot) (s14 : Slot) (s15 : Slot) (s16 : Slot) (s17 : Slot) (o18 : Addr) (s19 : Slot) {ka : ClassId} {es : List Int32} {kk : Nat} (X0 : Stand p l e room_1 s m args below meth c T0 locs cells slots) (hx : p.tables.exec = Jvm.exec) (hZ : Z.Warmed39 s.vm) (hw : HW a0 Z) (hml : c.maxLocals = 20) (hown : s.vm.findClass "org/athenaeum/xml/XmlWriterEndPinLaw" = some m.cls) (e0 : T0.heap = h0) (n0 : Nat) (Z0 : n0 ≤ h0.size) (N0 : Fr n0 locs) (hby : c.code = code) (g_o18 : n0 ≤ o18) (V0 : Arv Z h0 o18 ka .char (19 : Int32) (es.map Value.int) (.int 0)) (hle : es.length = 19) (hb_ : kk ≤ 0) (hs19 : One s19) (hc205 : ¬ (i5 = (0 : Int32))) :
    ∃ (T' : State) (h' : Heap) (locs' : List Loc), Stand p l e room_1 s m args below meth c T' locs' cells slots ∧ T'.heap = h' ∧ Fr n0 locs' ∧ Keep h0 h' [o18] ∧ Arv Z h' o18 ka .char (19 : Int32) (((((es.set 0 (nar .char (60 : Int32))).set 1 (nar .char i8)).set 2 (nar .char i9)).set 3 (nar .char (62 : Int32))).map Value.int) (.int 0) ∧
      ∀ target, Steps p.tables e below (T'.setTop (mkF m 235 #[s0, s1, s2, s3, s4, .val (.int i5), s6, s7, .val (.int i8), .val (.int i9), s10, s11, s12, s13, s14, s15, s16, s17, .val (.ref o18), .val (.int 4)] [])) target → Steps p.tables e below (T0.setTop (mkF m 203 #[s0, s1, s2, s3, s4, .val (.int i5), s6, s7, .val (.int i8), .val (.int i9), s10, s11, s12, s13, s14, s15, s16, s17, .val (.ref o18), s19] [])) target := by
  obtain ⟨T6, h6, L6, X6, e6, N6, Q6, V6, st6⟩ := own_put X0 hx hZ e0 N0 g_o18 V0 (60 : Int32) (0 : Int32) 0 (by decide) (by first | omega | (simp only [List.length_set]; omega)) (by omega) #[s0, s1, s2, s3, s4, .val (.int i5), s6, s7, .val (.int i8), .val (.int i9), s10, s11, s12, s13, s14, s15, s16, s17, .val (.ref o18), s19] (hb hby at_213)
  have K6 : Keep h0 h6 [o18] := Q6
  obtain ⟨T7, h7, L7, X7, e7, N7, Q7, V7, st7⟩ := own_put X6 hx hZ e6 N6 g_o18 V6 i8 (1 : Int32) 1 (by decide) (by first | omega | (simp only [List.length_set]; omega)) (by omega) #[s0, s1, s2, s3, s4, .val (.int i5), s6, s7, .val (.int i8), .val (.int i9), s10, s11, s12, s13, s14, s15, s16, s17, .val (.ref o18), s19] (hb hby at_219)
  have K7 : Keep h0 h7 [o18] := own_tr K6 Q7 (by simp)
  obtain ⟨T8, h8, L8, X8, e8, N8, Q8, V8, st8⟩ := own_put X7 hx hZ e7 N7 g_o18 V7 i9 (2 : Int32) 2 (by decide) (by first | omega | (simp only [List.length_set]; omega)) (by omega) #[s0, s1, s2, s3, s4, .val (.int i5), s6, s7, .val (.int i8), .val (.int i9), s10, s11, s12, s13, s14, s15, s16, s17, .val (.ref o18), s19] (hb hby at_225)
  have K8 : Keep h0 h8 [o18] := own_tr K7 Q8 (by simp)
  obtain ⟨T9, h9, L9, X9, e9, N9, Q9, V9, st9⟩ := own_put X8 hx hZ e8 N8 g_o18 V8 (62 : Int32) (3 : Int32) 3 (by decide) (by first | omega | (simp only [List.length_set]; omega)) (by omega) #[s0, s1, s2, s3, s4, .val (.int i5), s6, s7, .val (.int i8), .val (.int i9), s10, s11, s12, s13, s14, s15, s16, s17, .val (.ref o18), s19] (hb hby at_231)
  have K9 : Keep h0 h9 [o18] := own_tr K8 Q9 (by simp)
  refine ⟨T9, h9, _, X9, e9, N9, K9, V9, fun target kt => ?_⟩
  let aa1 : Array Slot := #[s0, s1, s2, s3, s4, .val (.int i5), s6, s7, .val (.int i8), .val (.int i9), s10, s11, s12, s13, s14, s15, s16, s17, .val (.ref o18), s19]
  show Sw T0 m 203 aa1 [] _
  refine XS.iload X0.here hx rfl (hb hby at_203) rfl ?_
  show Sw T0 m 205 aa1 [(.int i5)] _
  refine XS.ifNo X0.here hx rfl (hb hby at_205) rfl ((if0 _ _).trans (feq hc205).1) ?_
  show Sw T0 m 208 aa1 [] _
  refine XS.aload X0.here hx rfl (hb hby at_208) rfl rfl ?_
  show Sw T0 m 210 aa1 [(.ref o18)] _
  refine XS.iconst X0.here hx rfl (hb hby at_210) ?_
  show Sw T0 m 211 aa1 [(.int 0), (.ref o18)] _
  refine XS.bipush X0.here hx rfl (hb hby at_211) ?_
  show Sw T0 m 213 aa1 [(.int 60), (.int 0), (.ref o18)] _
  refine st6 _ ?_
  show Sw T6 m 214 aa1 [] _
  refine XS.aload X6.here hx rfl (hb hby at_214) rfl rfl ?_
  show Sw T6 m 216 aa1 [(.ref o18)] _
  refine XS.iconst X6.here hx rfl (hb hby at_216) ?_
  show Sw T6 m 217 aa1 [(.int 1), (.ref o18)] _
  refine XS.iload X6.here hx rfl (hb hby at_217) rfl ?_
  show Sw T6 m 219 aa1 [(.int i8), (.int 1), (.ref o18)] _
  refine st7 _ ?_
  show Sw T7 m 220 aa1 [] _
  refine XS.aload X7.here hx rfl (hb hby at_220) rfl rfl ?_
  show Sw T7 m 222 aa1 [(.ref o18)] _
  refine XS.iconst X7.here hx rfl (hb hby at_222) ?_
  show Sw T7 m 223 aa1 [(.int 2), (.ref o18)] _
  refine XS.iload X7.here hx rfl (hb hby at_223) rfl ?_
  show Sw T7 m 225 aa1 [(.int i9), (.int 2), (.ref o18)] _
  refine st8 _ ?_
  show Sw T8 m 226 aa1 [] _
  refine XS.aload X8.here hx rfl (hb hby at_226) rfl rfl ?_
  show Sw T8 m 228 aa1 [(.ref o18)] _
  refine XS.iconst X8.here hx rfl (hb hby at_228) ?_
  show Sw T8 m 229 aa1 [(.int 3), (.ref o18)] _
  refine XS.bipush X8.here hx rfl (hb hby at_229) ?_
  show Sw T8 m 231 aa1 [(.int 62), (.int 3), (.ref o18)] _
  refine st9 _ ?_
  show Sw T9 m 232 aa1 [] _
  refine XS.iconst X9.here hx rfl (hb hby at_232) ?_
  show Sw T9 m 233 aa1 [(.int 4)] _
  refine XS.istore X9.here hx rfl (hb hby at_233) rfl (l' := #[s0, s1, s2, s3, s4, .val (.int i5), s6, s7, .val (.int i8), .val (.int i9), s10, s11, s12, s13, s14, s15, s16, s17, .val (.ref o18), .val (.int 4)]) (os0_233 hs19) ?_
  exact kt
set_option maxRecDepth 65536 in
set_option maxHeartbeats 40000000 in
theorem own_c2n {p : Program} {l : Launch} {e : Env} {s : State} {m : MethodId} {args : Array Value} {below : List Frame} {meth : Method} {c : Code} {T0 : State} {locs : List Loc} {cells slots : Nat} {Z : State} {a0 : Array Value} {h0 : Heap} (s0 : Slot) (s1 : Slot) (s2 : Slot) (s3 : Slot) (s4 : Slot) (i5 : Int32) (s6 : Slot) (s7 : Slot) (s8 : Slot) (s9 : Slot) (s10 : Slot) (s11 : Slot) (s12 : Slot) (s13 : Slot) (s14 : Slot) (s15 : Slot) (s16 : Slot) (s17 : Slot) (s18 : Slot) (s19 : Slot) (o18 : Addr) {ka : ClassId} {es : List Int32} {kk : Nat} (X0 : Stand p l e room_1 s m args below meth c T0 locs cells slots) (hx : p.tables.exec = Jvm.exec) (hZ : Z.Warmed39 s.vm) (hw : HW a0 Z) (hml : c.maxLocals = 20) (hown : s.vm.findClass "org/athenaeum/xml/XmlWriterEndPinLaw" = some m.cls) (e0 : T0.heap = h0) (n0 : Nat) (Z0 : n0 ≤ h0.size) (N0 : Fr n0 locs) (hby : c.code = code) (g_o18 : n0 ≤ o18) (V0 : Arv Z h0 o18 ka .char (19 : Int32) (es.map Value.int) (.int 0)) (hle : es.length = 19) (hb_ : kk ≤ 0) (hc205 : i5 = (0 : Int32)) :
    ∃ (T' : State) (h' : Heap) (locs' : List Loc), Stand p l e room_1 s m args below meth c T' locs' cells slots ∧ T'.heap = h' ∧ Fr n0 locs' ∧ Keep h0 h' [o18] ∧ Arv Z h' o18 ka .char (19 : Int32) (es.map Value.int) (.int 0) ∧
      ∀ target, Steps p.tables e below (T'.setTop (mkF m 235 #[s0, s1, s2, s3, s4, .val (.int i5), s6, s7, s8, s9, s10, s11, s12, s13, s14, s15, s16, s17, s18, s19] [])) target → Steps p.tables e below (T0.setTop (mkF m 203 #[s0, s1, s2, s3, s4, .val (.int i5), s6, s7, s8, s9, s10, s11, s12, s13, s14, s15, s16, s17, s18, s19] [])) target := by
  refine ⟨T0, h0, _, X0, e0, N0, Keep.refl h0 _, V0, fun target kt => ?_⟩
  let aa1 : Array Slot := #[s0, s1, s2, s3, s4, .val (.int i5), s6, s7, s8, s9, s10, s11, s12, s13, s14, s15, s16, s17, s18, s19]
  show Sw T0 m 203 aa1 [] _
  refine XS.iload X0.here hx rfl (hb hby at_203) rfl ?_
  show Sw T0 m 205 aa1 [(.int i5)] _
  refine XS.ifYes X0.here hx rfl (pc0 := 205) (pc' := 235) rfl (hb hby at_205) rfl ((if0 _ _).trans (teq hc205).1) (by decide) (by decide) ?_
  exact kt
set_option maxRecDepth 65536 in
set_option maxHeartbeats 40000000 in
theorem own_c3 {p : Program} {l : Launch} {e : Env} {s : State} {m : MethodId} {args : Array Value} {below : List Frame} {meth : Method} {c : Code} {T0 : State} {locs : List Loc} {cells slots : Nat} {Z : State} {a0 : Array Value} {h0 : Heap} (s0 : Slot) (s1 : Slot) (s2 : Slot) (s3 : Slot) (s4 : Slot) (s5 : Slot) (s6 : Slot) (s7 : Slot) (s8 : Slot) (s9 : Slot) (i10 : Int32) (i11 : Int32) (s12 : Slot) (s13 : Slot) (s14 : Slot) (s15 : Slot) (s16 : Slot) (s17 : Slot) (o18 : Addr) (i19 : Int32) {ka : ClassId} {es : List Int32} {kk : Nat} (X0 : Stand p l e room_1 s m args below meth c T0 locs cells slots) (hx : p.tables.exec = Jvm.exec) (hZ : Z.Warmed39 s.vm) (hw : HW a0 Z) (hml : c.maxLocals = 20) (hown : s.vm.findClass "org/athenaeum/xml/XmlWriterEndPinLaw" = some m.cls) (e0 : T0.heap = h0) (n0 : Nat) (Z0 : n0 ≤ h0.size) (N0 : Fr n0 locs) (hby : c.code = code) (g_o18 : n0 ≤ o18) (V0 : Arv Z h0 o18 ka .char (19 : Int32) (es.map Value.int) (.int 0)) (hle : es.length = 19) (hk : i19 = Int32.ofNat kk) (hb_ : kk ≤ 4) :
    ∃ (T' : State) (h' : Heap) (locs' : List Loc), Stand p l e room_1 s m args below meth c T' locs' cells slots ∧ T'.heap = h' ∧ Fr n0 locs' ∧ Keep h0 h' [o18] ∧ Arv Z h' o18 ka .char (19 : Int32) ((((es.set kk (nar .char (60 : Int32))).set (kk + 1) (nar .char i10)).set (kk + 2) (nar .char i11)).map Value.int) (.int 0) ∧
      ∀ target, Steps p.tables e below (T'.setTop (mkF m 260 #[s0, s1, s2, s3, s4, s5, s6, s7, s8, s9, .val (.int i10), .val (.int i11), s12, s13, s14, s15, s16, s17, .val (.ref o18), .val (.int i19)] [])) target → Steps p.tables e below (T0.setTop (mkF m 235 #[s0, s1, s2, s3, s4, s5, s6, s7, s8, s9, .val (.int i10), .val (.int i11), s12, s13, s14, s15, s16, s17, .val (.ref o18), .val (.int i19)] [])) target := by
  obtain ⟨T6, h6, L6, X6, e6, N6, Q6, V6, st6⟩ := own_put X0 hx hZ e0 N0 g_o18 V0 (60 : Int32) i19 kk (own_ix0 hk (by omega)) (by first | omega | (simp only [List.length_set]; omega)) (by omega) #[s0, s1, s2, s3, s4, s5, s6, s7, s8, s9, .val (.int i10), .val (.int i11), s12, s13, s14, s15, s16, s17, .val (.ref o18), .val (.int i19)] (hb hby at_241)
  have K6 : Keep h0 h6 [o18] := Q6
  obtain ⟨T7, h7, L7, X7, e7, N7, Q7, V7, st7⟩ := own_put X6 hx hZ e6 N6 g_o18 V6 i10 (i19 + (1 : Int32)) (kk + 1) (own_ix hk (by omega) 1 (by decide)) (by first | omega | (simp only [List.length_set]; omega)) (by omega) #[s0, s1, s2, s3, s4, s5, s6, s7, s8, s9, .val (.int i10), .val (.int i11), s12, s13, s14, s15, s16, s17, .val (.ref o18), .val (.int i19)] (hb hby at_250)
  have K7 : Keep h0 h7 [o18] := own_tr K6 Q7 (by simp)
  obtain ⟨T8, h8, L8, X8, e8, N8, Q8, V8, st8⟩ := own_put X7 hx hZ e7 N7 g_o18 V7 i11 (i19 + (2 : Int32)) (kk + 2) (own_ix hk (by omega) 2 (by decide)) (by first | omega | (simp only [List.length_set]; omega)) (by omega) #[s0, s1, s2, s3, s4, s5, s6, s7, s8, s9, .val (.int i10), .val (.int i11), s12, s13, s14, s15, s16, s17, .val (.ref o18), .val (.int i19)] (hb hby at_259)
  have K8 : Keep h0 h8 [o18] := own_tr K7 Q8 (by simp)
  refine ⟨T8, h8, _, X8, e8, N8, K8, V8, fun target kt => ?_⟩
  let aa1 : Array Slot := #[s0, s1, s2, s3, s4, s5, s6, s7, s8, s9, .val (.int i10), .val (.int i11), s12, s13, s14, s15, s16, s17, .val (.ref o18), .val (.int i19)]
  show Sw T0 m 235 aa1 [] _
  refine XS.aload X0.here hx rfl (hb hby at_235) rfl rfl ?_
  show Sw T0 m 237 aa1 [(.ref o18)] _
  refine XS.iload X0.here hx rfl (hb hby at_237) rfl ?_
  show Sw T0 m 239 aa1 [(.int i19), (.ref o18)] _
  refine XS.bipush X0.here hx rfl (hb hby at_239) ?_
  show Sw T0 m 241 aa1 [(.int 60), (.int i19), (.ref o18)] _
  refine st6 _ ?_
  show Sw T6 m 242 aa1 [] _
  refine XS.aload X6.here hx rfl (hb hby at_242) rfl rfl ?_
  show Sw T6 m 244 aa1 [(.ref o18)] _
  refine XS.iload X6.here hx rfl (hb hby at_244) rfl ?_
  show Sw T6 m 246 aa1 [(.int i19), (.ref o18)] _
  refine XS.iconst X6.here hx rfl (hb hby at_246) ?_
  show Sw T6 m 247 aa1 [(.int 1), (.int i19), (.ref o18)] _
  refine XS.iadd X6.here hx rfl (hb hby at_247) rfl ?_
  show Sw T6 m 248 aa1 [(.int (i19 + (1 : Int32))), (.ref o18)] _
  refine XS.iload X6.here hx rfl (hb hby at_248) rfl ?_
  show Sw T6 m 250 aa1 [(.int i10), (.int (i19 + (1 : Int32))), (.ref o18)] _
  refine st7 _ ?_
  show Sw T7 m 251 aa1 [] _
  refine XS.aload X7.here hx rfl (hb hby at_251) rfl rfl ?_
  show Sw T7 m 253 aa1 [(.ref o18)] _
  refine XS.iload X7.here hx rfl (hb hby at_253) rfl ?_
  show Sw T7 m 255 aa1 [(.int i19), (.ref o18)] _
  refine XS.iconst X7.here hx rfl (hb hby at_255) ?_
  show Sw T7 m 256 aa1 [(.int 2), (.int i19), (.ref o18)] _
  refine XS.iadd X7.here hx rfl (hb hby at_256) rfl ?_
  show Sw T7 m 257 aa1 [(.int (i19 + (2 : Int32))), (.ref o18)] _
  refine XS.iload X7.here hx rfl (hb hby at_257) rfl ?_
  show Sw T7 m 259 aa1 [(.int i11), (.int (i19 + (2 : Int32))), (.ref o18)] _
  refine st8 _ ?_
  exact kt
set_option maxRecDepth 65536 in
set_option maxHeartbeats 40000000 in
theorem own_c4o {p : Program} {l : Launch} {e : Env} {s : State} {m : MethodId} {args : Array Value} {below : List Frame} {meth : Method} {c : Code} {T0 : State} {locs : List Loc} {cells slots : Nat} {Z : State} {a0 : Array Value} {h0 : Heap} (s0 : Slot) (s1 : Slot) (s2 : Slot) (s3 : Slot) (s4 : Slot) (s5 : Slot) (i6 : Int32) (s7 : Slot) (s8 : Slot) (s9 : Slot) (i10 : Int32) (i11 : Int32) (s12 : Slot) (s13 : Slot) (s14 : Slot) (s15 : Slot) (s16 : Slot) (s17 : Slot) (o18 : Addr) (i19 : Int32) {ka : ClassId} {es : List Int32} {kk : Nat} (X0 : Stand p l e room_1 s m args below meth c T0 locs cells slots) (hx : p.tables.exec = Jvm.exec) (hZ : Z.Warmed39 s.vm) (hw : HW a0 Z) (hml : c.maxLocals = 20) (hown : s.vm.findClass "org/athenaeum/xml/XmlWriterEndPinLaw" = some m.cls) (e0 : T0.heap = h0) (n0 : Nat) (Z0 : n0 ≤ h0.size) (N0 : Fr n0 locs) (hby : c.code = code) (g_o18 : n0 ≤ o18) (V0 : Arv Z h0 o18 ka .char (19 : Int32) (es.map Value.int) (.int 0)) (hle : es.length = 19) (hk : i19 = Int32.ofNat kk) (hb_ : kk ≤ 4) (hc262 : ¬ (i6 = (0 : Int32))) :
    ∃ (T' : State) (h' : Heap) (locs' : List Loc), Stand p l e room_1 s m args below meth c T' locs' cells slots ∧ T'.heap = h' ∧ Fr n0 locs' ∧ Keep h0 h' [o18] ∧ Arv Z h' o18 ka .char (19 : Int32) (((((((es.set (kk + 3) (nar .char (62 : Int32))).set (kk + 4) (nar .char (60 : Int32))).set (kk + 5) (nar .char (47 : Int32))).set (kk + 6) (nar .char i10)).set (kk + 7) (nar .char i11)).set (kk + 8) (nar .char (62 : Int32))).map Value.int) (.int 0) ∧
      ∀ target, Steps p.tables e below (T'.setTop (mkF m 356 #[s0, s1, s2, s3, s4, s5, .val (.int i6), s7, s8, s9, .val (.int i10), .val (.int i11), s12, s13, s14, s15, s16, s17, .val (.ref o18), .val (.int (i19 + (9 : Int32)))] [])) target → Steps p.tables e below (T0.setTop (mkF m 260 #[s0, s1, s2, s3, s4, s5, .val (.int i6), s7, s8, s9, .val (.int i10), .val (.int i11), s12, s13, s14, s15, s16, s17, .val (.ref o18), .val (.int i19)] [])) target := by
  obtain ⟨T6, h6, L6, X6, e6, N6, Q6, V6, st6⟩ := own_put X0 hx hZ e0 N0 g_o18 V0 (62 : Int32) (i19 + (3 : Int32)) (kk + 3) (own_ix hk (by omega) 3 (by decide)) (by first | omega | (simp only [List.length_set]; omega)) (by omega) #[s0, s1, s2, s3, s4, s5, .val (.int i6), s7, s8, s9, .val (.int i10), .val (.int i11), s12, s13, s14, s15, s16, s17, .val (.ref o18), .val (.int i19)] (hb hby at_273)
  have K6 : Keep h0 h6 [o18] := Q6
  obtain ⟨T7, h7, L7, X7, e7, N7, Q7, V7, st7⟩ := own_put X6 hx hZ e6 N6 g_o18 V6 (60 : Int32) (i19 + (4 : Int32)) (kk + 4) (own_ix hk (by omega) 4 (by decide)) (by first | omega | (simp only [List.length_set]; omega)) (by omega) #[s0, s1, s2, s3, s4, s5, .val (.int i6), s7, s8, s9, .val (.int i10), .val (.int i11), s12, s13, s14, s15, s16, s17, .val (.ref o18), .val (.int i19)] (hb hby at_282)
  have K7 : Keep h0 h7 [o18] := own_tr K6 Q7 (by simp)
  obtain ⟨T8, h8, L8, X8, e8, N8, Q8, V8, st8⟩ := own_put X7 hx hZ e7 N7 g_o18 V7 (47 : Int32) (i19 + (5 : Int32)) (kk + 5) (own_ix hk (by omega) 5 (by decide)) (by first | omega | (simp only [List.length_set]; omega)) (by omega) #[s0, s1, s2, s3, s4, s5, .val (.int i6), s7, s8, s9, .val (.int i10), .val (.int i11), s12, s13, s14, s15, s16, s17, .val (.ref o18), .val (.int i19)] (hb hby at_291)
  have K8 : Keep h0 h8 [o18] := own_tr K7 Q8 (by simp)
  obtain ⟨T9, h9, L9, X9, e9, N9, Q9, V9, st9⟩ := own_put X8 hx hZ e8 N8 g_o18 V8 i10 (i19 + (6 : Int32)) (kk + 6) (own_ix hk (by omega) 6 (by decide)) (by first | omega | (simp only [List.length_set]; omega)) (by omega) #[s0, s1, s2, s3, s4, s5, .val (.int i6), s7, s8, s9, .val (.int i10), .val (.int i11), s12, s13, s14, s15, s16, s17, .val (.ref o18), .val (.int i19)] (hb hby at_301)
  have K9 : Keep h0 h9 [o18] := own_tr K8 Q9 (by simp)
  obtain ⟨T10, h10, L10, X10, e10, N10, Q10, V10, st10⟩ := own_put X9 hx hZ e9 N9 g_o18 V9 i11 (i19 + (7 : Int32)) (kk + 7) (own_ix hk (by omega) 7 (by decide)) (by first | omega | (simp only [List.length_set]; omega)) (by omega) #[s0, s1, s2, s3, s4, s5, .val (.int i6), s7, s8, s9, .val (.int i10), .val (.int i11), s12, s13, s14, s15, s16, s17, .val (.ref o18), .val (.int i19)] (hb hby at_311)
  have K10 : Keep h0 h10 [o18] := own_tr K9 Q10 (by simp)
  obtain ⟨T11, h11, L11, X11, e11, N11, Q11, V11, st11⟩ := own_put X10 hx hZ e10 N10 g_o18 V10 (62 : Int32) (i19 + (8 : Int32)) (kk + 8) (own_ix hk (by omega) 8 (by decide)) (by first | omega | (simp only [List.length_set]; omega)) (by omega) #[s0, s1, s2, s3, s4, s5, .val (.int i6), s7, s8, s9, .val (.int i10), .val (.int i11), s12, s13, s14, s15, s16, s17, .val (.ref o18), .val (.int i19)] (hb hby at_321)
  have K11 : Keep h0 h11 [o18] := own_tr K10 Q11 (by simp)
  refine ⟨T11, h11, _, X11, e11, N11, K11, V11, fun target kt => ?_⟩
  let aa1 : Array Slot := #[s0, s1, s2, s3, s4, s5, .val (.int i6), s7, s8, s9, .val (.int i10), .val (.int i11), s12, s13, s14, s15, s16, s17, .val (.ref o18), .val (.int i19)]
  show Sw T0 m 260 aa1 [] _
  refine XS.iload X0.here hx rfl (hb hby at_260) rfl ?_
  show Sw T0 m 262 aa1 [(.int i6)] _
  refine XS.ifNo X0.here hx rfl (hb hby at_262) rfl ((if0 _ _).trans (feq hc262).1) ?_
  show Sw T0 m 265 aa1 [] _
  refine XS.aload X0.here hx rfl (hb hby at_265) rfl rfl ?_
  show Sw T0 m 267 aa1 [(.ref o18)] _
  refine XS.iload X0.here hx rfl (hb hby at_267) rfl ?_
  show Sw T0 m 269 aa1 [(.int i19), (.ref o18)] _
  refine XS.iconst X0.here hx rfl (hb hby at_269) ?_
  show Sw T0 m 270 aa1 [(.int 3), (.int i19), (.ref o18)] _
  refine XS.iadd X0.here hx rfl (hb hby at_270) rfl ?_
  show Sw T0 m 271 aa1 [(.int (i19 + (3 : Int32))), (.ref o18)] _
  refine XS.bipush X0.here hx rfl (hb hby at_271) ?_
  show Sw T0 m 273 aa1 [(.int 62), (.int (i19 + (3 : Int32))), (.ref o18)] _
  refine st6 _ ?_
  show Sw T6 m 274 aa1 [] _
  refine XS.aload X6.here hx rfl (hb hby at_274) rfl rfl ?_
  show Sw T6 m 276 aa1 [(.ref o18)] _
  refine XS.iload X6.here hx rfl (hb hby at_276) rfl ?_
  show Sw T6 m 278 aa1 [(.int i19), (.ref o18)] _
  refine XS.iconst X6.here hx rfl (hb hby at_278) ?_
  show Sw T6 m 279 aa1 [(.int 4), (.int i19), (.ref o18)] _
  refine XS.iadd X6.here hx rfl (hb hby at_279) rfl ?_
  show Sw T6 m 280 aa1 [(.int (i19 + (4 : Int32))), (.ref o18)] _
  refine XS.bipush X6.here hx rfl (hb hby at_280) ?_
  show Sw T6 m 282 aa1 [(.int 60), (.int (i19 + (4 : Int32))), (.ref o18)] _
  refine st7 _ ?_
  show Sw T7 m 283 aa1 [] _
  refine XS.aload X7.here hx rfl (hb hby at_283) rfl rfl ?_
  show Sw T7 m 285 aa1 [(.ref o18)] _
  refine XS.iload X7.here hx rfl (hb hby at_285) rfl ?_
  show Sw T7 m 287 aa1 [(.int i19), (.ref o18)] _
  refine XS.iconst X7.here hx rfl (hb hby at_287) ?_
  show Sw T7 m 288 aa1 [(.int 5), (.int i19), (.ref o18)] _
  refine XS.iadd X7.here hx rfl (hb hby at_288) rfl ?_
  show Sw T7 m 289 aa1 [(.int (i19 + (5 : Int32))), (.ref o18)] _
  refine XS.bipush X7.here hx rfl (hb hby at_289) ?_
  show Sw T7 m 291 aa1 [(.int 47), (.int (i19 + (5 : Int32))), (.ref o18)] _
  refine st8 _ ?_
  show Sw T8 m 292 aa1 [] _
  refine XS.aload X8.here hx rfl (hb hby at_292) rfl rfl ?_
  show Sw T8 m 294 aa1 [(.ref o18)] _
  refine XS.iload X8.here hx rfl (hb hby at_294) rfl ?_
  show Sw T8 m 296 aa1 [(.int i19), (.ref o18)] _
  refine XS.bipush X8.here hx rfl (hb hby at_296) ?_
  show Sw T8 m 298 aa1 [(.int 6), (.int i19), (.ref o18)] _
  refine XS.iadd X8.here hx rfl (hb hby at_298) rfl ?_
  show Sw T8 m 299 aa1 [(.int (i19 + (6 : Int32))), (.ref o18)] _
  refine XS.iload X8.here hx rfl (hb hby at_299) rfl ?_
  show Sw T8 m 301 aa1 [(.int i10), (.int (i19 + (6 : Int32))), (.ref o18)] _
  refine st9 _ ?_
  show Sw T9 m 302 aa1 [] _
  refine XS.aload X9.here hx rfl (hb hby at_302) rfl rfl ?_
  show Sw T9 m 304 aa1 [(.ref o18)] _
  refine XS.iload X9.here hx rfl (hb hby at_304) rfl ?_
  show Sw T9 m 306 aa1 [(.int i19), (.ref o18)] _
  refine XS.bipush X9.here hx rfl (hb hby at_306) ?_
  show Sw T9 m 308 aa1 [(.int 7), (.int i19), (.ref o18)] _
  refine XS.iadd X9.here hx rfl (hb hby at_308) rfl ?_
  show Sw T9 m 309 aa1 [(.int (i19 + (7 : Int32))), (.ref o18)] _
  refine XS.iload X9.here hx rfl (hb hby at_309) rfl ?_
  show Sw T9 m 311 aa1 [(.int i11), (.int (i19 + (7 : Int32))), (.ref o18)] _
  refine st10 _ ?_
  show Sw T10 m 312 aa1 [] _
  refine XS.aload X10.here hx rfl (hb hby at_312) rfl rfl ?_
  show Sw T10 m 314 aa1 [(.ref o18)] _
  refine XS.iload X10.here hx rfl (hb hby at_314) rfl ?_
  show Sw T10 m 316 aa1 [(.int i19), (.ref o18)] _
  refine XS.bipush X10.here hx rfl (hb hby at_316) ?_
  show Sw T10 m 318 aa1 [(.int 8), (.int i19), (.ref o18)] _
  refine XS.iadd X10.here hx rfl (hb hby at_318) rfl ?_
  show Sw T10 m 319 aa1 [(.int (i19 + (8 : Int32))), (.ref o18)] _
  refine XS.bipush X10.here hx rfl (hb hby at_319) ?_
  show Sw T10 m 321 aa1 [(.int 62), (.int (i19 + (8 : Int32))), (.ref o18)] _
  refine st11 _ ?_
  show Sw T11 m 322 aa1 [] _
  refine XS.iload X11.here hx rfl (hb hby at_322) rfl ?_
  show Sw T11 m 324 aa1 [(.int i19)] _
  refine XS.bipush X11.here hx rfl (hb hby at_324) ?_
  show Sw T11 m 326 aa1 [(.int 9), (.int i19)] _
  refine XS.iadd X11.here hx rfl (hb hby at_326) rfl ?_
  show Sw T11 m 327 aa1 [(.int (i19 + (9 : Int32)))] _
  let aa2 : Array Slot := #[s0, s1, s2, s3, s4, s5, .val (.int i6), s7, s8, s9, .val (.int i10), .val (.int i11), s12, s13, s14, s15, s16, s17, .val (.ref o18), .val (.int (i19 + (9 : Int32)))]
  refine XS.istore X11.here hx rfl (hb hby at_327) rfl (l' := aa2) rfl ?_
  show Sw T11 m 329 aa2 [] _
  refine XS.goto X11.here hx rfl (pc0 := 329) (pc' := 356) rfl (hb hby at_329) (by decide) (by decide) ?_
  exact kt
set_option maxRecDepth 65536 in
set_option maxHeartbeats 40000000 in
theorem own_c4n {p : Program} {l : Launch} {e : Env} {s : State} {m : MethodId} {args : Array Value} {below : List Frame} {meth : Method} {c : Code} {T0 : State} {locs : List Loc} {cells slots : Nat} {Z : State} {a0 : Array Value} {h0 : Heap} (s0 : Slot) (s1 : Slot) (s2 : Slot) (s3 : Slot) (s4 : Slot) (s5 : Slot) (i6 : Int32) (s7 : Slot) (s8 : Slot) (s9 : Slot) (s10 : Slot) (s11 : Slot) (s12 : Slot) (s13 : Slot) (s14 : Slot) (s15 : Slot) (s16 : Slot) (s17 : Slot) (o18 : Addr) (i19 : Int32) {ka : ClassId} {es : List Int32} {kk : Nat} (X0 : Stand p l e room_1 s m args below meth c T0 locs cells slots) (hx : p.tables.exec = Jvm.exec) (hZ : Z.Warmed39 s.vm) (hw : HW a0 Z) (hml : c.maxLocals = 20) (hown : s.vm.findClass "org/athenaeum/xml/XmlWriterEndPinLaw" = some m.cls) (e0 : T0.heap = h0) (n0 : Nat) (Z0 : n0 ≤ h0.size) (N0 : Fr n0 locs) (hby : c.code = code) (g_o18 : n0 ≤ o18) (V0 : Arv Z h0 o18 ka .char (19 : Int32) (es.map Value.int) (.int 0)) (hle : es.length = 19) (hk : i19 = Int32.ofNat kk) (hb_ : kk ≤ 4) (hc262 : i6 = (0 : Int32)) :
    ∃ (T' : State) (h' : Heap) (locs' : List Loc), Stand p l e room_1 s m args below meth c T' locs' cells slots ∧ T'.heap = h' ∧ Fr n0 locs' ∧ Keep h0 h' [o18] ∧ Arv Z h' o18 ka .char (19 : Int32) (((es.set (kk + 3) (nar .char (47 : Int32))).set (kk + 4) (nar .char (62 : Int32))).map Value.int) (.int 0) ∧
      ∀ target, Steps p.tables e below (T'.setTop (mkF m 356 #[s0, s1, s2, s3, s4, s5, .val (.int i6), s7, s8, s9, s10, s11, s12, s13, s14, s15, s16, s17, .val (.ref o18), .val (.int (i19 + (5 : Int32)))] [])) target → Steps p.tables e below (T0.setTop (mkF m 260 #[s0, s1, s2, s3, s4, s5, .val (.int i6), s7, s8, s9, s10, s11, s12, s13, s14, s15, s16, s17, .val (.ref o18), .val (.int i19)] [])) target := by
  obtain ⟨T6, h6, L6, X6, e6, N6, Q6, V6, st6⟩ := own_put X0 hx hZ e0 N0 g_o18 V0 (47 : Int32) (i19 + (3 : Int32)) (kk + 3) (own_ix hk (by omega) 3 (by decide)) (by first | omega | (simp only [List.length_set]; omega)) (by omega) #[s0, s1, s2, s3, s4, s5, .val (.int i6), s7, s8, s9, s10, s11, s12, s13, s14, s15, s16, s17, .val (.ref o18), .val (.int i19)] (hb hby at_340)
  have K6 : Keep h0 h6 [o18] := Q6
  obtain ⟨T7, h7, L7, X7, e7, N7, Q7, V7, st7⟩ := own_put X6 hx hZ e6 N6 g_o18 V6 (62 : Int32) (i19 + (4 : Int32)) (kk + 4) (own_ix hk (by omega) 4 (by decide)) (by first | omega | (simp only [List.length_set]; omega)) (by omega) #[s0, s1, s2, s3, s4, s5, .val (.int i6), s7, s8, s9, s10, s11, s12, s13, s14, s15, s16, s17, .val (.ref o18), .val (.int i19)] (hb hby at_349)
  have K7 : Keep h0 h7 [o18] := own_tr K6 Q7 (by simp)
  refine ⟨T7, h7, _, X7, e7, N7, K7, V7, fun target kt => ?_⟩
  let aa1 : Array Slot := #[s0, s1, s2, s3, s4, s5, .val (.int i6), s7, s8, s9, s10, s11, s12, s13, s14, s15, s16, s17, .val (.ref o18), .val (.int i19)]
  show Sw T0 m 260 aa1 [] _
  refine XS.iload X0.here hx rfl (hb hby at_260) rfl ?_
  show Sw T0 m 262 aa1 [(.int i6)] _
  refine XS.ifYes X0.here hx rfl (pc0 := 262) (pc' := 332) rfl (hb hby at_262) rfl ((if0 _ _).trans (teq hc262).1) (by decide) (by decide) ?_
  show Sw T0 m 332 aa1 [] _
  refine XS.aload X0.here hx rfl (hb hby at_332) rfl rfl ?_
  show Sw T0 m 334 aa1 [(.ref o18)] _
  refine XS.iload X0.here hx rfl (hb hby at_334) rfl ?_
  show Sw T0 m 336 aa1 [(.int i19), (.ref o18)] _
  refine XS.iconst X0.here hx rfl (hb hby at_336) ?_
  show Sw T0 m 337 aa1 [(.int 3), (.int i19), (.ref o18)] _
  refine XS.iadd X0.here hx rfl (hb hby at_337) rfl ?_
  show Sw T0 m 338 aa1 [(.int (i19 + (3 : Int32))), (.ref o18)] _
  refine XS.bipush X0.here hx rfl (hb hby at_338) ?_
  show Sw T0 m 340 aa1 [(.int 47), (.int (i19 + (3 : Int32))), (.ref o18)] _
  refine st6 _ ?_
  show Sw T6 m 341 aa1 [] _
  refine XS.aload X6.here hx rfl (hb hby at_341) rfl rfl ?_
  show Sw T6 m 343 aa1 [(.ref o18)] _
  refine XS.iload X6.here hx rfl (hb hby at_343) rfl ?_
  show Sw T6 m 345 aa1 [(.int i19), (.ref o18)] _
  refine XS.iconst X6.here hx rfl (hb hby at_345) ?_
  show Sw T6 m 346 aa1 [(.int 4), (.int i19), (.ref o18)] _
  refine XS.iadd X6.here hx rfl (hb hby at_346) rfl ?_
  show Sw T6 m 347 aa1 [(.int (i19 + (4 : Int32))), (.ref o18)] _
  refine XS.bipush X6.here hx rfl (hb hby at_347) ?_
  show Sw T6 m 349 aa1 [(.int 62), (.int (i19 + (4 : Int32))), (.ref o18)] _
  refine st7 _ ?_
  show Sw T7 m 350 aa1 [] _
  refine XS.iload X7.here hx rfl (hb hby at_350) rfl ?_
  show Sw T7 m 352 aa1 [(.int i19)] _
  refine XS.iconst X7.here hx rfl (hb hby at_352) ?_
  show Sw T7 m 353 aa1 [(.int 5), (.int i19)] _
  refine XS.iadd X7.here hx rfl (hb hby at_353) rfl ?_
  show Sw T7 m 354 aa1 [(.int (i19 + (5 : Int32)))] _
  refine XS.istore X7.here hx rfl (hb hby at_354) rfl (l' := #[s0, s1, s2, s3, s4, s5, .val (.int i6), s7, s8, s9, s10, s11, s12, s13, s14, s15, s16, s17, .val (.ref o18), .val (.int (i19 + (5 : Int32)))]) rfl ?_
  exact kt
set_option maxRecDepth 65536 in
set_option maxHeartbeats 40000000 in
theorem own_c5o {p : Program} {l : Launch} {e : Env} {s : State} {m : MethodId} {args : Array Value} {below : List Frame} {meth : Method} {c : Code} {T0 : State} {locs : List Loc} {cells slots : Nat} {Z : State} {a0 : Array Value} {h0 : Heap} (s0 : Slot) (s1 : Slot) (s2 : Slot) (s3 : Slot) (s4 : Slot) (i5 : Int32) (s6 : Slot) (s7 : Slot) (i8 : Int32) (i9 : Int32) (s10 : Slot) (s11 : Slot) (s12 : Slot) (s13 : Slot) (s14 : Slot) (s15 : Slot) (s16 : Slot) (s17 : Slot) (o18 : Addr) (i19 : Int32) {ka : ClassId} {es : List Int32} {kk : Nat} (X0 : Stand p l e room_1 s m args below meth c T0 locs cells slots) (hx : p.tables.exec = Jvm.exec) (hZ : Z.Warmed39 s.vm) (hw : HW a0 Z) (hml : c.maxLocals = 20) (hown : s.vm.findClass "org/athenaeum/xml/XmlWriterEndPinLaw" = some m.cls) (e0 : T0.heap = h0) (n0 : Nat) (Z0 : n0 ≤ h0.size) (N0 : Fr n0 locs) (hby : c.code = code) (g_o18 : n0 ≤ o18) (V0 : Arv Z h0 o18 ka .char (19 : Int32) (es.map Value.int) (.int 0)) (hle : es.length = 19) (hk : i19 = Int32.ofNat kk) (hb_ : kk ≤ 13) (hc358 : ¬ (i5 = (0 : Int32))) :
    ∃ (T' : State) (h' : Heap) (locs' : List Loc), Stand p l e room_1 s m args below meth c T' locs' cells slots ∧ T'.heap = h' ∧ Fr n0 locs' ∧ Keep h0 h' [o18] ∧ Arv Z h' o18 ka .char (19 : Int32) ((((((es.set kk (nar .char (60 : Int32))).set (kk + 1) (nar .char (47 : Int32))).set (kk + 2) (nar .char i8)).set (kk + 3) (nar .char i9)).set (kk + 4) (nar .char (62 : Int32))).map Value.int) (.int 0) ∧
      ∀ target, Steps p.tables e below (T'.setTop (mkF m 410 #[s0, s1, s2, s3, s4, .val (.int i5), s6, s7, .val (.int i8), .val (.int i9), s10, s11, s12, s13, s14, s15, s16, s17, .val (.ref o18), .val (.int (i19 + (5 : Int32)))] [])) target → Steps p.tables e below (T0.setTop (mkF m 356 #[s0, s1, s2, s3, s4, .val (.int i5), s6, s7, .val (.int i8), .val (.int i9), s10, s11, s12, s13, s14, s15, s16, s17, .val (.ref o18), .val (.int i19)] [])) target := by
  obtain ⟨T6, h6, L6, X6, e6, N6, Q6, V6, st6⟩ := own_put X0 hx hZ e0 N0 g_o18 V0 (60 : Int32) i19 kk (own_ix0 hk (by omega)) (by first | omega | (simp only [List.length_set]; omega)) (by omega) #[s0, s1, s2, s3, s4, .val (.int i5), s6, s7, .val (.int i8), .val (.int i9), s10, s11, s12, s13, s14, s15, s16, s17, .val (.ref o18), .val (.int i19)] (hb hby at_367)
  have K6 : Keep h0 h6 [o18] := Q6
  obtain ⟨T7, h7, L7, X7, e7, N7, Q7, V7, st7⟩ := own_put X6 hx hZ e6 N6 g_o18 V6 (47 : Int32) (i19 + (1 : Int32)) (kk + 1) (own_ix hk (by omega) 1 (by decide)) (by first | omega | (simp only [List.length_set]; omega)) (by omega) #[s0, s1, s2, s3, s4, .val (.int i5), s6, s7, .val (.int i8), .val (.int i9), s10, s11, s12, s13, s14, s15, s16, s17, .val (.ref o18), .val (.int i19)] (hb hby at_376)
  have K7 : Keep h0 h7 [o18] := own_tr K6 Q7 (by simp)
  obtain ⟨T8, h8, L8, X8, e8, N8, Q8, V8, st8⟩ := own_put X7 hx hZ e7 N7 g_o18 V7 i8 (i19 + (2 : Int32)) (kk + 2) (own_ix hk (by omega) 2 (by decide)) (by first | omega | (simp only [List.length_set]; omega)) (by omega) #[s0, s1, s2, s3, s4, .val (.int i5), s6, s7, .val (.int i8), .val (.int i9), s10, s11, s12, s13, s14, s15, s16, s17, .val (.ref o18), .val (.int i19)] (hb hby at_385)
  have K8 : Keep h0 h8 [o18] := own_tr K7 Q8 (by simp)
  obtain ⟨T9, h9, L9, X9, e9, N9, Q9, V9, st9⟩ := own_put X8 hx hZ e8 N8 g_o18 V8 i9 (i19 + (3 : Int32)) (kk + 3) (own_ix hk (by omega) 3 (by decide)) (by first | omega | (simp only [List.length_set]; omega)) (by omega) #[s0, s1, s2, s3, s4, .val (.int i5), s6, s7, .val (.int i8), .val (.int i9), s10, s11, s12, s13, s14, s15, s16, s17, .val (.ref o18), .val (.int i19)] (hb hby at_394)
  have K9 : Keep h0 h9 [o18] := own_tr K8 Q9 (by simp)
  obtain ⟨T10, h10, L10, X10, e10, N10, Q10, V10, st10⟩ := own_put X9 hx hZ e9 N9 g_o18 V9 (62 : Int32) (i19 + (4 : Int32)) (kk + 4) (own_ix hk (by omega) 4 (by decide)) (by first | omega | (simp only [List.length_set]; omega)) (by omega) #[s0, s1, s2, s3, s4, .val (.int i5), s6, s7, .val (.int i8), .val (.int i9), s10, s11, s12, s13, s14, s15, s16, s17, .val (.ref o18), .val (.int i19)] (hb hby at_403)
  have K10 : Keep h0 h10 [o18] := own_tr K9 Q10 (by simp)
  refine ⟨T10, h10, _, X10, e10, N10, K10, V10, fun target kt => ?_⟩
  let aa1 : Array Slot := #[s0, s1, s2, s3, s4, .val (.int i5), s6, s7, .val (.int i8), .val (.int i9), s10, s11, s12, s13, s14, s15, s16, s17, .val (.ref o18), .val (.int i19)]
  show Sw T0 m 356 aa1 [] _
  refine XS.iload X0.here hx rfl (hb hby at_356) rfl ?_
  show Sw T0 m 358 aa1 [(.int i5)] _
  refine XS.ifNo X0.here hx rfl (hb hby at_358) rfl ((if0 _ _).trans (feq hc358).1) ?_
  show Sw T0 m 361 aa1 [] _
  refine XS.aload X0.here hx rfl (hb hby at_361) rfl rfl ?_
  show Sw T0 m 363 aa1 [(.ref o18)] _
  refine XS.iload X0.here hx rfl (hb hby at_363) rfl ?_
  show Sw T0 m 365 aa1 [(.int i19), (.ref o18)] _
  refine XS.bipush X0.here hx rfl (hb hby at_365) ?_
  show Sw T0 m 367 aa1 [(.int 60), (.int i19), (.ref o18)] _
  refine st6 _ ?_
  show Sw T6 m 368 aa1 [] _
  refine XS.aload X6.here hx rfl (hb hby at_368) rfl rfl ?_
  show Sw T6 m 370 aa1 [(.ref o18)] _
  refine XS.iload X6.here hx rfl (hb hby at_370) rfl ?_
  show Sw T6 m 372 aa1 [(.int i19), (.ref o18)] _
  refine XS.iconst X6.here hx rfl (hb hby at_372) ?_
  show Sw T6 m 373 aa1 [(.int 1), (.int i19), (.ref o18)] _
  refine XS.iadd X6.here hx rfl (hb hby at_373) rfl ?_
  show Sw T6 m 374 aa1 [(.int (i19 + (1 : Int32))), (.ref o18)] _
  refine XS.bipush X6.here hx rfl (hb hby at_374) ?_
  show Sw T6 m 376 aa1 [(.int 47), (.int (i19 + (1 : Int32))), (.ref o18)] _
  refine st7 _ ?_
  show Sw T7 m 377 aa1 [] _
  refine XS.aload X7.here hx rfl (hb hby at_377) rfl rfl ?_
  show Sw T7 m 379 aa1 [(.ref o18)] _
  refine XS.iload X7.here hx rfl (hb hby at_379) rfl ?_
  show Sw T7 m 381 aa1 [(.int i19), (.ref o18)] _
  refine XS.iconst X7.here hx rfl (hb hby at_381) ?_
  show Sw T7 m 382 aa1 [(.int 2), (.int i19), (.ref o18)] _
  refine XS.iadd X7.here hx rfl (hb hby at_382) rfl ?_
  show Sw T7 m 383 aa1 [(.int (i19 + (2 : Int32))), (.ref o18)] _
  refine XS.iload X7.here hx rfl (hb hby at_383) rfl ?_
  show Sw T7 m 385 aa1 [(.int i8), (.int (i19 + (2 : Int32))), (.ref o18)] _
  refine st8 _ ?_
  show Sw T8 m 386 aa1 [] _
  refine XS.aload X8.here hx rfl (hb hby at_386) rfl rfl ?_
  show Sw T8 m 388 aa1 [(.ref o18)] _
  refine XS.iload X8.here hx rfl (hb hby at_388) rfl ?_
  show Sw T8 m 390 aa1 [(.int i19), (.ref o18)] _
  refine XS.iconst X8.here hx rfl (hb hby at_390) ?_
  show Sw T8 m 391 aa1 [(.int 3), (.int i19), (.ref o18)] _
  refine XS.iadd X8.here hx rfl (hb hby at_391) rfl ?_
  show Sw T8 m 392 aa1 [(.int (i19 + (3 : Int32))), (.ref o18)] _
  refine XS.iload X8.here hx rfl (hb hby at_392) rfl ?_
  show Sw T8 m 394 aa1 [(.int i9), (.int (i19 + (3 : Int32))), (.ref o18)] _
  refine st9 _ ?_
  show Sw T9 m 395 aa1 [] _
  refine XS.aload X9.here hx rfl (hb hby at_395) rfl rfl ?_
  show Sw T9 m 397 aa1 [(.ref o18)] _
  refine XS.iload X9.here hx rfl (hb hby at_397) rfl ?_
  show Sw T9 m 399 aa1 [(.int i19), (.ref o18)] _
  refine XS.iconst X9.here hx rfl (hb hby at_399) ?_
  show Sw T9 m 400 aa1 [(.int 4), (.int i19), (.ref o18)] _
  refine XS.iadd X9.here hx rfl (hb hby at_400) rfl ?_
  show Sw T9 m 401 aa1 [(.int (i19 + (4 : Int32))), (.ref o18)] _
  refine XS.bipush X9.here hx rfl (hb hby at_401) ?_
  show Sw T9 m 403 aa1 [(.int 62), (.int (i19 + (4 : Int32))), (.ref o18)] _
  refine st10 _ ?_
  show Sw T10 m 404 aa1 [] _
  refine XS.iload X10.here hx rfl (hb hby at_404) rfl ?_
  show Sw T10 m 406 aa1 [(.int i19)] _
  refine XS.iconst X10.here hx rfl (hb hby at_406) ?_
  show Sw T10 m 407 aa1 [(.int 5), (.int i19)] _
  refine XS.iadd X10.here hx rfl (hb hby at_407) rfl ?_
  show Sw T10 m 408 aa1 [(.int (i19 + (5 : Int32)))] _
  refine XS.istore X10.here hx rfl (hb hby at_408) rfl (l' := #[s0, s1, s2, s3, s4, .val (.int i5), s6, s7, .val (.int i8), .val (.int i9), s10, s11, s12, s13, s14, s15, s16, s17, .val (.ref o18), .val (.int (i19 + (5 : Int32)))]) rfl ?_
  exact kt
set_option maxRecDepth 65536 in
set_option maxHeartbeats 40000000 in
theorem own_c5n {p : Program} {l : Launch} {e : Env} {s : State} {m : MethodId} {args : Array Value} {below : List Frame} {meth : Method} {c : Code} {T0 : State} {locs : List Loc} {cells slots : Nat} {Z : State} {a0 : Array Value} {h0 : Heap} (s0 : Slot) (s1 : Slot) (s2 : Slot) (s3 : Slot) (s4 : Slot) (i5 : Int32) (s6 : Slot) (s7 : Slot) (s8 : Slot) (s9 : Slot) (s10 : Slot) (s11 : Slot) (s12 : Slot) (s13 : Slot) (s14 : Slot) (s15 : Slot) (s16 : Slot) (s17 : Slot) (s18 : Slot) (s19 : Slot) (o18 : Addr) {ka : ClassId} {es : List Int32} {kk : Nat} (X0 : Stand p l e room_1 s m args below meth c T0 locs cells slots) (hx : p.tables.exec = Jvm.exec) (hZ : Z.Warmed39 s.vm) (hw : HW a0 Z) (hml : c.maxLocals = 20) (hown : s.vm.findClass "org/athenaeum/xml/XmlWriterEndPinLaw" = some m.cls) (e0 : T0.heap = h0) (n0 : Nat) (Z0 : n0 ≤ h0.size) (N0 : Fr n0 locs) (hby : c.code = code) (g_o18 : n0 ≤ o18) (V0 : Arv Z h0 o18 ka .char (19 : Int32) (es.map Value.int) (.int 0)) (hle : es.length = 19) (hb_ : kk ≤ 18) (hc358 : i5 = (0 : Int32)) :
    ∃ (T' : State) (h' : Heap) (locs' : List Loc), Stand p l e room_1 s m args below meth c T' locs' cells slots ∧ T'.heap = h' ∧ Fr n0 locs' ∧ Keep h0 h' [o18] ∧ Arv Z h' o18 ka .char (19 : Int32) (es.map Value.int) (.int 0) ∧
      ∀ target, Steps p.tables e below (T'.setTop (mkF m 410 #[s0, s1, s2, s3, s4, .val (.int i5), s6, s7, s8, s9, s10, s11, s12, s13, s14, s15, s16, s17, s18, s19] [])) target → Steps p.tables e below (T0.setTop (mkF m 356 #[s0, s1, s2, s3, s4, .val (.int i5), s6, s7, s8, s9, s10, s11, s12, s13, s14, s15, s16, s17, s18, s19] [])) target := by
  refine ⟨T0, h0, _, X0, e0, N0, Keep.refl h0 _, V0, fun target kt => ?_⟩
  let aa1 : Array Slot := #[s0, s1, s2, s3, s4, .val (.int i5), s6, s7, s8, s9, s10, s11, s12, s13, s14, s15, s16, s17, s18, s19]
  show Sw T0 m 356 aa1 [] _
  refine XS.iload X0.here hx rfl (hb hby at_356) rfl ?_
  show Sw T0 m 358 aa1 [(.int i5)] _
  refine XS.ifYes X0.here hx rfl (pc0 := 358) (pc' := 410) rfl (hb hby at_358) rfl ((if0 _ _).trans (teq hc358).1) (by decide) (by decide) ?_
  exact kt
set_option maxRecDepth 65536 in
set_option maxHeartbeats 40000000 in
theorem own_c6 {p : Program} {l : Launch} {e : Env} {s : State} {m : MethodId} {args : Array Value} {below : List Frame} {meth : Method} {c : Code} {T0 : State} {locs : List Loc} {cells slots : Nat} {Z : State} {a0 : Array Value} {h0 : Heap} (s0 : Slot) (s1 : Slot) (s2 : Slot) (s3 : Slot) (s4 : Slot) (s5 : Slot) (s6 : Slot) (s7 : Slot) (s8 : Slot) (s9 : Slot) (s10 : Slot) (s11 : Slot) (s12 : Slot) (s13 : Slot) (s14 : Slot) (s15 : Slot) (s16 : Slot) (s17 : Slot) (o18 : Addr) (i19 : Int32) {ka : ClassId} {es : List Int32} {kk : Nat} (X0 : Stand p l e room_1 s m args below meth c T0 locs cells slots) (hx : p.tables.exec = Jvm.exec) (hZ : Z.Warmed39 s.vm) (hw : HW a0 Z) (hml : c.maxLocals = 20) (hown : s.vm.findClass "org/athenaeum/xml/XmlWriterEndPinLaw" = some m.cls) (e0 : T0.heap = h0) (n0 : Nat) (Z0 : n0 ≤ h0.size) (N0 : Fr n0 locs) (hby : c.code = code) (g_o18 : n0 ≤ o18) (V0 : Arv Z h0 o18 ka .char (19 : Int32) (es.map Value.int) (.int 0)) (hle : es.length = 19) (hk : i19 = Int32.ofNat kk) (hb_ : kk ≤ 18) :
    ∃ (T' : State) (h' : Heap) (locs' : List Loc), Stand p l e room_1 s m args below meth c T' locs' cells slots ∧ T'.heap = h' ∧ Fr n0 locs' ∧ Keep h0 h' [o18] ∧ Arv Z h' o18 ka .char (19 : Int32) ((es.set kk (nar .char (10 : Int32))).map Value.int) (.int 0) ∧
      ∀ target, Steps p.tables e below (T'.setTop (mkF m 423 #[s0, s1, s2, s3, s4, s5, s6, s7, s8, s9, s10, s11, s12, s13, s14, s15, s16, s17, .val (.ref o18), .val (.int (i19 + (1 : Int32)))] [])) target → Steps p.tables e below (T0.setTop (mkF m 410 #[s0, s1, s2, s3, s4, s5, s6, s7, s8, s9, s10, s11, s12, s13, s14, s15, s16, s17, .val (.ref o18), .val (.int i19)] [])) target := by
  obtain ⟨T6, h6, L6, X6, e6, N6, Q6, V6, st6⟩ := own_put X0 hx hZ e0 N0 g_o18 V0 (10 : Int32) i19 kk (own_ix0 hk (by omega)) (by first | omega | (simp only [List.length_set]; omega)) (by omega) #[s0, s1, s2, s3, s4, s5, s6, s7, s8, s9, s10, s11, s12, s13, s14, s15, s16, s17, .val (.ref o18), .val (.int i19)] (hb hby at_416)
  have K6 : Keep h0 h6 [o18] := Q6
  refine ⟨T6, h6, _, X6, e6, N6, K6, V6, fun target kt => ?_⟩
  let aa1 : Array Slot := #[s0, s1, s2, s3, s4, s5, s6, s7, s8, s9, s10, s11, s12, s13, s14, s15, s16, s17, .val (.ref o18), .val (.int i19)]
  show Sw T0 m 410 aa1 [] _
  refine XS.aload X0.here hx rfl (hb hby at_410) rfl rfl ?_
  show Sw T0 m 412 aa1 [(.ref o18)] _
  refine XS.iload X0.here hx rfl (hb hby at_412) rfl ?_
  show Sw T0 m 414 aa1 [(.int i19), (.ref o18)] _
  refine XS.bipush X0.here hx rfl (hb hby at_414) ?_
  show Sw T0 m 416 aa1 [(.int 10), (.int i19), (.ref o18)] _
  refine st6 _ ?_
  show Sw T6 m 417 aa1 [] _
  refine XS.iload X6.here hx rfl (hb hby at_417) rfl ?_
  show Sw T6 m 419 aa1 [(.int i19)] _
  refine XS.iconst X6.here hx rfl (hb hby at_419) ?_
  show Sw T6 m 420 aa1 [(.int 1), (.int i19)] _
  refine XS.iadd X6.here hx rfl (hb hby at_420) rfl ?_
  show Sw T6 m 421 aa1 [(.int (i19 + (1 : Int32)))] _
  refine XS.istore X6.here hx rfl (hb hby at_421) rfl (l' := #[s0, s1, s2, s3, s4, s5, s6, s7, s8, s9, s10, s11, s12, s13, s14, s15, s16, s17, .val (.ref o18), .val (.int (i19 + (1 : Int32)))]) rfl ?_
  exact kt
theorem os0_198 {s0 : Slot} {s1 : Slot} {s2 : Slot} {s3 : Slot} {s4 : Slot} {s5 : Slot} {s6 : Slot} {s7 : Slot} {s8 : Slot} {s9 : Slot} {s10 : Slot} {s11 : Slot} {s12 : Slot} {s13 : Slot} {s14 : Slot} {s15 : Slot} {s16 : Slot} {s17 : Slot} {s18 : Slot} {s19 : Slot} {v : Addr} (h : One s18) : storeLocals #[s0, s1, s2, s3, s4, s5, s6, s7, s8, s9, s10, s11, s12, s13, s14, s15, s16, s17, s18, s19] 18 (.ref v) = some #[s0, s1, s2, s3, s4, s5, s6, s7, s8, s9, s10, s11, s12, s13, s14, s15, s16, s17, .val (.ref v), s19] := by
  rcases h with rfl | ⟨w, rfl, hw⟩
  · rfl
  · cases w <;> first | rfl | (simp [Value.category] at hw)
theorem os0_201 {s0 : Slot} {s1 : Slot} {s2 : Slot} {s3 : Slot} {s4 : Slot} {s5 : Slot} {s6 : Slot} {s7 : Slot} {s8 : Slot} {s9 : Slot} {s10 : Slot} {s11 : Slot} {s12 : Slot} {s13 : Slot} {s14 : Slot} {s15 : Slot} {s16 : Slot} {s17 : Slot} {z18 : Value} {s19 : Slot} {v : Int32} (h : One s19) : storeLocals #[s0, s1, s2, s3, s4, s5, s6, s7, s8, s9, s10, s11, s12, s13, s14, s15, s16, s17, .val z18, s19] 19 (.int v) = some #[s0, s1, s2, s3, s4, s5, s6, s7, s8, s9, s10, s11, s12, s13, s14, s15, s16, s17, .val z18, .val (.int v)] := by
  rcases h with rfl | ⟨w, rfl, hw⟩
  · rfl
  · cases w <;> first | rfl | (simp [Value.category] at hw)
set_option maxRecDepth 65536 in
set_option maxHeartbeats 40000000 in
theorem own_c1 {p : Program} {l : Launch} {e : Env} {s : State} {m : MethodId} {args : Array Value} {below : List Frame} {meth : Method} {c : Code} {T0 : State} {locs : List Loc} {cells slots : Nat} {Z : State} {a0 : Array Value} {h0 : Heap} (s0 : Slot) (s1 : Slot) (s2 : Slot) (s3 : Slot) (s4 : Slot) (s5 : Slot) (s6 : Slot) (s7 : Slot) (s8 : Slot) (s9 : Slot) (s10 : Slot) (s11 : Slot) (s12 : Slot) (s13 : Slot) (s14 : Slot) (s15 : Slot) (s16 : Slot) (s17 : Slot) (s18 : Slot) (s19 : Slot) (X0 : Stand p l e room_1 s m args below meth c T0 locs cells slots) (hx : p.tables.exec = Jvm.exec) (hZ : Z.Warmed39 s.vm) (hw : HW a0 Z) (hml : c.maxLocals = 20) (hown : s.vm.findClass "org/athenaeum/xml/XmlWriterEndPinLaw" = some m.cls) (e0 : T0.heap = h0) (n0 : Nat) (Z0 : n0 ≤ h0.size) (N0 : Fr n0 locs) (hby : c.code = code) (hs18 : One s18) (hs19 : One s19) (hcs : cells + 1 ≤ room_1.cells) (hsl : slots + 19 ≤ room_1.slots) :
    ∃ (T' : State) (h' : Heap) (b6 : Addr) (ka : ClassId), Stand p l e room_1 s m args below meth c T' locs (cells + 1) (slots + 19) ∧ T'.heap = h' ∧ Ext h0 h' ∧ b6 = h0.size ∧ Arv Z h' b6 ka .char (19 : Int32) ((List.replicate 19 (0 : Int32)).map Value.int) (.int 0) ∧
      ∀ target, Steps p.tables e below (T'.setTop (mkF m 203 #[s0, s1, s2, s3, s4, s5, s6, s7, s8, s9, s10, s11, s12, s13, s14, s15, s16, s17, .val (.ref b6), .val (.int 0)] [])) target → Steps p.tables e below (T0.setTop (mkF m 194 #[s0, s1, s2, s3, s4, s5, s6, s7, s8, s9, s10, s11, s12, s13, s14, s15, s16, s17, s18, s19] [])) target := by
  let aa1 : Array Slot := #[s0, s1, s2, s3, s4, s5, s6, s7, s8, s9, s10, s11, s12, s13, s14, s15, s16, s17, s18, s19]
  obtain ⟨T6, h6, k6, X6, e6, E6, A6, st6⟩ := newP X0 hx hZ (ww hw 3 rfl) e0 (g := (mkF m 196 aa1 [(.int 19)])) rfl (hb hby at_196) rfl (by decide) (cap := 19) (by decide) (by decide) hcs hsl
  obtain ⟨b6, g6⟩ : ∃ z, z = h0.size := ⟨_, rfl⟩
  rw [← g6] at A6 st6
  have V_b6 : Arv Z h6 b6 k6 .char (19 : Int32) [(.int 0), (.int 0), (.int 0), (.int 0), (.int 0), (.int 0), (.int 0), (.int 0), (.int 0), (.int 0), (.int 0), (.int 0), (.int 0), (.int 0), (.int 0), (.int 0), (.int 0), (.int 0), (.int 0)] (.int 0) := (Arv.new A6 (by decide)).pad (pad_rep [] (.int 0) 19)
  have g_b6 : n0 ≤ b6 := Nat.le_trans Z0 (Nat.le_of_eq g6.symm)
  have sz_b6 : h0.size ≤ b6 := (Nat.le_trans (Keep.refl h0 []).1 (Nat.le_of_eq g6.symm))
  have K6 : Keep h0 h6 [] := (Keep.refl h0 []).ext E6
  refine ⟨T6, h6, b6, k6, X6, e6, E6, g6, V_b6, fun target kt => ?_⟩
  show Sw T0 m 194 aa1 [] _
  refine XS.bipush X0.here hx rfl (hb hby at_194) ?_
  show Sw T0 m 196 aa1 [(.int 19)] _
  refine st6 _ ?_
  show Sw T6 m 198 aa1 [(.ref b6)] _
  let aa2 : Array Slot := #[s0, s1, s2, s3, s4, s5, s6, s7, s8, s9, s10, s11, s12, s13, s14, s15, s16, s17, .val (.ref b6), s19]
  refine XS.astore X6.here hx rfl (hb hby at_198) rfl rfl (l' := aa2) (os0_198 hs18) ?_
  show Sw T6 m 200 aa2 [] _
  refine XS.iconst X6.here hx rfl (hb hby at_200) ?_
  show Sw T6 m 201 aa2 [(.int 0)] _
  refine XS.istore X6.here hx rfl (hb hby at_201) rfl (l' := #[s0, s1, s2, s3, s4, s5, s6, s7, s8, s9, s10, s11, s12, s13, s14, s15, s16, s17, .val (.ref b6), .val (.int 0)]) (os0_201 hs19) ?_
  exact kt
set_option maxRecDepth 65536 in
set_option maxHeartbeats 40000000 in
theorem own_c7 {p : Program} {l : Launch} {e : Env} {s : State} {m : MethodId} {args : Array Value} {below : List Frame} {meth : Method} {c : Code} {T0 : State} {locs : List Loc} {cells slots : Nat} {Z : State} {a0 : Array Value} {h0 : Heap} (s0 : Slot) (s1 : Slot) (s2 : Slot) (s3 : Slot) (s4 : Slot) (s5 : Slot) (s6 : Slot) (s7 : Slot) (s8 : Slot) (s9 : Slot) (s10 : Slot) (s11 : Slot) (s12 : Slot) (s13 : Slot) (o14 : Addr) (o15 : Addr) (o16 : Addr) (o17 : Addr) (s18 : Slot) (i19 : Int32) {G1 : Int32} {t : Addr} {kt : ClassId} {n : Int32} {us : List Value} (X0 : Stand p l e room_1 s m args below meth c T0 locs cells slots) (hx : p.tables.exec = Jvm.exec) (hZ : Z.Warmed39 s.vm) (hw : HW a0 Z) (hml : c.maxLocals = 20) (hown : s.vm.findClass "org/athenaeum/xml/XmlWriterEndPinLaw" = some m.cls) (e0 : T0.heap = h0) (n0 : Nat) (Z0 : n0 ≤ h0.size) (N0 : Fr n0 locs) (SC : Sta Z h0 "java/lang/String" "COMPACT_STRINGS" "Z" (.int G1)) (P3 : ¬ (G1 = (0 : Int32))) (hby : c.code = code) (SS : own_S Z h0 o17 t kt n us) (hn9 : n = (39 : Int32) + i19) (ha427 : o15 = o14) (ha434 : o16 = o14) (hcs : cells ≤ room_1.cells) (hsl : slots ≤ room_1.slots) :
    ∃ (T' : State) (locs' : List Loc), Stand p l e room_1 s m args below meth c T' locs' cells slots ∧ T'.heap = h0 ∧ Fr n0 locs' ∧
      ∀ target, Steps p.tables e below (T'.setTop (mkF m 452 #[s0, s1, s2, s3, s4, s5, s6, s7, s8, s9, s10, s11, s12, s13, .val (.ref o14), .val (.ref o15), .val (.ref o16), .val (.ref o17), s18, .val (.int i19)] [])) target → Steps p.tables e below (T0.setTop (mkF m 423 #[s0, s1, s2, s3, s4, s5, s6, s7, s8, s9, s10, s11, s12, s13, .val (.ref o14), .val (.ref o15), .val (.ref o16), .val (.ref o17), s18, .val (.int i19)] [])) target := by
  obtain ⟨cq6, kq6, q6a, q6b, q6c⟩ := isOf hZ e0 SS.1
  obtain ⟨cls, As, -, Ss, Ns, -, -⟩ := id SS.2.2.2.1
  let aa1 : Array Slot := #[s0, s1, s2, s3, s4, s5, s6, s7, s8, s9, s10, s11, s12, s13, .val (.ref o14), .val (.ref o15), .val (.ref o16), .val (.ref o17), s18, .val (.int i19)]
  obtain ⟨_, _, ⟨T6, L6, k6, n6⟩, -, X6, ⟨Lc6, hQ6, l6, y6, z6⟩, st6⟩ := X0.virtualBack hx (y := ym01) (z := ym01) hown (mvT hZ (ww hw 268 rfl)) (mvT hZ (ww hw 54 rfl)) (notFace_of_selects (args := #[]) (mvT hZ (ww hw 56 rfl))) (mvT hZ (ww hw 56 rfl)) (mvT hZ (ww hw 55 rfl)) (by decide) (backOf (W := 0) (rm10 l Z a0 hw [] o17 t cls n G1 h0 n0 Z0 SC P3 SS.2.2.1 SS.2.1 As Ss Ns SS.1) hZ (ww hw 57 rfl) (ww hw 2 rfl) (by decide) (by decide)) q6a q6c (g := (mkF m 439 aa1 [(.ref o17)])) rfl (by rw [hml]; rfl) (Steps.refl _) (argsL := []) (rest := []) (lenOf pd_14_7 rfl) rfl (wz rfl) (hb hby at_439) (fun _ _ => ⟨rfl, e0, hcs, hsl⟩)
  dsimp only [Pt.U, Pt.locs, Pt.cells, Pt.slots] at X6 l6 y6 z6 st6 hQ6
  subst l6 y6 z6
  obtain ⟨rfl, N6q, e6⟩ := hQ6
  have N6 := Fr.app N0 N6q
  refine ⟨T6, _, X6, e6, N6, fun target kt => ?_⟩
  show Sw T0 m 423 aa1 [] _
  refine XS.aload X0.here hx rfl (hb hby at_423) rfl rfl ?_
  show Sw T0 m 425 aa1 [(.ref o15)] _
  refine XS.aload X0.here hx rfl (hb hby at_425) rfl rfl ?_
  show Sw T0 m 427 aa1 [(.ref o14), (.ref o15)] _
  refine Jvm.RoadKit.acmp (g := (mkF m 427 aa1 [(.ref o14), (.ref o15)])) X0 hx rfl rfl rfl (pc0 := 427) (pc' := 430) (same := true) rfl (hb hby at_427) rfl (decide_eq_true (congrArg Value.ref ha427)) (by decide) (by decide) ?_
  show Sw T0 m 430 aa1 [] _
  refine XS.aload X0.here hx rfl (hb hby at_430) rfl rfl ?_
  show Sw T0 m 432 aa1 [(.ref o16)] _
  refine XS.aload X0.here hx rfl (hb hby at_432) rfl rfl ?_
  show Sw T0 m 434 aa1 [(.ref o14), (.ref o16)] _
  refine Jvm.RoadKit.acmp (g := (mkF m 434 aa1 [(.ref o14), (.ref o16)])) X0 hx rfl rfl rfl (pc0 := 434) (pc' := 437) (same := true) rfl (hb hby at_434) rfl (decide_eq_true (congrArg Value.ref ha434)) (by decide) (by decide) ?_
  show Sw T0 m 437 aa1 [] _
  refine XS.aload X0.here hx rfl (hb hby at_437) rfl rfl ?_
  show Sw T0 m 439 aa1 [(.ref o17)] _
  refine st6.trans ?_
  show Sw T6 m 442 aa1 [(.int n)] _
  refine XS.bipush X6.here hx rfl (hb hby at_442) ?_
  show Sw T6 m 444 aa1 [(.int 39), (.int n)] _
  refine XS.iload X6.here hx rfl (hb hby at_444) rfl ?_
  show Sw T6 m 446 aa1 [(.int i19), (.int 39), (.int n)] _
  refine XS.iadd X6.here hx rfl (hb hby at_446) rfl ?_
  show Sw T6 m 447 aa1 [(.int ((39 : Int32) + i19)), (.int n)] _
  refine XS.icmpYes X6.here hx rfl (pc0 := 447) (pc' := 452) rfl (hb hby at_447) rfl (teq (hn9 : n = ((39 : Int32) + i19))).1 (by decide) (by decide) ?_
  exact kt
theorem own_H (dl xs zs : List Int32) (hd : dl.length = 39) (kk : Nat) (hk : xs.length = kk) (h19 : kk ≤ 19) (i : Int32) (hi : i = Int32.ofNat kk) : ∀ j : Nat, j < 19 → Int32.ofNat j < i → 39 + j < (dl ++ xs).length ∧ (dl ++ xs).getD (39 + j) 0 = (xs ++ zs).getD j 0 := by
  intro j hj hlt
  rw [hi, Int32.lt_iff_toInt_lt, Int32.toInt_ofNat_of_lt (by omega), Int32.toInt_ofNat_of_lt (by omega)] at hlt
  have hjk : j < xs.length := by omega
  refine ⟨by rw [List.length_append]; omega, ?_⟩
  rw [List.getD_eq_getElem?_getD, List.getD_eq_getElem?_getD, List.getElem?_append_right (by omega), List.getElem?_append_left hjk, hd, Nat.add_sub_cancel_left]
abbrev own_dl : List Int32 := [60, 63, 120, 109, 108, 32, 118, 101, 114, 115, 105, 111, 110, 61, 34, 49, 46, 48, 34, 32, 101, 110, 99, 111, 100, 105, 110, 103, 61, 34, 85, 84, 70, 45, 56, 34, 63, 62, 10]
set_option maxRecDepth 65536 in
set_option maxHeartbeats 4000000 in
theorem own_rest_00 {p : Program} {l : Launch} {e : Env} {s : State} {m : MethodId} {args : Array Value} {below : List Frame} {meth : Method} {c : Code} {T0 : State} {locs : List Loc} {cells slots : Nat} {Z : State} {a0 : Array Value} {h0 : Heap} (s0 s1 s2 s3 s4 : Slot) (i5 i6 : Int32) (s7 : Slot) (i8 i9 i10 i11 : Int32) (s12 s13 : Slot) (o14 o17 : Addr) (s18 s19 : Slot) {G1 : Int32} {fm : Value} {t : Addr} {kt : ClassId} {n : Int32} (X0 : Stand p l e room_1 s m args below meth c T0 locs cells slots) (hx : p.tables.exec = Jvm.exec) (hZ : Z.Warmed39 s.vm) (hw : HW a0 Z) (hml : c.maxLocals = 20) (hown : s.vm.findClass "org/athenaeum/xml/XmlWriterEndPinLaw" = some m.cls) (e0 : T0.heap = h0) (n0 : Nat) (Z0 : n0 ≤ h0.size) (N0 : Fr n0 locs) (SC : Sta Z h0 "java/lang/String" "COMPACT_STRINGS" "Z" (.int G1)) (P3 : ¬ (G1 = (0 : Int32))) (SF : Sta Z h0 "jdk/internal/util/Preconditions" "SIOOBE_FORMATTER" "Ljava/util/function/BiFunction;" fm) (rf : fm.isRef = true) (hby : c.code = code) (hs18 : One s18) (hs19 : One s19) (hcs : cells + 1 ≤ room_1.cells) (hsl : slots + 19 ≤ room_1.slots) (SS : own_S Z h0 o17 t kt n (own_by (own_dl ++ [60, (nar .char i10), (nar .char i11), 47, 62, 10]))) (hn : n = Int32.ofNat (own_dl ++ [60, (nar .char i10), (nar .char i11), 47, 62, 10] : List Int32).length) (hch : ∀ c ∈ (own_dl ++ [60, (nar .char i10), (nar .char i11), 47, 62, 10] : List Int32), ¬ c < 0 ∧ ¬ (255 : Int32) < c) (h5 : i5 = (0 : Int32)) (h6 : i6 = (0 : Int32)) :
    ∃ (T' : State) (h' : Heap) (locs' : List Loc) (Ls : Array Slot), Stand p l e room_1 s m args below meth c T' locs' (cells + 1) (slots + 19) ∧ T'.heap = h' ∧ Fr n0 locs' ∧ Keep h0 h' [] ∧
      ∀ target, Steps p.tables e below (T'.setTop (mkF m 717 Ls [(.int 1)])) target → Steps p.tables e below (T0.setTop (mkF m 194 #[s0, s1, s2, s3, s4, .val (.int i5), .val (.int i6), s7, .val (.int i8), .val (.int i9), .val (.int i10), .val (.int i11), s12, s13, .val (.ref o14), .val (.ref o14), .val (.ref o14), .val (.ref o17), s18, s19] [])) target := by
  obtain ⟨T1, h1, b, ka, X1, e1, E1, gb, V1, st1⟩ := own_c1 s0 s1 s2 s3 s4 (.val (.int i5)) (.val (.int i6)) s7 (.val (.int i8)) (.val (.int i9)) (.val (.int i10)) (.val (.int i11)) s12 s13 (.val (.ref o14)) (.val (.ref o14)) (.val (.ref o14)) (.val (.ref o17)) s18 s19 X0 hx hZ hw hml hown e0 n0 Z0 N0 hby hs18 hs19 hcs hsl
  have gn : n0 ≤ b := by rw [gb]; exact Z0
  have z1 : n0 ≤ h1.size := Nat.le_trans Z0 E1.1
  obtain ⟨T2, h2, L2, X2, e2, N2, K2, V2, st2⟩ := own_c2n s0 s1 s2 s3 s4 i5 (.val (.int i6)) s7 (.val (.int i8)) (.val (.int i9)) (.val (.int i10)) (.val (.int i11)) s12 s13 (.val (.ref o14)) (.val (.ref o14)) (.val (.ref o14)) (.val (.ref o17)) (.val (.ref b)) (.val (.int 0)) b (kk := 0) X1 hx hZ hw hml hown e1 n0 z1 N0 hby gn V1 (by simp) (by decide) h5
  have PP2 : Keep h1 h2 [b] := K2
  have z2 : n0 ≤ h2.size := Nat.le_trans z1 PP2.1
  obtain ⟨T3, h3, L3, X3, e3, N3, K3, V3, st3⟩ := own_c3 s0 s1 s2 s3 s4 (.val (.int i5)) (.val (.int i6)) s7 (.val (.int i8)) (.val (.int i9)) i10 i11 s12 s13 (.val (.ref o14)) (.val (.ref o14)) (.val (.ref o14)) (.val (.ref o17)) b (0 : Int32) (kk := 0) X2 hx hZ hw hml hown e2 n0 z2 N2 hby gn V2 (by simp) (by decide) (by decide)
  have PP3 : Keep h1 h3 [b] := own_tr PP2 K3 (by simp)
  have z3 : n0 ≤ h3.size := Nat.le_trans z1 PP3.1
  obtain ⟨T4, h4, L4, X4, e4, N4, K4, V4, st4⟩ := own_c4n s0 s1 s2 s3 s4 (.val (.int i5)) i6 s7 (.val (.int i8)) (.val (.int i9)) (.val (.int i10)) (.val (.int i11)) s12 s13 (.val (.ref o14)) (.val (.ref o14)) (.val (.ref o14)) (.val (.ref o17)) b (0 : Int32) (kk := 0) X3 hx hZ hw hml hown e3 n0 z3 N3 hby gn V3 (by simp) (by decide) (by decide) h6
  have PP4 : Keep h1 h4 [b] := own_tr PP3 K4 (by simp)
  have z4 : n0 ≤ h4.size := Nat.le_trans z1 PP4.1
  obtain ⟨T5, h5, L5, X5, e5, N5, K5, V5, st5⟩ := own_c5n s0 s1 s2 s3 s4 i5 (.val (.int i6)) s7 (.val (.int i8)) (.val (.int i9)) (.val (.int i10)) (.val (.int i11)) s12 s13 (.val (.ref o14)) (.val (.ref o14)) (.val (.ref o14)) (.val (.ref o17)) (.val (.ref b)) (.val (.int ((0 : Int32) + (5 : Int32)))) b (kk := 5) X4 hx hZ hw hml hown e4 n0 z4 N4 hby gn V4 (by simp) (by decide) h5
  have PP5 : Keep h1 h5 [b] := own_tr PP4 K5 (by simp)
  have z5 : n0 ≤ h5.size := Nat.le_trans z1 PP5.1
  obtain ⟨T6, h6, L6, X6, e6, N6, K6, V6, st6⟩ := own_c6 s0 s1 s2 s3 s4 (.val (.int i5)) (.val (.int i6)) s7 (.val (.int i8)) (.val (.int i9)) (.val (.int i10)) (.val (.int i11)) s12 s13 (.val (.ref o14)) (.val (.ref o14)) (.val (.ref o14)) (.val (.ref o17)) b ((0 : Int32) + (5 : Int32)) (kk := 5) X5 hx hZ hw hml hown e5 n0 z5 N5 hby gn V5 (by simp) (by decide) (by decide)
  have PP6 : Keep h1 h6 [b] := own_tr PP5 K6 (by simp)
  have z6 : n0 ≤ h6.size := Nat.le_trans z1 PP6.1
  have n17 : o17 ≠ b := by rw [gb]; exact Nat.ne_of_lt SS.1.lt
  have nt : t ≠ b := by rw [gb]; exact Nat.ne_of_lt SS.2.2.2.1.lt
  have SS8 := (SS.ext E1).keep PP6 (own_nin1 n17) (own_nin1 nt)
  have SC8 := own_sta (SC.ext E1) PP6 (allS V1.nostat all0)
  have SF8 := own_sta (SF.ext E1) PP6 (allS V1.nostat all0)
  have V8 : Arv Z h6 b ka .char (19 : Int32) (([60, (nar .char i10), (nar .char i11), 47, 62, 10] ++ [0, 0, 0, 0, 0, 0, 0, 0, 0, 0, 0, 0, 0] : List Int32).map Value.int) (.int 0) := own_Arv_eq V6 (by simp [List.replicate]; decide)
  have KK : own_K Z h6 o17 b (own_dl ++ [60, (nar .char i10), (nar .char i11), 47, 62, 10]) ([60, (nar .char i10), (nar .char i11), 47, 62, 10] ++ [0, 0, 0, 0, 0, 0, 0, 0, 0, 0, 0, 0, 0]) t kt n ka := ⟨SS8, hn, Nat.le_of_ble_eq_true rfl, hch, V8, rfl⟩
  obtain ⟨T20, L20, X20, e20, N20, st20⟩ := own_c7 s0 s1 s2 s3 s4 (.val (.int i5)) (.val (.int i6)) s7 (.val (.int i8)) (.val (.int i9)) (.val (.int i10)) (.val (.int i11)) s12 s13 o14 o14 o14 o17 (.val (.ref b)) (((0 : Int32) + (5 : Int32)) + (1 : Int32)) X6 hx hZ hw hml hown e6 n0 z6 N6 SC8 P3 hby SS8 (by rw [hn]; show Int32.ofNat 45 = _; decide) rfl rfl hcs hsl
  obtain ⟨T21, L21, X21, e21, N21, st21⟩ := own_last s0 s1 s2 s3 s4 (.val (.int i5)) (.val (.int i6)) s7 (.val (.int i8)) (.val (.int i9)) (.val (.int i10)) (.val (.int i11)) s12 s13 (.val (.ref o14)) (.val (.ref o14)) (.val (.ref o14)) (o17 := o17) (o18 := b) (i19 := (((0 : Int32) + (5 : Int32)) + (1 : Int32))) X20 hx hZ hw hml hown e20 n0 z6 N20 SC8 P3 SF8 rf KK hcs hsl hby (own_H own_dl [60, (nar .char i10), (nar .char i11), 47, 62, 10] [0, 0, 0, 0, 0, 0, 0, 0, 0, 0, 0, 0, 0] rfl 6 rfl (by decide) _ (by decide))
  exact ⟨T21, h6, L21, #[s0, s1, s2, s3, s4, .val (.int i5), .val (.int i6), s7, .val (.int i8), .val (.int i9), .val (.int i10), .val (.int i11), s12, s13, .val (.ref o14), .val (.ref o14), .val (.ref o14), .val (.ref o17), .val (.ref b), .val (.int (((0 : Int32) + (5 : Int32)) + (1 : Int32)))], X21, e21, N21, ((Keep.refl h0 []).ext E1).trans PP6 (allS (Or.inr (Nat.le_of_eq gb.symm)) all0), fun target k => st1 target (st2 target (st3 target (st4 target (st5 target (st6 target (st20 target (st21 target (k))))))))⟩
set_option maxRecDepth 65536 in
set_option maxHeartbeats 4000000 in
theorem own_rest_01 {p : Program} {l : Launch} {e : Env} {s : State} {m : MethodId} {args : Array Value} {below : List Frame} {meth : Method} {c : Code} {T0 : State} {locs : List Loc} {cells slots : Nat} {Z : State} {a0 : Array Value} {h0 : Heap} (s0 s1 s2 s3 s4 : Slot) (i5 i6 : Int32) (s7 : Slot) (i8 i9 i10 i11 : Int32) (s12 s13 : Slot) (o14 o17 : Addr) (s18 s19 : Slot) {G1 : Int32} {fm : Value} {t : Addr} {kt : ClassId} {n : Int32} (X0 : Stand p l e room_1 s m args below meth c T0 locs cells slots) (hx : p.tables.exec = Jvm.exec) (hZ : Z.Warmed39 s.vm) (hw : HW a0 Z) (hml : c.maxLocals = 20) (hown : s.vm.findClass "org/athenaeum/xml/XmlWriterEndPinLaw" = some m.cls) (e0 : T0.heap = h0) (n0 : Nat) (Z0 : n0 ≤ h0.size) (N0 : Fr n0 locs) (SC : Sta Z h0 "java/lang/String" "COMPACT_STRINGS" "Z" (.int G1)) (P3 : ¬ (G1 = (0 : Int32))) (SF : Sta Z h0 "jdk/internal/util/Preconditions" "SIOOBE_FORMATTER" "Ljava/util/function/BiFunction;" fm) (rf : fm.isRef = true) (hby : c.code = code) (hs18 : One s18) (hs19 : One s19) (hcs : cells + 1 ≤ room_1.cells) (hsl : slots + 19 ≤ room_1.slots) (SS : own_S Z h0 o17 t kt n (own_by (own_dl ++ [60, (nar .char i10), (nar .char i11), 62, 60, 47, (nar .char i10), (nar .char i11), 62, 10]))) (hn : n = Int32.ofNat (own_dl ++ [60, (nar .char i10), (nar .char i11), 62, 60, 47, (nar .char i10), (nar .char i11), 62, 10] : List Int32).length) (hch : ∀ c ∈ (own_dl ++ [60, (nar .char i10), (nar .char i11), 62, 60, 47, (nar .char i10), (nar .char i11), 62, 10] : List Int32), ¬ c < 0 ∧ ¬ (255 : Int32) < c) (h5 : i5 = (0 : Int32)) (h6 : ¬ (i6 = (0 : Int32))) :
    ∃ (T' : State) (h' : Heap) (locs' : List Loc) (Ls : Array Slot), Stand p l e room_1 s m args below meth c T' locs' (cells + 1) (slots + 19) ∧ T'.heap = h' ∧ Fr n0 locs' ∧ Keep h0 h' [] ∧
      ∀ target, Steps p.tables e below (T'.setTop (mkF m 717 Ls [(.int 1)])) target → Steps p.tables e below (T0.setTop (mkF m 194 #[s0, s1, s2, s3, s4, .val (.int i5), .val (.int i6), s7, .val (.int i8), .val (.int i9), .val (.int i10), .val (.int i11), s12, s13, .val (.ref o14), .val (.ref o14), .val (.ref o14), .val (.ref o17), s18, s19] [])) target := by
  obtain ⟨T1, h1, b, ka, X1, e1, E1, gb, V1, st1⟩ := own_c1 s0 s1 s2 s3 s4 (.val (.int i5)) (.val (.int i6)) s7 (.val (.int i8)) (.val (.int i9)) (.val (.int i10)) (.val (.int i11)) s12 s13 (.val (.ref o14)) (.val (.ref o14)) (.val (.ref o14)) (.val (.ref o17)) s18 s19 X0 hx hZ hw hml hown e0 n0 Z0 N0 hby hs18 hs19 hcs hsl
  have gn : n0 ≤ b := by rw [gb]; exact Z0
  have z1 : n0 ≤ h1.size := Nat.le_trans Z0 E1.1
  obtain ⟨T2, h2, L2, X2, e2, N2, K2, V2, st2⟩ := own_c2n s0 s1 s2 s3 s4 i5 (.val (.int i6)) s7 (.val (.int i8)) (.val (.int i9)) (.val (.int i10)) (.val (.int i11)) s12 s13 (.val (.ref o14)) (.val (.ref o14)) (.val (.ref o14)) (.val (.ref o17)) (.val (.ref b)) (.val (.int 0)) b (kk := 0) X1 hx hZ hw hml hown e1 n0 z1 N0 hby gn V1 (by simp) (by decide) h5
  have PP2 : Keep h1 h2 [b] := K2
  have z2 : n0 ≤ h2.size := Nat.le_trans z1 PP2.1
  obtain ⟨T3, h3, L3, X3, e3, N3, K3, V3, st3⟩ := own_c3 s0 s1 s2 s3 s4 (.val (.int i5)) (.val (.int i6)) s7 (.val (.int i8)) (.val (.int i9)) i10 i11 s12 s13 (.val (.ref o14)) (.val (.ref o14)) (.val (.ref o14)) (.val (.ref o17)) b (0 : Int32) (kk := 0) X2 hx hZ hw hml hown e2 n0 z2 N2 hby gn V2 (by simp) (by decide) (by decide)
  have PP3 : Keep h1 h3 [b] := own_tr PP2 K3 (by simp)
  have z3 : n0 ≤ h3.size := Nat.le_trans z1 PP3.1
  obtain ⟨T4, h4, L4, X4, e4, N4, K4, V4, st4⟩ := own_c4o s0 s1 s2 s3 s4 (.val (.int i5)) i6 s7 (.val (.int i8)) (.val (.int i9)) i10 i11 s12 s13 (.val (.ref o14)) (.val (.ref o14)) (.val (.ref o14)) (.val (.ref o17)) b (0 : Int32) (kk := 0) X3 hx hZ hw hml hown e3 n0 z3 N3 hby gn V3 (by simp) (by decide) (by decide) h6
  have PP4 : Keep h1 h4 [b] := own_tr PP3 K4 (by simp)
  have z4 : n0 ≤ h4.size := Nat.le_trans z1 PP4.1
  obtain ⟨T5, h5, L5, X5, e5, N5, K5, V5, st5⟩ := own_c5n s0 s1 s2 s3 s4 i5 (.val (.int i6)) s7 (.val (.int i8)) (.val (.int i9)) (.val (.int i10)) (.val (.int i11)) s12 s13 (.val (.ref o14)) (.val (.ref o14)) (.val (.ref o14)) (.val (.ref o17)) (.val (.ref b)) (.val (.int ((0 : Int32) + (9 : Int32)))) b (kk := 9) X4 hx hZ hw hml hown e4 n0 z4 N4 hby gn V4 (by simp) (by decide) h5
  have PP5 : Keep h1 h5 [b] := own_tr PP4 K5 (by simp)
  have z5 : n0 ≤ h5.size := Nat.le_trans z1 PP5.1
  obtain ⟨T6, h6, L6, X6, e6, N6, K6, V6, st6⟩ := own_c6 s0 s1 s2 s3 s4 (.val (.int i5)) (.val (.int i6)) s7 (.val (.int i8)) (.val (.int i9)) (.val (.int i10)) (.val (.int i11)) s12 s13 (.val (.ref o14)) (.val (.ref o14)) (.val (.ref o14)) (.val (.ref o17)) b ((0 : Int32) + (9 : Int32)) (kk := 9) X5 hx hZ hw hml hown e5 n0 z5 N5 hby gn V5 (by simp) (by decide) (by decide)
  have PP6 : Keep h1 h6 [b] := own_tr PP5 K6 (by simp)
  have z6 : n0 ≤ h6.size := Nat.le_trans z1 PP6.1
  have n17 : o17 ≠ b := by rw [gb]; exact Nat.ne_of_lt SS.1.lt
  have nt : t ≠ b := by rw [gb]; exact Nat.ne_of_lt SS.2.2.2.1.lt
  have SS8 := (SS.ext E1).keep PP6 (own_nin1 n17) (own_nin1 nt)
  have SC8 := own_sta (SC.ext E1) PP6 (allS V1.nostat all0)
  have SF8 := own_sta (SF.ext E1) PP6 (allS V1.nostat all0)
  have V8 : Arv Z h6 b ka .char (19 : Int32) (([60, (nar .char i10), (nar .char i11), 62, 60, 47, (nar .char i10), (nar .char i11), 62, 10] ++ [0, 0, 0, 0, 0, 0, 0, 0, 0] : List Int32).map Value.int) (.int 0) := own_Arv_eq V6 (by simp [List.replicate]; decide)
  have KK : own_K Z h6 o17 b (own_dl ++ [60, (nar .char i10), (nar .char i11), 62, 60, 47, (nar .char i10), (nar .char i11), 62, 10]) ([60, (nar .char i10), (nar .char i11), 62, 60, 47, (nar .char i10), (nar .char i11), 62, 10] ++ [0, 0, 0, 0, 0, 0, 0, 0, 0]) t kt n ka := ⟨SS8, hn, Nat.le_of_ble_eq_true rfl, hch, V8, rfl⟩
  obtain ⟨T20, L20, X20, e20, N20, st20⟩ := own_c7 s0 s1 s2 s3 s4 (.val (.int i5)) (.val (.int i6)) s7 (.val (.int i8)) (.val (.int i9)) (.val (.int i10)) (.val (.int i11)) s12 s13 o14 o14 o14 o17 (.val (.ref b)) (((0 : Int32) + (9 : Int32)) + (1 : Int32)) X6 hx hZ hw hml hown e6 n0 z6 N6 SC8 P3 hby SS8 (by rw [hn]; show Int32.ofNat 49 = _; decide) rfl rfl hcs hsl
  obtain ⟨T21, L21, X21, e21, N21, st21⟩ := own_last s0 s1 s2 s3 s4 (.val (.int i5)) (.val (.int i6)) s7 (.val (.int i8)) (.val (.int i9)) (.val (.int i10)) (.val (.int i11)) s12 s13 (.val (.ref o14)) (.val (.ref o14)) (.val (.ref o14)) (o17 := o17) (o18 := b) (i19 := (((0 : Int32) + (9 : Int32)) + (1 : Int32))) X20 hx hZ hw hml hown e20 n0 z6 N20 SC8 P3 SF8 rf KK hcs hsl hby (own_H own_dl [60, (nar .char i10), (nar .char i11), 62, 60, 47, (nar .char i10), (nar .char i11), 62, 10] [0, 0, 0, 0, 0, 0, 0, 0, 0] rfl 10 rfl (by decide) _ (by decide))
  exact ⟨T21, h6, L21, #[s0, s1, s2, s3, s4, .val (.int i5), .val (.int i6), s7, .val (.int i8), .val (.int i9), .val (.int i10), .val (.int i11), s12, s13, .val (.ref o14), .val (.ref o14), .val (.ref o14), .val (.ref o17), .val (.ref b), .val (.int (((0 : Int32) + (9 : Int32)) + (1 : Int32)))], X21, e21, N21, ((Keep.refl h0 []).ext E1).trans PP6 (allS (Or.inr (Nat.le_of_eq gb.symm)) all0), fun target k => st1 target (st2 target (st3 target (st4 target (st5 target (st6 target (st20 target (st21 target (k))))))))⟩
set_option maxRecDepth 65536 in
set_option maxHeartbeats 4000000 in
theorem own_rest_10 {p : Program} {l : Launch} {e : Env} {s : State} {m : MethodId} {args : Array Value} {below : List Frame} {meth : Method} {c : Code} {T0 : State} {locs : List Loc} {cells slots : Nat} {Z : State} {a0 : Array Value} {h0 : Heap} (s0 s1 s2 s3 s4 : Slot) (i5 i6 : Int32) (s7 : Slot) (i8 i9 i10 i11 : Int32) (s12 s13 : Slot) (o14 o17 : Addr) (s18 s19 : Slot) {G1 : Int32} {fm : Value} {t : Addr} {kt : ClassId} {n : Int32} (X0 : Stand p l e room_1 s m args below meth c T0 locs cells slots) (hx : p.tables.exec = Jvm.exec) (hZ : Z.Warmed39 s.vm) (hw : HW a0 Z) (hml : c.maxLocals = 20) (hown : s.vm.findClass "org/athenaeum/xml/XmlWriterEndPinLaw" = some m.cls) (e0 : T0.heap = h0) (n0 : Nat) (Z0 : n0 ≤ h0.size) (N0 : Fr n0 locs) (SC : Sta Z h0 "java/lang/String" "COMPACT_STRINGS" "Z" (.int G1)) (P3 : ¬ (G1 = (0 : Int32))) (SF : Sta Z h0 "jdk/internal/util/Preconditions" "SIOOBE_FORMATTER" "Ljava/util/function/BiFunction;" fm) (rf : fm.isRef = true) (hby : c.code = code) (hs18 : One s18) (hs19 : One s19) (hcs : cells + 1 ≤ room_1.cells) (hsl : slots + 19 ≤ room_1.slots) (SS : own_S Z h0 o17 t kt n (own_by (own_dl ++ [60, (nar .char i8), (nar .char i9), 62, 60, (nar .char i10), (nar .char i11), 47, 62, 60, 47, (nar .char i8), (nar .char i9), 62, 10]))) (hn : n = Int32.ofNat (own_dl ++ [60, (nar .char i8), (nar .char i9), 62, 60, (nar .char i10), (nar .char i11), 47, 62, 60, 47, (nar .char i8), (nar .char i9), 62, 10] : List Int32).length) (hch : ∀ c ∈ (own_dl ++ [60, (nar .char i8), (nar .char i9), 62, 60, (nar .char i10), (nar .char i11), 47, 62, 60, 47, (nar .char i8), (nar .char i9), 62, 10] : List Int32), ¬ c < 0 ∧ ¬ (255 : Int32) < c) (h5 : ¬ (i5 = (0 : Int32))) (h6 : i6 = (0 : Int32)) :
    ∃ (T' : State) (h' : Heap) (locs' : List Loc) (Ls : Array Slot), Stand p l e room_1 s m args below meth c T' locs' (cells + 1) (slots + 19) ∧ T'.heap = h' ∧ Fr n0 locs' ∧ Keep h0 h' [] ∧
      ∀ target, Steps p.tables e below (T'.setTop (mkF m 717 Ls [(.int 1)])) target → Steps p.tables e below (T0.setTop (mkF m 194 #[s0, s1, s2, s3, s4, .val (.int i5), .val (.int i6), s7, .val (.int i8), .val (.int i9), .val (.int i10), .val (.int i11), s12, s13, .val (.ref o14), .val (.ref o14), .val (.ref o14), .val (.ref o17), s18, s19] [])) target := by
  obtain ⟨T1, h1, b, ka, X1, e1, E1, gb, V1, st1⟩ := own_c1 s0 s1 s2 s3 s4 (.val (.int i5)) (.val (.int i6)) s7 (.val (.int i8)) (.val (.int i9)) (.val (.int i10)) (.val (.int i11)) s12 s13 (.val (.ref o14)) (.val (.ref o14)) (.val (.ref o14)) (.val (.ref o17)) s18 s19 X0 hx hZ hw hml hown e0 n0 Z0 N0 hby hs18 hs19 hcs hsl
  have gn : n0 ≤ b := by rw [gb]; exact Z0
  have z1 : n0 ≤ h1.size := Nat.le_trans Z0 E1.1
  obtain ⟨T2, h2, L2, X2, e2, N2, K2, V2, st2⟩ := own_c2o s0 s1 s2 s3 s4 i5 (.val (.int i6)) s7 i8 i9 (.val (.int i10)) (.val (.int i11)) s12 s13 (.val (.ref o14)) (.val (.ref o14)) (.val (.ref o14)) (.val (.ref o17)) b (.val (.int 0)) (kk := 0) X1 hx hZ hw hml hown e1 n0 z1 N0 hby gn V1 (by simp) (by decide) (One.val rfl) h5
  have PP2 : Keep h1 h2 [b] := K2
  have z2 : n0 ≤ h2.size := Nat.le_trans z1 PP2.1
  obtain ⟨T3, h3, L3, X3, e3, N3, K3, V3, st3⟩ := own_c3 s0 s1 s2 s3 s4 (.val (.int i5)) (.val (.int i6)) s7 (.val (.int i8)) (.val (.int i9)) i10 i11 s12 s13 (.val (.ref o14)) (.val (.ref o14)) (.val (.ref o14)) (.val (.ref o17)) b (4 : Int32) (kk := 4) X2 hx hZ hw hml hown e2 n0 z2 N2 hby gn V2 (by simp) (by decide) (by decide)
  have PP3 : Keep h1 h3 [b] := own_tr PP2 K3 (by simp)
  have z3 : n0 ≤ h3.size := Nat.le_trans z1 PP3.1
  obtain ⟨T4, h4, L4, X4, e4, N4, K4, V4, st4⟩ := own_c4n s0 s1 s2 s3 s4 (.val (.int i5)) i6 s7 (.val (.int i8)) (.val (.int i9)) (.val (.int i10)) (.val (.int i11)) s12 s13 (.val (.ref o14)) (.val (.ref o14)) (.val (.ref o14)) (.val (.ref o17)) b (4 : Int32) (kk := 4) X3 hx hZ hw hml hown e3 n0 z3 N3 hby gn V3 (by simp) (by decide) (by decide) h6
  have PP4 : Keep h1 h4 [b] := own_tr PP3 K4 (by simp)
  have z4 : n0 ≤ h4.size := Nat.le_trans z1 PP4.1
  obtain ⟨T5, h5, L5, X5, e5, N5, K5, V5, st5⟩ := own_c5o s0 s1 s2 s3 s4 i5 (.val (.int i6)) s7 i8 i9 (.val (.int i10)) (.val (.int i11)) s12 s13 (.val (.ref o14)) (.val (.ref o14)) (.val (.ref o14)) (.val (.ref o17)) b ((4 : Int32) + (5 : Int32)) (kk := 9) X4 hx hZ hw hml hown e4 n0 z4 N4 hby gn V4 (by simp) (by decide) (by decide) h5
  have PP5 : Keep h1 h5 [b] := own_tr PP4 K5 (by simp)
  have z5 : n0 ≤ h5.size := Nat.le_trans z1 PP5.1
  obtain ⟨T6, h6, L6, X6, e6, N6, K6, V6, st6⟩ := own_c6 s0 s1 s2 s3 s4 (.val (.int i5)) (.val (.int i6)) s7 (.val (.int i8)) (.val (.int i9)) (.val (.int i10)) (.val (.int i11)) s12 s13 (.val (.ref o14)) (.val (.ref o14)) (.val (.ref o14)) (.val (.ref o17)) b (((4 : Int32) + (5 : Int32)) + (5 : Int32)) (kk := 14) X5 hx hZ hw hml hown e5 n0 z5 N5 hby gn V5 (by simp) (by decide) (by decide)
  have PP6 : Keep h1 h6 [b] := own_tr PP5 K6 (by simp)
  have z6 : n0 ≤ h6.size := Nat.le_trans z1 PP6.1
  have n17 : o17 ≠ b := by rw [gb]; exact Nat.ne_of_lt SS.1.lt
  have nt : t ≠ b := by rw [gb]; exact Nat.ne_of_lt SS.2.2.2.1.lt
  have SS8 := (SS.ext E1).keep PP6 (own_nin1 n17) (own_nin1 nt)
  have SC8 := own_sta (SC.ext E1) PP6 (allS V1.nostat all0)
  have SF8 := own_sta (SF.ext E1) PP6 (allS V1.nostat all0)
  have V8 : Arv Z h6 b ka .char (19 : Int32) (([60, (nar .char i8), (nar .char i9), 62, 60, (nar .char i10), (nar .char i11), 47, 62, 60, 47, (nar .char i8), (nar .char i9), 62, 10] ++ [0, 0, 0, 0] : List Int32).map Value.int) (.int 0) := own_Arv_eq V6 (by simp [List.replicate]; decide)
  have KK : own_K Z h6 o17 b (own_dl ++ [60, (nar .char i8), (nar .char i9), 62, 60, (nar .char i10), (nar .char i11), 47, 62, 60, 47, (nar .char i8), (nar .char i9), 62, 10]) ([60, (nar .char i8), (nar .char i9), 62, 60, (nar .char i10), (nar .char i11), 47, 62, 60, 47, (nar .char i8), (nar .char i9), 62, 10] ++ [0, 0, 0, 0]) t kt n ka := ⟨SS8, hn, Nat.le_of_ble_eq_true rfl, hch, V8, rfl⟩
  obtain ⟨T20, L20, X20, e20, N20, st20⟩ := own_c7 s0 s1 s2 s3 s4 (.val (.int i5)) (.val (.int i6)) s7 (.val (.int i8)) (.val (.int i9)) (.val (.int i10)) (.val (.int i11)) s12 s13 o14 o14 o14 o17 (.val (.ref b)) ((((4 : Int32) + (5 : Int32)) + (5 : Int32)) + (1 : Int32)) X6 hx hZ hw hml hown e6 n0 z6 N6 SC8 P3 hby SS8 (by rw [hn]; show Int32.ofNat 54 = _; decide) rfl rfl hcs hsl
  obtain ⟨T21, L21, X21, e21, N21, st21⟩ := own_last s0 s1 s2 s3 s4 (.val (.int i5)) (.val (.int i6)) s7 (.val (.int i8)) (.val (.int i9)) (.val (.int i10)) (.val (.int i11)) s12 s13 (.val (.ref o14)) (.val (.ref o14)) (.val (.ref o14)) (o17 := o17) (o18 := b) (i19 := ((((4 : Int32) + (5 : Int32)) + (5 : Int32)) + (1 : Int32))) X20 hx hZ hw hml hown e20 n0 z6 N20 SC8 P3 SF8 rf KK hcs hsl hby (own_H own_dl [60, (nar .char i8), (nar .char i9), 62, 60, (nar .char i10), (nar .char i11), 47, 62, 60, 47, (nar .char i8), (nar .char i9), 62, 10] [0, 0, 0, 0] rfl 15 rfl (by decide) _ (by decide))
  exact ⟨T21, h6, L21, #[s0, s1, s2, s3, s4, .val (.int i5), .val (.int i6), s7, .val (.int i8), .val (.int i9), .val (.int i10), .val (.int i11), s12, s13, .val (.ref o14), .val (.ref o14), .val (.ref o14), .val (.ref o17), .val (.ref b), .val (.int ((((4 : Int32) + (5 : Int32)) + (5 : Int32)) + (1 : Int32)))], X21, e21, N21, ((Keep.refl h0 []).ext E1).trans PP6 (allS (Or.inr (Nat.le_of_eq gb.symm)) all0), fun target k => st1 target (st2 target (st3 target (st4 target (st5 target (st6 target (st20 target (st21 target (k))))))))⟩
set_option maxRecDepth 65536 in
set_option maxHeartbeats 4000000 in
theorem own_rest_11 {p : Program} {l : Launch} {e : Env} {s : State} {m : MethodId} {args : Array Value} {below : List Frame} {meth : Method} {c : Code} {T0 : State} {locs : List Loc} {cells slots : Nat} {Z : State} {a0 : Array Value} {h0 : Heap} (s0 s1 s2 s3 s4 : Slot) (i5 i6 : Int32) (s7 : Slot) (i8 i9 i10 i11 : Int32) (s12 s13 : Slot) (o14 o17 : Addr) (s18 s19 : Slot) {G1 : Int32} {fm : Value} {t : Addr} {kt : ClassId} {n : Int32} (X0 : Stand p l e room_1 s m args below meth c T0 locs cells slots) (hx : p.tables.exec = Jvm.exec) (hZ : Z.Warmed39 s.vm) (hw : HW a0 Z) (hml : c.maxLocals = 20) (hown : s.vm.findClass "org/athenaeum/xml/XmlWriterEndPinLaw" = some m.cls) (e0 : T0.heap = h0) (n0 : Nat) (Z0 : n0 ≤ h0.size) (N0 : Fr n0 locs) (SC : Sta Z h0 "java/lang/String" "COMPACT_STRINGS" "Z" (.int G1)) (P3 : ¬ (G1 = (0 : Int32))) (SF : Sta Z h0 "jdk/internal/util/Preconditions" "SIOOBE_FORMATTER" "Ljava/util/function/BiFunction;" fm) (rf : fm.isRef = true) (hby : c.code = code) (hs18 : One s18) (hs19 : One s19) (hcs : cells + 1 ≤ room_1.cells) (hsl : slots + 19 ≤ room_1.slots) (SS : own_S Z h0 o17 t kt n (own_by (own_dl ++ [60, (nar .char i8), (nar .char i9), 62, 60, (nar .char i10), (nar .char i11), 62, 60, 47, (nar .char i10), (nar .char i11), 62, 60, 47, (nar .char i8), (nar .char i9), 62, 10]))) (hn : n = Int32.ofNat (own_dl ++ [60, (nar .char i8), (nar .char i9), 62, 60, (nar .char i10), (nar .char i11), 62, 60, 47, (nar .char i10), (nar .char i11), 62, 60, 47, (nar .char i8), (nar .char i9), 62, 10] : List Int32).length) (hch : ∀ c ∈ (own_dl ++ [60, (nar .char i8), (nar .char i9), 62, 60, (nar .char i10), (nar .char i11), 62, 60, 47, (nar .char i10), (nar .char i11), 62, 60, 47, (nar .char i8), (nar .char i9), 62, 10] : List Int32), ¬ c < 0 ∧ ¬ (255 : Int32) < c) (h5 : ¬ (i5 = (0 : Int32))) (h6 : ¬ (i6 = (0 : Int32))) :
    ∃ (T' : State) (h' : Heap) (locs' : List Loc) (Ls : Array Slot), Stand p l e room_1 s m args below meth c T' locs' (cells + 1) (slots + 19) ∧ T'.heap = h' ∧ Fr n0 locs' ∧ Keep h0 h' [] ∧
      ∀ target, Steps p.tables e below (T'.setTop (mkF m 717 Ls [(.int 1)])) target → Steps p.tables e below (T0.setTop (mkF m 194 #[s0, s1, s2, s3, s4, .val (.int i5), .val (.int i6), s7, .val (.int i8), .val (.int i9), .val (.int i10), .val (.int i11), s12, s13, .val (.ref o14), .val (.ref o14), .val (.ref o14), .val (.ref o17), s18, s19] [])) target := by
  obtain ⟨T1, h1, b, ka, X1, e1, E1, gb, V1, st1⟩ := own_c1 s0 s1 s2 s3 s4 (.val (.int i5)) (.val (.int i6)) s7 (.val (.int i8)) (.val (.int i9)) (.val (.int i10)) (.val (.int i11)) s12 s13 (.val (.ref o14)) (.val (.ref o14)) (.val (.ref o14)) (.val (.ref o17)) s18 s19 X0 hx hZ hw hml hown e0 n0 Z0 N0 hby hs18 hs19 hcs hsl
  have gn : n0 ≤ b := by rw [gb]; exact Z0
  have z1 : n0 ≤ h1.size := Nat.le_trans Z0 E1.1
  obtain ⟨T2, h2, L2, X2, e2, N2, K2, V2, st2⟩ := own_c2o s0 s1 s2 s3 s4 i5 (.val (.int i6)) s7 i8 i9 (.val (.int i10)) (.val (.int i11)) s12 s13 (.val (.ref o14)) (.val (.ref o14)) (.val (.ref o14)) (.val (.ref o17)) b (.val (.int 0)) (kk := 0) X1 hx hZ hw hml hown e1 n0 z1 N0 hby gn V1 (by simp) (by decide) (One.val rfl) h5
  have PP2 : Keep h1 h2 [b] := K2
  have z2 : n0 ≤ h2.size := Nat.le_trans z1 PP2.1
  obtain ⟨T3, h3, L3, X3, e3, N3, K3, V3, st3⟩ := own_c3 s0 s1 s2 s3 s4 (.val (.int i5)) (.val (.int i6)) s7 (.val (.int i8)) (.val (.int i9)) i10 i11 s12 s13 (.val (.ref o14)) (.val (.ref o14)) (.val (.ref o14)) (.val (.ref o17)) b (4 : Int32) (kk := 4) X2 hx hZ hw hml hown e2 n0 z2 N2 hby gn V2 (by simp) (by decide) (by decide)
  have PP3 : Keep h1 h3 [b] := own_tr PP2 K3 (by simp)
  have z3 : n0 ≤ h3.size := Nat.le_trans z1 PP3.1
  obtain ⟨T4, h4, L4, X4, e4, N4, K4, V4, st4⟩ := own_c4o s0 s1 s2 s3 s4 (.val (.int i5)) i6 s7 (.val (.int i8)) (.val (.int i9)) i10 i11 s12 s13 (.val (.ref o14)) (.val (.ref o14)) (.val (.ref o14)) (.val (.ref o17)) b (4 : Int32) (kk := 4) X3 hx hZ hw hml hown e3 n0 z3 N3 hby gn V3 (by simp) (by decide) (by decide) h6
  have PP4 : Keep h1 h4 [b] := own_tr PP3 K4 (by simp)
  have z4 : n0 ≤ h4.size := Nat.le_trans z1 PP4.1
  obtain ⟨T5, h5, L5, X5, e5, N5, K5, V5, st5⟩ := own_c5o s0 s1 s2 s3 s4 i5 (.val (.int i6)) s7 i8 i9 (.val (.int i10)) (.val (.int i11)) s12 s13 (.val (.ref o14)) (.val (.ref o14)) (.val (.ref o14)) (.val (.ref o17)) b ((4 : Int32) + (9 : Int32)) (kk := 13) X4 hx hZ hw hml hown e4 n0 z4 N4 hby gn V4 (by simp) (by decide) (by decide) h5
  have PP5 : Keep h1 h5 [b] := own_tr PP4 K5 (by simp)
  have z5 : n0 ≤ h5.size := Nat.le_trans z1 PP5.1
  obtain ⟨T6, h6, L6, X6, e6, N6, K6, V6, st6⟩ := own_c6 s0 s1 s2 s3 s4 (.val (.int i5)) (.val (.int i6)) s7 (.val (.int i8)) (.val (.int i9)) (.val (.int i10)) (.val (.int i11)) s12 s13 (.val (.ref o14)) (.val (.ref o14)) (.val (.ref o14)) (.val (.ref o17)) b (((4 : Int32) + (9 : Int32)) + (5 : Int32)) (kk := 18) X5 hx hZ hw hml hown e5 n0 z5 N5 hby gn V5 (by simp) (by decide) (by decide)
  have PP6 : Keep h1 h6 [b] := own_tr PP5 K6 (by simp)
  have z6 : n0 ≤ h6.size := Nat.le_trans z1 PP6.1
  have n17 : o17 ≠ b := by rw [gb]; exact Nat.ne_of_lt SS.1.lt
  have nt : t ≠ b := by rw [gb]; exact Nat.ne_of_lt SS.2.2.2.1.lt
  have SS8 := (SS.ext E1).keep PP6 (own_nin1 n17) (own_nin1 nt)
  have SC8 := own_sta (SC.ext E1) PP6 (allS V1.nostat all0)
  have SF8 := own_sta (SF.ext E1) PP6 (allS V1.nostat all0)
  have V8 : Arv Z h6 b ka .char (19 : Int32) (([60, (nar .char i8), (nar .char i9), 62, 60, (nar .char i10), (nar .char i11), 62, 60, 47, (nar .char i10), (nar .char i11), 62, 60, 47, (nar .char i8), (nar .char i9), 62, 10] ++ [] : List Int32).map Value.int) (.int 0) := own_Arv_eq V6 (by simp [List.replicate]; decide)
  have KK : own_K Z h6 o17 b (own_dl ++ [60, (nar .char i8), (nar .char i9), 62, 60, (nar .char i10), (nar .char i11), 62, 60, 47, (nar .char i10), (nar .char i11), 62, 60, 47, (nar .char i8), (nar .char i9), 62, 10]) ([60, (nar .char i8), (nar .char i9), 62, 60, (nar .char i10), (nar .char i11), 62, 60, 47, (nar .char i10), (nar .char i11), 62, 60, 47, (nar .char i8), (nar .char i9), 62, 10] ++ []) t kt n ka := ⟨SS8, hn, Nat.le_of_ble_eq_true rfl, hch, V8, rfl⟩
  obtain ⟨T20, L20, X20, e20, N20, st20⟩ := own_c7 s0 s1 s2 s3 s4 (.val (.int i5)) (.val (.int i6)) s7 (.val (.int i8)) (.val (.int i9)) (.val (.int i10)) (.val (.int i11)) s12 s13 o14 o14 o14 o17 (.val (.ref b)) ((((4 : Int32) + (9 : Int32)) + (5 : Int32)) + (1 : Int32)) X6 hx hZ hw hml hown e6 n0 z6 N6 SC8 P3 hby SS8 (by rw [hn]; show Int32.ofNat 58 = _; decide) rfl rfl hcs hsl
  obtain ⟨T21, L21, X21, e21, N21, st21⟩ := own_last s0 s1 s2 s3 s4 (.val (.int i5)) (.val (.int i6)) s7 (.val (.int i8)) (.val (.int i9)) (.val (.int i10)) (.val (.int i11)) s12 s13 (.val (.ref o14)) (.val (.ref o14)) (.val (.ref o14)) (o17 := o17) (o18 := b) (i19 := ((((4 : Int32) + (9 : Int32)) + (5 : Int32)) + (1 : Int32))) X20 hx hZ hw hml hown e20 n0 z6 N20 SC8 P3 SF8 rf KK hcs hsl hby (own_H own_dl [60, (nar .char i8), (nar .char i9), 62, 60, (nar .char i10), (nar .char i11), 62, 60, 47, (nar .char i10), (nar .char i11), 62, 60, 47, (nar .char i8), (nar .char i9), 62, 10] [] rfl 19 rfl (by decide) _ (by decide))
  exact ⟨T21, h6, L21, #[s0, s1, s2, s3, s4, .val (.int i5), .val (.int i6), s7, .val (.int i8), .val (.int i9), .val (.int i10), .val (.int i11), s12, s13, .val (.ref o14), .val (.ref o14), .val (.ref o14), .val (.ref o17), .val (.ref b), .val (.int ((((4 : Int32) + (9 : Int32)) + (5 : Int32)) + (1 : Int32)))], X21, e21, N21, ((Keep.refl h0 []).ext E1).trans PP6 (allS (Or.inr (Nat.le_of_eq gb.symm)) all0), fun target k => st1 target (st2 target (st3 target (st4 target (st5 target (st6 target (st20 target (st21 target (k))))))))⟩
theorem pd_0_15 : parseMethodDescriptor "(Ljava/lang/String;)Lorg/athenaeum/xml/XmlWriter;" = some ⟨[(.object "java/lang/String")], some (.object "org/athenaeum/xml/XmlWriter")⟩ := by decide +kernel
theorem os0_164 {s0 : Slot} {s1 : Slot} {s2 : Slot} {s3 : Slot} {s4 : Slot} {z5 : Value} {z6 : Value} {s7 : Slot} {s8 : Slot} {s9 : Slot} {s10 : Slot} {s11 : Slot} {s12 : Slot} {z13 : Value} {z14 : Value} {s15 : Slot} {s16 : Slot} {s17 : Slot} {s18 : Slot} {s19 : Slot} {v : Addr} (h : One s15) : storeLocals #[s0, s1, s2, s3, s4, .val z5, .val z6, s7, s8, s9, s10, s11, s12, .val z13, .val z14, s15, s16, s17, s18, s19] 15 (.ref v) = some #[s0, s1, s2, s3, s4, .val z5, .val z6, s7, s8, s9, s10, s11, s12, .val z13, .val z14, .val (.ref v), s16, s17, s18, s19] := by
  rcases h with rfl | ⟨w, rfl, hw⟩
  · rfl
  · cases w <;> first | rfl | (simp [Value.category] at hw)
theorem os0_168 {s0 : Slot} {s1 : Slot} {s2 : Slot} {s3 : Slot} {s4 : Slot} {z5 : Value} {z6 : Value} {s7 : Slot} {s8 : Slot} {s9 : Slot} {s10 : Slot} {s11 : Slot} {s12 : Slot} {z13 : Value} {z14 : Value} {z15 : Value} {s16 : Slot} {s17 : Slot} {s18 : Slot} {s19 : Slot} {v : Addr} (h : One s16) : storeLocals #[s0, s1, s2, s3, s4, .val z5, .val z6, s7, s8, s9, s10, s11, s12, .val z13, .val z14, .val z15, s16, s17, s18, s19] 16 (.ref v) = some #[s0, s1, s2, s3, s4, .val z5, .val z6, s7, s8, s9, s10, s11, s12, .val z13, .val z14, .val z15, .val (.ref v), s17, s18, s19] := by
  rcases h with rfl | ⟨w, rfl, hw⟩
  · rfl
  · cases w <;> first | rfl | (simp [Value.category] at hw)
theorem os0_192 {s0 : Slot} {s1 : Slot} {s2 : Slot} {s3 : Slot} {s4 : Slot} {z5 : Value} {z6 : Value} {s7 : Slot} {s8 : Slot} {s9 : Slot} {s10 : Slot} {s11 : Slot} {s12 : Slot} {z13 : Value} {z14 : Value} {z15 : Value} {z16 : Value} {s17 : Slot} {s18 : Slot} {s19 : Slot} {v : Addr} (h : One s17) : storeLocals #[s0, s1, s2, s3, s4, .val z5, .val z6, s7, s8, s9, s10, s11, s12, .val z13, .val z14, .val z15, .val z16, s17, s18, s19] 17 (.ref v) = some #[s0, s1, s2, s3, s4, .val z5, .val z6, s7, s8, s9, s10, s11, s12, .val z13, .val z14, .val z15, .val z16, .val (.ref v), s18, s19] := by
  rcases h with rfl | ⟨w, rfl, hw⟩
  · rfl
  · cases w <;> first | rfl | (simp [Value.category] at hw)
set_option maxRecDepth 65536 in
set_option maxHeartbeats 40000000 in
theorem own_b000 {p : Program} {l : Launch} {e : Env} {s : State} {vm0 : Vm} {k0 : Nat} {m : MethodId} {args : Array Value} {below : List Frame} {meth : Method} {c : Code} {T0 : State} {locs : List Loc} {cells slots : Nat} {Z : State} {a0 : Array Value} {h0 : Heap} (s0 : Slot) (s1 : Slot) (s2 : Slot) (s3 : Slot) (s4 : Slot) (i5 : Int32) (i6 : Int32) (s7 : Slot) (s8 : Slot) (s9 : Slot) (s10 : Slot) (s11 : Slot) (s12 : Slot) (o13 : Addr) (o14 : Addr) (s15 : Slot) (s16 : Slot) (s17 : Slot) (s18 : Slot) (s19 : Slot) (o12 : Addr) (ob oq va : Addr) (kb : ClassId) (ea : Addr) (ke : ClassId) (ta tb : Addr) (ksa ksb : ClassId) (ua ub : List Value) (G1 : Int32) (fm : Value) (X0 : Stand p l e room_1 (s.setVm vm0) m args below meth c T0 locs cells slots) (hx : p.tables.exec = Jvm.exec) (hZ : Z.Warmed39 vm0) (hw : HW a0 Z) (hml : c.maxLocals = 20) (hown : vm0.findClass "org/athenaeum/xml/XmlWriterEndPinLaw" = some m.cls) (e0 : T0.heap = h0) (n0 : Nat) (Z0 : n0 ≤ h0.size) (N0 : Fr n0 locs) (hS : s.Since vm0 k0) (hk0 : k0 ≤ h0.size) (CH0 : CHv Z own_EL vm0 h0) (SC : Sta Z h0 "java/lang/String" "COMPACT_STRINGS" "Z" (.int G1)) (P3 : ¬ (G1 = (0 : Int32))) (SF : Sta Z h0 "jdk/internal/util/Preconditions" "SIOOBE_FORMATTER" "Ljava/util/function/BiFunction;" fm) (hby : c.code = code) (hs15 : One s15) (hs16 : One s16) (hs17 : One s17) (Y0 : own_X Z h0 o14 ob oq va kb (55 : Int32) (39 : Int32) own_decl ea ke (0 : Int32) (List.replicate 17 .null) (0 : Int32)) (SA : own_S Z h0 o12 ta ksa (2 : Int32) ua) (SB : own_S Z h0 o13 tb ksb (2 : Int32) ub) (g_w : n0 ≤ o14) (g_b : n0 ≤ ob) (g_va : n0 ≤ va) (g_q : n0 ≤ oq) (g_ea : n0 ≤ ea) (hcs : cells + 20 ≤ room_1.cells) (hsl : slots + 700 ≤ room_1.slots) (hc127 : i5 = (0 : Int32)) (hc148 : i6 = (0 : Int32)) (hc172 : i5 = (0 : Int32)) :
    ∃ (vm' : Vm) (k' : Nat) (T' : State) (h' : Heap) (locs' : List Loc) (cells' slots' : Nat) (d t : Addr) (kt : ClassId), Stand p l e room_1 (s.setVm vm') m args below meth c T' locs' cells' slots' ∧ T'.heap = h' ∧ Fr n0 locs' ∧ s.Since vm' k' ∧ k' ≤ h'.size ∧ Z.Warmed39 vm' ∧ vm'.findClass "org/athenaeum/xml/XmlWriterEndPinLaw" = some m.cls ∧ n0 ≤ h'.size ∧ own_S Z h' d t kt (((((39 : Int32) + (1 : Int32)) + (2 : Int32)) + (2 : Int32)) + (1 : Int32)) ((((own_decl ++ [.int ((60 : Int32).toInt8.toInt32)]) ++ ub) ++ own_sl) ++ [.int ((10 : Int32).toInt8.toInt32)]) ∧ Sta Z h' "java/lang/String" "COMPACT_STRINGS" "Z" (.int G1) ∧ Sta Z h' "jdk/internal/util/Preconditions" "SIOOBE_FORMATTER" "Ljava/util/function/BiFunction;" fm ∧ cells' ≤ cells + 20 ∧ slots' ≤ slots + 700 ∧
      ∀ target, Steps p.tables e below (T'.setTop (mkF m 194 #[s0, s1, s2, s3, s4, .val (.int i5), .val (.int i6), s7, s8, s9, s10, s11, s12, .val (.ref o13), .val (.ref o14), .val (.ref o14), .val (.ref o14), .val (.ref d), s18, s19] [])) target → Steps p.tables e below (T0.setTop (mkF m 125 #[s0, s1, s2, s3, s4, .val (.int i5), .val (.int i6), s7, s8, s9, s10, s11, s12, .val (.ref o13), .val (.ref o14), s15, s16, s17, s18, s19] [])) target := by
  have iw : own_I Z a0 := ⟨(ww hw 1 rfl), (ww hw 31 rfl), (ww hw 38 rfl), (ww hw 113 rfl)⟩
  have hEL := own_EW hw
  have C0 : CHr Z own_EL vm0 h0 vm0 h0 := CHr.refl CH0
  have hZ : Z.Warmed39 (s.setVm vm0).vm := hZ
  have hown : (s.setVm vm0).vm.findClass "org/athenaeum/xml/XmlWriterEndPinLaw" = some m.cls := hown
  obtain ⟨cq6, kq6, q6a, q6b, q6c⟩ := isOf hZ e0 Y0.1.1
  let aa1 : Array Slot := #[s0, s1, s2, s3, s4, .val (.int i5), .val (.int i6), s7, s8, s9, s10, s11, s12, .val (.ref o13), .val (.ref o14), s15, s16, s17, s18, s19]
  obtain ⟨_, _, ⟨T6, L6, k6, n6⟩, -, X6, ⟨Lc6, hQ6, l6, y6, z6⟩, st6⟩ := X0.virtualBack hx (y := ym41) (z := ym41) hown (mvT hZ (ww hw 131 rfl)) (mvT hZ (ww hw 132 rfl)) (notFace_of_selects (args := #[]) (mvT hZ (ww hw 134 rfl))) (mvT hZ (ww hw 134 rfl)) (mvT hZ (ww hw 133 rfl)) (by decide) (backOf (W := 0) (rm21a l Z a0 hw [] o14 o13 ob oq va kb (55 : Int32) _ _ ea ke _ G1 tb ksb (2 : Int32) ub h0 n0 Z0 SC P3 Y0 SB (by unfold own_R; decide) (by unfold own_R; decide) (by decide) (by decide) g_b g_va g_q g_ea Y0.1.1 Y0.1.2.1 Y0.2.1.1 Y0.1.2.2.1 Y0.2.2.1.1 Y0.1.2.2.2 g_w) hZ (ww hw 135 rfl) (ww hw 32 rfl) (by decide) (by decide)) q6a q6c (g := (mkF m 142 aa1 [(.ref o13), (.ref o14)])) rfl (by rw [hml]; rfl) (Steps.refl _) (argsL := [(.ref o13)]) (rest := []) (lenOf pd_0_15 rfl) rfl (wz rfl) (hb hby at_142) (fun _ _ => ⟨rfl, e0, (by show cells + 0 ≤ room_1.cells; omega), (by show slots + 0 ≤ room_1.slots; omega)⟩)
  dsimp only [Pt.U, Pt.locs, Pt.cells, Pt.slots] at X6 l6 y6 z6 st6 hQ6
  subst l6 y6 z6
  obtain ⟨rfl, N6q, K6, Y6⟩ := hQ6
  have sc6 := own_staX SC Y0 K6 (by simp)
  have sf6 := own_staX SF Y0 K6 (by simp)
  have sa6 := SA.kX Y0 iw (by decide) (by decide) K6 (by simp)
  have sb6 := SB.kX Y0 iw (by decide) (by decide) K6 (by simp)
  have zz6 : n0 ≤ T6.heap.size := Nat.le_trans Z0 K6.1
  have D6 := C0.trans (CHr.keep K6 (own_safeX hw Y0 hZ (by unfold own_len; decide) (by simp)) C0.1)
  have N6 := Fr.app N0 N6q
  obtain ⟨cq7, kq7, q7a, q7b, q7c⟩ := isOf hZ rfl Y6.1.1
  obtain ⟨_, _, ⟨T7, L7, k7, n7⟩, -, X7, S7, G7, ⟨Lc7, hQ7, l7, y7, z7, C7⟩, st7⟩ := X6.virtualBackS hx (y := ym46) (z := ym46) hown (mvT hZ (ww hw 183 rfl)) (mvT hZ (ww hw 184 rfl)) (notFace_of_selects (args := #[]) (mvT hZ (ww hw 186 rfl))) (mvT hZ (ww hw 186 rfl)) (mvT hZ (ww hw 185 rfl)) (by decide) (backOfSH (s := s) (vm0 := vm0) (W := 0) (rm30a l Z a0 hw [] o14 oq ob va kb (55 : Int32) _ _ ea ke _ o13 tb ksb ub G1 T6.heap n0 zz6 sc6 P3 Y6 sb6 rfl (by decide) (by unfold own_len; decide) g_b g_va g_q g_ea (by unfold own_R; decide) Y6.1.2.2.1 Y6.2.2.1.1 Y6.1.2.2.2 Y6.1.2.1 Y6.2.1.1 Y6.1.1 g_w (by decide)) hZ (ww hw 187 rfl) (ww hw 32 rfl) (by decide) (by decide) hEL D6.1) q7a q7c (g := (mkF m 161 aa1 [(.ref o14)])) rfl (by rw [hml]; rfl) (Steps.refl _) (argsL := []) (rest := []) (lenOf pd_36_22 rfl) rfl (wz rfl) (hb hby at_161) (fun _ _ => ⟨rfl, rfl, (by show k6 + 2 ≤ room_1.cells; omega), (by show n6 + 12 ≤ room_1.slots; omega)⟩)
  dsimp only [Pt.U, Pt.locs, Pt.cells, Pt.slots] at X7 S7 G7 C7 l7 y7 z7 st7 hQ7
  subst l7 y7 z7
  obtain ⟨X7, S7, hZ7, hown7⟩ := rebS hS (Nat.le_trans hk0 K6.1) X7 S7 G7 hZ hown
  obtain ⟨rfl, N7q, K7, Y7⟩ := hQ7
  have sc7 := own_staX sc6 Y6 K7 (by simp)
  have sf7 := own_staX sf6 Y6 K7 (by simp)
  have sa7 := sa6.kX Y6 iw (by decide) (by decide) K7 (by simp)
  have sb7 := sb6.kX Y6 iw (by decide) (by decide) K7 (by simp)
  have zz7 : n0 ≤ T7.heap.size := Nat.le_trans zz6 K7.1
  have D7 := D6.trans C7
  have N7 := Fr.app N6 N7q
  obtain ⟨cq8, kq8, q8a, q8b, q8c⟩ := isOf hZ7 rfl Y7.1.1
  let aa2 : Array Slot := #[s0, s1, s2, s3, s4, .val (.int i5), .val (.int i6), s7, s8, s9, s10, s11, s12, .val (.ref o13), .val (.ref o14), .val (.ref o14), .val (.ref o14), s17, s18, s19]
  obtain ⟨_, _, ⟨T8, L8, k8, n8⟩, -, X8, ⟨Lc8, hQ8, l8, y8, z8⟩, st8⟩ := X7.virtualBack hx (y := ym48) (z := ym48) hown7 (mvT hZ7 (ww hw 214 rfl)) (mvT hZ7 (ww hw 215 rfl)) (notFace_of_selects (args := #[]) (mvT hZ7 (ww hw 217 rfl))) (mvT hZ7 (ww hw 217 rfl)) (mvT hZ7 (ww hw 216 rfl)) (by decide) (backOf (W := 0) (rm36z l Z a0 hw [] o14 oq ob va kb (55 : Int32) _ _ ea ke _ (0 : Int32) G1 T7.heap n0 zz7 sc7 P3 Y7 (by unfold own_R; decide) (by unfold own_T; decide) g_b g_va Y7.1.2.2.1 Y7.2.2.1.1 Y7.1.2.1 Y7.2.1.1) hZ7 (ww hw 218 rfl) (ww hw 32 rfl) (by decide) (by decide)) q8a q8c (g := (mkF m 189 aa2 [(.ref o14)])) rfl (by rw [hml]; rfl) (Steps.refl _) (argsL := []) (rest := []) (lenOf pd_36_25 rfl) rfl (wz rfl) (hb hby at_189) (fun _ _ => ⟨rfl, rfl, (by show k6 + 2 + 2 ≤ room_1.cells; omega), (by show n6 + 12 + 62 ≤ room_1.slots; omega)⟩)
  dsimp only [Pt.U, Pt.locs, Pt.cells, Pt.slots] at X8 l8 y8 z8 st8 hQ8
  subst l8 y8 z8
  obtain ⟨d8, x8, k8', rfl, N8q, K8, S_d⟩ := hQ8
  have sc8 := own_staX sc7 Y7 K8 (by simp)
  have sf8 := own_staX sf7 Y7 K8 (by simp)
  have zz8 : n0 ≤ T8.heap.size := Nat.le_trans zz7 K8.1
  have N8 := Fr.app N7 N8q
  refine ⟨T7.vm, _, T8, _, _, _, _, d8, x8, k8', X8, rfl, N8, S7, (Nat.le_trans (Nat.le_refl _) K8.1), hZ7, hown7, zz8, S_d, sc8, sf8, (by show k6 + 2 + 2 ≤ k6 + 20; omega), (by show n6 + 12 + 62 ≤ n6 + 700; omega), fun target kt => ?_⟩
  show Sw T0 m 125 aa1 [] _
  refine XS.iload X0.here hx rfl (hb hby at_125) rfl ?_
  show Sw T0 m 127 aa1 [(.int i5)] _
  refine XS.ifYes X0.here hx rfl (pc0 := 127) (pc' := 138) rfl (hb hby at_127) rfl ((if0 _ _).trans (teq hc127).1) (by decide) (by decide) ?_
  show Sw T0 m 138 aa1 [] _
  refine XS.aload X0.here hx rfl (hb hby at_138) rfl rfl ?_
  show Sw T0 m 140 aa1 [(.ref o14)] _
  refine XS.aload X0.here hx rfl (hb hby at_140) rfl rfl ?_
  show Sw T0 m 142 aa1 [(.ref o13), (.ref o14)] _
  refine st6.trans ?_
  show Sw T6 m 145 aa1 [(.ref o14)] _
  refine XS.pop X6.here hx rfl (hb hby at_145) rfl rfl ?_
  show Sw T6 m 146 aa1 [] _
  refine XS.iload X6.here hx rfl (hb hby at_146) rfl ?_
  show Sw T6 m 148 aa1 [(.int i6)] _
  refine XS.ifYes X6.here hx rfl (pc0 := 148) (pc' := 159) rfl (hb hby at_148) rfl ((if0 _ _).trans (teq hc148).1) (by decide) (by decide) ?_
  show Sw T6 m 159 aa1 [] _
  refine XS.aload X6.here hx rfl (hb hby at_159) rfl rfl ?_
  show Sw T6 m 161 aa1 [(.ref o14)] _
  refine st7.trans ?_
  show Sw T7 m 164 aa1 [(.ref o14)] _
  let aa3 : Array Slot := #[s0, s1, s2, s3, s4, .val (.int i5), .val (.int i6), s7, s8, s9, s10, s11, s12, .val (.ref o13), .val (.ref o14), .val (.ref o14), s16, s17, s18, s19]
  refine XS.astore X7.here hx rfl (hb hby at_164) rfl rfl (l' := aa3) (os0_164 hs15) ?_
  show Sw T7 m 166 aa3 [] _
  refine XS.aload X7.here hx rfl (hb hby at_166) rfl rfl ?_
  show Sw T7 m 168 aa3 [(.ref o14)] _
  refine XS.astore X7.here hx rfl (hb hby at_168) rfl rfl (l' := aa2) (os0_168 hs16) ?_
  show Sw T7 m 170 aa2 [] _
  refine XS.iload X7.here hx rfl (hb hby at_170) rfl ?_
  show Sw T7 m 172 aa2 [(.int i5)] _
  refine XS.ifYes X7.here hx rfl (pc0 := 172) (pc' := 187) rfl (hb hby at_172) rfl ((if0 _ _).trans (teq hc172).1) (by decide) (by decide) ?_
  show Sw T7 m 187 aa2 [] _
  refine XS.aload X7.here hx rfl (hb hby at_187) rfl rfl ?_
  show Sw T7 m 189 aa2 [(.ref o14)] _
  refine st8.trans ?_
  show Sw T8 m 192 aa2 [(.ref d8)] _
  refine XS.astore X8.here hx rfl (hb hby at_192) rfl rfl (l' := #[s0, s1, s2, s3, s4, .val (.int i5), .val (.int i6), s7, s8, s9, s10, s11, s12, .val (.ref o13), .val (.ref o14), .val (.ref o14), .val (.ref o14), .val (.ref d8), s18, s19]) (os0_192 hs17) ?_
  exact kt
set_option maxRecDepth 65536 in
set_option maxHeartbeats 40000000 in
theorem own_b010 {p : Program} {l : Launch} {e : Env} {s : State} {vm0 : Vm} {k0 : Nat} {m : MethodId} {args : Array Value} {below : List Frame} {meth : Method} {c : Code} {T0 : State} {locs : List Loc} {cells slots : Nat} {Z : State} {a0 : Array Value} {h0 : Heap} (s0 : Slot) (s1 : Slot) (s2 : Slot) (s3 : Slot) (s4 : Slot) (i5 : Int32) (i6 : Int32) (s7 : Slot) (s8 : Slot) (s9 : Slot) (s10 : Slot) (s11 : Slot) (s12 : Slot) (o13 : Addr) (o14 : Addr) (s15 : Slot) (s16 : Slot) (s17 : Slot) (s18 : Slot) (s19 : Slot) (o12 : Addr) (ob oq va : Addr) (kb : ClassId) (ea : Addr) (ke : ClassId) (ta tb : Addr) (ksa ksb : ClassId) (ua ub : List Value) (G1 : Int32) (fm : Value) (X0 : Stand p l e room_1 (s.setVm vm0) m args below meth c T0 locs cells slots) (hx : p.tables.exec = Jvm.exec) (hZ : Z.Warmed39 vm0) (hw : HW a0 Z) (hml : c.maxLocals = 20) (hown : vm0.findClass "org/athenaeum/xml/XmlWriterEndPinLaw" = some m.cls) (e0 : T0.heap = h0) (n0 : Nat) (Z0 : n0 ≤ h0.size) (N0 : Fr n0 locs) (hS : s.Since vm0 k0) (hk0 : k0 ≤ h0.size) (CH0 : CHv Z own_EL vm0 h0) (SC : Sta Z h0 "java/lang/String" "COMPACT_STRINGS" "Z" (.int G1)) (P3 : ¬ (G1 = (0 : Int32))) (SF : Sta Z h0 "jdk/internal/util/Preconditions" "SIOOBE_FORMATTER" "Ljava/util/function/BiFunction;" fm) (hby : c.code = code) (hs15 : One s15) (hs16 : One s16) (hs17 : One s17) (Y0 : own_X Z h0 o14 ob oq va kb (55 : Int32) (39 : Int32) own_decl ea ke (0 : Int32) (List.replicate 17 .null) (0 : Int32)) (SA : own_S Z h0 o12 ta ksa (2 : Int32) ua) (SB : own_S Z h0 o13 tb ksb (2 : Int32) ub) (g_w : n0 ≤ o14) (g_b : n0 ≤ ob) (g_va : n0 ≤ va) (g_q : n0 ≤ oq) (g_ea : n0 ≤ ea) (hcs : cells + 20 ≤ room_1.cells) (hsl : slots + 700 ≤ room_1.slots) (hc127 : i5 = (0 : Int32)) (hc148 : ¬ (i6 = (0 : Int32))) (hc172 : i5 = (0 : Int32)) :
    ∃ (vm' : Vm) (k' : Nat) (T' : State) (h' : Heap) (locs' : List Loc) (cells' slots' : Nat) (d t : Addr) (kt : ClassId), Stand p l e room_1 (s.setVm vm') m args below meth c T' locs' cells' slots' ∧ T'.heap = h' ∧ Fr n0 locs' ∧ s.Since vm' k' ∧ k' ≤ h'.size ∧ Z.Warmed39 vm' ∧ vm'.findClass "org/athenaeum/xml/XmlWriterEndPinLaw" = some m.cls ∧ n0 ≤ h'.size ∧ own_S Z h' d t kt ((((((((39 : Int32) + (1 : Int32)) + (2 : Int32)) + (1 : Int32)) + (2 : Int32)) + (2 : Int32)) + (1 : Int32)) + (1 : Int32)) (((((((own_decl ++ [.int ((60 : Int32).toInt8.toInt32)]) ++ ub) ++ [.int ((62 : Int32).toInt8.toInt32)]) ++ own_lt) ++ ub) ++ [.int ((62 : Int32).toInt8.toInt32)]) ++ [.int ((10 : Int32).toInt8.toInt32)]) ∧ Sta Z h' "java/lang/String" "COMPACT_STRINGS" "Z" (.int G1) ∧ Sta Z h' "jdk/internal/util/Preconditions" "SIOOBE_FORMATTER" "Ljava/util/function/BiFunction;" fm ∧ cells' ≤ cells + 20 ∧ slots' ≤ slots + 700 ∧
      ∀ target, Steps p.tables e below (T'.setTop (mkF m 194 #[s0, s1, s2, s3, s4, .val (.int i5), .val (.int i6), s7, s8, s9, s10, s11, s12, .val (.ref o13), .val (.ref o14), .val (.ref o14), .val (.ref o14), .val (.ref d), s18, s19] [])) target → Steps p.tables e below (T0.setTop (mkF m 125 #[s0, s1, s2, s3, s4, .val (.int i5), .val (.int i6), s7, s8, s9, s10, s11, s12, .val (.ref o13), .val (.ref o14), s15, s16, s17, s18, s19] [])) target := by
  have iw : own_I Z a0 := ⟨(ww hw 1 rfl), (ww hw 31 rfl), (ww hw 38 rfl), (ww hw 113 rfl)⟩
  have hEL := own_EW hw
  have wS : ∀ a ∈ Bundle.stringAtoms, a.before a0 Z = true := fun d hd => hw d ((by decide +kernel : ∀ d ∈ Bundle.stringAtoms, d ∈ tables_1) d hd)
  have C0 : CHr Z own_EL vm0 h0 vm0 h0 := CHr.refl CH0
  have hZ : Z.Warmed39 (s.setVm vm0).vm := hZ
  have hown : (s.setVm vm0).vm.findClass "org/athenaeum/xml/XmlWriterEndPinLaw" = some m.cls := hown
  obtain ⟨cq6, kq6, q6a, q6b, q6c⟩ := isOf hZ e0 Y0.1.1
  let aa1 : Array Slot := #[s0, s1, s2, s3, s4, .val (.int i5), .val (.int i6), s7, s8, s9, s10, s11, s12, .val (.ref o13), .val (.ref o14), s15, s16, s17, s18, s19]
  obtain ⟨_, _, ⟨T6, L6, k6, n6⟩, -, X6, ⟨Lc6, hQ6, l6, y6, z6⟩, st6⟩ := X0.virtualBack hx (y := ym41) (z := ym41) hown (mvT hZ (ww hw 131 rfl)) (mvT hZ (ww hw 132 rfl)) (notFace_of_selects (args := #[]) (mvT hZ (ww hw 134 rfl))) (mvT hZ (ww hw 134 rfl)) (mvT hZ (ww hw 133 rfl)) (by decide) (backOf (W := 0) (rm21a l Z a0 hw [] o14 o13 ob oq va kb (55 : Int32) _ _ ea ke _ G1 tb ksb (2 : Int32) ub h0 n0 Z0 SC P3 Y0 SB (by unfold own_R; decide) (by unfold own_R; decide) (by decide) (by decide) g_b g_va g_q g_ea Y0.1.1 Y0.1.2.1 Y0.2.1.1 Y0.1.2.2.1 Y0.2.2.1.1 Y0.1.2.2.2 g_w) hZ (ww hw 135 rfl) (ww hw 32 rfl) (by decide) (by decide)) q6a q6c (g := (mkF m 142 aa1 [(.ref o13), (.ref o14)])) rfl (by rw [hml]; rfl) (Steps.refl _) (argsL := [(.ref o13)]) (rest := []) (lenOf pd_0_15 rfl) rfl (wz rfl) (hb hby at_142) (fun _ _ => ⟨rfl, e0, (by show cells + 0 ≤ room_1.cells; omega), (by show slots + 0 ≤ room_1.slots; omega)⟩)
  dsimp only [Pt.U, Pt.locs, Pt.cells, Pt.slots] at X6 l6 y6 z6 st6 hQ6
  subst l6 y6 z6
  obtain ⟨rfl, N6q, K6, Y6⟩ := hQ6
  have sc6 := own_staX SC Y0 K6 (by simp)
  have sf6 := own_staX SF Y0 K6 (by simp)
  have sa6 := SA.kX Y0 iw (by decide) (by decide) K6 (by simp)
  have sb6 := SB.kX Y0 iw (by decide) (by decide) K6 (by simp)
  have zz6 : n0 ≤ T6.heap.size := Nat.le_trans Z0 K6.1
  have D6 := C0.trans (CHr.keep K6 (own_safeX hw Y0 hZ (by unfold own_len; decide) (by simp)) C0.1)
  have N6 := Fr.app N0 N6q
  obtain ⟨la7, T7, h7, k7, lb7, lk7, X7, e7, E7, S7, kk7, hZ7, hown7, El7, Fc7, Fv7, Vl7, lt7, ltb7, C7, -, ns7, st7⟩ := ldcCH (s := s) (vm0 := vm0) X6 hx hZ hown (ww hw 294 rfl) wS rfl hS (Nat.le_trans hk0 K6.1) hEL (by simp) D6.1 (text := "") (vs := ([] : List Value)) (z := (0 : Int32)) ⟨by decide, by rfl⟩ (by decide) rfl (g := (mkF m 153 aa1 [(.ref o14)])) rfl (hb hby at_153) (n := 0) (by decide) (by decide) (by show k6 + 2 ≤ room_1.cells; omega) (by show n6 + (0 + 4) ≤ room_1.slots; omega)
  have Y7 := Y6.ext E7
  have sc7 := sc6.ext E7
  have sf7 := sf6.ext E7
  have sa7 := sa6.ext E7
  have sb7 := sb6.ext E7
  have zz7 : n0 ≤ h7.size := Nat.le_trans zz6 E7.1
  have D7 := D6.trans C7
  obtain ⟨cq8, kq8, q8a, q8b, q8c⟩ := isOf hZ7 e7 Y7.1.1
  obtain ⟨_, _, ⟨T8, L8, k8, n8⟩, -, X8, ⟨Lc8, hQ8, l8, y8, z8⟩, st8⟩ := X7.virtualBack hx (y := ym44) (z := ym44) hown7 (mvT hZ7 (ww hw 295 rfl)) (mvT hZ7 (ww hw 296 rfl)) (notFace_of_selects (args := #[]) (mvT hZ7 (ww hw 298 rfl))) (mvT hZ7 (ww hw 298 rfl)) (mvT hZ7 (ww hw 297 rfl)) (by decide) (backOf (W := 0) (rm54 l Z a0 hw [] o14 la7 ob oq va kb (55 : Int32) _ _ ea ke _ _ G1 lb7 lk7 ([] : List Value) h7 n0 zz7 sc7 P3 Y7 ⟨El7, Fv7, Fc7, Vl7, rfl⟩ (by unfold own_R; decide) (by decide) g_w g_b g_va Y7.1.1) hZ7 (ww hw 299 rfl) (ww hw 32 rfl) (by decide) (by decide)) q8a q8c (g := (mkF m 155 aa1 [(.ref la7), (.ref o14)])) rfl (by rw [hml]; rfl) (Steps.refl _) (argsL := [(.ref la7)]) (rest := []) (lenOf pd_0_15 rfl) rfl (wz rfl) (hb hby at_155) (fun _ _ => ⟨rfl, e7, (by show k6 + 2 + 0 ≤ room_1.cells; omega), (by show n6 + (0 + 4) + 0 ≤ room_1.slots; omega)⟩)
  dsimp only [Pt.U, Pt.locs, Pt.cells, Pt.slots] at X8 l8 y8 z8 st8 hQ8
  subst l8 y8 z8
  obtain ⟨rfl, N8q, K8, Y8⟩ := hQ8
  have sc8 := own_staX sc7 Y7 K8 (by simp)
  have sf8 := own_staX sf7 Y7 K8 (by simp)
  have sa8 := sa7.kX Y7 iw (by decide) (by decide) K8 (by simp)
  have sb8 := sb7.kX Y7 iw (by decide) (by decide) K8 (by simp)
  have zz8 : n0 ≤ T8.heap.size := Nat.le_trans zz7 K8.1
  have D8 := D7.trans (CHr.keep K8 (own_safeX hw Y7 hZ7 (by unfold own_len; decide) (by simp)) D7.1)
  have N8 := Fr.app N6 N8q
  obtain ⟨cq9, kq9, q9a, q9b, q9c⟩ := isOf hZ7 rfl Y8.1.1
  obtain ⟨_, _, ⟨T9, L9, k9, n9⟩, -, X9, S9, G9, ⟨Lc9, hQ9, l9, y9, z9, C9⟩, st9⟩ := X8.virtualBackS hx (y := ym46) (z := ym46) hown7 (mvT hZ7 (ww hw 183 rfl)) (mvT hZ7 (ww hw 184 rfl)) (notFace_of_selects (args := #[]) (mvT hZ7 (ww hw 186 rfl))) (mvT hZ7 (ww hw 186 rfl)) (mvT hZ7 (ww hw 185 rfl)) (by decide) (backOfSH (s := s) (vm0 := T7.vm) (W := 0) (rm30b l Z a0 hw [] o14 oq ob va kb (55 : Int32) _ _ ea ke _ o13 tb ksb ub G1 T8.heap n0 zz8 sc8 P3 Y8 sb8 rfl (by decide) (by unfold own_len; decide) g_w g_b g_va g_q g_ea (by unfold own_R; decide) (by unfold own_R; decide) (by unfold own_R; decide) Y8.1.2.2.1 Y8.2.2.1.1 Y8.1.2.2.2 Y8.1.2.1 Y8.2.1.1 (by decide)) hZ7 (ww hw 187 rfl) (ww hw 32 rfl) (by decide) (by decide) hEL D8.1) q9a q9c (g := (mkF m 161 aa1 [(.ref o14)])) rfl (by rw [hml]; rfl) (Steps.refl _) (argsL := []) (rest := []) (lenOf pd_36_22 rfl) rfl (wz rfl) (hb hby at_161) (fun _ _ => ⟨rfl, rfl, (by show k6 + 2 + 3 ≤ room_1.cells; omega), (by show n6 + (0 + 4) + 124 ≤ room_1.slots; omega)⟩)
  dsimp only [Pt.U, Pt.locs, Pt.cells, Pt.slots] at X9 S9 G9 C9 l9 y9 z9 st9 hQ9
  subst l9 y9 z9
  obtain ⟨X9, S9, hZ9, hown9⟩ := rebS S7 (Nat.le_trans kk7 K8.1) X9 S9 G9 hZ7 hown7
  obtain ⟨rfl, N9q, K9, Y9⟩ := hQ9
  have sc9 := own_staX sc8 Y8 K9 (by simp)
  have sf9 := own_staX sf8 Y8 K9 (by simp)
  have sa9 := sa8.kX Y8 iw (by decide) (by decide) K9 (by simp)
  have sb9 := sb8.kX Y8 iw (by decide) (by decide) K9 (by simp)
  have zz9 : n0 ≤ T9.heap.size := Nat.le_trans zz8 K9.1
  have D9 := D8.trans C9
  have N9 := Fr.app N8 N9q
  obtain ⟨cq10, kq10, q10a, q10b, q10c⟩ := isOf hZ9 rfl Y9.1.1
  let aa2 : Array Slot := #[s0, s1, s2, s3, s4, .val (.int i5), .val (.int i6), s7, s8, s9, s10, s11, s12, .val (.ref o13), .val (.ref o14), .val (.ref o14), .val (.ref o14), s17, s18, s19]
  obtain ⟨_, _, ⟨T10, L10, k10, n10⟩, -, X10, ⟨Lc10, hQ10, l10, y10, z10⟩, st10⟩ := X9.virtualBack hx (y := ym48) (z := ym48) hown9 (mvT hZ9 (ww hw 214 rfl)) (mvT hZ9 (ww hw 215 rfl)) (notFace_of_selects (args := #[]) (mvT hZ9 (ww hw 217 rfl))) (mvT hZ9 (ww hw 217 rfl)) (mvT hZ9 (ww hw 216 rfl)) (by decide) (backOf (W := 0) (rm36z l Z a0 hw [] o14 oq ob va kb (55 : Int32) _ _ ea ke _ (0 : Int32) G1 T9.heap n0 zz9 sc9 P3 Y9 (by unfold own_R; decide) (by unfold own_T; decide) g_b g_va Y9.1.2.2.1 Y9.2.2.1.1 Y9.1.2.1 Y9.2.1.1) hZ9 (ww hw 218 rfl) (ww hw 32 rfl) (by decide) (by decide)) q10a q10c (g := (mkF m 189 aa2 [(.ref o14)])) rfl (by rw [hml]; rfl) (Steps.refl _) (argsL := []) (rest := []) (lenOf pd_36_25 rfl) rfl (wz rfl) (hb hby at_189) (fun _ _ => ⟨rfl, rfl, (by show k6 + 2 + 3 + 2 ≤ room_1.cells; omega), (by show n6 + (0 + 4) + 124 + 62 ≤ room_1.slots; omega)⟩)
  dsimp only [Pt.U, Pt.locs, Pt.cells, Pt.slots] at X10 l10 y10 z10 st10 hQ10
  subst l10 y10 z10
  obtain ⟨d10, x10, k10', rfl, N10q, K10, S_d⟩ := hQ10
  have sc10 := own_staX sc9 Y9 K10 (by simp)
  have sf10 := own_staX sf9 Y9 K10 (by simp)
  have zz10 : n0 ≤ T10.heap.size := Nat.le_trans zz9 K10.1
  have N10 := Fr.app N9 N10q
  refine ⟨T9.vm, _, T10, _, _, _, _, d10, x10, k10', X10, rfl, N10, S9, (Nat.le_trans (Nat.le_refl _) K10.1), hZ9, hown9, zz10, S_d, sc10, sf10, (by show k6 + 2 + 3 + 2 ≤ k6 + 20; omega), (by show n6 + (0 + 4) + 124 + 62 ≤ n6 + 700; omega), fun target kt => ?_⟩
  show Sw T0 m 125 aa1 [] _
  refine XS.iload X0.here hx rfl (hb hby at_125) rfl ?_
  show Sw T0 m 127 aa1 [(.int i5)] _
  refine XS.ifYes X0.here hx rfl (pc0 := 127) (pc' := 138) rfl (hb hby at_127) rfl ((if0 _ _).trans (teq hc127).1) (by decide) (by decide) ?_
  show Sw T0 m 138 aa1 [] _
  refine XS.aload X0.here hx rfl (hb hby at_138) rfl rfl ?_
  show Sw T0 m 140 aa1 [(.ref o14)] _
  refine XS.aload X0.here hx rfl (hb hby at_140) rfl rfl ?_
  show Sw T0 m 142 aa1 [(.ref o13), (.ref o14)] _
  refine st6.trans ?_
  show Sw T6 m 145 aa1 [(.ref o14)] _
  refine XS.pop X6.here hx rfl (hb hby at_145) rfl rfl ?_
  show Sw T6 m 146 aa1 [] _
  refine XS.iload X6.here hx rfl (hb hby at_146) rfl ?_
  show Sw T6 m 148 aa1 [(.int i6)] _
  refine XS.ifNo X6.here hx rfl (hb hby at_148) rfl ((if0 _ _).trans (feq hc148).1) ?_
  show Sw T6 m 151 aa1 [] _
  refine XS.aload X6.here hx rfl (hb hby at_151) rfl rfl ?_
  show Sw T6 m 153 aa1 [(.ref o14)] _
  refine st7 _ ?_
  show Sw T7 m 155 aa1 [(.ref la7), (.ref o14)] _
  refine st8.trans ?_
  show Sw T8 m 158 aa1 [(.ref o14)] _
  refine XS.pop X8.here hx rfl (hb hby at_158) rfl rfl ?_
  show Sw T8 m 159 aa1 [] _
  refine XS.aload X8.here hx rfl (hb hby at_159) rfl rfl ?_
  show Sw T8 m 161 aa1 [(.ref o14)] _
  refine st9.trans ?_
  show Sw T9 m 164 aa1 [(.ref o14)] _
  let aa3 : Array Slot := #[s0, s1, s2, s3, s4, .val (.int i5), .val (.int i6), s7, s8, s9, s10, s11, s12, .val (.ref o13), .val (.ref o14), .val (.ref o14), s16, s17, s18, s19]
  refine XS.astore X9.here hx rfl (hb hby at_164) rfl rfl (l' := aa3) (os0_164 hs15) ?_
  show Sw T9 m 166 aa3 [] _
  refine XS.aload X9.here hx rfl (hb hby at_166) rfl rfl ?_
  show Sw T9 m 168 aa3 [(.ref o14)] _
  refine XS.astore X9.here hx rfl (hb hby at_168) rfl rfl (l' := aa2) (os0_168 hs16) ?_
  show Sw T9 m 170 aa2 [] _
  refine XS.iload X9.here hx rfl (hb hby at_170) rfl ?_
  show Sw T9 m 172 aa2 [(.int i5)] _
  refine XS.ifYes X9.here hx rfl (pc0 := 172) (pc' := 187) rfl (hb hby at_172) rfl ((if0 _ _).trans (teq hc172).1) (by decide) (by decide) ?_
  show Sw T9 m 187 aa2 [] _
  refine XS.aload X9.here hx rfl (hb hby at_187) rfl rfl ?_
  show Sw T9 m 189 aa2 [(.ref o14)] _
  refine st10.trans ?_
  show Sw T10 m 192 aa2 [(.ref d10)] _
  refine XS.astore X10.here hx rfl (hb hby at_192) rfl rfl (l' := #[s0, s1, s2, s3, s4, .val (.int i5), .val (.int i6), s7, s8, s9, s10, s11, s12, .val (.ref o13), .val (.ref o14), .val (.ref o14), .val (.ref o14), .val (.ref d10), s18, s19]) (os0_192 hs17) ?_
  exact kt
set_option maxRecDepth 65536 in
set_option maxHeartbeats 40000000 in
theorem own_b100 {p : Program} {l : Launch} {e : Env} {s : State} {vm0 : Vm} {k0 : Nat} {m : MethodId} {args : Array Value} {below : List Frame} {meth : Method} {c : Code} {T0 : State} {locs : List Loc} {cells slots : Nat} {Z : State} {a0 : Array Value} {h0 : Heap} (s0 : Slot) (s1 : Slot) (s2 : Slot) (s3 : Slot) (s4 : Slot) (i5 : Int32) (i6 : Int32) (i7 : Int32) (s8 : Slot) (s9 : Slot) (s10 : Slot) (s11 : Slot) (o12 : Addr) (o13 : Addr) (o14 : Addr) (s15 : Slot) (s16 : Slot) (s17 : Slot) (s18 : Slot) (s19 : Slot) (ob oq va : Addr) (kb : ClassId) (ea : Addr) (ke : ClassId) (ta tb : Addr) (ksa ksb : ClassId) (ua ub : List Value) (G1 : Int32) (fm : Value) (X0 : Stand p l e room_1 (s.setVm vm0) m args below meth c T0 locs cells slots) (hx : p.tables.exec = Jvm.exec) (hZ : Z.Warmed39 vm0) (hw : HW a0 Z) (hml : c.maxLocals = 20) (hown : vm0.findClass "org/athenaeum/xml/XmlWriterEndPinLaw" = some m.cls) (e0 : T0.heap = h0) (n0 : Nat) (Z0 : n0 ≤ h0.size) (N0 : Fr n0 locs) (hS : s.Since vm0 k0) (hk0 : k0 ≤ h0.size) (CH0 : CHv Z own_EL vm0 h0) (SC : Sta Z h0 "java/lang/String" "COMPACT_STRINGS" "Z" (.int G1)) (P3 : ¬ (G1 = (0 : Int32))) (SF : Sta Z h0 "jdk/internal/util/Preconditions" "SIOOBE_FORMATTER" "Ljava/util/function/BiFunction;" fm) (hby : c.code = code) (hs15 : One s15) (hs16 : One s16) (hs17 : One s17) (Y0 : own_X Z h0 o14 ob oq va kb (55 : Int32) (39 : Int32) own_decl ea ke (0 : Int32) (List.replicate 17 .null) (0 : Int32)) (SA : own_S Z h0 o12 ta ksa (2 : Int32) ua) (SB : own_S Z h0 o13 tb ksb (2 : Int32) ub) (g_w : n0 ≤ o14) (g_b : n0 ≤ ob) (g_va : n0 ≤ va) (g_q : n0 ≤ oq) (g_ea : n0 ≤ ea) (hcs : cells + 20 ≤ room_1.cells) (hsl : slots + 700 ≤ room_1.slots) (hc127 : ¬ (i5 = (0 : Int32))) (hc148 : i6 = (0 : Int32)) (hc172 : ¬ (i5 = (0 : Int32))) (hc177 : i7 = (0 : Int32)) :
    ∃ (vm' : Vm) (k' : Nat) (T' : State) (h' : Heap) (locs' : List Loc) (cells' slots' : Nat) (d t : Addr) (kt : ClassId), Stand p l e room_1 (s.setVm vm') m args below meth c T' locs' cells' slots' ∧ T'.heap = h' ∧ Fr n0 locs' ∧ s.Since vm' k' ∧ k' ≤ h'.size ∧ Z.Warmed39 vm' ∧ vm'.findClass "org/athenaeum/xml/XmlWriterEndPinLaw" = some m.cls ∧ n0 ≤ h'.size ∧ own_S Z h' d t kt (((((((((((39 : Int32) + (1 : Int32)) + (2 : Int32)) + (1 : Int32)) + (1 : Int32)) + (2 : Int32)) + (2 : Int32)) + (2 : Int32)) + (2 : Int32)) + (1 : Int32)) + (1 : Int32)) ((((((((((own_decl ++ [.int ((60 : Int32).toInt8.toInt32)]) ++ ua) ++ [.int ((62 : Int32).toInt8.toInt32)]) ++ [.int ((60 : Int32).toInt8.toInt32)]) ++ ub) ++ own_sl) ++ own_lt) ++ ua) ++ [.int ((62 : Int32).toInt8.toInt32)]) ++ [.int ((10 : Int32).toInt8.toInt32)]) ∧ Sta Z h' "java/lang/String" "COMPACT_STRINGS" "Z" (.int G1) ∧ Sta Z h' "jdk/internal/util/Preconditions" "SIOOBE_FORMATTER" "Ljava/util/function/BiFunction;" fm ∧ cells' ≤ cells + 20 ∧ slots' ≤ slots + 700 ∧
      ∀ target, Steps p.tables e below (T'.setTop (mkF m 194 #[s0, s1, s2, s3, s4, .val (.int i5), .val (.int i6), .val (.int i7), s8, s9, s10, s11, .val (.ref o12), .val (.ref o13), .val (.ref o14), .val (.ref o14), .val (.ref o14), .val (.ref d), s18, s19] [])) target → Steps p.tables e below (T0.setTop (mkF m 125 #[s0, s1, s2, s3, s4, .val (.int i5), .val (.int i6), .val (.int i7), s8, s9, s10, s11, .val (.ref o12), .val (.ref o13), .val (.ref o14), s15, s16, s17, s18, s19] [])) target := by
  have iw : own_I Z a0 := ⟨(ww hw 1 rfl), (ww hw 31 rfl), (ww hw 38 rfl), (ww hw 113 rfl)⟩
  have hEL := own_EW hw
  have C0 : CHr Z own_EL vm0 h0 vm0 h0 := CHr.refl CH0
  have hZ : Z.Warmed39 (s.setVm vm0).vm := hZ
  have hown : (s.setVm vm0).vm.findClass "org/athenaeum/xml/XmlWriterEndPinLaw" = some m.cls := hown
  obtain ⟨cq6, kq6, q6a, q6b, q6c⟩ := isOf hZ e0 Y0.1.1
  let aa1 : Array Slot := #[s0, s1, s2, s3, s4, .val (.int i5), .val (.int i6), .val (.int i7), s8, s9, s10, s11, .val (.ref o12), .val (.ref o13), .val (.ref o14), s15, s16, s17, s18, s19]
  obtain ⟨_, _, ⟨T6, L6, k6, n6⟩, -, X6, ⟨Lc6, hQ6, l6, y6, z6⟩, st6⟩ := X0.virtualBack hx (y := ym41) (z := ym41) hown (mvT hZ (ww hw 131 rfl)) (mvT hZ (ww hw 132 rfl)) (notFace_of_selects (args := #[]) (mvT hZ (ww hw 134 rfl))) (mvT hZ (ww hw 134 rfl)) (mvT hZ (ww hw 133 rfl)) (by decide) (backOf (W := 0) (rm21a l Z a0 hw [] o14 o12 ob oq va kb (55 : Int32) _ _ ea ke _ G1 ta ksa (2 : Int32) ua h0 n0 Z0 SC P3 Y0 SA (by unfold own_R; decide) (by unfold own_R; decide) (by decide) (by decide) g_b g_va g_q g_ea Y0.1.1 Y0.1.2.1 Y0.2.1.1 Y0.1.2.2.1 Y0.2.2.1.1 Y0.1.2.2.2 g_w) hZ (ww hw 135 rfl) (ww hw 32 rfl) (by decide) (by decide)) q6a q6c (g := (mkF m 134 aa1 [(.ref o12), (.ref o14)])) rfl (by rw [hml]; rfl) (Steps.refl _) (argsL := [(.ref o12)]) (rest := []) (lenOf pd_0_15 rfl) rfl (wz rfl) (hb hby at_134) (fun _ _ => ⟨rfl, e0, (by show cells + 0 ≤ room_1.cells; omega), (by show slots + 0 ≤ room_1.slots; omega)⟩)
  dsimp only [Pt.U, Pt.locs, Pt.cells, Pt.slots] at X6 l6 y6 z6 st6 hQ6
  subst l6 y6 z6
  obtain ⟨rfl, N6q, K6, Y6⟩ := hQ6
  have sc6 := own_staX SC Y0 K6 (by simp)
  have sf6 := own_staX SF Y0 K6 (by simp)
  have sa6 := SA.kX Y0 iw (by decide) (by decide) K6 (by simp)
  have sb6 := SB.kX Y0 iw (by decide) (by decide) K6 (by simp)
  have zz6 : n0 ≤ T6.heap.size := Nat.le_trans Z0 K6.1
  have D6 := C0.trans (CHr.keep K6 (own_safeX hw Y0 hZ (by unfold own_len; decide) (by simp)) C0.1)
  have N6 := Fr.app N0 N6q
  obtain ⟨cq7, kq7, q7a, q7b, q7c⟩ := isOf hZ rfl Y6.1.1
  obtain ⟨_, _, ⟨T7, L7, k7, n7⟩, -, X7, ⟨Lc7, hQ7, l7, y7, z7⟩, st7⟩ := X6.virtualBack hx (y := ym41) (z := ym41) hown (mvT hZ (ww hw 131 rfl)) (mvT hZ (ww hw 132 rfl)) (notFace_of_selects (args := #[]) (mvT hZ (ww hw 134 rfl))) (mvT hZ (ww hw 134 rfl)) (mvT hZ (ww hw 133 rfl)) (by decide) (backOf (W := 0) (rm21b l Z a0 hw [] o14 o13 ob oq va kb (55 : Int32) _ _ ea ke _ G1 tb ksb (2 : Int32) ub T6.heap n0 zz6 sc6 P3 Y6 sb6 (by unfold own_R; decide) (by unfold own_R; decide) (by unfold own_R; decide) (by decide) (by decide) g_b g_va g_q g_ea Y6.1.1 Y6.1.2.1 Y6.2.1.1 Y6.1.2.2.1 Y6.2.2.1.1 Y6.1.2.2.2 g_w) hZ (ww hw 135 rfl) (ww hw 32 rfl) (by decide) (by decide)) q7a q7c (g := (mkF m 142 aa1 [(.ref o13), (.ref o14)])) rfl (by rw [hml]; rfl) (Steps.refl _) (argsL := [(.ref o13)]) (rest := []) (lenOf pd_0_15 rfl) rfl (wz rfl) (hb hby at_142) (fun _ _ => ⟨rfl, rfl, (by show k6 + 0 ≤ room_1.cells; omega), (by show n6 + 0 ≤ room_1.slots; omega)⟩)
  dsimp only [Pt.U, Pt.locs, Pt.cells, Pt.slots] at X7 l7 y7 z7 st7 hQ7
  subst l7 y7 z7
  obtain ⟨rfl, N7q, K7, Y7⟩ := hQ7
  have sc7 := own_staX sc6 Y6 K7 (by simp)
  have sf7 := own_staX sf6 Y6 K7 (by simp)
  have sa7 := sa6.kX Y6 iw (by decide) (by decide) K7 (by simp)
  have sb7 := sb6.kX Y6 iw (by decide) (by decide) K7 (by simp)
  have zz7 : n0 ≤ T7.heap.size := Nat.le_trans zz6 K7.1
  have D7 := D6.trans (CHr.keep K7 (own_safeX hw Y6 hZ (by unfold own_len; decide) (by simp)) D6.1)
  have N7 := Fr.app N6 N7q
  obtain ⟨cq8, kq8, q8a, q8b, q8c⟩ := isOf hZ rfl Y7.1.1
  obtain ⟨_, _, ⟨T8, L8, k8, n8⟩, -, X8, S8, G8, ⟨Lc8, hQ8, l8, y8, z8, C8⟩, st8⟩ := X7.virtualBackS hx (y := ym46) (z := ym46) hown (mvT hZ (ww hw 183 rfl)) (mvT hZ (ww hw 184 rfl)) (notFace_of_selects (args := #[]) (mvT hZ (ww hw 186 rfl))) (mvT hZ (ww hw 186 rfl)) (mvT hZ (ww hw 185 rfl)) (by decide) (backOfSH (s := s) (vm0 := vm0) (W := 0) (rm30A l Z a0 hw [] o14 oq ob va kb (55 : Int32) _ _ ea ke _ o13 tb ksb ub G1 T7.heap n0 zz7 sc7 P3 Y7 sb7 rfl (by decide) (by unfold own_len; decide) g_b g_va g_q g_ea (by unfold own_R; decide) Y7.1.2.2.1 Y7.2.2.1.1 Y7.1.2.2.2 Y7.1.2.1 Y7.2.1.1 Y7.1.1 g_w (by decide)) hZ (ww hw 187 rfl) (ww hw 32 rfl) (by decide) (by decide) hEL D7.1) q8a q8c (g := (mkF m 161 aa1 [(.ref o14)])) rfl (by rw [hml]; rfl) (Steps.refl _) (argsL := []) (rest := []) (lenOf pd_36_22 rfl) rfl (wz rfl) (hb hby at_161) (fun _ _ => ⟨rfl, rfl, (by show k7 + 2 ≤ room_1.cells; omega), (by show n7 + 12 ≤ room_1.slots; omega)⟩)
  dsimp only [Pt.U, Pt.locs, Pt.cells, Pt.slots] at X8 S8 G8 C8 l8 y8 z8 st8 hQ8
  subst l8 y8 z8
  obtain ⟨X8, S8, hZ8, hown8⟩ := rebS hS (Nat.le_trans (Nat.le_trans hk0 K6.1) K7.1) X8 S8 G8 hZ hown
  obtain ⟨rfl, N8q, K8, Y8⟩ := hQ8
  have sc8 := own_staX sc7 Y7 K8 (by simp)
  have sf8 := own_staX sf7 Y7 K8 (by simp)
  have sa8 := sa7.kX Y7 iw (by decide) (by decide) K8 (by simp)
  have sb8 := sb7.kX Y7 iw (by decide) (by decide) K8 (by simp)
  have zz8 : n0 ≤ T8.heap.size := Nat.le_trans zz7 K8.1
  have D8 := D7.trans C8
  have N8 := Fr.app N7 N8q
  obtain ⟨cq9, kq9, q9a, q9b, q9c⟩ := isOf hZ8 rfl Y8.1.1
  let aa2 : Array Slot := #[s0, s1, s2, s3, s4, .val (.int i5), .val (.int i6), .val (.int i7), s8, s9, s10, s11, .val (.ref o12), .val (.ref o13), .val (.ref o14), .val (.ref o14), .val (.ref o14), s17, s18, s19]
  obtain ⟨_, _, ⟨T9, L9, k9, n9⟩, -, X9, S9, G9, ⟨Lc9, hQ9, l9, y9, z9, C9⟩, st9⟩ := X8.virtualBackS hx (y := ym48) (z := ym48) hown8 (mvT hZ8 (ww hw 214 rfl)) (mvT hZ8 (ww hw 215 rfl)) (notFace_of_selects (args := #[]) (mvT hZ8 (ww hw 217 rfl))) (mvT hZ8 (ww hw 217 rfl)) (mvT hZ8 (ww hw 216 rfl)) (by decide) (backOfSH (s := s) (vm0 := T8.vm) (W := 0) (rm36b l Z a0 hw [] o14 oq ob va kb (55 : Int32) _ _ ea ke _ o12 ta ksa ua G1 T8.heap n0 zz8 sc8 P3 Y8 sa8 rfl (by decide) (by unfold own_len; decide) g_w g_b g_va g_q g_ea (by unfold own_R; decide) (by unfold own_R; decide) (by unfold own_R; decide) (by unfold own_R; decide) (by unfold own_T; decide) Y8.1.2.2.1 Y8.2.2.1.1 Y8.1.1 Y8.2.2.1.1 Y8.1.2.1 Y8.2.1.1) hZ8 (ww hw 218 rfl) (ww hw 32 rfl) (by decide) (by decide) hEL D8.1) q9a q9c (g := (mkF m 189 aa2 [(.ref o14)])) rfl (by rw [hml]; rfl) (Steps.refl _) (argsL := []) (rest := []) (lenOf pd_36_25 rfl) rfl (wz rfl) (hb hby at_189) (fun _ _ => ⟨rfl, rfl, (by show k7 + 2 + 5 ≤ room_1.cells; omega), (by show n7 + 12 + 190 ≤ room_1.slots; omega)⟩)
  dsimp only [Pt.U, Pt.locs, Pt.cells, Pt.slots] at X9 S9 G9 C9 l9 y9 z9 st9 hQ9
  subst l9 y9 z9
  obtain ⟨X9, S9, hZ9, hown9⟩ := rebS S8 (Nat.le_refl _) X9 S9 G9 hZ8 hown8
  obtain ⟨d9, x9, k9', rfl, N9q, K9, S_d⟩ := hQ9
  have sc9 := own_staX sc8 Y8 K9 (by simp)
  have sf9 := own_staX sf8 Y8 K9 (by simp)
  have zz9 : n0 ≤ T9.heap.size := Nat.le_trans zz8 K9.1
  have N9 := Fr.app N8 N9q
  refine ⟨T9.vm, _, T9, _, _, _, _, d9, x9, k9', X9, rfl, N9, S9, (Nat.le_refl _), hZ9, hown9, zz9, S_d, sc9, sf9, (by show k7 + 2 + 5 ≤ k7 + 20; omega), (by show n7 + 12 + 190 ≤ n7 + 700; omega), fun target kt => ?_⟩
  show Sw T0 m 125 aa1 [] _
  refine XS.iload X0.here hx rfl (hb hby at_125) rfl ?_
  show Sw T0 m 127 aa1 [(.int i5)] _
  refine XS.ifNo X0.here hx rfl (hb hby at_127) rfl ((if0 _ _).trans (feq hc127).1) ?_
  show Sw T0 m 130 aa1 [] _
  refine XS.aload X0.here hx rfl (hb hby at_130) rfl rfl ?_
  show Sw T0 m 132 aa1 [(.ref o14)] _
  refine XS.aload X0.here hx rfl (hb hby at_132) rfl rfl ?_
  show Sw T0 m 134 aa1 [(.ref o12), (.ref o14)] _
  refine st6.trans ?_
  show Sw T6 m 137 aa1 [(.ref o14)] _
  refine XS.pop X6.here hx rfl (hb hby at_137) rfl rfl ?_
  show Sw T6 m 138 aa1 [] _
  refine XS.aload X6.here hx rfl (hb hby at_138) rfl rfl ?_
  show Sw T6 m 140 aa1 [(.ref o14)] _
  refine XS.aload X6.here hx rfl (hb hby at_140) rfl rfl ?_
  show Sw T6 m 142 aa1 [(.ref o13), (.ref o14)] _
  refine st7.trans ?_
  show Sw T7 m 145 aa1 [(.ref o14)] _
  refine XS.pop X7.here hx rfl (hb hby at_145) rfl rfl ?_
  show Sw T7 m 146 aa1 [] _
  refine XS.iload X7.here hx rfl (hb hby at_146) rfl ?_
  show Sw T7 m 148 aa1 [(.int i6)] _
  refine XS.ifYes X7.here hx rfl (pc0 := 148) (pc' := 159) rfl (hb hby at_148) rfl ((if0 _ _).trans (teq hc148).1) (by decide) (by decide) ?_
  show Sw T7 m 159 aa1 [] _
  refine XS.aload X7.here hx rfl (hb hby at_159) rfl rfl ?_
  show Sw T7 m 161 aa1 [(.ref o14)] _
  refine st8.trans ?_
  show Sw T8 m 164 aa1 [(.ref o14)] _
  let aa3 : Array Slot := #[s0, s1, s2, s3, s4, .val (.int i5), .val (.int i6), .val (.int i7), s8, s9, s10, s11, .val (.ref o12), .val (.ref o13), .val (.ref o14), .val (.ref o14), s16, s17, s18, s19]
  refine XS.astore X8.here hx rfl (hb hby at_164) rfl rfl (l' := aa3) (os0_164 hs15) ?_
  show Sw T8 m 166 aa3 [] _
  refine XS.aload X8.here hx rfl (hb hby at_166) rfl rfl ?_
  show Sw T8 m 168 aa3 [(.ref o14)] _
  refine XS.astore X8.here hx rfl (hb hby at_168) rfl rfl (l' := aa2) (os0_168 hs16) ?_
  show Sw T8 m 170 aa2 [] _
  refine XS.iload X8.here hx rfl (hb hby at_170) rfl ?_
  show Sw T8 m 172 aa2 [(.int i5)] _
  refine XS.ifNo X8.here hx rfl (hb hby at_172) rfl ((if0 _ _).trans (feq hc172).1) ?_
  show Sw T8 m 175 aa2 [] _
  refine XS.iload X8.here hx rfl (hb hby at_175) rfl ?_
  show Sw T8 m 177 aa2 [(.int i7)] _
  refine XS.ifYes X8.here hx rfl (pc0 := 177) (pc' := 187) rfl (hb hby at_177) rfl ((if0 _ _).trans (teq hc177).1) (by decide) (by decide) ?_
  show Sw T8 m 187 aa2 [] _
  refine XS.aload X8.here hx rfl (hb hby at_187) rfl rfl ?_
  show Sw T8 m 189 aa2 [(.ref o14)] _
  refine st9.trans ?_
  show Sw T9 m 192 aa2 [(.ref d9)] _
  refine XS.astore X9.here hx rfl (hb hby at_192) rfl rfl (l' := #[s0, s1, s2, s3, s4, .val (.int i5), .val (.int i6), .val (.int i7), s8, s9, s10, s11, .val (.ref o12), .val (.ref o13), .val (.ref o14), .val (.ref o14), .val (.ref o14), .val (.ref d9), s18, s19]) (os0_192 hs17) ?_
  exact kt
set_option maxRecDepth 65536 in
set_option maxHeartbeats 40000000 in
theorem own_b101 {p : Program} {l : Launch} {e : Env} {s : State} {vm0 : Vm} {k0 : Nat} {m : MethodId} {args : Array Value} {below : List Frame} {meth : Method} {c : Code} {T0 : State} {locs : List Loc} {cells slots : Nat} {Z : State} {a0 : Array Value} {h0 : Heap} (s0 : Slot) (s1 : Slot) (s2 : Slot) (s3 : Slot) (s4 : Slot) (i5 : Int32) (i6 : Int32) (i7 : Int32) (s8 : Slot) (s9 : Slot) (s10 : Slot) (s11 : Slot) (o12 : Addr) (o13 : Addr) (o14 : Addr) (s15 : Slot) (s16 : Slot) (s17 : Slot) (s18 : Slot) (s19 : Slot) (ob oq va : Addr) (kb : ClassId) (ea : Addr) (ke : ClassId) (ta tb : Addr) (ksa ksb : ClassId) (ua ub : List Value) (G1 : Int32) (fm : Value) (X0 : Stand p l e room_1 (s.setVm vm0) m args below meth c T0 locs cells slots) (hx : p.tables.exec = Jvm.exec) (hZ : Z.Warmed39 vm0) (hw : HW a0 Z) (hml : c.maxLocals = 20) (hown : vm0.findClass "org/athenaeum/xml/XmlWriterEndPinLaw" = some m.cls) (e0 : T0.heap = h0) (n0 : Nat) (Z0 : n0 ≤ h0.size) (N0 : Fr n0 locs) (hS : s.Since vm0 k0) (hk0 : k0 ≤ h0.size) (CH0 : CHv Z own_EL vm0 h0) (SC : Sta Z h0 "java/lang/String" "COMPACT_STRINGS" "Z" (.int G1)) (P3 : ¬ (G1 = (0 : Int32))) (SF : Sta Z h0 "jdk/internal/util/Preconditions" "SIOOBE_FORMATTER" "Ljava/util/function/BiFunction;" fm) (hby : c.code = code) (hs15 : One s15) (hs16 : One s16) (hs17 : One s17) (Y0 : own_X Z h0 o14 ob oq va kb (55 : Int32) (39 : Int32) own_decl ea ke (0 : Int32) (List.replicate 17 .null) (0 : Int32)) (SA : own_S Z h0 o12 ta ksa (2 : Int32) ua) (SB : own_S Z h0 o13 tb ksb (2 : Int32) ub) (g_w : n0 ≤ o14) (g_b : n0 ≤ ob) (g_va : n0 ≤ va) (g_q : n0 ≤ oq) (g_ea : n0 ≤ ea) (hcs : cells + 20 ≤ room_1.cells) (hsl : slots + 700 ≤ room_1.slots) (hc127 : ¬ (i5 = (0 : Int32))) (hc148 : i6 = (0 : Int32)) (hc172 : ¬ (i5 = (0 : Int32))) (hc177 : ¬ (i7 = (0 : Int32))) :
    ∃ (vm' : Vm) (k' : Nat) (T' : State) (h' : Heap) (locs' : List Loc) (cells' slots' : Nat) (d t : Addr) (kt : ClassId), Stand p l e room_1 (s.setVm vm') m args below meth c T' locs' cells' slots' ∧ T'.heap = h' ∧ Fr n0 locs' ∧ s.Since vm' k' ∧ k' ≤ h'.size ∧ Z.Warmed39 vm' ∧ vm'.findClass "org/athenaeum/xml/XmlWriterEndPinLaw" = some m.cls ∧ n0 ≤ h'.size ∧ own_S Z h' d t kt (((((((((((39 : Int32) + (1 : Int32)) + (2 : Int32)) + (1 : Int32)) + (1 : Int32)) + (2 : Int32)) + (2 : Int32)) + (2 : Int32)) + (2 : Int32)) + (1 : Int32)) + (1 : Int32)) ((((((((((own_decl ++ [.int ((60 : Int32).toInt8.toInt32)]) ++ ua) ++ [.int ((62 : Int32).toInt8.toInt32)]) ++ [.int ((60 : Int32).toInt8.toInt32)]) ++ ub) ++ own_sl) ++ own_lt) ++ ua) ++ [.int ((62 : Int32).toInt8.toInt32)]) ++ [.int ((10 : Int32).toInt8.toInt32)]) ∧ Sta Z h' "java/lang/String" "COMPACT_STRINGS" "Z" (.int G1) ∧ Sta Z h' "jdk/internal/util/Preconditions" "SIOOBE_FORMATTER" "Ljava/util/function/BiFunction;" fm ∧ cells' ≤ cells + 20 ∧ slots' ≤ slots + 700 ∧
      ∀ target, Steps p.tables e below (T'.setTop (mkF m 194 #[s0, s1, s2, s3, s4, .val (.int i5), .val (.int i6), .val (.int i7), s8, s9, s10, s11, .val (.ref o12), .val (.ref o13), .val (.ref o14), .val (.ref o14), .val (.ref o14), .val (.ref d), s18, s19] [])) target → Steps p.tables e below (T0.setTop (mkF m 125 #[s0, s1, s2, s3, s4, .val (.int i5), .val (.int i6), .val (.int i7), s8, s9, s10, s11, .val (.ref o12), .val (.ref o13), .val (.ref o14), s15, s16, s17, s18, s19] [])) target := by
  have iw : own_I Z a0 := ⟨(ww hw 1 rfl), (ww hw 31 rfl), (ww hw 38 rfl), (ww hw 113 rfl)⟩
  have hEL := own_EW hw
  have C0 : CHr Z own_EL vm0 h0 vm0 h0 := CHr.refl CH0
  have hZ : Z.Warmed39 (s.setVm vm0).vm := hZ
  have hown : (s.setVm vm0).vm.findClass "org/athenaeum/xml/XmlWriterEndPinLaw" = some m.cls := hown
  obtain ⟨cq6, kq6, q6a, q6b, q6c⟩ := isOf hZ e0 Y0.1.1
  let aa1 : Array Slot := #[s0, s1, s2, s3, s4, .val (.int i5), .val (.int i6), .val (.int i7), s8, s9, s10, s11, .val (.ref o12), .val (.ref o13), .val (.ref o14), s15, s16, s17, s18, s19]
  obtain ⟨_, _, ⟨T6, L6, k6, n6⟩, -, X6, ⟨Lc6, hQ6, l6, y6, z6⟩, st6⟩ := X0.virtualBack hx (y := ym41) (z := ym41) hown (mvT hZ (ww hw 131 rfl)) (mvT hZ (ww hw 132 rfl)) (notFace_of_selects (args := #[]) (mvT hZ (ww hw 134 rfl))) (mvT hZ (ww hw 134 rfl)) (mvT hZ (ww hw 133 rfl)) (by decide) (backOf (W := 0) (rm21a l Z a0 hw [] o14 o12 ob oq va kb (55 : Int32) _ _ ea ke _ G1 ta ksa (2 : Int32) ua h0 n0 Z0 SC P3 Y0 SA (by unfold own_R; decide) (by unfold own_R; decide) (by decide) (by decide) g_b g_va g_q g_ea Y0.1.1 Y0.1.2.1 Y0.2.1.1 Y0.1.2.2.1 Y0.2.2.1.1 Y0.1.2.2.2 g_w) hZ (ww hw 135 rfl) (ww hw 32 rfl) (by decide) (by decide)) q6a q6c (g := (mkF m 134 aa1 [(.ref o12), (.ref o14)])) rfl (by rw [hml]; rfl) (Steps.refl _) (argsL := [(.ref o12)]) (rest := []) (lenOf pd_0_15 rfl) rfl (wz rfl) (hb hby at_134) (fun _ _ => ⟨rfl, e0, (by show cells + 0 ≤ room_1.cells; omega), (by show slots + 0 ≤ room_1.slots; omega)⟩)
  dsimp only [Pt.U, Pt.locs, Pt.cells, Pt.slots] at X6 l6 y6 z6 st6 hQ6
  subst l6 y6 z6
  obtain ⟨rfl, N6q, K6, Y6⟩ := hQ6
  have sc6 := own_staX SC Y0 K6 (by simp)
  have sf6 := own_staX SF Y0 K6 (by simp)
  have sa6 := SA.kX Y0 iw (by decide) (by decide) K6 (by simp)
  have sb6 := SB.kX Y0 iw (by decide) (by decide) K6 (by simp)
  have zz6 : n0 ≤ T6.heap.size := Nat.le_trans Z0 K6.1
  have D6 := C0.trans (CHr.keep K6 (own_safeX hw Y0 hZ (by unfold own_len; decide) (by simp)) C0.1)
  have N6 := Fr.app N0 N6q
  obtain ⟨cq7, kq7, q7a, q7b, q7c⟩ := isOf hZ rfl Y6.1.1
  obtain ⟨_, _, ⟨T7, L7, k7, n7⟩, -, X7, ⟨Lc7, hQ7, l7, y7, z7⟩, st7⟩ := X6.virtualBack hx (y := ym41) (z := ym41) hown (mvT hZ (ww hw 131 rfl)) (mvT hZ (ww hw 132 rfl)) (notFace_of_selects (args := #[]) (mvT hZ (ww hw 134 rfl))) (mvT hZ (ww hw 134 rfl)) (mvT hZ (ww hw 133 rfl)) (by decide) (backOf (W := 0) (rm21b l Z a0 hw [] o14 o13 ob oq va kb (55 : Int32) _ _ ea ke _ G1 tb ksb (2 : Int32) ub T6.heap n0 zz6 sc6 P3 Y6 sb6 (by unfold own_R; decide) (by unfold own_R; decide) (by unfold own_R; decide) (by decide) (by decide) g_b g_va g_q g_ea Y6.1.1 Y6.1.2.1 Y6.2.1.1 Y6.1.2.2.1 Y6.2.2.1.1 Y6.1.2.2.2 g_w) hZ (ww hw 135 rfl) (ww hw 32 rfl) (by decide) (by decide)) q7a q7c (g := (mkF m 142 aa1 [(.ref o13), (.ref o14)])) rfl (by rw [hml]; rfl) (Steps.refl _) (argsL := [(.ref o13)]) (rest := []) (lenOf pd_0_15 rfl) rfl (wz rfl) (hb hby at_142) (fun _ _ => ⟨rfl, rfl, (by show k6 + 0 ≤ room_1.cells; omega), (by show n6 + 0 ≤ room_1.slots; omega)⟩)
  dsimp only [Pt.U, Pt.locs, Pt.cells, Pt.slots] at X7 l7 y7 z7 st7 hQ7
  subst l7 y7 z7
  obtain ⟨rfl, N7q, K7, Y7⟩ := hQ7
  have sc7 := own_staX sc6 Y6 K7 (by simp)
  have sf7 := own_staX sf6 Y6 K7 (by simp)
  have sa7 := sa6.kX Y6 iw (by decide) (by decide) K7 (by simp)
  have sb7 := sb6.kX Y6 iw (by decide) (by decide) K7 (by simp)
  have zz7 : n0 ≤ T7.heap.size := Nat.le_trans zz6 K7.1
  have D7 := D6.trans (CHr.keep K7 (own_safeX hw Y6 hZ (by unfold own_len; decide) (by simp)) D6.1)
  have N7 := Fr.app N6 N7q
  obtain ⟨cq8, kq8, q8a, q8b, q8c⟩ := isOf hZ rfl Y7.1.1
  obtain ⟨_, _, ⟨T8, L8, k8, n8⟩, -, X8, S8, G8, ⟨Lc8, hQ8, l8, y8, z8, C8⟩, st8⟩ := X7.virtualBackS hx (y := ym46) (z := ym46) hown (mvT hZ (ww hw 183 rfl)) (mvT hZ (ww hw 184 rfl)) (notFace_of_selects (args := #[]) (mvT hZ (ww hw 186 rfl))) (mvT hZ (ww hw 186 rfl)) (mvT hZ (ww hw 185 rfl)) (by decide) (backOfSH (s := s) (vm0 := vm0) (W := 0) (rm30A l Z a0 hw [] o14 oq ob va kb (55 : Int32) _ _ ea ke _ o13 tb ksb ub G1 T7.heap n0 zz7 sc7 P3 Y7 sb7 rfl (by decide) (by unfold own_len; decide) g_b g_va g_q g_ea (by unfold own_R; decide) Y7.1.2.2.1 Y7.2.2.1.1 Y7.1.2.2.2 Y7.1.2.1 Y7.2.1.1 Y7.1.1 g_w (by decide)) hZ (ww hw 187 rfl) (ww hw 32 rfl) (by decide) (by decide) hEL D7.1) q8a q8c (g := (mkF m 161 aa1 [(.ref o14)])) rfl (by rw [hml]; rfl) (Steps.refl _) (argsL := []) (rest := []) (lenOf pd_36_22 rfl) rfl (wz rfl) (hb hby at_161) (fun _ _ => ⟨rfl, rfl, (by show k7 + 2 ≤ room_1.cells; omega), (by show n7 + 12 ≤ room_1.slots; omega)⟩)
  dsimp only [Pt.U, Pt.locs, Pt.cells, Pt.slots] at X8 S8 G8 C8 l8 y8 z8 st8 hQ8
  subst l8 y8 z8
  obtain ⟨X8, S8, hZ8, hown8⟩ := rebS hS (Nat.le_trans (Nat.le_trans hk0 K6.1) K7.1) X8 S8 G8 hZ hown
  obtain ⟨rfl, N8q, K8, Y8⟩ := hQ8
  have sc8 := own_staX sc7 Y7 K8 (by simp)
  have sf8 := own_staX sf7 Y7 K8 (by simp)
  have sa8 := sa7.kX Y7 iw (by decide) (by decide) K8 (by simp)
  have sb8 := sb7.kX Y7 iw (by decide) (by decide) K8 (by simp)
  have zz8 : n0 ≤ T8.heap.size := Nat.le_trans zz7 K8.1
  have D8 := D7.trans C8
  have N8 := Fr.app N7 N8q
  obtain ⟨cq9, kq9, q9a, q9b, q9c⟩ := isOf hZ8 rfl Y8.1.1
  let aa2 : Array Slot := #[s0, s1, s2, s3, s4, .val (.int i5), .val (.int i6), .val (.int i7), s8, s9, s10, s11, .val (.ref o12), .val (.ref o13), .val (.ref o14), .val (.ref o14), .val (.ref o14), s17, s18, s19]
  obtain ⟨_, _, ⟨T9, L9, k9, n9⟩, -, X9, S9, G9, ⟨Lc9, hQ9, l9, y9, z9, C9⟩, st9⟩ := X8.virtualBackS hx (y := ym46) (z := ym46) hown8 (mvT hZ8 (ww hw 183 rfl)) (mvT hZ8 (ww hw 184 rfl)) (notFace_of_selects (args := #[]) (mvT hZ8 (ww hw 186 rfl))) (mvT hZ8 (ww hw 186 rfl)) (mvT hZ8 (ww hw 185 rfl)) (by decide) (backOfSH (s := s) (vm0 := T8.vm) (W := 0) (rm30b l Z a0 hw [] o14 oq ob va kb (55 : Int32) _ _ ea ke _ o12 ta ksa ua G1 T8.heap n0 zz8 sc8 P3 Y8 sa8 rfl (by decide) (by unfold own_len; decide) g_w g_b g_va g_q g_ea (by unfold own_R; decide) (by unfold own_R; decide) (by unfold own_R; decide) Y8.1.2.2.1 Y8.2.2.1.1 Y8.1.2.2.2 Y8.1.2.1 Y8.2.1.1 (by decide)) hZ8 (ww hw 187 rfl) (ww hw 32 rfl) (by decide) (by decide) hEL D8.1) q9a q9c (g := (mkF m 182 aa2 [(.ref o14)])) rfl (by rw [hml]; rfl) (Steps.refl _) (argsL := []) (rest := []) (lenOf pd_36_22 rfl) rfl (wz rfl) (hb hby at_182) (fun _ _ => ⟨rfl, rfl, (by show k7 + 2 + 3 ≤ room_1.cells; omega), (by show n7 + 12 + 124 ≤ room_1.slots; omega)⟩)
  dsimp only [Pt.U, Pt.locs, Pt.cells, Pt.slots] at X9 S9 G9 C9 l9 y9 z9 st9 hQ9
  subst l9 y9 z9
  obtain ⟨X9, S9, hZ9, hown9⟩ := rebS S8 (Nat.le_refl _) X9 S9 G9 hZ8 hown8
  obtain ⟨rfl, N9q, K9, Y9⟩ := hQ9
  have sc9 := own_staX sc8 Y8 K9 (by simp)
  have sf9 := own_staX sf8 Y8 K9 (by simp)
  have sa9 := sa8.kX Y8 iw (by decide) (by decide) K9 (by simp)
  have sb9 := sb8.kX Y8 iw (by decide) (by decide) K9 (by simp)
  have zz9 : n0 ≤ T9.heap.size := Nat.le_trans zz8 K9.1
  have D9 := D8.trans C9
  have N9 := Fr.app N8 N9q
  obtain ⟨cq10, kq10, q10a, q10b, q10c⟩ := isOf hZ9 rfl Y9.1.1
  obtain ⟨_, _, ⟨T10, L10, k10, n10⟩, -, X10, ⟨Lc10, hQ10, l10, y10, z10⟩, st10⟩ := X9.virtualBack hx (y := ym48) (z := ym48) hown9 (mvT hZ9 (ww hw 214 rfl)) (mvT hZ9 (ww hw 215 rfl)) (notFace_of_selects (args := #[]) (mvT hZ9 (ww hw 217 rfl))) (mvT hZ9 (ww hw 217 rfl)) (mvT hZ9 (ww hw 216 rfl)) (by decide) (backOf (W := 0) (rm36z l Z a0 hw [] o14 oq ob va kb (55 : Int32) _ _ ea ke _ (0 : Int32) G1 T9.heap n0 zz9 sc9 P3 Y9 (by unfold own_R; decide) (by unfold own_T; decide) g_b g_va Y9.1.2.2.1 Y9.2.2.1.1 Y9.1.2.1 Y9.2.1.1) hZ9 (ww hw 218 rfl) (ww hw 32 rfl) (by decide) (by decide)) q10a q10c (g := (mkF m 189 aa2 [(.ref o14)])) rfl (by rw [hml]; rfl) (Steps.refl _) (argsL := []) (rest := []) (lenOf pd_36_25 rfl) rfl (wz rfl) (hb hby at_189) (fun _ _ => ⟨rfl, rfl, (by show k7 + 2 + 3 + 2 ≤ room_1.cells; omega), (by show n7 + 12 + 124 + 62 ≤ room_1.slots; omega)⟩)
  dsimp only [Pt.U, Pt.locs, Pt.cells, Pt.slots] at X10 l10 y10 z10 st10 hQ10
  subst l10 y10 z10
  obtain ⟨d10, x10, k10', rfl, N10q, K10, S_d⟩ := hQ10
  have sc10 := own_staX sc9 Y9 K10 (by simp)
  have sf10 := own_staX sf9 Y9 K10 (by simp)
  have zz10 : n0 ≤ T10.heap.size := Nat.le_trans zz9 K10.1
  have N10 := Fr.app N9 N10q
  refine ⟨T9.vm, _, T10, _, _, _, _, d10, x10, k10', X10, rfl, N10, S9, (Nat.le_trans (Nat.le_refl _) K10.1), hZ9, hown9, zz10, S_d, sc10, sf10, (by show k7 + 2 + 3 + 2 ≤ k7 + 20; omega), (by show n7 + 12 + 124 + 62 ≤ n7 + 700; omega), fun target kt => ?_⟩
  show Sw T0 m 125 aa1 [] _
  refine XS.iload X0.here hx rfl (hb hby at_125) rfl ?_
  show Sw T0 m 127 aa1 [(.int i5)] _
  refine XS.ifNo X0.here hx rfl (hb hby at_127) rfl ((if0 _ _).trans (feq hc127).1) ?_
  show Sw T0 m 130 aa1 [] _
  refine XS.aload X0.here hx rfl (hb hby at_130) rfl rfl ?_
  show Sw T0 m 132 aa1 [(.ref o14)] _
  refine XS.aload X0.here hx rfl (hb hby at_132) rfl rfl ?_
  show Sw T0 m 134 aa1 [(.ref o12), (.ref o14)] _
  refine st6.trans ?_
  show Sw T6 m 137 aa1 [(.ref o14)] _
  refine XS.pop X6.here hx rfl (hb hby at_137) rfl rfl ?_
  show Sw T6 m 138 aa1 [] _
  refine XS.aload X6.here hx rfl (hb hby at_138) rfl rfl ?_
  show Sw T6 m 140 aa1 [(.ref o14)] _
  refine XS.aload X6.here hx rfl (hb hby at_140) rfl rfl ?_
  show Sw T6 m 142 aa1 [(.ref o13), (.ref o14)] _
  refine st7.trans ?_
  show Sw T7 m 145 aa1 [(.ref o14)] _
  refine XS.pop X7.here hx rfl (hb hby at_145) rfl rfl ?_
  show Sw T7 m 146 aa1 [] _
  refine XS.iload X7.here hx rfl (hb hby at_146) rfl ?_
  show Sw T7 m 148 aa1 [(.int i6)] _
  refine XS.ifYes X7.here hx rfl (pc0 := 148) (pc' := 159) rfl (hb hby at_148) rfl ((if0 _ _).trans (teq hc148).1) (by decide) (by decide) ?_
  show Sw T7 m 159 aa1 [] _
  refine XS.aload X7.here hx rfl (hb hby at_159) rfl rfl ?_
  show Sw T7 m 161 aa1 [(.ref o14)] _
  refine st8.trans ?_
  show Sw T8 m 164 aa1 [(.ref o14)] _
  let aa3 : Array Slot := #[s0, s1, s2, s3, s4, .val (.int i5), .val (.int i6), .val (.int i7), s8, s9, s10, s11, .val (.ref o12), .val (.ref o13), .val (.ref o14), .val (.ref o14), s16, s17, s18, s19]
  refine XS.astore X8.here hx rfl (hb hby at_164) rfl rfl (l' := aa3) (os0_164 hs15) ?_
  show Sw T8 m 166 aa3 [] _
  refine XS.aload X8.here hx rfl (hb hby at_166) rfl rfl ?_
  show Sw T8 m 168 aa3 [(.ref o14)] _
  refine XS.astore X8.here hx rfl (hb hby at_168) rfl rfl (l' := aa2) (os0_168 hs16) ?_
  show Sw T8 m 170 aa2 [] _
  refine XS.iload X8.here hx rfl (hb hby at_170) rfl ?_
  show Sw T8 m 172 aa2 [(.int i5)] _
  refine XS.ifNo X8.here hx rfl (hb hby at_172) rfl ((if0 _ _).trans (feq hc172).1) ?_
  show Sw T8 m 175 aa2 [] _
  refine XS.iload X8.here hx rfl (hb hby at_175) rfl ?_
  show Sw T8 m 177 aa2 [(.int i7)] _
  refine XS.ifNo X8.here hx rfl (hb hby at_177) rfl ((if0 _ _).trans (feq hc177).1) ?_
  show Sw T8 m 180 aa2 [] _
  refine XS.aload X8.here hx rfl (hb hby at_180) rfl rfl ?_
  show Sw T8 m 182 aa2 [(.ref o14)] _
  refine st9.trans ?_
  show Sw T9 m 185 aa2 [(.ref o14)] _
  refine XS.astore X9.here hx rfl (hb hby at_185) rfl rfl (l' := aa2) rfl ?_
  show Sw T9 m 187 aa2 [] _
  refine XS.aload X9.here hx rfl (hb hby at_187) rfl rfl ?_
  show Sw T9 m 189 aa2 [(.ref o14)] _
  refine st10.trans ?_
  show Sw T10 m 192 aa2 [(.ref d10)] _
  refine XS.astore X10.here hx rfl (hb hby at_192) rfl rfl (l' := #[s0, s1, s2, s3, s4, .val (.int i5), .val (.int i6), .val (.int i7), s8, s9, s10, s11, .val (.ref o12), .val (.ref o13), .val (.ref o14), .val (.ref o14), .val (.ref o14), .val (.ref d10), s18, s19]) (os0_192 hs17) ?_
  exact kt
set_option maxRecDepth 65536 in
set_option maxHeartbeats 40000000 in
theorem own_b110 {p : Program} {l : Launch} {e : Env} {s : State} {vm0 : Vm} {k0 : Nat} {m : MethodId} {args : Array Value} {below : List Frame} {meth : Method} {c : Code} {T0 : State} {locs : List Loc} {cells slots : Nat} {Z : State} {a0 : Array Value} {h0 : Heap} (s0 : Slot) (s1 : Slot) (s2 : Slot) (s3 : Slot) (s4 : Slot) (i5 : Int32) (i6 : Int32) (i7 : Int32) (s8 : Slot) (s9 : Slot) (s10 : Slot) (s11 : Slot) (o12 : Addr) (o13 : Addr) (o14 : Addr) (s15 : Slot) (s16 : Slot) (s17 : Slot) (s18 : Slot) (s19 : Slot) (ob oq va : Addr) (kb : ClassId) (ea : Addr) (ke : ClassId) (ta tb : Addr) (ksa ksb : ClassId) (ua ub : List Value) (G1 : Int32) (fm : Value) (X0 : Stand p l e room_1 (s.setVm vm0) m args below meth c T0 locs cells slots) (hx : p.tables.exec = Jvm.exec) (hZ : Z.Warmed39 vm0) (hw : HW a0 Z) (hml : c.maxLocals = 20) (hown : vm0.findClass "org/athenaeum/xml/XmlWriterEndPinLaw" = some m.cls) (e0 : T0.heap = h0) (n0 : Nat) (Z0 : n0 ≤ h0.size) (N0 : Fr n0 locs) (hS : s.Since vm0 k0) (hk0 : k0 ≤ h0.size) (CH0 : CHv Z own_EL vm0 h0) (SC : Sta Z h0 "java/lang/String" "COMPACT_STRINGS" "Z" (.int G1)) (P3 : ¬ (G1 = (0 : Int32))) (SF : Sta Z h0 "jdk/internal/util/Preconditions" "SIOOBE_FORMATTER" "Ljava/util/function/BiFunction;" fm) (hby : c.code = code) (hs15 : One s15) (hs16 : One s16) (hs17 : One s17) (Y0 : own_X Z h0 o14 ob oq va kb (55 : Int32) (39 : Int32) own_decl ea ke (0 : Int32) (List.replicate 17 .null) (0 : Int32)) (SA : own_S Z h0 o12 ta ksa (2 : Int32) ua) (SB : own_S Z h0 o13 tb ksb (2 : Int32) ub) (g_w : n0 ≤ o14) (g_b : n0 ≤ ob) (g_va : n0 ≤ va) (g_q : n0 ≤ oq) (g_ea : n0 ≤ ea) (hcs : cells + 20 ≤ room_1.cells) (hsl : slots + 700 ≤ room_1.slots) (hc127 : ¬ (i5 = (0 : Int32))) (hc148 : ¬ (i6 = (0 : Int32))) (hc172 : ¬ (i5 = (0 : Int32))) (hc177 : i7 = (0 : Int32)) :
    ∃ (vm' : Vm) (k' : Nat) (T' : State) (h' : Heap) (locs' : List Loc) (cells' slots' : Nat) (d t : Addr) (kt : ClassId), Stand p l e room_1 (s.setVm vm') m args below meth c T' locs' cells' slots' ∧ T'.heap = h' ∧ Fr n0 locs' ∧ s.Since vm' k' ∧ k' ≤ h'.size ∧ Z.Warmed39 vm' ∧ vm'.findClass "org/athenaeum/xml/XmlWriterEndPinLaw" = some m.cls ∧ n0 ≤ h'.size ∧ own_S Z h' d t kt ((((54 : Int32) + (2 : Int32)) + (1 : Int32)) + (1 : Int32)) (((((((((((((own_decl ++ [.int ((60 : Int32).toInt8.toInt32)]) ++ ua) ++ [.int ((62 : Int32).toInt8.toInt32)]) ++ [.int ((60 : Int32).toInt8.toInt32)]) ++ ub) ++ [.int ((62 : Int32).toInt8.toInt32)]) ++ own_lt) ++ ub) ++ [.int ((62 : Int32).toInt8.toInt32)]) ++ own_lt) ++ ua) ++ [.int ((62 : Int32).toInt8.toInt32)]) ++ [.int ((10 : Int32).toInt8.toInt32)]) ∧ Sta Z h' "java/lang/String" "COMPACT_STRINGS" "Z" (.int G1) ∧ Sta Z h' "jdk/internal/util/Preconditions" "SIOOBE_FORMATTER" "Ljava/util/function/BiFunction;" fm ∧ cells' ≤ cells + 20 ∧ slots' ≤ slots + 700 ∧
      ∀ target, Steps p.tables e below (T'.setTop (mkF m 194 #[s0, s1, s2, s3, s4, .val (.int i5), .val (.int i6), .val (.int i7), s8, s9, s10, s11, .val (.ref o12), .val (.ref o13), .val (.ref o14), .val (.ref o14), .val (.ref o14), .val (.ref d), s18, s19] [])) target → Steps p.tables e below (T0.setTop (mkF m 125 #[s0, s1, s2, s3, s4, .val (.int i5), .val (.int i6), .val (.int i7), s8, s9, s10, s11, .val (.ref o12), .val (.ref o13), .val (.ref o14), s15, s16, s17, s18, s19] [])) target := by
  have iw : own_I Z a0 := ⟨(ww hw 1 rfl), (ww hw 31 rfl), (ww hw 38 rfl), (ww hw 113 rfl)⟩
  have hEL := own_EW hw
  have wS : ∀ a ∈ Bundle.stringAtoms, a.before a0 Z = true := fun d hd => hw d ((by decide +kernel : ∀ d ∈ Bundle.stringAtoms, d ∈ tables_1) d hd)
  have C0 : CHr Z own_EL vm0 h0 vm0 h0 := CHr.refl CH0
  have hZ : Z.Warmed39 (s.setVm vm0).vm := hZ
  have hown : (s.setVm vm0).vm.findClass "org/athenaeum/xml/XmlWriterEndPinLaw" = some m.cls := hown
  obtain ⟨cq6, kq6, q6a, q6b, q6c⟩ := isOf hZ e0 Y0.1.1
  let aa1 : Array Slot := #[s0, s1, s2, s3, s4, .val (.int i5), .val (.int i6), .val (.int i7), s8, s9, s10, s11, .val (.ref o12), .val (.ref o13), .val (.ref o14), s15, s16, s17, s18, s19]
  obtain ⟨_, _, ⟨T6, L6, k6, n6⟩, -, X6, ⟨Lc6, hQ6, l6, y6, z6⟩, st6⟩ := X0.virtualBack hx (y := ym41) (z := ym41) hown (mvT hZ (ww hw 131 rfl)) (mvT hZ (ww hw 132 rfl)) (notFace_of_selects (args := #[]) (mvT hZ (ww hw 134 rfl))) (mvT hZ (ww hw 134 rfl)) (mvT hZ (ww hw 133 rfl)) (by decide) (backOf (W := 0) (rm21a l Z a0 hw [] o14 o12 ob oq va kb (55 : Int32) _ _ ea ke _ G1 ta ksa (2 : Int32) ua h0 n0 Z0 SC P3 Y0 SA (by unfold own_R; decide) (by unfold own_R; decide) (by decide) (by decide) g_b g_va g_q g_ea Y0.1.1 Y0.1.2.1 Y0.2.1.1 Y0.1.2.2.1 Y0.2.2.1.1 Y0.1.2.2.2 g_w) hZ (ww hw 135 rfl) (ww hw 32 rfl) (by decide) (by decide)) q6a q6c (g := (mkF m 134 aa1 [(.ref o12), (.ref o14)])) rfl (by rw [hml]; rfl) (Steps.refl _) (argsL := [(.ref o12)]) (rest := []) (lenOf pd_0_15 rfl) rfl (wz rfl) (hb hby at_134) (fun _ _ => ⟨rfl, e0, (by show cells + 0 ≤ room_1.cells; omega), (by show slots + 0 ≤ room_1.slots; omega)⟩)
  dsimp only [Pt.U, Pt.locs, Pt.cells, Pt.slots] at X6 l6 y6 z6 st6 hQ6
  subst l6 y6 z6
  obtain ⟨rfl, N6q, K6, Y6⟩ := hQ6
  have sc6 := own_staX SC Y0 K6 (by simp)
  have sf6 := own_staX SF Y0 K6 (by simp)
  have sa6 := SA.kX Y0 iw (by decide) (by decide) K6 (by simp)
  have sb6 := SB.kX Y0 iw (by decide) (by decide) K6 (by simp)
  have zz6 : n0 ≤ T6.heap.size := Nat.le_trans Z0 K6.1
  have D6 := C0.trans (CHr.keep K6 (own_safeX hw Y0 hZ (by unfold own_len; decide) (by simp)) C0.1)
  have N6 := Fr.app N0 N6q
  obtain ⟨cq7, kq7, q7a, q7b, q7c⟩ := isOf hZ rfl Y6.1.1
  obtain ⟨_, _, ⟨T7, L7, k7, n7⟩, -, X7, ⟨Lc7, hQ7, l7, y7, z7⟩, st7⟩ := X6.virtualBack hx (y := ym41) (z := ym41) hown (mvT hZ (ww hw 131 rfl)) (mvT hZ (ww hw 132 rfl)) (notFace_of_selects (args := #[]) (mvT hZ (ww hw 134 rfl))) (mvT hZ (ww hw 134 rfl)) (mvT hZ (ww hw 133 rfl)) (by decide) (backOf (W := 0) (rm21b l Z a0 hw [] o14 o13 ob oq va kb (55 : Int32) _ _ ea ke _ G1 tb ksb (2 : Int32) ub T6.heap n0 zz6 sc6 P3 Y6 sb6 (by unfold own_R; decide) (by unfold own_R; decide) (by unfold own_R; decide) (by decide) (by decide) g_b g_va g_q g_ea Y6.1.1 Y6.1.2.1 Y6.2.1.1 Y6.1.2.2.1 Y6.2.2.1.1 Y6.1.2.2.2 g_w) hZ (ww hw 135 rfl) (ww hw 32 rfl) (by decide) (by decide)) q7a q7c (g := (mkF m 142 aa1 [(.ref o13), (.ref o14)])) rfl (by rw [hml]; rfl) (Steps.refl _) (argsL := [(.ref o13)]) (rest := []) (lenOf pd_0_15 rfl) rfl (wz rfl) (hb hby at_142) (fun _ _ => ⟨rfl, rfl, (by show k6 + 0 ≤ room_1.cells; omega), (by show n6 + 0 ≤ room_1.slots; omega)⟩)
  dsimp only [Pt.U, Pt.locs, Pt.cells, Pt.slots] at X7 l7 y7 z7 st7 hQ7
  subst l7 y7 z7
  obtain ⟨rfl, N7q, K7, Y7⟩ := hQ7
  have sc7 := own_staX sc6 Y6 K7 (by simp)
  have sf7 := own_staX sf6 Y6 K7 (by simp)
  have sa7 := sa6.kX Y6 iw (by decide) (by decide) K7 (by simp)
  have sb7 := sb6.kX Y6 iw (by decide) (by decide) K7 (by simp)
  have zz7 : n0 ≤ T7.heap.size := Nat.le_trans zz6 K7.1
  have D7 := D6.trans (CHr.keep K7 (own_safeX hw Y6 hZ (by unfold own_len; decide) (by simp)) D6.1)
  have N7 := Fr.app N6 N7q
  obtain ⟨la8, T8, h8, k8, lb8, lk8, X8, e8, E8, S8, kk8, hZ8, hown8, El8, Fc8, Fv8, Vl8, lt8, ltb8, C8, -, ns8, st8⟩ := ldcCH (s := s) (vm0 := vm0) X7 hx hZ hown (ww hw 294 rfl) wS rfl hS (Nat.le_trans (Nat.le_trans hk0 K6.1) K7.1) hEL (by simp) D7.1 (text := "") (vs := ([] : List Value)) (z := (0 : Int32)) ⟨by decide, by rfl⟩ (by decide) rfl (g := (mkF m 153 aa1 [(.ref o14)])) rfl (hb hby at_153) (n := 0) (by decide) (by decide) (by show k7 + 2 ≤ room_1.cells; omega) (by show n7 + (0 + 4) ≤ room_1.slots; omega)
  have Y8 := Y7.ext E8
  have sc8 := sc7.ext E8
  have sf8 := sf7.ext E8
  have sa8 := sa7.ext E8
  have sb8 := sb7.ext E8
  have zz8 : n0 ≤ h8.size := Nat.le_trans zz7 E8.1
  have D8 := D7.trans C8
  obtain ⟨cq9, kq9, q9a, q9b, q9c⟩ := isOf hZ8 e8 Y8.1.1
  obtain ⟨_, _, ⟨T9, L9, k9, n9⟩, -, X9, ⟨Lc9, hQ9, l9, y9, z9⟩, st9⟩ := X8.virtualBack hx (y := ym44) (z := ym44) hown8 (mvT hZ8 (ww hw 295 rfl)) (mvT hZ8 (ww hw 296 rfl)) (notFace_of_selects (args := #[]) (mvT hZ8 (ww hw 298 rfl))) (mvT hZ8 (ww hw 298 rfl)) (mvT hZ8 (ww hw 297 rfl)) (by decide) (backOf (W := 0) (rm54 l Z a0 hw [] o14 la8 ob oq va kb (55 : Int32) _ _ ea ke _ _ G1 lb8 lk8 ([] : List Value) h8 n0 zz8 sc8 P3 Y8 ⟨El8, Fv8, Fc8, Vl8, rfl⟩ (by unfold own_R; decide) (by decide) g_w g_b g_va Y8.1.1) hZ8 (ww hw 299 rfl) (ww hw 32 rfl) (by decide) (by decide)) q9a q9c (g := (mkF m 155 aa1 [(.ref la8), (.ref o14)])) rfl (by rw [hml]; rfl) (Steps.refl _) (argsL := [(.ref la8)]) (rest := []) (lenOf pd_0_15 rfl) rfl (wz rfl) (hb hby at_155) (fun _ _ => ⟨rfl, e8, (by show k7 + 2 + 0 ≤ room_1.cells; omega), (by show n7 + (0 + 4) + 0 ≤ room_1.slots; omega)⟩)
  dsimp only [Pt.U, Pt.locs, Pt.cells, Pt.slots] at X9 l9 y9 z9 st9 hQ9
  subst l9 y9 z9
  obtain ⟨rfl, N9q, K9, Y9⟩ := hQ9
  have sc9 := own_staX sc8 Y8 K9 (by simp)
  have sf9 := own_staX sf8 Y8 K9 (by simp)
  have sa9 := sa8.kX Y8 iw (by decide) (by decide) K9 (by simp)
  have sb9 := sb8.kX Y8 iw (by decide) (by decide) K9 (by simp)
  have zz9 : n0 ≤ T9.heap.size := Nat.le_trans zz8 K9.1
  have D9 := D8.trans (CHr.keep K9 (own_safeX hw Y8 hZ8 (by unfold own_len; decide) (by simp)) D8.1)
  have N9 := Fr.app N7 N9q
  obtain ⟨cq10, kq10, q10a, q10b, q10c⟩ := isOf hZ8 rfl Y9.1.1
  obtain ⟨_, _, ⟨T10, L10, k10, n10⟩, -, X10, S10, G10, ⟨Lc10, hQ10, l10, y10, z10, C10⟩, st10⟩ := X9.virtualBackS hx (y := ym46) (z := ym46) hown8 (mvT hZ8 (ww hw 183 rfl)) (mvT hZ8 (ww hw 184 rfl)) (notFace_of_selects (args := #[]) (mvT hZ8 (ww hw 186 rfl))) (mvT hZ8 (ww hw 186 rfl)) (mvT hZ8 (ww hw 185 rfl)) (by decide) (backOfSH (s := s) (vm0 := T8.vm) (W := 0) (rm30B l Z a0 hw [] o14 oq ob va kb (55 : Int32) _ _ ea ke _ o13 tb ksb ub G1 T9.heap n0 zz9 sc9 P3 Y9 sb9 rfl (by decide) (by unfold own_len; decide) g_w g_b g_va g_q g_ea (by unfold own_R; decide) (by unfold own_R; decide) (by unfold own_R; decide) Y9.1.2.2.1 Y9.2.2.1.1 Y9.1.2.2.2 Y9.1.2.1 Y9.2.1.1 (by decide)) hZ8 (ww hw 187 rfl) (ww hw 32 rfl) (by decide) (by decide) hEL D9.1) q10a q10c (g := (mkF m 161 aa1 [(.ref o14)])) rfl (by rw [hml]; rfl) (Steps.refl _) (argsL := []) (rest := []) (lenOf pd_36_22 rfl) rfl (wz rfl) (hb hby at_161) (fun _ _ => ⟨rfl, rfl, (by show k7 + 2 + 3 ≤ room_1.cells; omega), (by show n7 + (0 + 4) + 124 ≤ room_1.slots; omega)⟩)
  dsimp only [Pt.U, Pt.locs, Pt.cells, Pt.slots] at X10 S10 G10 C10 l10 y10 z10 st10 hQ10
  subst l10 y10 z10
  obtain ⟨X10, S10, hZ10, hown10⟩ := rebS S8 (Nat.le_trans kk8 K9.1) X10 S10 G10 hZ8 hown8
  obtain ⟨rfl, N10q, K10, Y10⟩ := hQ10
  have sc10 := own_staX sc9 Y9 K10 (by simp)
  have sf10 := own_staX sf9 Y9 K10 (by simp)
  have sa10 := sa9.kX Y9 iw (by decide) (by decide) K10 (by simp)
  have sb10 := sb9.kX Y9 iw (by decide) (by decide) K10 (by simp)
  have zz10 : n0 ≤ T10.heap.size := Nat.le_trans zz9 K10.1
  have D10 := D9.trans C10
  have N10 := Fr.app N9 N10q
  obtain ⟨cq11, kq11, q11a, q11b, q11c⟩ := isOf hZ10 rfl Y10.1.1
  let aa2 : Array Slot := #[s0, s1, s2, s3, s4, .val (.int i5), .val (.int i6), .val (.int i7), s8, s9, s10, s11, .val (.ref o12), .val (.ref o13), .val (.ref o14), .val (.ref o14), .val (.ref o14), s17, s18, s19]
  obtain ⟨_, _, ⟨T11, L11, k11, n11⟩, -, X11, S11, G11, ⟨Lc11, hQ11, l11, y11, z11, C11⟩, st11⟩ := X10.virtualBackS hx (y := ym48) (z := ym48) hown10 (mvT hZ10 (ww hw 214 rfl)) (mvT hZ10 (ww hw 215 rfl)) (notFace_of_selects (args := #[]) (mvT hZ10 (ww hw 217 rfl))) (mvT hZ10 (ww hw 217 rfl)) (mvT hZ10 (ww hw 216 rfl)) (by decide) (backOfSH (s := s) (vm0 := T10.vm) (W := 0) (rm36g l Z a0 hw [] o14 oq ob va kb _ ea ke _ o12 ta ksa ua G1 T10.heap n0 zz10 sc10 P3 (own_X.eqs Y10 (by decide) (by decide)) sa10 rfl (by decide) (by unfold own_len; decide) g_w g_b g_va g_q g_ea Y10.1.2.2.1 Y10.2.2.1.1 Y10.1.1 Y10.2.2.1.1 Y10.1.2.1 Y10.2.1.1) hZ10 (ww hw 218 rfl) (ww hw 32 rfl) (by decide) (by decide) hEL D10.1) q11a q11c (g := (mkF m 189 aa2 [(.ref o14)])) rfl (by rw [hml]; rfl) (Steps.refl _) (argsL := []) (rest := []) (lenOf pd_36_25 rfl) rfl (wz rfl) (hb hby at_189) (fun _ _ => ⟨rfl, rfl, (by show k7 + 2 + 3 + 5 ≤ room_1.cells; omega), (by show n7 + (0 + 4) + 124 + 190 ≤ room_1.slots; omega)⟩)
  dsimp only [Pt.U, Pt.locs, Pt.cells, Pt.slots] at X11 S11 G11 C11 l11 y11 z11 st11 hQ11
  subst l11 y11 z11
  obtain ⟨X11, S11, hZ11, hown11⟩ := rebS S10 (Nat.le_refl _) X11 S11 G11 hZ10 hown10
  obtain ⟨d11, x11, k11', rfl, N11q, K11, S_d⟩ := hQ11
  have sc11 := own_staX sc10 Y10 K11 (by simp)
  have sf11 := own_staX sf10 Y10 K11 (by simp)
  have zz11 : n0 ≤ T11.heap.size := Nat.le_trans zz10 K11.1
  have N11 := Fr.app N10 N11q
  refine ⟨T11.vm, _, T11, _, _, _, _, d11, x11, k11', X11, rfl, N11, S11, (Nat.le_refl _), hZ11, hown11, zz11, S_d, sc11, sf11, (by show k7 + 2 + 3 + 5 ≤ k7 + 20; omega), (by show n7 + (0 + 4) + 124 + 190 ≤ n7 + 700; omega), fun target kt => ?_⟩
  show Sw T0 m 125 aa1 [] _
  refine XS.iload X0.here hx rfl (hb hby at_125) rfl ?_
  show Sw T0 m 127 aa1 [(.int i5)] _
  refine XS.ifNo X0.here hx rfl (hb hby at_127) rfl ((if0 _ _).trans (feq hc127).1) ?_
  show Sw T0 m 130 aa1 [] _
  refine XS.aload X0.here hx rfl (hb hby at_130) rfl rfl ?_
  show Sw T0 m 132 aa1 [(.ref o14)] _
  refine XS.aload X0.here hx rfl (hb hby at_132) rfl rfl ?_
  show Sw T0 m 134 aa1 [(.ref o12), (.ref o14)] _
  refine st6.trans ?_
  show Sw T6 m 137 aa1 [(.ref o14)] _
  refine XS.pop X6.here hx rfl (hb hby at_137) rfl rfl ?_
  show Sw T6 m 138 aa1 [] _
  refine XS.aload X6.here hx rfl (hb hby at_138) rfl rfl ?_
  show Sw T6 m 140 aa1 [(.ref o14)] _
  refine XS.aload X6.here hx rfl (hb hby at_140) rfl rfl ?_
  show Sw T6 m 142 aa1 [(.ref o13), (.ref o14)] _
  refine st7.trans ?_
  show Sw T7 m 145 aa1 [(.ref o14)] _
  refine XS.pop X7.here hx rfl (hb hby at_145) rfl rfl ?_
  show Sw T7 m 146 aa1 [] _
  refine XS.iload X7.here hx rfl (hb hby at_146) rfl ?_
  show Sw T7 m 148 aa1 [(.int i6)] _
  refine XS.ifNo X7.here hx rfl (hb hby at_148) rfl ((if0 _ _).trans (feq hc148).1) ?_
  show Sw T7 m 151 aa1 [] _
  refine XS.aload X7.here hx rfl (hb hby at_151) rfl rfl ?_
  show Sw T7 m 153 aa1 [(.ref o14)] _
  refine st8 _ ?_
  show Sw T8 m 155 aa1 [(.ref la8), (.ref o14)] _
  refine st9.trans ?_
  show Sw T9 m 158 aa1 [(.ref o14)] _
  refine XS.pop X9.here hx rfl (hb hby at_158) rfl rfl ?_
  show Sw T9 m 159 aa1 [] _
  refine XS.aload X9.here hx rfl (hb hby at_159) rfl rfl ?_
  show Sw T9 m 161 aa1 [(.ref o14)] _
  refine st10.trans ?_
  show Sw T10 m 164 aa1 [(.ref o14)] _
  let aa3 : Array Slot := #[s0, s1, s2, s3, s4, .val (.int i5), .val (.int i6), .val (.int i7), s8, s9, s10, s11, .val (.ref o12), .val (.ref o13), .val (.ref o14), .val (.ref o14), s16, s17, s18, s19]
  refine XS.astore X10.here hx rfl (hb hby at_164) rfl rfl (l' := aa3) (os0_164 hs15) ?_
  show Sw T10 m 166 aa3 [] _
  refine XS.aload X10.here hx rfl (hb hby at_166) rfl rfl ?_
  show Sw T10 m 168 aa3 [(.ref o14)] _
  refine XS.astore X10.here hx rfl (hb hby at_168) rfl rfl (l' := aa2) (os0_168 hs16) ?_
  show Sw T10 m 170 aa2 [] _
  refine XS.iload X10.here hx rfl (hb hby at_170) rfl ?_
  show Sw T10 m 172 aa2 [(.int i5)] _
  refine XS.ifNo X10.here hx rfl (hb hby at_172) rfl ((if0 _ _).trans (feq hc172).1) ?_
  show Sw T10 m 175 aa2 [] _
  refine XS.iload X10.here hx rfl (hb hby at_175) rfl ?_
  show Sw T10 m 177 aa2 [(.int i7)] _
  refine XS.ifYes X10.here hx rfl (pc0 := 177) (pc' := 187) rfl (hb hby at_177) rfl ((if0 _ _).trans (teq hc177).1) (by decide) (by decide) ?_
  show Sw T10 m 187 aa2 [] _
  refine XS.aload X10.here hx rfl (hb hby at_187) rfl rfl ?_
  show Sw T10 m 189 aa2 [(.ref o14)] _
  refine st11.trans ?_
  show Sw T11 m 192 aa2 [(.ref d11)] _
  refine XS.astore X11.here hx rfl (hb hby at_192) rfl rfl (l' := #[s0, s1, s2, s3, s4, .val (.int i5), .val (.int i6), .val (.int i7), s8, s9, s10, s11, .val (.ref o12), .val (.ref o13), .val (.ref o14), .val (.ref o14), .val (.ref o14), .val (.ref d11), s18, s19]) (os0_192 hs17) ?_
  exact kt
set_option maxRecDepth 65536 in
set_option maxHeartbeats 40000000 in
theorem own_b111 {p : Program} {l : Launch} {e : Env} {s : State} {vm0 : Vm} {k0 : Nat} {m : MethodId} {args : Array Value} {below : List Frame} {meth : Method} {c : Code} {T0 : State} {locs : List Loc} {cells slots : Nat} {Z : State} {a0 : Array Value} {h0 : Heap} (s0 : Slot) (s1 : Slot) (s2 : Slot) (s3 : Slot) (s4 : Slot) (i5 : Int32) (i6 : Int32) (i7 : Int32) (s8 : Slot) (s9 : Slot) (s10 : Slot) (s11 : Slot) (o12 : Addr) (o13 : Addr) (o14 : Addr) (s15 : Slot) (s16 : Slot) (s17 : Slot) (s18 : Slot) (s19 : Slot) (ob oq va : Addr) (kb : ClassId) (ea : Addr) (ke : ClassId) (ta tb : Addr) (ksa ksb : ClassId) (ua ub : List Value) (G1 : Int32) (fm : Value) (X0 : Stand p l e room_1 (s.setVm vm0) m args below meth c T0 locs cells slots) (hx : p.tables.exec = Jvm.exec) (hZ : Z.Warmed39 vm0) (hw : HW a0 Z) (hml : c.maxLocals = 20) (hown : vm0.findClass "org/athenaeum/xml/XmlWriterEndPinLaw" = some m.cls) (e0 : T0.heap = h0) (n0 : Nat) (Z0 : n0 ≤ h0.size) (N0 : Fr n0 locs) (hS : s.Since vm0 k0) (hk0 : k0 ≤ h0.size) (CH0 : CHv Z own_EL vm0 h0) (SC : Sta Z h0 "java/lang/String" "COMPACT_STRINGS" "Z" (.int G1)) (P3 : ¬ (G1 = (0 : Int32))) (SF : Sta Z h0 "jdk/internal/util/Preconditions" "SIOOBE_FORMATTER" "Ljava/util/function/BiFunction;" fm) (hby : c.code = code) (hs15 : One s15) (hs16 : One s16) (hs17 : One s17) (Y0 : own_X Z h0 o14 ob oq va kb (55 : Int32) (39 : Int32) own_decl ea ke (0 : Int32) (List.replicate 17 .null) (0 : Int32)) (SA : own_S Z h0 o12 ta ksa (2 : Int32) ua) (SB : own_S Z h0 o13 tb ksb (2 : Int32) ub) (g_w : n0 ≤ o14) (g_b : n0 ≤ ob) (g_va : n0 ≤ va) (g_q : n0 ≤ oq) (g_ea : n0 ≤ ea) (hcs : cells + 20 ≤ room_1.cells) (hsl : slots + 700 ≤ room_1.slots) (hc127 : ¬ (i5 = (0 : Int32))) (hc148 : ¬ (i6 = (0 : Int32))) (hc172 : ¬ (i5 = (0 : Int32))) (hc177 : ¬ (i7 = (0 : Int32))) :
    ∃ (vm' : Vm) (k' : Nat) (T' : State) (h' : Heap) (locs' : List Loc) (cells' slots' : Nat) (d t : Addr) (kt : ClassId), Stand p l e room_1 (s.setVm vm') m args below meth c T' locs' cells' slots' ∧ T'.heap = h' ∧ Fr n0 locs' ∧ s.Since vm' k' ∧ k' ≤ h'.size ∧ Z.Warmed39 vm' ∧ vm'.findClass "org/athenaeum/xml/XmlWriterEndPinLaw" = some m.cls ∧ n0 ≤ h'.size ∧ own_S Z h' d t kt ((((54 : Int32) + (2 : Int32)) + (1 : Int32)) + (1 : Int32)) (((((((((((((own_decl ++ [.int ((60 : Int32).toInt8.toInt32)]) ++ ua) ++ [.int ((62 : Int32).toInt8.toInt32)]) ++ [.int ((60 : Int32).toInt8.toInt32)]) ++ ub) ++ [.int ((62 : Int32).toInt8.toInt32)]) ++ own_lt) ++ ub) ++ [.int ((62 : Int32).toInt8.toInt32)]) ++ own_lt) ++ ua) ++ [.int ((62 : Int32).toInt8.toInt32)]) ++ [.int ((10 : Int32).toInt8.toInt32)]) ∧ Sta Z h' "java/lang/String" "COMPACT_STRINGS" "Z" (.int G1) ∧ Sta Z h' "jdk/internal/util/Preconditions" "SIOOBE_FORMATTER" "Ljava/util/function/BiFunction;" fm ∧ cells' ≤ cells + 20 ∧ slots' ≤ slots + 700 ∧
      ∀ target, Steps p.tables e below (T'.setTop (mkF m 194 #[s0, s1, s2, s3, s4, .val (.int i5), .val (.int i6), .val (.int i7), s8, s9, s10, s11, .val (.ref o12), .val (.ref o13), .val (.ref o14), .val (.ref o14), .val (.ref o14), .val (.ref d), s18, s19] [])) target → Steps p.tables e below (T0.setTop (mkF m 125 #[s0, s1, s2, s3, s4, .val (.int i5), .val (.int i6), .val (.int i7), s8, s9, s10, s11, .val (.ref o12), .val (.ref o13), .val (.ref o14), s15, s16, s17, s18, s19] [])) target := by
  have iw : own_I Z a0 := ⟨(ww hw 1 rfl), (ww hw 31 rfl), (ww hw 38 rfl), (ww hw 113 rfl)⟩
  have hEL := own_EW hw
  have wS : ∀ a ∈ Bundle.stringAtoms, a.before a0 Z = true := fun d hd => hw d ((by decide +kernel : ∀ d ∈ Bundle.stringAtoms, d ∈ tables_1) d hd)
  have C0 : CHr Z own_EL vm0 h0 vm0 h0 := CHr.refl CH0
  have hZ : Z.Warmed39 (s.setVm vm0).vm := hZ
  have hown : (s.setVm vm0).vm.findClass "org/athenaeum/xml/XmlWriterEndPinLaw" = some m.cls := hown
  obtain ⟨cq6, kq6, q6a, q6b, q6c⟩ := isOf hZ e0 Y0.1.1
  let aa1 : Array Slot := #[s0, s1, s2, s3, s4, .val (.int i5), .val (.int i6), .val (.int i7), s8, s9, s10, s11, .val (.ref o12), .val (.ref o13), .val (.ref o14), s15, s16, s17, s18, s19]
  obtain ⟨_, _, ⟨T6, L6, k6, n6⟩, -, X6, ⟨Lc6, hQ6, l6, y6, z6⟩, st6⟩ := X0.virtualBack hx (y := ym41) (z := ym41) hown (mvT hZ (ww hw 131 rfl)) (mvT hZ (ww hw 132 rfl)) (notFace_of_selects (args := #[]) (mvT hZ (ww hw 134 rfl))) (mvT hZ (ww hw 134 rfl)) (mvT hZ (ww hw 133 rfl)) (by decide) (backOf (W := 0) (rm21a l Z a0 hw [] o14 o12 ob oq va kb (55 : Int32) _ _ ea ke _ G1 ta ksa (2 : Int32) ua h0 n0 Z0 SC P3 Y0 SA (by unfold own_R; decide) (by unfold own_R; decide) (by decide) (by decide) g_b g_va g_q g_ea Y0.1.1 Y0.1.2.1 Y0.2.1.1 Y0.1.2.2.1 Y0.2.2.1.1 Y0.1.2.2.2 g_w) hZ (ww hw 135 rfl) (ww hw 32 rfl) (by decide) (by decide)) q6a q6c (g := (mkF m 134 aa1 [(.ref o12), (.ref o14)])) rfl (by rw [hml]; rfl) (Steps.refl _) (argsL := [(.ref o12)]) (rest := []) (lenOf pd_0_15 rfl) rfl (wz rfl) (hb hby at_134) (fun _ _ => ⟨rfl, e0, (by show cells + 0 ≤ room_1.cells; omega), (by show slots + 0 ≤ room_1.slots; omega)⟩)
  dsimp only [Pt.U, Pt.locs, Pt.cells, Pt.slots] at X6 l6 y6 z6 st6 hQ6
  subst l6 y6 z6
  obtain ⟨rfl, N6q, K6, Y6⟩ := hQ6
  have sc6 := own_staX SC Y0 K6 (by simp)
  have sf6 := own_staX SF Y0 K6 (by simp)
  have sa6 := SA.kX Y0 iw (by decide) (by decide) K6 (by simp)
  have sb6 := SB.kX Y0 iw (by decide) (by decide) K6 (by simp)
  have zz6 : n0 ≤ T6.heap.size := Nat.le_trans Z0 K6.1
  have D6 := C0.trans (CHr.keep K6 (own_safeX hw Y0 hZ (by unfold own_len; decide) (by simp)) C0.1)
  have N6 := Fr.app N0 N6q
  obtain ⟨cq7, kq7, q7a, q7b, q7c⟩ := isOf hZ rfl Y6.1.1
  obtain ⟨_, _, ⟨T7, L7, k7, n7⟩, -, X7, ⟨Lc7, hQ7, l7, y7, z7⟩, st7⟩ := X6.virtualBack hx (y := ym41) (z := ym41) hown (mvT hZ (ww hw 131 rfl)) (mvT hZ (ww hw 132 rfl)) (notFace_of_selects (args := #[]) (mvT hZ (ww hw 134 rfl))) (mvT hZ (ww hw 134 rfl)) (mvT hZ (ww hw 133 rfl)) (by decide) (backOf (W := 0) (rm21b l Z a0 hw [] o14 o13 ob oq va kb (55 : Int32) _ _ ea ke _ G1 tb ksb (2 : Int32) ub T6.heap n0 zz6 sc6 P3 Y6 sb6 (by unfold own_R; decide) (by unfold own_R; decide) (by unfold own_R; decide) (by decide) (by decide) g_b g_va g_q g_ea Y6.1.1 Y6.1.2.1 Y6.2.1.1 Y6.1.2.2.1 Y6.2.2.1.1 Y6.1.2.2.2 g_w) hZ (ww hw 135 rfl) (ww hw 32 rfl) (by decide) (by decide)) q7a q7c (g := (mkF m 142 aa1 [(.ref o13), (.ref o14)])) rfl (by rw [hml]; rfl) (Steps.refl _) (argsL := [(.ref o13)]) (rest := []) (lenOf pd_0_15 rfl) rfl (wz rfl) (hb hby at_142) (fun _ _ => ⟨rfl, rfl, (by show k6 + 0 ≤ room_1.cells; omega), (by show n6 + 0 ≤ room_1.slots; omega)⟩)
  dsimp only [Pt.U, Pt.locs, Pt.cells, Pt.slots] at X7 l7 y7 z7 st7 hQ7
  subst l7 y7 z7
  obtain ⟨rfl, N7q, K7, Y7⟩ := hQ7
  have sc7 := own_staX sc6 Y6 K7 (by simp)
  have sf7 := own_staX sf6 Y6 K7 (by simp)
  have sa7 := sa6.kX Y6 iw (by decide) (by decide) K7 (by simp)
  have sb7 := sb6.kX Y6 iw (by decide) (by decide) K7 (by simp)
  have zz7 : n0 ≤ T7.heap.size := Nat.le_trans zz6 K7.1
  have D7 := D6.trans (CHr.keep K7 (own_safeX hw Y6 hZ (by unfold own_len; decide) (by simp)) D6.1)
  have N7 := Fr.app N6 N7q
  obtain ⟨la8, T8, h8, k8, lb8, lk8, X8, e8, E8, S8, kk8, hZ8, hown8, El8, Fc8, Fv8, Vl8, lt8, ltb8, C8, -, ns8, st8⟩ := ldcCH (s := s) (vm0 := vm0) X7 hx hZ hown (ww hw 294 rfl) wS rfl hS (Nat.le_trans (Nat.le_trans hk0 K6.1) K7.1) hEL (by simp) D7.1 (text := "") (vs := ([] : List Value)) (z := (0 : Int32)) ⟨by decide, by rfl⟩ (by decide) rfl (g := (mkF m 153 aa1 [(.ref o14)])) rfl (hb hby at_153) (n := 0) (by decide) (by decide) (by show k7 + 2 ≤ room_1.cells; omega) (by show n7 + (0 + 4) ≤ room_1.slots; omega)
  have Y8 := Y7.ext E8
  have sc8 := sc7.ext E8
  have sf8 := sf7.ext E8
  have sa8 := sa7.ext E8
  have sb8 := sb7.ext E8
  have zz8 : n0 ≤ h8.size := Nat.le_trans zz7 E8.1
  have D8 := D7.trans C8
  obtain ⟨cq9, kq9, q9a, q9b, q9c⟩ := isOf hZ8 e8 Y8.1.1
  obtain ⟨_, _, ⟨T9, L9, k9, n9⟩, -, X9, ⟨Lc9, hQ9, l9, y9, z9⟩, st9⟩ := X8.virtualBack hx (y := ym44) (z := ym44) hown8 (mvT hZ8 (ww hw 295 rfl)) (mvT hZ8 (ww hw 296 rfl)) (notFace_of_selects (args := #[]) (mvT hZ8 (ww hw 298 rfl))) (mvT hZ8 (ww hw 298 rfl)) (mvT hZ8 (ww hw 297 rfl)) (by decide) (backOf (W := 0) (rm54 l Z a0 hw [] o14 la8 ob oq va kb (55 : Int32) _ _ ea ke _ _ G1 lb8 lk8 ([] : List Value) h8 n0 zz8 sc8 P3 Y8 ⟨El8, Fv8, Fc8, Vl8, rfl⟩ (by unfold own_R; decide) (by decide) g_w g_b g_va Y8.1.1) hZ8 (ww hw 299 rfl) (ww hw 32 rfl) (by decide) (by decide)) q9a q9c (g := (mkF m 155 aa1 [(.ref la8), (.ref o14)])) rfl (by rw [hml]; rfl) (Steps.refl _) (argsL := [(.ref la8)]) (rest := []) (lenOf pd_0_15 rfl) rfl (wz rfl) (hb hby at_155) (fun _ _ => ⟨rfl, e8, (by show k7 + 2 + 0 ≤ room_1.cells; omega), (by show n7 + (0 + 4) + 0 ≤ room_1.slots; omega)⟩)
  dsimp only [Pt.U, Pt.locs, Pt.cells, Pt.slots] at X9 l9 y9 z9 st9 hQ9
  subst l9 y9 z9
  obtain ⟨rfl, N9q, K9, Y9⟩ := hQ9
  have sc9 := own_staX sc8 Y8 K9 (by simp)
  have sf9 := own_staX sf8 Y8 K9 (by simp)
  have sa9 := sa8.kX Y8 iw (by decide) (by decide) K9 (by simp)
  have sb9 := sb8.kX Y8 iw (by decide) (by decide) K9 (by simp)
  have zz9 : n0 ≤ T9.heap.size := Nat.le_trans zz8 K9.1
  have D9 := D8.trans (CHr.keep K9 (own_safeX hw Y8 hZ8 (by unfold own_len; decide) (by simp)) D8.1)
  have N9 := Fr.app N7 N9q
  obtain ⟨cq10, kq10, q10a, q10b, q10c⟩ := isOf hZ8 rfl Y9.1.1
  obtain ⟨_, _, ⟨T10, L10, k10, n10⟩, -, X10, S10, G10, ⟨Lc10, hQ10, l10, y10, z10, C10⟩, st10⟩ := X9.virtualBackS hx (y := ym46) (z := ym46) hown8 (mvT hZ8 (ww hw 183 rfl)) (mvT hZ8 (ww hw 184 rfl)) (notFace_of_selects (args := #[]) (mvT hZ8 (ww hw 186 rfl))) (mvT hZ8 (ww hw 186 rfl)) (mvT hZ8 (ww hw 185 rfl)) (by decide) (backOfSH (s := s) (vm0 := T8.vm) (W := 0) (rm30B l Z a0 hw [] o14 oq ob va kb (55 : Int32) _ _ ea ke _ o13 tb ksb ub G1 T9.heap n0 zz9 sc9 P3 Y9 sb9 rfl (by decide) (by unfold own_len; decide) g_w g_b g_va g_q g_ea (by unfold own_R; decide) (by unfold own_R; decide) (by unfold own_R; decide) Y9.1.2.2.1 Y9.2.2.1.1 Y9.1.2.2.2 Y9.1.2.1 Y9.2.1.1 (by decide)) hZ8 (ww hw 187 rfl) (ww hw 32 rfl) (by decide) (by decide) hEL D9.1) q10a q10c (g := (mkF m 161 aa1 [(.ref o14)])) rfl (by rw [hml]; rfl) (Steps.refl _) (argsL := []) (rest := []) (lenOf pd_36_22 rfl) rfl (wz rfl) (hb hby at_161) (fun _ _ => ⟨rfl, rfl, (by show k7 + 2 + 3 ≤ room_1.cells; omega), (by show n7 + (0 + 4) + 124 ≤ room_1.slots; omega)⟩)
  dsimp only [Pt.U, Pt.locs, Pt.cells, Pt.slots] at X10 S10 G10 C10 l10 y10 z10 st10 hQ10
  subst l10 y10 z10
  obtain ⟨X10, S10, hZ10, hown10⟩ := rebS S8 (Nat.le_trans kk8 K9.1) X10 S10 G10 hZ8 hown8
  obtain ⟨rfl, N10q, K10, Y10⟩ := hQ10
  have sc10 := own_staX sc9 Y9 K10 (by simp)
  have sf10 := own_staX sf9 Y9 K10 (by simp)
  have sa10 := sa9.kX Y9 iw (by decide) (by decide) K10 (by simp)
  have sb10 := sb9.kX Y9 iw (by decide) (by decide) K10 (by simp)
  have zz10 : n0 ≤ T10.heap.size := Nat.le_trans zz9 K10.1
  have D10 := D9.trans C10
  have N10 := Fr.app N9 N10q
  obtain ⟨cq11, kq11, q11a, q11b, q11c⟩ := isOf hZ10 rfl Y10.1.1
  let aa2 : Array Slot := #[s0, s1, s2, s3, s4, .val (.int i5), .val (.int i6), .val (.int i7), s8, s9, s10, s11, .val (.ref o12), .val (.ref o13), .val (.ref o14), .val (.ref o14), .val (.ref o14), s17, s18, s19]
  obtain ⟨_, _, ⟨T11, L11, k11, n11⟩, -, X11, S11, G11, ⟨Lc11, hQ11, l11, y11, z11, C11⟩, st11⟩ := X10.virtualBackS hx (y := ym46) (z := ym46) hown10 (mvT hZ10 (ww hw 183 rfl)) (mvT hZ10 (ww hw 184 rfl)) (notFace_of_selects (args := #[]) (mvT hZ10 (ww hw 186 rfl))) (mvT hZ10 (ww hw 186 rfl)) (mvT hZ10 (ww hw 185 rfl)) (by decide) (backOfSH (s := s) (vm0 := T10.vm) (W := 0) (rm30g l Z a0 hw [] o14 oq ob va kb _ ea ke _ o12 ta ksa ua G1 T10.heap n0 zz10 sc10 P3 (own_X.eqs Y10 (by decide) (by decide)) sa10 rfl (by decide) (by unfold own_len; decide) g_w g_b g_va g_q g_ea Y10.1.2.2.1 Y10.2.2.1.1 Y10.1.2.2.2 Y10.1.2.1 Y10.2.1.1 (by decide)) hZ10 (ww hw 187 rfl) (ww hw 32 rfl) (by decide) (by decide) hEL D10.1) q11a q11c (g := (mkF m 182 aa2 [(.ref o14)])) rfl (by rw [hml]; rfl) (Steps.refl _) (argsL := []) (rest := []) (lenOf pd_36_22 rfl) rfl (wz rfl) (hb hby at_182) (fun _ _ => ⟨rfl, rfl, (by show k7 + 2 + 3 + 3 ≤ room_1.cells; omega), (by show n7 + (0 + 4) + 124 + 124 ≤ room_1.slots; omega)⟩)
  dsimp only [Pt.U, Pt.locs, Pt.cells, Pt.slots] at X11 S11 G11 C11 l11 y11 z11 st11 hQ11
  subst l11 y11 z11
  obtain ⟨X11, S11, hZ11, hown11⟩ := rebS S10 (Nat.le_refl _) X11 S11 G11 hZ10 hown10
  obtain ⟨x11, k11', sx11, rfl, N11q, K11, Y11⟩ := hQ11
  have sc11 := own_staX sc10 Y10 K11 (by simp)
  have sf11 := own_staX sf10 Y10 K11 (by simp)
  have sa11 := sa10.kX Y10 iw (by decide) (by decide) K11 (by simp)
  have sb11 := sb10.kX Y10 iw (by decide) (by decide) K11 (by simp)
  have zz11 : n0 ≤ T11.heap.size := Nat.le_trans zz10 K11.1
  have D11 := D10.trans C11
  have N11 := Fr.app N10 N11q
  obtain ⟨cq12, kq12, q12a, q12b, q12c⟩ := isOf hZ11 rfl Y11.1.1
  obtain ⟨_, _, ⟨T12, L12, k12, n12⟩, -, X12, ⟨Lc12, hQ12, l12, y12, z12⟩, st12⟩ := X11.virtualBack hx (y := ym48) (z := ym48) hown11 (mvT hZ11 (ww hw 214 rfl)) (mvT hZ11 (ww hw 215 rfl)) (notFace_of_selects (args := #[]) (mvT hZ11 (ww hw 217 rfl))) (mvT hZ11 (ww hw 217 rfl)) (mvT hZ11 (ww hw 216 rfl)) (by decide) (backOf (W := 0) (rm36z l Z a0 hw [] o14 oq ob x11 k11' (112 : Int32) _ _ ea ke _ (0 : Int32) G1 T11.heap n0 zz11 sc11 P3 Y11 (by unfold own_R; decide) (by unfold own_T; decide) g_b (Nat.le_trans zz10 sx11) Y11.1.2.2.1 Y11.2.2.1.1 Y11.1.2.1 Y11.2.1.1) hZ11 (ww hw 218 rfl) (ww hw 32 rfl) (by decide) (by decide)) q12a q12c (g := (mkF m 189 aa2 [(.ref o14)])) rfl (by rw [hml]; rfl) (Steps.refl _) (argsL := []) (rest := []) (lenOf pd_36_25 rfl) rfl (wz rfl) (hb hby at_189) (fun _ _ => ⟨rfl, rfl, (by show k7 + 2 + 3 + 3 + 2 ≤ room_1.cells; omega), (by show n7 + (0 + 4) + 124 + 124 + 62 ≤ room_1.slots; omega)⟩)
  dsimp only [Pt.U, Pt.locs, Pt.cells, Pt.slots] at X12 l12 y12 z12 st12 hQ12
  subst l12 y12 z12
  obtain ⟨d12, x12, k12', rfl, N12q, K12, S_d⟩ := hQ12
  have sc12 := own_staX sc11 Y11 K12 (by simp)
  have sf12 := own_staX sf11 Y11 K12 (by simp)
  have zz12 : n0 ≤ T12.heap.size := Nat.le_trans zz11 K12.1
  have N12 := Fr.app N11 N12q
  refine ⟨T11.vm, _, T12, _, _, _, _, d12, x12, k12', X12, rfl, N12, S11, (Nat.le_trans (Nat.le_refl _) K12.1), hZ11, hown11, zz12, S_d, sc12, sf12, (by show k7 + 2 + 3 + 3 + 2 ≤ k7 + 20; omega), (by show n7 + (0 + 4) + 124 + 124 + 62 ≤ n7 + 700; omega), fun target kt => ?_⟩
  show Sw T0 m 125 aa1 [] _
  refine XS.iload X0.here hx rfl (hb hby at_125) rfl ?_
  show Sw T0 m 127 aa1 [(.int i5)] _
  refine XS.ifNo X0.here hx rfl (hb hby at_127) rfl ((if0 _ _).trans (feq hc127).1) ?_
  show Sw T0 m 130 aa1 [] _
  refine XS.aload X0.here hx rfl (hb hby at_130) rfl rfl ?_
  show Sw T0 m 132 aa1 [(.ref o14)] _
  refine XS.aload X0.here hx rfl (hb hby at_132) rfl rfl ?_
  show Sw T0 m 134 aa1 [(.ref o12), (.ref o14)] _
  refine st6.trans ?_
  show Sw T6 m 137 aa1 [(.ref o14)] _
  refine XS.pop X6.here hx rfl (hb hby at_137) rfl rfl ?_
  show Sw T6 m 138 aa1 [] _
  refine XS.aload X6.here hx rfl (hb hby at_138) rfl rfl ?_
  show Sw T6 m 140 aa1 [(.ref o14)] _
  refine XS.aload X6.here hx rfl (hb hby at_140) rfl rfl ?_
  show Sw T6 m 142 aa1 [(.ref o13), (.ref o14)] _
  refine st7.trans ?_
  show Sw T7 m 145 aa1 [(.ref o14)] _
  refine XS.pop X7.here hx rfl (hb hby at_145) rfl rfl ?_
  show Sw T7 m 146 aa1 [] _
  refine XS.iload X7.here hx rfl (hb hby at_146) rfl ?_
  show Sw T7 m 148 aa1 [(.int i6)] _
  refine XS.ifNo X7.here hx rfl (hb hby at_148) rfl ((if0 _ _).trans (feq hc148).1) ?_
  show Sw T7 m 151 aa1 [] _
  refine XS.aload X7.here hx rfl (hb hby at_151) rfl rfl ?_
  show Sw T7 m 153 aa1 [(.ref o14)] _
  refine st8 _ ?_
  show Sw T8 m 155 aa1 [(.ref la8), (.ref o14)] _
  refine st9.trans ?_
  show Sw T9 m 158 aa1 [(.ref o14)] _
  refine XS.pop X9.here hx rfl (hb hby at_158) rfl rfl ?_
  show Sw T9 m 159 aa1 [] _
  refine XS.aload X9.here hx rfl (hb hby at_159) rfl rfl ?_
  show Sw T9 m 161 aa1 [(.ref o14)] _
  refine st10.trans ?_
  show Sw T10 m 164 aa1 [(.ref o14)] _
  let aa3 : Array Slot := #[s0, s1, s2, s3, s4, .val (.int i5), .val (.int i6), .val (.int i7), s8, s9, s10, s11, .val (.ref o12), .val (.ref o13), .val (.ref o14), .val (.ref o14), s16, s17, s18, s19]
  refine XS.astore X10.here hx rfl (hb hby at_164) rfl rfl (l' := aa3) (os0_164 hs15) ?_
  show Sw T10 m 166 aa3 [] _
  refine XS.aload X10.here hx rfl (hb hby at_166) rfl rfl ?_
  show Sw T10 m 168 aa3 [(.ref o14)] _
  refine XS.astore X10.here hx rfl (hb hby at_168) rfl rfl (l' := aa2) (os0_168 hs16) ?_
  show Sw T10 m 170 aa2 [] _
  refine XS.iload X10.here hx rfl (hb hby at_170) rfl ?_
  show Sw T10 m 172 aa2 [(.int i5)] _
  refine XS.ifNo X10.here hx rfl (hb hby at_172) rfl ((if0 _ _).trans (feq hc172).1) ?_
  show Sw T10 m 175 aa2 [] _
  refine XS.iload X10.here hx rfl (hb hby at_175) rfl ?_
  show Sw T10 m 177 aa2 [(.int i7)] _
  refine XS.ifNo X10.here hx rfl (hb hby at_177) rfl ((if0 _ _).trans (feq hc177).1) ?_
  show Sw T10 m 180 aa2 [] _
  refine XS.aload X10.here hx rfl (hb hby at_180) rfl rfl ?_
  show Sw T10 m 182 aa2 [(.ref o14)] _
  refine st11.trans ?_
  show Sw T11 m 185 aa2 [(.ref o14)] _
  refine XS.astore X11.here hx rfl (hb hby at_185) rfl rfl (l' := aa2) rfl ?_
  show Sw T11 m 187 aa2 [] _
  refine XS.aload X11.here hx rfl (hb hby at_187) rfl rfl ?_
  show Sw T11 m 189 aa2 [(.ref o14)] _
  refine st12.trans ?_
  show Sw T12 m 192 aa2 [(.ref d12)] _
  refine XS.astore X12.here hx rfl (hb hby at_192) rfl rfl (l' := #[s0, s1, s2, s3, s4, .val (.int i5), .val (.int i6), .val (.int i7), s8, s9, s10, s11, .val (.ref o12), .val (.ref o13), .val (.ref o14), .val (.ref o14), .val (.ref o14), .val (.ref d12), s18, s19]) (os0_192 hs17) ?_
  exact kt
def own_flag (v : Int32) : Int32 := if v = 0 then 0 else 1
theorem own_flag0 {v : Int32} (h : v = 0) : own_flag v = 0 := if_pos h
theorem own_flag1 {v : Int32} (h : ¬ v = 0) : ¬ own_flag v = 0 := by rw [own_flag, if_neg h]; decide
theorem own_ac {P : Int32 → Prop} {a : Int32} {l : List Int32} (h : P a) (r : ∀ c ∈ l, P c) : ∀ c ∈ a :: l, P c := fun c hc => (List.mem_cons.mp hc).elim (fun e => e ▸ h) (r c)
theorem own_an {P : Int32 → Prop} : ∀ c ∈ ([] : List Int32), P c := fun c hc => nomatch hc
theorem own_ap {P : Int32 → Prop} {l k : List Int32} (h : ∀ c ∈ l, P c) (r : ∀ c ∈ k, P c) : ∀ c ∈ l ++ k, P c := fun c hc => (List.mem_append.mp hc).elim (h c) (r c)
theorem own_and255 (p : Int32) : ¬ (p &&& (255 : Int32)) < 0 ∧ ¬ (255 : Int32) < (p &&& (255 : Int32)) := by
  have a := c_and p 255 (by decide)
  have k0 : (0 : Int32).toInt = 0 := rfl
  have k1 : (255 : Int32).toInt = 255 := rfl
  rw [Int32.lt_iff_toInt_lt, Int32.lt_iff_toInt_lt, k0, k1]
  omega
theorem own_ch (p : Int32) : ¬ (nar .char ((p &&& (255 : Int32)).toUInt32.toUInt16.toUInt32.toInt32)) < 0 ∧ ¬ (255 : Int32) < (nar .char ((p &&& (255 : Int32)).toUInt32.toUInt16.toUInt32.toInt32)) := by
  rw [show nar .char ((p &&& (255 : Int32)).toUInt32.toUInt16.toUInt32.toInt32) = p &&& 255 from by simp only [nar, i2c_mask]]
  exact own_and255 p
theorem own_fl3 {p : Program} {l : Launch} {e : Env} {R : Room} {s : State} {m : MethodId} {args : Array Value} {below : List Frame} {meth : Method} {c : Code} {T : State} {locs : List Loc} {cells slots : Nat} (X : Stand p l e R s m args below meth c T locs cells slots) (hx : p.tables.exec = Jvm.exec) (hby : c.code = code) {Ls : Array Slot} {v : Int32} {rest : List Value} {target : State} (hr : Steps p.tables e below (T.setTop (mkF m 11 Ls (.int (own_flag v) :: rest))) target) : Steps p.tables e below (T.setTop (mkF m 3 Ls (.int v :: rest))) target := by
  by_cases hv : v = 0
  · rw [own_flag, if_pos hv] at hr
    refine XS.ifYes X.here hx rfl (pc0 := 3) (pc' := 10) rfl (hb hby at_3) rfl ((if0 _ _).trans (teq hv).1) (by decide) (by decide) ?_
    show Sw T m 10 Ls rest _
    refine XS.iconst X.here hx rfl (hb hby at_10) ?_
    exact hr
  · rw [own_flag, if_neg hv] at hr
    refine XS.ifNo X.here hx rfl (hb hby at_3) rfl ((if0 _ _).trans (feq hv).1) ?_
    show Sw T m 6 Ls rest _
    refine XS.iconst X.here hx rfl (hb hby at_6) ?_
    show Sw T m 7 Ls (.int 1 :: rest) _
    refine XS.goto X.here hx rfl (pc0 := 7) (pc' := 11) rfl (hb hby at_7) (by decide) (by decide) ?_
    exact hr
theorem own_fl16 {p : Program} {l : Launch} {e : Env} {R : Room} {s : State} {m : MethodId} {args : Array Value} {below : List Frame} {meth : Method} {c : Code} {T : State} {locs : List Loc} {cells slots : Nat} (X : Stand p l e R s m args below meth c T locs cells slots) (hx : p.tables.exec = Jvm.exec) (hby : c.code = code) {Ls : Array Slot} {v : Int32} {rest : List Value} {target : State} (hr : Steps p.tables e below (T.setTop (mkF m 24 Ls (.int (own_flag v) :: rest))) target) : Steps p.tables e below (T.setTop (mkF m 16 Ls (.int v :: rest))) target := by
  by_cases hv : v = 0
  · rw [own_flag, if_pos hv] at hr
    refine XS.ifYes X.here hx rfl (pc0 := 16) (pc' := 23) rfl (hb hby at_16) rfl ((if0 _ _).trans (teq hv).1) (by decide) (by decide) ?_
    show Sw T m 23 Ls rest _
    refine XS.iconst X.here hx rfl (hb hby at_23) ?_
    exact hr
  · rw [own_flag, if_neg hv] at hr
    refine XS.ifNo X.here hx rfl (hb hby at_16) rfl ((if0 _ _).trans (feq hv).1) ?_
    show Sw T m 19 Ls rest _
    refine XS.iconst X.here hx rfl (hb hby at_19) ?_
    show Sw T m 20 Ls (.int 1 :: rest) _
    refine XS.goto X.here hx rfl (pc0 := 20) (pc' := 24) rfl (hb hby at_20) (by decide) (by decide) ?_
    exact hr
theorem own_fl29 {p : Program} {l : Launch} {e : Env} {R : Room} {s : State} {m : MethodId} {args : Array Value} {below : List Frame} {meth : Method} {c : Code} {T : State} {locs : List Loc} {cells slots : Nat} (X : Stand p l e R s m args below meth c T locs cells slots) (hx : p.tables.exec = Jvm.exec) (hby : c.code = code) {Ls : Array Slot} {v : Int32} {rest : List Value} {target : State} (hr : Steps p.tables e below (T.setTop (mkF m 37 Ls (.int (own_flag v) :: rest))) target) : Steps p.tables e below (T.setTop (mkF m 29 Ls (.int v :: rest))) target := by
  by_cases hv : v = 0
  · rw [own_flag, if_pos hv] at hr
    refine XS.ifYes X.here hx rfl (pc0 := 29) (pc' := 36) rfl (hb hby at_29) rfl ((if0 _ _).trans (teq hv).1) (by decide) (by decide) ?_
    show Sw T m 36 Ls rest _
    refine XS.iconst X.here hx rfl (hb hby at_36) ?_
    exact hr
  · rw [own_flag, if_neg hv] at hr
    refine XS.ifNo X.here hx rfl (hb hby at_29) rfl ((if0 _ _).trans (feq hv).1) ?_
    show Sw T m 32 Ls rest _
    refine XS.iconst X.here hx rfl (hb hby at_32) ?_
    show Sw T m 33 Ls (.int 1 :: rest) _
    refine XS.goto X.here hx rfl (pc0 := 33) (pc' := 37) rfl (hb hby at_33) (by decide) (by decide) ?_
    exact hr
theorem pd_0_0 : parseMethodDescriptor "([C)V" = some ⟨[(.array .char)], none⟩ := by decide +kernel
theorem ef_0 (m : MethodId) (x0 : Int32) (x1 : Int32) (x2 : Int32) (x3 : Int32) (x4 : Int32) : entryFrame m #[(.int x0), (.int x1), (.int x2), (.int x3), (.int x4)] maxLocals = mkF m 0 #[.val (.int x0), .val (.int x1), .val (.int x2), .val (.int x3), .val (.int x4), .unset, .unset, .unset, .unset, .unset, .unset, .unset, .unset, .unset, .unset, .unset, .unset, .unset, .unset, .unset] [] := by first | (simp [entryFrame, mkF, argsToLocals, Value.category, maxLocals]; done) | rfl
def Qrm0 (Z : State) (p1 : Int32) (p2 : Int32) (p3 : Int32) (p4 : Int32) (p5 : Int32) (G1 : Int32) (h0 : Heap) (n0 : Nat) (v : Option Value) (h : Heap) (L : List Loc) : Prop := v = some (.int 1) ∧ Fr n0 L
set_option maxRecDepth 65536 in
set_option maxHeartbeats 40000000 in
theorem rm0 (l : Launch) (Z : State) (a0 : Array Value) (hw : HW a0 Z) (ws : List Jvm.Cond) (p1 : Int32) (p2 : Int32) (p3 : Int32) (p4 : Int32) (p5 : Int32) (G1 : Int32) (h0 : Heap) (n0 : Nat) (Z0 : n0 ≤ h0.size) (SC : Sta Z h0 "java/lang/String" "COMPACT_STRINGS" "Z" (.int G1)) (P3 : ¬ (G1 = (0 : Int32))) (fm : Value) (SF : Sta Z h0 "jdk/internal/util/Preconditions" "SIOOBE_FORMATTER" "Ljava/util/function/BiFunction;" fm) (rf : fm.isRef = true) :
    MetFree l x (head1 (Jvm.Cond.code x code maxLocals ret :: ws) room_1) (fun a U => a = #[(.int p1), (.int p2), (.int p3), (.int p4), (.int p5)] ∧ Z.Warmed39 U.vm ∧ U.heap = h0 ∧ CHv Z own_EL U.vm h0) (fun _ _ _ _ _ => True) (fun _ U o U' => ∃ v L, o = .returned v ∧ Qrm0 Z p1 p2 p3 p4 p5 G1 h0 n0 v U'.heap L ∧ ReturnedEndW U o U' L room_1.cells room_1.slots) := by
  refine MetFree.of_bodySF (plainFor_of_name pn_48) hisR ?_
  intro p e s m args below meth c s₁ Bd hml0 hP hK
  obtain ⟨rfl, hZ, hh, CH0⟩ := hP
  have S0 : s.Since s.vm h0.size := (State.WarmedH.refl s).since _
  have hEL := own_EW hw
  have hx := Bd.exec
  have hby := Bd.bytes
  have hml : c.maxLocals = 20 := hml0
  have hown : s.vm.findClass "org/athenaeum/xml/XmlWriterEndPinLaw" = some m.cls := findClass_of_methodNamed Bd.named
  have X0 : Stand p l e room_1 s m #[(.int p1), (.int p2), (.int p3), (.int p4), (.int p5)] below meth c s₁ [] 0 0 := Stand.of_body Bd
  have e0 : s₁.heap = h0 := by rw [← hh, Bd.state]; rfl
  have N0 := Fr.nil n0
  let aa1 : Array Slot := #[.val (.int p1), .val (.int p2), .val (.int p3), .val (.int p4), .val (.int p5), .unset, .unset, .unset, .unset, .unset, .unset, .unset, .unset, .unset, .unset, .unset, .unset, .unset, .unset, .unset]
  have pre0 : ∀ t, Steps p.tables e below (s₁.setTop (mkF m 0 aa1 [])) t → Steps p.tables e below (s₁.setTop (entryFrame m #[(.int p1), (.int p2), (.int p3), (.int p4), (.int p5)] maxLocals)) t := fun t k => castTop (ef_0 m p1 p2 p3 p4 p5) k
  let aa2 : Array Slot := #[.val (.int p1), .val (.int p2), .val (.int p3), .val (.int p4), .val (.int p5), .val (.int (own_flag (p1 &&& (1 : Int32)))), .val (.int (own_flag (p1 &&& (2 : Int32)))), .val (.int (own_flag (p1 &&& (4 : Int32)))), .val (.int ((p2 &&& (255 : Int32)).toUInt32.toUInt16.toUInt32.toInt32)), .val (.int ((p3 &&& (255 : Int32)).toUInt32.toUInt16.toUInt32.toInt32)), .val (.int ((p4 &&& (255 : Int32)).toUInt32.toUInt16.toUInt32.toInt32)), .val (.int ((p5 &&& (255 : Int32)).toUInt32.toUInt16.toUInt32.toInt32)), .unset, .unset, .unset, .unset, .unset, .unset, .unset, .unset]
  obtain ⟨T6, h6, X6, e6, E6, A6, D6, -, st6⟩ := newO X0 hx hZ hown (ww hw 0 rfl) (ww hw 1 rfl) (ww hw 2 rfl) e0 (g := (mkF m 72 aa2 [])) rfl (hb hby at_72) (by decide) (by decide)
  obtain ⟨b6, g6⟩ : ∃ z, z = h0.size := ⟨_, rfl⟩
  rw [← g6] at A6 D6 st6
  have F_coder_b6 : Fld Z h6 b6 "java/lang/String" "coder" "B" (.int 0) := D6 (Or.inr (ww hw 27 rfl)) (ty := .byte) (by decide)
  have F_value_b6 : Fld Z h6 b6 "java/lang/String" "value" "[B" .null := D6 (Or.inr (ww hw 29 rfl)) (ty := (.array .byte)) (by decide)
  have E_b6 := A6
  have g_b6 : n0 ≤ b6 := Nat.le_trans Z0 (Nat.le_of_eq g6.symm)
  have sz_b6 : h0.size ≤ b6 := (Nat.le_trans (Keep.refl h0 []).1 (Nat.le_of_eq g6.symm))
  have K6 : Keep h0 h6 [] := (Keep.refl h0 []).ext E6
  obtain ⟨T7, h7, k7, X7, e7, E7, A7, st7⟩ := newP X6 hx hZ (ww hw 3 rfl) e6 (g := (mkF m 77 aa2 [(.int 2), (.ref b6), (.ref b6)])) rfl (hb hby at_77) rfl (by decide) (cap := 2) (by decide) (by decide) (by decide) (by decide)
  obtain ⟨b7, g7⟩ : ∃ z, z = h6.size := ⟨_, rfl⟩
  rw [← g7] at A7 st7
  have V_b7 : Arv Z h7 b7 k7 .char (2 : Int32) [(.int 0), (.int 0)] (.int 0) := (Arv.new A7 (by decide)).pad (pad_rep [] (.int 0) 2)
  have g_b7 : n0 ≤ b7 := Nat.le_trans (Nat.le_trans Z0 E6.1) (Nat.le_of_eq g7.symm)
  have sz_b7 : h0.size ≤ b7 := (Nat.le_trans K6.1 (Nat.le_of_eq g7.symm))
  have K7 : Keep h0 h7 [] := K6.ext E7
  obtain ⟨cl_b7_83, Ar_b7, q_b7, S_b7, N_b7, H_b7, G_b7⟩ := V_b7
  have hin83 : ¬ ((0 : Int32) < 0 ∨ cl_b7_83.slots.size ≤ ((0 : Int32)).toNatClampNeg) := inb_of S_b7 ⟨by decide, by decide⟩
  obtain ⟨T8, h8, X8, e8, W8, st8⟩ := stC X7 hx hZ e7 Ar_b7 (j := (0 : Int32)) hin83 (g := (mkF m 83 aa2 [(.int ((p2 &&& (255 : Int32)).toUInt32.toUInt16.toUInt32.toInt32)), (.int 0), (.ref b7), (.ref b7), (.ref b6), (.ref b6)])) rfl rfl (hb hby at_83)
  have V_b7_8 := Arv.set Ar_b7 q_b7 S_b7 N_b7 H_b7 G_b7 (fits_nar_char _) W8 0 rfl (Nat.le_of_ble_eq_true rfl)
  have K8 : Keep h0 h8 [] := K7.wr W8 (Or.inr sz_b7)
  have N8 := Fr.snoc X8 N0 g_b7
  obtain ⟨cl_b7_88, Ar_b7, q_b7, S_b7, N_b7, H_b7, G_b7⟩ := V_b7_8
  have hin88 : ¬ ((1 : Int32) < 0 ∨ cl_b7_88.slots.size ≤ ((1 : Int32)).toNatClampNeg) := inb_of S_b7 ⟨by decide, by decide⟩
  obtain ⟨T9, h9, X9, e9, W9, st9⟩ := stC X8 hx hZ e8 Ar_b7 (j := (1 : Int32)) hin88 (g := (mkF m 88 aa2 [(.int ((p3 &&& (255 : Int32)).toUInt32.toUInt16.toUInt32.toInt32)), (.int 1), (.ref b7), (.ref b7), (.ref b6), (.ref b6)])) rfl rfl (hb hby at_88)
  have V_b7_9 := Arv.set Ar_b7 q_b7 S_b7 N_b7 H_b7 G_b7 (fits_nar_char _) W9 1 rfl (Nat.le_of_ble_eq_true rfl)
  have K9 : Keep h0 h9 [] := K8.wr W9 (Or.inr sz_b7)
  have N9 := Fr.snoc X9 N8 g_b7
  have hws : ∀ d ∈ StrChars.Road.words, d.before a0 Z = true := fun d hd => hw d ((by decide +kernel : ∀ d ∈ StrChars.Road.words, d ∈ tables_1) d hd)
  have ne7 : b6 ≠ b7 := Nat.ne_of_lt (Nat.lt_of_lt_of_le E_b6.lt (Nat.le_of_eq g7.symm))
  obtain ⟨_, _, ⟨T10, L10, k10, n10⟩, -, X10, ⟨Lc10, hQ10, l10, y10, z10⟩, st10⟩ := X9.specialBack hx (y := ym52) rfl hown (mvT hZ (ww hw 4 rfl)) (mvT hZ (ww hw 5 rfl)) (mvT hZ (ww hw 6 rfl)) (by decide) (StrChars.Road.backV (W := 1) hZ hws (kI := 4) (ww hw 1 rfl) (cs := [(nar .char ((p2 &&& (255 : Int32)).toUInt32.toUInt16.toUInt32.toInt32)), (nar .char ((p3 &&& (255 : Int32)).toUInt32.toUInt16.toUInt32.toInt32))]) (bs := [(nar .char ((p2 &&& (255 : Int32)).toUInt32.toUInt16.toUInt32.toInt32)).toInt8.toInt32, (nar .char ((p3 &&& (255 : Int32)).toUInt32.toUInt16.toUInt32.toInt32)).toInt8.toInt32]) (n := 2) g_b6 (Nat.le_trans Z0 K9.1) (((E_b6.ext E7).wr W8).wr W9) (((F_value_b6.ext E7).other W8 (Or.inl ne7)).other W9 (Or.inl ne7)) (((F_coder_b6.ext E7).other W8 (Or.inl ne7)).other W9 (Or.inl ne7)) (V_b7_9 : Arv Z h9 b7 k7 .char (2 : Int32) [(.int (nar .char ((p2 &&& (255 : Int32)).toUInt32.toUInt16.toUInt32.toInt32))), (.int (nar .char ((p3 &&& (255 : Int32)).toUInt32.toUInt16.toUInt32.toInt32)))] (.int 0)) (SC.ext (own_ext K9)) P3 rfl rfl (by decide) (by decide) (own_ac (P := fun c => ¬ c < 0 ∧ ¬ (255 : Int32) < c) (own_ch p2) (own_ac (own_ch p3) own_an)) rfl (by decide) (by decide)) (g := (mkF m 89 aa2 [(.ref b7), (.ref b6), (.ref b6)])) rfl (by rw [hml]; rfl) (Steps.refl _) (a := b6) (argsL := [(.ref b7)]) (rest := [(.ref b6)]) (lenOf pd_0_0 rfl) rfl (wz rfl) (hb hby at_89) (fun _ _ => ⟨rfl, e9, (by decide : 2 + 1 ≤ _), (by decide : 6 + 2 ≤ _)⟩)
  dsimp only [Pt.U, Pt.locs, Pt.cells, Pt.slots] at X10 l10 y10 z10 st10 hQ10
  subst l10 y10 z10
  obtain ⟨rfl, N10q, K10, Ex10, Co10, ta, ksa, -, -, -, Va10, Ar10⟩ := hQ10
  have P10 : Keep h0 T10.heap [] := K9.trans K10 (allS (Or.inr sz_b6) all0)
  have SA10 : own_S Z T10.heap b6 ta ksa (2 : Int32) (own_by [(nar .char ((p2 &&& (255 : Int32)).toUInt32.toUInt16.toUInt32.toInt32)), (nar .char ((p3 &&& (255 : Int32)).toUInt32.toUInt16.toUInt32.toInt32))]) := ⟨Ex10, Va10, Co10, Ar10, rfl⟩
  have N10 := Fr.app N9 N10q
  let aa3 : Array Slot := #[.val (.int p1), .val (.int p2), .val (.int p3), .val (.int p4), .val (.int p5), .val (.int (own_flag (p1 &&& (1 : Int32)))), .val (.int (own_flag (p1 &&& (2 : Int32)))), .val (.int (own_flag (p1 &&& (4 : Int32)))), .val (.int ((p2 &&& (255 : Int32)).toUInt32.toUInt16.toUInt32.toInt32)), .val (.int ((p3 &&& (255 : Int32)).toUInt32.toUInt16.toUInt32.toInt32)), .val (.int ((p4 &&& (255 : Int32)).toUInt32.toUInt16.toUInt32.toInt32)), .val (.int ((p5 &&& (255 : Int32)).toUInt32.toUInt16.toUInt32.toInt32)), .val (.ref b6), .unset, .unset, .unset, .unset, .unset, .unset, .unset]
  obtain ⟨T11, h11, X11, e11, E11, A11, D11, -, st11⟩ := newO X10 hx hZ hown (ww hw 0 rfl) (ww hw 1 rfl) (ww hw 2 rfl) rfl (g := (mkF m 94 aa3 [])) rfl (hb hby at_94) (by decide) (by decide)
  obtain ⟨b11, g11⟩ : ∃ z, z = T10.heap.size := ⟨_, rfl⟩
  rw [← g11] at A11 D11 st11
  have F_coder_b11 : Fld Z h11 b11 "java/lang/String" "coder" "B" (.int 0) := D11 (Or.inr (ww hw 27 rfl)) (ty := .byte) (by decide)
  have F_value_b11 : Fld Z h11 b11 "java/lang/String" "value" "[B" .null := D11 (Or.inr (ww hw 29 rfl)) (ty := (.array .byte)) (by decide)
  have E_b11 := A11
  have g_b11 : n0 ≤ b11 := Nat.le_trans (Nat.le_trans (Nat.le_trans (Nat.le_trans (Nat.le_trans (Nat.le_trans Z0 E6.1) E7.1) (Keep.of_wr W8).1) (Keep.of_wr W9).1) K10.1) (Nat.le_of_eq g11.symm)
  have sz_b11 : h0.size ≤ b11 := (Nat.le_trans P10.1 (Nat.le_of_eq g11.symm))
  have K11 : Keep h0 h11 [] := P10.ext E11
  obtain ⟨T12, h12, k12, X12, e12, E12, A12, st12⟩ := newP X11 hx hZ (ww hw 3 rfl) e11 (g := (mkF m 99 aa3 [(.int 2), (.ref b11), (.ref b11)])) rfl (hb hby at_99) rfl (by decide) (cap := 2) (by decide) (by decide) (by decide) (by decide)
  obtain ⟨b12, g12⟩ : ∃ z, z = h11.size := ⟨_, rfl⟩
  rw [← g12] at A12 st12
  have V_b12 : Arv Z h12 b12 k12 .char (2 : Int32) [(.int 0), (.int 0)] (.int 0) := (Arv.new A12 (by decide)).pad (pad_rep [] (.int 0) 2)
  have g_b12 : n0 ≤ b12 := Nat.le_trans (Nat.le_trans (Nat.le_trans (Nat.le_trans (Nat.le_trans (Nat.le_trans (Nat.le_trans Z0 E6.1) E7.1) (Keep.of_wr W8).1) (Keep.of_wr W9).1) K10.1) E11.1) (Nat.le_of_eq g12.symm)
  have sz_b12 : h0.size ≤ b12 := (Nat.le_trans K11.1 (Nat.le_of_eq g12.symm))
  have K12 : Keep h0 h12 [] := K11.ext E12
  obtain ⟨cl_b12_105, Ar_b12, q_b12, S_b12, N_b12, H_b12, G_b12⟩ := V_b12
  have hin105 : ¬ ((0 : Int32) < 0 ∨ cl_b12_105.slots.size ≤ ((0 : Int32)).toNatClampNeg) := inb_of S_b12 ⟨by decide, by decide⟩
  obtain ⟨T13, h13, X13, e13, W13, st13⟩ := stC X12 hx hZ e12 Ar_b12 (j := (0 : Int32)) hin105 (g := (mkF m 105 aa3 [(.int ((p4 &&& (255 : Int32)).toUInt32.toUInt16.toUInt32.toInt32)), (.int 0), (.ref b12), (.ref b12), (.ref b11), (.ref b11)])) rfl rfl (hb hby at_105)
  have V_b12_13 := Arv.set Ar_b12 q_b12 S_b12 N_b12 H_b12 G_b12 (fits_nar_char _) W13 0 rfl (Nat.le_of_ble_eq_true rfl)
  have K13 : Keep h0 h13 [] := K12.wr W13 (Or.inr sz_b12)
  have N13 := Fr.snoc X13 N10 g_b12
  obtain ⟨cl_b12_110, Ar_b12, q_b12, S_b12, N_b12, H_b12, G_b12⟩ := V_b12_13
  have hin110 : ¬ ((1 : Int32) < 0 ∨ cl_b12_110.slots.size ≤ ((1 : Int32)).toNatClampNeg) := inb_of S_b12 ⟨by decide, by decide⟩
  obtain ⟨T14, h14, X14, e14, W14, st14⟩ := stC X13 hx hZ e13 Ar_b12 (j := (1 : Int32)) hin110 (g := (mkF m 110 aa3 [(.int ((p5 &&& (255 : Int32)).toUInt32.toUInt16.toUInt32.toInt32)), (.int 1), (.ref b12), (.ref b12), (.ref b11), (.ref b11)])) rfl rfl (hb hby at_110)
  have V_b12_14 := Arv.set Ar_b12 q_b12 S_b12 N_b12 H_b12 G_b12 (fits_nar_char _) W14 1 rfl (Nat.le_of_ble_eq_true rfl)
  have K14 : Keep h0 h14 [] := K13.wr W14 (Or.inr sz_b12)
  have N14 := Fr.snoc X14 N13 g_b12
  have ne12 : b11 ≠ b12 := Nat.ne_of_lt (Nat.lt_of_lt_of_le E_b11.lt (Nat.le_of_eq g12.symm))
  obtain ⟨_, _, ⟨T15, L15, k15, n15⟩, -, X15, ⟨Lc15, hQ15, l15, y15, z15⟩, st15⟩ := X14.specialBack hx (y := ym52) rfl hown (mvT hZ (ww hw 4 rfl)) (mvT hZ (ww hw 5 rfl)) (mvT hZ (ww hw 6 rfl)) (by decide) (StrChars.Road.backV (W := 1) hZ hws (kI := 4) (ww hw 1 rfl) (cs := [(nar .char ((p4 &&& (255 : Int32)).toUInt32.toUInt16.toUInt32.toInt32)), (nar .char ((p5 &&& (255 : Int32)).toUInt32.toUInt16.toUInt32.toInt32))]) (bs := [(nar .char ((p4 &&& (255 : Int32)).toUInt32.toUInt16.toUInt32.toInt32)).toInt8.toInt32, (nar .char ((p5 &&& (255 : Int32)).toUInt32.toUInt16.toUInt32.toInt32)).toInt8.toInt32]) (n := 2) g_b11 (Nat.le_trans Z0 K14.1) (((E_b11.ext E12).wr W13).wr W14) (((F_value_b11.ext E12).other W13 (Or.inl ne12)).other W14 (Or.inl ne12)) (((F_coder_b11.ext E12).other W13 (Or.inl ne12)).other W14 (Or.inl ne12)) (V_b12_14 : Arv Z h14 b12 k12 .char (2 : Int32) [(.int (nar .char ((p4 &&& (255 : Int32)).toUInt32.toUInt16.toUInt32.toInt32))), (.int (nar .char ((p5 &&& (255 : Int32)).toUInt32.toUInt16.toUInt32.toInt32)))] (.int 0)) (SC.ext (own_ext K14)) P3 rfl rfl (by decide) (by decide) (own_ac (P := fun c => ¬ c < 0 ∧ ¬ (255 : Int32) < c) (own_ch p4) (own_ac (own_ch p5) own_an)) rfl (by decide) (by decide)) (g := (mkF m 111 aa3 [(.ref b12), (.ref b11), (.ref b11)])) rfl (by rw [hml]; rfl) (Steps.refl _) (a := b11) (argsL := [(.ref b12)]) (rest := [(.ref b11)]) (lenOf pd_0_0 rfl) rfl (wz rfl) (hb hby at_111) (fun _ _ => ⟨rfl, e14, (by decide : 5 + 1 ≤ _), (by decide : 14 + 2 ≤ _)⟩)
  dsimp only [Pt.U, Pt.locs, Pt.cells, Pt.slots] at X15 l15 y15 z15 st15 hQ15
  subst l15 y15 z15
  obtain ⟨rfl, N15q, K15, Ex15, Co15, tb, ksb, -, -, -, Va15, Ar15⟩ := hQ15
  have P15 : Keep h0 T15.heap [] := K14.trans K15 (allS (Or.inr sz_b11) all0)
  have SB15 : own_S Z T15.heap b11 tb ksb (2 : Int32) (own_by [(nar .char ((p4 &&& (255 : Int32)).toUInt32.toUInt16.toUInt32.toInt32)), (nar .char ((p5 &&& (255 : Int32)).toUInt32.toUInt16.toUInt32.toInt32))]) := ⟨Ex15, Va15, Co15, Ar15, rfl⟩
  have q11 : T10.heap.size ≤ b11 := Nat.le_of_eq g11.symm
  have q12 : T10.heap.size ≤ b12 := Nat.le_trans E11.1 (Nat.le_of_eq g12.symm)
  have KA : Keep T10.heap T15.heap [] := ((((((Keep.refl T10.heap []).ext E11).ext E12).wr W13 (Or.inr q12)).wr W14 (Or.inr q12)).trans K15 (allS (Or.inr q11) all0))
  have SA15 := SA10.ext (own_ext KA)
  have N15 := Fr.app N14 N15q
  let aa4 : Array Slot := #[.val (.int p1), .val (.int p2), .val (.int p3), .val (.int p4), .val (.int p5), .val (.int (own_flag (p1 &&& (1 : Int32)))), .val (.int (own_flag (p1 &&& (2 : Int32)))), .val (.int (own_flag (p1 &&& (4 : Int32)))), .val (.int ((p2 &&& (255 : Int32)).toUInt32.toUInt16.toUInt32.toInt32)), .val (.int ((p3 &&& (255 : Int32)).toUInt32.toUInt16.toUInt32.toInt32)), .val (.int ((p4 &&& (255 : Int32)).toUInt32.toUInt16.toUInt32.toInt32)), .val (.int ((p5 &&& (255 : Int32)).toUInt32.toUInt16.toUInt32.toInt32)), .val (.ref b6), .val (.ref b11), .unset, .unset, .unset, .unset, .unset, .unset]
  obtain ⟨T16, h16, X16, e16, E16, A16, D16, -, st16⟩ := newO X15 hx hZ hown (ww hw 30 rfl) (ww hw 31 rfl) (ww hw 32 rfl) rfl (g := (mkF m 116 aa4 [])) rfl (hb hby at_116) (by decide) (by decide)
  obtain ⟨b16, g16⟩ : ∃ z, z = T15.heap.size := ⟨_, rfl⟩
  rw [← g16] at A16 D16 st16
  have F_out_b16 : Fld Z h16 b16 "org/athenaeum/xml/XmlWriter" "out" "Ljava/lang/StringBuilder;" .null := D16 (Or.inr (ww hw 111 rfl)) (ty := (.object "java/lang/StringBuilder")) (by decide)
  have F_open_b16 : Fld Z h16 b16 "org/athenaeum/xml/XmlWriter" "open" "Ljava/util/Deque;" .null := D16 (Or.inr (ww hw 130 rfl)) (ty := (.object "java/util/Deque")) (by decide)
  have F_inStartTag_b16 : Fld Z h16 b16 "org/athenaeum/xml/XmlWriter" "inStartTag" "Z" (.int 0) := D16 (Or.inl (ww hw 141 rfl)) (ty := .boolean) (by decide)
  have E_b16 := A16
  have g_b16 : n0 ≤ b16 := Nat.le_trans (Nat.le_trans (Nat.le_trans (Nat.le_trans (Nat.le_trans (Nat.le_trans (Nat.le_trans (Nat.le_trans (Nat.le_trans (Nat.le_trans (Nat.le_trans Z0 E6.1) E7.1) (Keep.of_wr W8).1) (Keep.of_wr W9).1) K10.1) E11.1) E12.1) (Keep.of_wr W13).1) (Keep.of_wr W14).1) K15.1) (Nat.le_of_eq g16.symm)
  have sz_b16 : h0.size ≤ b16 := (Nat.le_trans P15.1 (Nat.le_of_eq g16.symm))
  have K16 : Keep h0 h16 [] := P15.ext E16
  obtain ⟨_, _, ⟨T17, L17, k17, n17⟩, -, X17, S17, G17, ⟨Lc17, hQ17, l17, y17, z17, C17⟩, st17⟩ := X16.specialBackS hx (y := ym45) rfl hown (mvT hZ (ww hw 33 rfl)) (mvT hZ (ww hw 34 rfl)) (mvT hZ (ww hw 35 rfl)) (by decide) (backOfSH (s := s) (vm0 := s.vm) (W := 1) (rm7 l Z a0 hw [] b16 G1 h16 n0 (Nat.le_trans Z0 K16.1) (SC.ext (own_ext K16)) P3 F_inStartTag_b16 E_b16 F_out_b16 g_b16 F_open_b16) hZ (ww hw 35 rfl) (ww hw 32 rfl) (by decide) (by decide) hEL (CHr.ext (own_ext K16) CH0).1) (g := (mkF m 120 aa4 [(.ref b16), (.ref b16)])) rfl (by rw [hml]; rfl) (Steps.refl _) (a := b16) (argsL := []) (rest := [(.ref b16)]) (lenOf pd_19_2 rfl) rfl (wz rfl) (hb hby at_120) (fun _ _ => ⟨rfl, e16, (by decide : 7 + 6 ≤ _), (by decide : 19 + 250 ≤ _)⟩)
  dsimp only [Pt.U, Pt.locs, Pt.cells, Pt.slots] at X17 S17 G17 C17 l17 y17 z17 st17 hQ17
  subst l17 y17 z17
  obtain ⟨X17, S17, hZ17, hown17⟩ := rebS S0 (by rw [e16]; exact K16.1) X17 S17 G17 hZ hown
  obtain ⟨ob, oq, va, kb, ea, ke, ⟨sz1, sz2, sz3, sz4⟩, rfl, N17q, K17, Y17⟩ := hQ17
  have N17 := Fr.app N15 N17q
  have ns : T15.heap.size ≤ b16 := Nat.le_of_eq g16.symm
  have SA17 := (SA15.ext E16).keep K17 (own_nin1 (Nat.ne_of_lt (Nat.lt_of_lt_of_le SA15.1.lt ns))) (own_nin1 (Nat.ne_of_lt (Nat.lt_of_lt_of_le SA15.2.2.2.1.lt ns)))
  have SB17 := (SB15.ext E16).keep K17 (own_nin1 (Nat.ne_of_lt (Nat.lt_of_lt_of_le SB15.1.lt ns))) (own_nin1 (Nat.ne_of_lt (Nat.lt_of_lt_of_le SB15.2.2.2.1.lt ns)))
  have SC17 := own_sta (SC.ext (own_ext K16)) K17 (allS (own_plain E_b16) all0)
  have SF17 := own_sta (SF.ext (own_ext K16)) K17 (allS (own_plain E_b16) all0)
  have Z17 : n0 ≤ T17.heap.size := Nat.le_trans (Nat.le_trans Z0 K16.1) K17.1
  have D17 := (CHr.ext (own_ext K16) CH0).trans C17
  have z16 : n0 ≤ h16.size := Nat.le_trans Z0 K16.1
  let aa5 : Array Slot := #[.val (.int p1), .val (.int p2), .val (.int p3), .val (.int p4), .val (.int p5), .val (.int (own_flag (p1 &&& (1 : Int32)))), .val (.int (own_flag (p1 &&& (2 : Int32)))), .val (.int (own_flag (p1 &&& (4 : Int32)))), .val (.int ((p2 &&& (255 : Int32)).toUInt32.toUInt16.toUInt32.toInt32)), .val (.int ((p3 &&& (255 : Int32)).toUInt32.toUInt16.toUInt32.toInt32)), .val (.int ((p4 &&& (255 : Int32)).toUInt32.toUInt16.toUInt32.toInt32)), .val (.int ((p5 &&& (255 : Int32)).toUInt32.toUInt16.toUInt32.toInt32)), .val (.ref b6), .val (.ref b11), .val (.ref b16), .unset, .unset, .unset, .unset, .unset]
  have stA : ∀ target, Steps p.tables e below (T17.setTop (mkF m 125 aa5 [])) target → Steps p.tables e below (s₁.setTop (mkF m 0 aa1 [])) target := fun target kt => by
    show Sw s₁ m 0 aa1 [] _
    refine XS.iloadN X0.here hx rfl (hb hby at_0) rfl ?_
    show Sw s₁ m 1 aa1 [(.int p1)] _
    refine XS.iconst X0.here hx rfl (hb hby at_1) ?_
    show Sw s₁ m 2 aa1 [(.int 1), (.int p1)] _
    refine XS.iand X0.here hx rfl (hb hby at_2) rfl ?_
    show Sw s₁ m 3 aa1 [(.int (p1 &&& (1 : Int32)))] _
    refine own_fl3 X0 hx hby ?_
    show Sw s₁ m 11 aa1 [(.int (own_flag (p1 &&& (1 : Int32))))] _
    let aa6 : Array Slot := #[.val (.int p1), .val (.int p2), .val (.int p3), .val (.int p4), .val (.int p5), .val (.int (own_flag (p1 &&& (1 : Int32)))), .unset, .unset, .unset, .unset, .unset, .unset, .unset, .unset, .unset, .unset, .unset, .unset, .unset, .unset]
    refine XS.istore X0.here hx rfl (hb hby at_11) rfl (l' := aa6) rfl ?_
    show Sw s₁ m 13 aa6 [] _
    refine XS.iloadN X0.here hx rfl (hb hby at_13) rfl ?_
    show Sw s₁ m 14 aa6 [(.int p1)] _
    refine XS.iconst X0.here hx rfl (hb hby at_14) ?_
    show Sw s₁ m 15 aa6 [(.int 2), (.int p1)] _
    refine XS.iand X0.here hx rfl (hb hby at_15) rfl ?_
    show Sw s₁ m 16 aa6 [(.int (p1 &&& (2 : Int32)))] _
    refine own_fl16 X0 hx hby ?_
    show Sw s₁ m 24 aa6 [(.int (own_flag (p1 &&& (2 : Int32))))] _
    let aa7 : Array Slot := #[.val (.int p1), .val (.int p2), .val (.int p3), .val (.int p4), .val (.int p5), .val (.int (own_flag (p1 &&& (1 : Int32)))), .val (.int (own_flag (p1 &&& (2 : Int32)))), .unset, .unset, .unset, .unset, .unset, .unset, .unset, .unset, .unset, .unset, .unset, .unset, .unset]
    refine XS.istore X0.here hx rfl (hb hby at_24) rfl (l' := aa7) rfl ?_
    show Sw s₁ m 26 aa7 [] _
    refine XS.iloadN X0.here hx rfl (hb hby at_26) rfl ?_
    show Sw s₁ m 27 aa7 [(.int p1)] _
    refine XS.iconst X0.here hx rfl (hb hby at_27) ?_
    show Sw s₁ m 28 aa7 [(.int 4), (.int p1)] _
    refine XS.iand X0.here hx rfl (hb hby at_28) rfl ?_
    show Sw s₁ m 29 aa7 [(.int (p1 &&& (4 : Int32)))] _
    refine own_fl29 X0 hx hby ?_
    show Sw s₁ m 37 aa7 [(.int (own_flag (p1 &&& (4 : Int32))))] _
    let aa8 : Array Slot := #[.val (.int p1), .val (.int p2), .val (.int p3), .val (.int p4), .val (.int p5), .val (.int (own_flag (p1 &&& (1 : Int32)))), .val (.int (own_flag (p1 &&& (2 : Int32)))), .val (.int (own_flag (p1 &&& (4 : Int32)))), .unset, .unset, .unset, .unset, .unset, .unset, .unset, .unset, .unset, .unset, .unset, .unset]
    refine XS.istore X0.here hx rfl (hb hby at_37) rfl (l' := aa8) rfl ?_
    show Sw s₁ m 39 aa8 [] _
    refine XS.iloadN X0.here hx rfl (hb hby at_39) rfl ?_
    show Sw s₁ m 40 aa8 [(.int p2)] _
    refine XS.sipush X0.here hx rfl (hb hby at_40) ?_
    show Sw s₁ m 43 aa8 [(.int 255), (.int p2)] _
    refine XS.iand X0.here hx rfl (hb hby at_43) rfl ?_
    show Sw s₁ m 44 aa8 [(.int (p2 &&& (255 : Int32)))] _
    refine XS.i2c X0.here hx rfl (hb hby at_44) rfl ?_
    show Sw s₁ m 45 aa8 [(.int ((p2 &&& (255 : Int32)).toUInt32.toUInt16.toUInt32.toInt32))] _
    let aa9 : Array Slot := #[.val (.int p1), .val (.int p2), .val (.int p3), .val (.int p4), .val (.int p5), .val (.int (own_flag (p1 &&& (1 : Int32)))), .val (.int (own_flag (p1 &&& (2 : Int32)))), .val (.int (own_flag (p1 &&& (4 : Int32)))), .val (.int ((p2 &&& (255 : Int32)).toUInt32.toUInt16.toUInt32.toInt32)), .unset, .unset, .unset, .unset, .unset, .unset, .unset, .unset, .unset, .unset, .unset]
    refine XS.istore X0.here hx rfl (hb hby at_45) rfl (l' := aa9) rfl ?_
    show Sw s₁ m 47 aa9 [] _
    refine XS.iloadN X0.here hx rfl (hb hby at_47) rfl ?_
    show Sw s₁ m 48 aa9 [(.int p3)] _
    refine XS.sipush X0.here hx rfl (hb hby at_48) ?_
    show Sw s₁ m 51 aa9 [(.int 255), (.int p3)] _
    refine XS.iand X0.here hx rfl (hb hby at_51) rfl ?_
    show Sw s₁ m 52 aa9 [(.int (p3 &&& (255 : Int32)))] _
    refine XS.i2c X0.here hx rfl (hb hby at_52) rfl ?_
    show Sw s₁ m 53 aa9 [(.int ((p3 &&& (255 : Int32)).toUInt32.toUInt16.toUInt32.toInt32))] _
    let aa10 : Array Slot := #[.val (.int p1), .val (.int p2), .val (.int p3), .val (.int p4), .val (.int p5), .val (.int (own_flag (p1 &&& (1 : Int32)))), .val (.int (own_flag (p1 &&& (2 : Int32)))), .val (.int (own_flag (p1 &&& (4 : Int32)))), .val (.int ((p2 &&& (255 : Int32)).toUInt32.toUInt16.toUInt32.toInt32)), .val (.int ((p3 &&& (255 : Int32)).toUInt32.toUInt16.toUInt32.toInt32)), .unset, .unset, .unset, .unset, .unset, .unset, .unset, .unset, .unset, .unset]
    refine XS.istore X0.here hx rfl (hb hby at_53) rfl (l' := aa10) rfl ?_
    show Sw s₁ m 55 aa10 [] _
    refine XS.iloadN X0.here hx rfl (hb hby at_55) rfl ?_
    show Sw s₁ m 56 aa10 [(.int p4)] _
    refine XS.sipush X0.here hx rfl (hb hby at_56) ?_
    show Sw s₁ m 59 aa10 [(.int 255), (.int p4)] _
    refine XS.iand X0.here hx rfl (hb hby at_59) rfl ?_
    show Sw s₁ m 60 aa10 [(.int (p4 &&& (255 : Int32)))] _
    refine XS.i2c X0.here hx rfl (hb hby at_60) rfl ?_
    show Sw s₁ m 61 aa10 [(.int ((p4 &&& (255 : Int32)).toUInt32.toUInt16.toUInt32.toInt32))] _
    let aa11 : Array Slot := #[.val (.int p1), .val (.int p2), .val (.int p3), .val (.int p4), .val (.int p5), .val (.int (own_flag (p1 &&& (1 : Int32)))), .val (.int (own_flag (p1 &&& (2 : Int32)))), .val (.int (own_flag (p1 &&& (4 : Int32)))), .val (.int ((p2 &&& (255 : Int32)).toUInt32.toUInt16.toUInt32.toInt32)), .val (.int ((p3 &&& (255 : Int32)).toUInt32.toUInt16.toUInt32.toInt32)), .val (.int ((p4 &&& (255 : Int32)).toUInt32.toUInt16.toUInt32.toInt32)), .unset, .unset, .unset, .unset, .unset, .unset, .unset, .unset, .unset]
    refine XS.istore X0.here hx rfl (hb hby at_61) rfl (l' := aa11) rfl ?_
    show Sw s₁ m 63 aa11 [] _
    refine XS.iload X0.here hx rfl (hb hby at_63) rfl ?_
    show Sw s₁ m 65 aa11 [(.int p5)] _
    refine XS.sipush X0.here hx rfl (hb hby at_65) ?_
    show Sw s₁ m 68 aa11 [(.int 255), (.int p5)] _
    refine XS.iand X0.here hx rfl (hb hby at_68) rfl ?_
    show Sw s₁ m 69 aa11 [(.int (p5 &&& (255 : Int32)))] _
    refine XS.i2c X0.here hx rfl (hb hby at_69) rfl ?_
    show Sw s₁ m 70 aa11 [(.int ((p5 &&& (255 : Int32)).toUInt32.toUInt16.toUInt32.toInt32))] _
    refine XS.istore X0.here hx rfl (hb hby at_70) rfl (l' := aa2) rfl ?_
    show Sw s₁ m 72 aa2 [] _
    refine st6 _ ?_
    show Sw T6 m 75 aa2 [(.ref b6)] _
    refine XS.dup X6.here hx rfl (hb hby at_75) rfl rfl ?_
    show Sw T6 m 76 aa2 [(.ref b6), (.ref b6)] _
    refine XS.iconst X6.here hx rfl (hb hby at_76) ?_
    show Sw T6 m 77 aa2 [(.int 2), (.ref b6), (.ref b6)] _
    refine st7 _ ?_
    show Sw T7 m 79 aa2 [(.ref b7), (.ref b6), (.ref b6)] _
    refine XS.dup X7.here hx rfl (hb hby at_79) rfl rfl ?_
    show Sw T7 m 80 aa2 [(.ref b7), (.ref b7), (.ref b6), (.ref b6)] _
    refine XS.iconst X7.here hx rfl (hb hby at_80) ?_
    show Sw T7 m 81 aa2 [(.int 0), (.ref b7), (.ref b7), (.ref b6), (.ref b6)] _
    refine XS.iload X7.here hx rfl (hb hby at_81) rfl ?_
    show Sw T7 m 83 aa2 [(.int ((p2 &&& (255 : Int32)).toUInt32.toUInt16.toUInt32.toInt32)), (.int 0), (.ref b7), (.ref b7), (.ref b6), (.ref b6)] _
    refine st8 _ ?_
    show Sw T8 m 84 aa2 [(.ref b7), (.ref b6), (.ref b6)] _
    refine XS.dup X8.here hx rfl (hb hby at_84) rfl rfl ?_
    show Sw T8 m 85 aa2 [(.ref b7), (.ref b7), (.ref b6), (.ref b6)] _
    refine XS.iconst X8.here hx rfl (hb hby at_85) ?_
    show Sw T8 m 86 aa2 [(.int 1), (.ref b7), (.ref b7), (.ref b6), (.ref b6)] _
    refine XS.iload X8.here hx rfl (hb hby at_86) rfl ?_
    show Sw T8 m 88 aa2 [(.int ((p3 &&& (255 : Int32)).toUInt32.toUInt16.toUInt32.toInt32)), (.int 1), (.ref b7), (.ref b7), (.ref b6), (.ref b6)] _
    refine st9 _ ?_
    show Sw T9 m 89 aa2 [(.ref b7), (.ref b6), (.ref b6)] _
    refine st10.trans ?_
    show Sw T10 m 92 aa2 [(.ref b6)] _
    refine XS.astore X10.here hx rfl (hb hby at_92) rfl rfl (l' := aa3) rfl ?_
    show Sw T10 m 94 aa3 [] _
    refine st11 _ ?_
    show Sw T11 m 97 aa3 [(.ref b11)] _
    refine XS.dup X11.here hx rfl (hb hby at_97) rfl rfl ?_
    show Sw T11 m 98 aa3 [(.ref b11), (.ref b11)] _
    refine XS.iconst X11.here hx rfl (hb hby at_98) ?_
    show Sw T11 m 99 aa3 [(.int 2), (.ref b11), (.ref b11)] _
    refine st12 _ ?_
    show Sw T12 m 101 aa3 [(.ref b12), (.ref b11), (.ref b11)] _
    refine XS.dup X12.here hx rfl (hb hby at_101) rfl rfl ?_
    show Sw T12 m 102 aa3 [(.ref b12), (.ref b12), (.ref b11), (.ref b11)] _
    refine XS.iconst X12.here hx rfl (hb hby at_102) ?_
    show Sw T12 m 103 aa3 [(.int 0), (.ref b12), (.ref b12), (.ref b11), (.ref b11)] _
    refine XS.iload X12.here hx rfl (hb hby at_103) rfl ?_
    show Sw T12 m 105 aa3 [(.int ((p4 &&& (255 : Int32)).toUInt32.toUInt16.toUInt32.toInt32)), (.int 0), (.ref b12), (.ref b12), (.ref b11), (.ref b11)] _
    refine st13 _ ?_
    show Sw T13 m 106 aa3 [(.ref b12), (.ref b11), (.ref b11)] _
    refine XS.dup X13.here hx rfl (hb hby at_106) rfl rfl ?_
    show Sw T13 m 107 aa3 [(.ref b12), (.ref b12), (.ref b11), (.ref b11)] _
    refine XS.iconst X13.here hx rfl (hb hby at_107) ?_
    show Sw T13 m 108 aa3 [(.int 1), (.ref b12), (.ref b12), (.ref b11), (.ref b11)] _
    refine XS.iload X13.here hx rfl (hb hby at_108) rfl ?_
    show Sw T13 m 110 aa3 [(.int ((p5 &&& (255 : Int32)).toUInt32.toUInt16.toUInt32.toInt32)), (.int 1), (.ref b12), (.ref b12), (.ref b11), (.ref b11)] _
    refine st14 _ ?_
    show Sw T14 m 111 aa3 [(.ref b12), (.ref b11), (.ref b11)] _
    refine st15.trans ?_
    show Sw T15 m 114 aa3 [(.ref b11)] _
    refine XS.astore X15.here hx rfl (hb hby at_114) rfl rfl (l' := aa4) rfl ?_
    show Sw T15 m 116 aa4 [] _
    refine st16 _ ?_
    show Sw T16 m 119 aa4 [(.ref b16)] _
    refine XS.dup X16.here hx rfl (hb hby at_119) rfl rfl ?_
    show Sw T16 m 120 aa4 [(.ref b16), (.ref b16)] _
    refine st17.trans ?_
    show Sw T17 m 123 aa4 [(.ref b16)] _
    refine XS.astore X17.here hx rfl (hb hby at_123) rfl rfl (l' := aa5) rfl ?_
    exact kt
  have main : ∃ (vm' : Vm) (k' : Nat) (T' : State) (h' : Heap) (locs' : List Loc) (cells' slots' : Nat) (Ls : Array Slot), Stand p l e room_1 (s.setVm vm') m #[(.int p1), (.int p2), (.int p3), (.int p4), (.int p5)] below meth c T' locs' cells' slots' ∧ T'.heap = h' ∧ Fr n0 locs' ∧ s.Since vm' k' ∧ k' ≤ h'.size ∧ cells' ≤ 48 ∧ slots' ≤ 4800 ∧ ∀ target, Steps p.tables e below (T'.setTop (mkF m 717 Ls [(.int 1)])) target → Steps p.tables e below (T17.setTop (mkF m 125 aa5 [])) target := by
    by_cases c5 : (p1 &&& (1 : Int32)) = 0
    · have h5 := own_flag0 c5
      by_cases c6 : (p1 &&& (2 : Int32)) = 0
      · have h6 := own_flag0 c6
        obtain ⟨vm1, k1, T1, h1, L1, c1, s1, d, t, kt, X1, e1, N1, S1, q1, hZ1, hown1, z1, Sd, SC1, SF1, qc, qs, stB⟩ := own_b000 (.val (.int p1)) (.val (.int p2)) (.val (.int p3)) (.val (.int p4)) (.val (.int p5)) (own_flag (p1 &&& (1 : Int32))) (own_flag (p1 &&& (2 : Int32))) (.val (.int (own_flag (p1 &&& (4 : Int32))))) (.val (.int ((p2 &&& (255 : Int32)).toUInt32.toUInt16.toUInt32.toInt32))) (.val (.int ((p3 &&& (255 : Int32)).toUInt32.toUInt16.toUInt32.toInt32))) (.val (.int ((p4 &&& (255 : Int32)).toUInt32.toUInt16.toUInt32.toInt32))) (.val (.int ((p5 &&& (255 : Int32)).toUInt32.toUInt16.toUInt32.toInt32))) (.val (.ref b6)) b11 b16 .unset .unset .unset .unset .unset b6 ob oq va kb ea ke ta tb ksa ksb _ _ G1 fm X17 hx hZ17 hw hml hown17 rfl n0 Z17 N17 S17 (Nat.le_refl _) D17.1 SC17 P3 SF17 hby (Or.inl rfl) (Or.inl rfl) (Or.inl rfl) Y17 SA17 SB17 g_b16 (Nat.le_trans z16 sz1) (Nat.le_trans z16 sz3) (Nat.le_trans z16 sz2) (Nat.le_trans z16 sz4) (by decide) (by decide) h5 h6 h5
        obtain ⟨T2, h2, L2, Ls, X2, e2, N2, K2, stR⟩ := own_rest_00 (s := s.setVm vm1) (.val (.int p1)) (.val (.int p2)) (.val (.int p3)) (.val (.int p4)) (.val (.int p5)) (own_flag (p1 &&& (1 : Int32))) (own_flag (p1 &&& (2 : Int32))) (.val (.int (own_flag (p1 &&& (4 : Int32))))) ((p2 &&& (255 : Int32)).toUInt32.toUInt16.toUInt32.toInt32) ((p3 &&& (255 : Int32)).toUInt32.toUInt16.toUInt32.toInt32) ((p4 &&& (255 : Int32)).toUInt32.toUInt16.toUInt32.toInt32) ((p5 &&& (255 : Int32)).toUInt32.toUInt16.toUInt32.toInt32) (.val (.ref b6)) (.val (.ref b11)) b16 d .unset .unset X1 hx hZ1 hw hml hown1 e1 n0 z1 N1 SC1 P3 SF1 rf hby (Or.inl rfl) (Or.inl rfl) (by show c1 + 1 ≤ 48; omega) (by show s1 + 19 ≤ 4800; omega) Sd (by show _ = Int32.ofNat 45; decide) (own_ap (by decide) (own_ac (by decide) (own_ac (own_ch p4) (own_ac (own_ch p5) (own_ac (by decide) (own_ac (by decide) (own_ac (by decide) own_an))))))) h5 h6
        exact ⟨vm1, k1, T2, h2, L2, _, _, Ls, X2, e2, N2, S1, Nat.le_trans q1 (by have := K2.1; omega), (by omega), (by omega), fun target k => stB target (stR target k)⟩
      · have h6 := own_flag1 c6
        obtain ⟨vm1, k1, T1, h1, L1, c1, s1, d, t, kt, X1, e1, N1, S1, q1, hZ1, hown1, z1, Sd, SC1, SF1, qc, qs, stB⟩ := own_b010 (.val (.int p1)) (.val (.int p2)) (.val (.int p3)) (.val (.int p4)) (.val (.int p5)) (own_flag (p1 &&& (1 : Int32))) (own_flag (p1 &&& (2 : Int32))) (.val (.int (own_flag (p1 &&& (4 : Int32))))) (.val (.int ((p2 &&& (255 : Int32)).toUInt32.toUInt16.toUInt32.toInt32))) (.val (.int ((p3 &&& (255 : Int32)).toUInt32.toUInt16.toUInt32.toInt32))) (.val (.int ((p4 &&& (255 : Int32)).toUInt32.toUInt16.toUInt32.toInt32))) (.val (.int ((p5 &&& (255 : Int32)).toUInt32.toUInt16.toUInt32.toInt32))) (.val (.ref b6)) b11 b16 .unset .unset .unset .unset .unset b6 ob oq va kb ea ke ta tb ksa ksb _ _ G1 fm X17 hx hZ17 hw hml hown17 rfl n0 Z17 N17 S17 (Nat.le_refl _) D17.1 SC17 P3 SF17 hby (Or.inl rfl) (Or.inl rfl) (Or.inl rfl) Y17 SA17 SB17 g_b16 (Nat.le_trans z16 sz1) (Nat.le_trans z16 sz3) (Nat.le_trans z16 sz2) (Nat.le_trans z16 sz4) (by decide) (by decide) h5 h6 h5
        obtain ⟨T2, h2, L2, Ls, X2, e2, N2, K2, stR⟩ := own_rest_01 (s := s.setVm vm1) (.val (.int p1)) (.val (.int p2)) (.val (.int p3)) (.val (.int p4)) (.val (.int p5)) (own_flag (p1 &&& (1 : Int32))) (own_flag (p1 &&& (2 : Int32))) (.val (.int (own_flag (p1 &&& (4 : Int32))))) ((p2 &&& (255 : Int32)).toUInt32.toUInt16.toUInt32.toInt32) ((p3 &&& (255 : Int32)).toUInt32.toUInt16.toUInt32.toInt32) ((p4 &&& (255 : Int32)).toUInt32.toUInt16.toUInt32.toInt32) ((p5 &&& (255 : Int32)).toUInt32.toUInt16.toUInt32.toInt32) (.val (.ref b6)) (.val (.ref b11)) b16 d .unset .unset X1 hx hZ1 hw hml hown1 e1 n0 z1 N1 SC1 P3 SF1 rf hby (Or.inl rfl) (Or.inl rfl) (by show c1 + 1 ≤ 48; omega) (by show s1 + 19 ≤ 4800; omega) Sd (by show _ = Int32.ofNat 49; decide) (own_ap (by decide) (own_ac (by decide) (own_ac (own_ch p4) (own_ac (own_ch p5) (own_ac (by decide) (own_ac (by decide) (own_ac (by decide) (own_ac (own_ch p4) (own_ac (own_ch p5) (own_ac (by decide) (own_ac (by decide) own_an))))))))))) h5 h6
        exact ⟨vm1, k1, T2, h2, L2, _, _, Ls, X2, e2, N2, S1, Nat.le_trans q1 (by have := K2.1; omega), (by omega), (by omega), fun target k => stB target (stR target k)⟩
    · have h5 := own_flag1 c5
      by_cases c6 : (p1 &&& (2 : Int32)) = 0
      · have h6 := own_flag0 c6
        by_cases c7 : (p1 &&& (4 : Int32)) = 0
        · have h7 := own_flag0 c7
          obtain ⟨vm1, k1, T1, h1, L1, c1, s1, d, t, kt, X1, e1, N1, S1, q1, hZ1, hown1, z1, Sd, SC1, SF1, qc, qs, stB⟩ := own_b100 (.val (.int p1)) (.val (.int p2)) (.val (.int p3)) (.val (.int p4)) (.val (.int p5)) (own_flag (p1 &&& (1 : Int32))) (own_flag (p1 &&& (2 : Int32))) (own_flag (p1 &&& (4 : Int32))) (.val (.int ((p2 &&& (255 : Int32)).toUInt32.toUInt16.toUInt32.toInt32))) (.val (.int ((p3 &&& (255 : Int32)).toUInt32.toUInt16.toUInt32.toInt32))) (.val (.int ((p4 &&& (255 : Int32)).toUInt32.toUInt16.toUInt32.toInt32))) (.val (.int ((p5 &&& (255 : Int32)).toUInt32.toUInt16.toUInt32.toInt32))) b6 b11 b16 .unset .unset .unset .unset .unset ob oq va kb ea ke ta tb ksa ksb _ _ G1 fm X17 hx hZ17 hw hml hown17 rfl n0 Z17 N17 S17 (Nat.le_refl _) D17.1 SC17 P3 SF17 hby (Or.inl rfl) (Or.inl rfl) (Or.inl rfl) Y17 SA17 SB17 g_b16 (Nat.le_trans z16 sz1) (Nat.le_trans z16 sz3) (Nat.le_trans z16 sz2) (Nat.le_trans z16 sz4) (by decide) (by decide) h5 h6 h5 h7
          obtain ⟨T2, h2, L2, Ls, X2, e2, N2, K2, stR⟩ := own_rest_10 (s := s.setVm vm1) (.val (.int p1)) (.val (.int p2)) (.val (.int p3)) (.val (.int p4)) (.val (.int p5)) (own_flag (p1 &&& (1 : Int32))) (own_flag (p1 &&& (2 : Int32))) (.val (.int (own_flag (p1 &&& (4 : Int32))))) ((p2 &&& (255 : Int32)).toUInt32.toUInt16.toUInt32.toInt32) ((p3 &&& (255 : Int32)).toUInt32.toUInt16.toUInt32.toInt32) ((p4 &&& (255 : Int32)).toUInt32.toUInt16.toUInt32.toInt32) ((p5 &&& (255 : Int32)).toUInt32.toUInt16.toUInt32.toInt32) (.val (.ref b6)) (.val (.ref b11)) b16 d .unset .unset X1 hx hZ1 hw hml hown1 e1 n0 z1 N1 SC1 P3 SF1 rf hby (Or.inl rfl) (Or.inl rfl) (by show c1 + 1 ≤ 48; omega) (by show s1 + 19 ≤ 4800; omega) Sd (by show _ = Int32.ofNat 54; decide) (own_ap (by decide) (own_ac (by decide) (own_ac (own_ch p2) (own_ac (own_ch p3) (own_ac (by decide) (own_ac (by decide) (own_ac (own_ch p4) (own_ac (own_ch p5) (own_ac (by decide) (own_ac (by decide) (own_ac (by decide) (own_ac (by decide) (own_ac (own_ch p2) (own_ac (own_ch p3) (own_ac (by decide) (own_ac (by decide) own_an)))))))))))))))) h5 h6
          exact ⟨vm1, k1, T2, h2, L2, _, _, Ls, X2, e2, N2, S1, Nat.le_trans q1 (by have := K2.1; omega), (by omega), (by omega), fun target k => stB target (stR target k)⟩
        · have h7 := own_flag1 c7
          obtain ⟨vm1, k1, T1, h1, L1, c1, s1, d, t, kt, X1, e1, N1, S1, q1, hZ1, hown1, z1, Sd, SC1, SF1, qc, qs, stB⟩ := own_b101 (.val (.int p1)) (.val (.int p2)) (.val (.int p3)) (.val (.int p4)) (.val (.int p5)) (own_flag (p1 &&& (1 : Int32))) (own_flag (p1 &&& (2 : Int32))) (own_flag (p1 &&& (4 : Int32))) (.val (.int ((p2 &&& (255 : Int32)).toUInt32.toUInt16.toUInt32.toInt32))) (.val (.int ((p3 &&& (255 : Int32)).toUInt32.toUInt16.toUInt32.toInt32))) (.val (.int ((p4 &&& (255 : Int32)).toUInt32.toUInt16.toUInt32.toInt32))) (.val (.int ((p5 &&& (255 : Int32)).toUInt32.toUInt16.toUInt32.toInt32))) b6 b11 b16 .unset .unset .unset .unset .unset ob oq va kb ea ke ta tb ksa ksb _ _ G1 fm X17 hx hZ17 hw hml hown17 rfl n0 Z17 N17 S17 (Nat.le_refl _) D17.1 SC17 P3 SF17 hby (Or.inl rfl) (Or.inl rfl) (Or.inl rfl) Y17 SA17 SB17 g_b16 (Nat.le_trans z16 sz1) (Nat.le_trans z16 sz3) (Nat.le_trans z16 sz2) (Nat.le_trans z16 sz4) (by decide) (by decide) h5 h6 h5 h7
          obtain ⟨T2, h2, L2, Ls, X2, e2, N2, K2, stR⟩ := own_rest_10 (s := s.setVm vm1) (.val (.int p1)) (.val (.int p2)) (.val (.int p3)) (.val (.int p4)) (.val (.int p5)) (own_flag (p1 &&& (1 : Int32))) (own_flag (p1 &&& (2 : Int32))) (.val (.int (own_flag (p1 &&& (4 : Int32))))) ((p2 &&& (255 : Int32)).toUInt32.toUInt16.toUInt32.toInt32) ((p3 &&& (255 : Int32)).toUInt32.toUInt16.toUInt32.toInt32) ((p4 &&& (255 : Int32)).toUInt32.toUInt16.toUInt32.toInt32) ((p5 &&& (255 : Int32)).toUInt32.toUInt16.toUInt32.toInt32) (.val (.ref b6)) (.val (.ref b11)) b16 d .unset .unset X1 hx hZ1 hw hml hown1 e1 n0 z1 N1 SC1 P3 SF1 rf hby (Or.inl rfl) (Or.inl rfl) (by show c1 + 1 ≤ 48; omega) (by show s1 + 19 ≤ 4800; omega) Sd (by show _ = Int32.ofNat 54; decide) (own_ap (by decide) (own_ac (by decide) (own_ac (own_ch p2) (own_ac (own_ch p3) (own_ac (by decide) (own_ac (by decide) (own_ac (own_ch p4) (own_ac (own_ch p5) (own_ac (by decide) (own_ac (by decide) (own_ac (by decide) (own_ac (by decide) (own_ac (own_ch p2) (own_ac (own_ch p3) (own_ac (by decide) (own_ac (by decide) own_an)))))))))))))))) h5 h6
          exact ⟨vm1, k1, T2, h2, L2, _, _, Ls, X2, e2, N2, S1, Nat.le_trans q1 (by have := K2.1; omega), (by omega), (by omega), fun target k => stB target (stR target k)⟩
      · have h6 := own_flag1 c6
        by_cases c7 : (p1 &&& (4 : Int32)) = 0
        · have h7 := own_flag0 c7
          obtain ⟨vm1, k1, T1, h1, L1, c1, s1, d, t, kt, X1, e1, N1, S1, q1, hZ1, hown1, z1, Sd, SC1, SF1, qc, qs, stB⟩ := own_b110 (.val (.int p1)) (.val (.int p2)) (.val (.int p3)) (.val (.int p4)) (.val (.int p5)) (own_flag (p1 &&& (1 : Int32))) (own_flag (p1 &&& (2 : Int32))) (own_flag (p1 &&& (4 : Int32))) (.val (.int ((p2 &&& (255 : Int32)).toUInt32.toUInt16.toUInt32.toInt32))) (.val (.int ((p3 &&& (255 : Int32)).toUInt32.toUInt16.toUInt32.toInt32))) (.val (.int ((p4 &&& (255 : Int32)).toUInt32.toUInt16.toUInt32.toInt32))) (.val (.int ((p5 &&& (255 : Int32)).toUInt32.toUInt16.toUInt32.toInt32))) b6 b11 b16 .unset .unset .unset .unset .unset ob oq va kb ea ke ta tb ksa ksb _ _ G1 fm X17 hx hZ17 hw hml hown17 rfl n0 Z17 N17 S17 (Nat.le_refl _) D17.1 SC17 P3 SF17 hby (Or.inl rfl) (Or.inl rfl) (Or.inl rfl) Y17 SA17 SB17 g_b16 (Nat.le_trans z16 sz1) (Nat.le_trans z16 sz3) (Nat.le_trans z16 sz2) (Nat.le_trans z16 sz4) (by decide) (by decide) h5 h6 h5 h7
          obtain ⟨T2, h2, L2, Ls, X2, e2, N2, K2, stR⟩ := own_rest_11 (s := s.setVm vm1) (.val (.int p1)) (.val (.int p2)) (.val (.int p3)) (.val (.int p4)) (.val (.int p5)) (own_flag (p1 &&& (1 : Int32))) (own_flag (p1 &&& (2 : Int32))) (.val (.int (own_flag (p1 &&& (4 : Int32))))) ((p2 &&& (255 : Int32)).toUInt32.toUInt16.toUInt32.toInt32) ((p3 &&& (255 : Int32)).toUInt32.toUInt16.toUInt32.toInt32) ((p4 &&& (255 : Int32)).toUInt32.toUInt16.toUInt32.toInt32) ((p5 &&& (255 : Int32)).toUInt32.toUInt16.toUInt32.toInt32) (.val (.ref b6)) (.val (.ref b11)) b16 d .unset .unset X1 hx hZ1 hw hml hown1 e1 n0 z1 N1 SC1 P3 SF1 rf hby (Or.inl rfl) (Or.inl rfl) (by show c1 + 1 ≤ 48; omega) (by show s1 + 19 ≤ 4800; omega) Sd (by show _ = Int32.ofNat 58; decide) (own_ap (by decide) (own_ac (by decide) (own_ac (own_ch p2) (own_ac (own_ch p3) (own_ac (by decide) (own_ac (by decide) (own_ac (own_ch p4) (own_ac (own_ch p5) (own_ac (by decide) (own_ac (by decide) (own_ac (by decide) (own_ac (own_ch p4) (own_ac (own_ch p5) (own_ac (by decide) (own_ac (by decide) (own_ac (by decide) (own_ac (own_ch p2) (own_ac (own_ch p3) (own_ac (by decide) (own_ac (by decide) own_an)))))))))))))))))))) h5 h6
          exact ⟨vm1, k1, T2, h2, L2, _, _, Ls, X2, e2, N2, S1, Nat.le_trans q1 (by have := K2.1; omega), (by omega), (by omega), fun target k => stB target (stR target k)⟩
        · have h7 := own_flag1 c7
          obtain ⟨vm1, k1, T1, h1, L1, c1, s1, d, t, kt, X1, e1, N1, S1, q1, hZ1, hown1, z1, Sd, SC1, SF1, qc, qs, stB⟩ := own_b111 (.val (.int p1)) (.val (.int p2)) (.val (.int p3)) (.val (.int p4)) (.val (.int p5)) (own_flag (p1 &&& (1 : Int32))) (own_flag (p1 &&& (2 : Int32))) (own_flag (p1 &&& (4 : Int32))) (.val (.int ((p2 &&& (255 : Int32)).toUInt32.toUInt16.toUInt32.toInt32))) (.val (.int ((p3 &&& (255 : Int32)).toUInt32.toUInt16.toUInt32.toInt32))) (.val (.int ((p4 &&& (255 : Int32)).toUInt32.toUInt16.toUInt32.toInt32))) (.val (.int ((p5 &&& (255 : Int32)).toUInt32.toUInt16.toUInt32.toInt32))) b6 b11 b16 .unset .unset .unset .unset .unset ob oq va kb ea ke ta tb ksa ksb _ _ G1 fm X17 hx hZ17 hw hml hown17 rfl n0 Z17 N17 S17 (Nat.le_refl _) D17.1 SC17 P3 SF17 hby (Or.inl rfl) (Or.inl rfl) (Or.inl rfl) Y17 SA17 SB17 g_b16 (Nat.le_trans z16 sz1) (Nat.le_trans z16 sz3) (Nat.le_trans z16 sz2) (Nat.le_trans z16 sz4) (by decide) (by decide) h5 h6 h5 h7
          obtain ⟨T2, h2, L2, Ls, X2, e2, N2, K2, stR⟩ := own_rest_11 (s := s.setVm vm1) (.val (.int p1)) (.val (.int p2)) (.val (.int p3)) (.val (.int p4)) (.val (.int p5)) (own_flag (p1 &&& (1 : Int32))) (own_flag (p1 &&& (2 : Int32))) (.val (.int (own_flag (p1 &&& (4 : Int32))))) ((p2 &&& (255 : Int32)).toUInt32.toUInt16.toUInt32.toInt32) ((p3 &&& (255 : Int32)).toUInt32.toUInt16.toUInt32.toInt32) ((p4 &&& (255 : Int32)).toUInt32.toUInt16.toUInt32.toInt32) ((p5 &&& (255 : Int32)).toUInt32.toUInt16.toUInt32.toInt32) (.val (.ref b6)) (.val (.ref b11)) b16 d .unset .unset X1 hx hZ1 hw hml hown1 e1 n0 z1 N1 SC1 P3 SF1 rf hby (Or.inl rfl) (Or.inl rfl) (by show c1 + 1 ≤ 48; omega) (by show s1 + 19 ≤ 4800; omega) Sd (by show _ = Int32.ofNat 58; decide) (own_ap (by decide) (own_ac (by decide) (own_ac (own_ch p2) (own_ac (own_ch p3) (own_ac (by decide) (own_ac (by decide) (own_ac (own_ch p4) (own_ac (own_ch p5) (own_ac (by decide) (own_ac (by decide) (own_ac (by decide) (own_ac (own_ch p4) (own_ac (own_ch p5) (own_ac (by decide) (own_ac (by decide) (own_ac (by decide) (own_ac (own_ch p2) (own_ac (own_ch p3) (own_ac (by decide) (own_ac (by decide) own_an)))))))))))))))))))) h5 h6
          exact ⟨vm1, k1, T2, h2, L2, _, _, Ls, X2, e2, N2, S1, Nat.le_trans q1 (by have := K2.1; omega), (by omega), (by omega), fun target k => stB target (stR target k)⟩
  obtain ⟨vm1, k1, T2, h2, L2, c2, s2, Ls, X2, e2, N2, S2, q2, qc, qs, stM⟩ := main
  obtain ⟨fs, hr, hrun, hended, hRE⟩ := X2.leaveW S2 (by rw [e2]; exact q2) (v := some (.int 1)) (fun h => by rw [Bd.returns] at h; cases h)
  refine ⟨_, _, pre0 _ (stA _ (stM _ ?_)), hrun, hended, _, _, rfl, ?_, hRE.1, hRE.2.1, hRE.2.2.1, hRE.2.2.2.mono qc qs⟩
  · exact retN X2 hx (t := .boolean) Bd.returns (by simp) (hb hby at_717) hr
  · exact ⟨rfl, N2⟩
set_option maxRecDepth 65536 in
set_option maxHeartbeats 40000000 in
theorem comes_1 {Post : Tables → Env → Array Value → State → Outcome → State → Prop} (hpost : ∀ tb e args s v u, (limb_1_1.after args s (.returned v) u = true ∧ limb_1_2.after args s (.returned v) u = true ∧ True) → Jvm.D.FramedW s (.returned v) u (Jvm.fieldLocs frame_1_writes args s ++ Jvm.arrayLocs frame_1_arrays args s ++ Jvm.staticLocs frame_1_statics s) 48 4800 → Post tb e args s (.returned v) u) :
    ArmFor flags0 classFile x code maxLocals ret World_1 tables_1 room_1 Calls_1 rest_1 Pre_1 Post := by
  intro l hfl _ _ p e ha hc hk s m args below hf hA hF happ hP
  obtain ⟨hcalls, hrest, hpre⟩ := hP
  obtain ⟨-, -, -, hnamed, -, -, -, hat⟩ := (Spec.applies_iff hf).mp happ
  obtain ⟨hg, hn⟩ := and_e (Cond.before_iff.mp (show (Jvm.Cond.and given_1 narrow_1).before args s = true from hpre))
  obtain ⟨g48, g49⟩ := and_e hg
  obtain ⟨g50, g51⟩ := and_e g49
  obtain ⟨g52, g53⟩ := and_e g51
  obtain ⟨g54, g55⟩ := and_e g53
  obtain ⟨g56, g57⟩ := and_e g55
  obtain ⟨w0, w1, w2, w3, w4, rfl⟩ : ∃ w0 w1 w2 w3 w4 : Value, args = #[w0, w1, w2, w3, w4] := by
    have hs : args.size = 5 := by simpa [Cond.value, given_1] using g48
    obtain ⟨L⟩ := args
    match L, hs with
    | [w0, w1, w2, w3, w4], _ => exact ⟨w0, w1, w2, w3, w4, rfl⟩
  have hw := fun d (hd : d ∈ tables_1) => atoms_spec (ws := Jvm.Cond.code x code maxLocals ret :: tables_1) hat d (List.mem_cons_of_mem _ hd)
  have hfit : Fit s := fun {y c} hc i hi => by
    obtain ⟨ha, rfl⟩ := Array.getElem?_eq_some_iff.mp hc
    have q := List.all_eq_true.mp ((Array.all_eq_true_iff_forall_mem.mp hF) _ (Array.getElem_mem ha)) i (List.mem_range.mpr hi)
    simpa [Array.getElem?_eq_getElem hi] using q
  obtain ⟨hsets, hown0⟩ := atoms_of _ (rest_1_c_eq ▸ (show rest_1_c.before _ s = true from hrest))
  have hr0 := Cond.before_iff.mp hown0
  obtain ⟨i0, ei0⟩ := is_v g50
  obtain rfl : w0 = (.int i0) := Option.some.inj ei0
  obtain ⟨i1, ei1⟩ := is_v g52
  obtain rfl : w1 = (.int i1) := Option.some.inj ei1
  obtain ⟨i2, ei2⟩ := is_v g54
  obtain rfl : w2 = (.int i2) := Option.some.inj ei2
  obtain ⟨i3, ei3⟩ := is_v g56
  obtain rfl : w3 = (.int i3) := Option.some.inj ei3
  obtain ⟨i4, ei4⟩ := is_v g57
  obtain rfl : w4 = (.int i4) := Option.some.inj ei4
  have n3 := not_v (Cond.before_iff.mp (hsets _ (wi 2 rfl)))
  obtain ⟨i7, e6⟩ := is_v (Cond.before_iff.mp (hsets _ (wi 1 rfl)))
  have S8 : Sta s s.heap "java/lang/String" "COMPACT_STRINGS" "Z" (.int i7) := Sta.start e6 (Or.inl (hsets _ (wi 0 rfl)))
  have c9 : ¬ (i7 = (0 : Int32)) := gotF (Cond.eq_ints e6 (Term.int_eval (0))) n3
  obtain ⟨fm, e7, rf⟩ := isR_v (Cond.before_iff.mp (hsets _ (wi 8 rfl)))
  have S9 : Sta s s.heap "jdk/internal/util/Preconditions" "SIOOBE_FORMATTER" "Ljava/util/function/BiFunction;" fm := Sta.start e7 (Or.inl (hsets _ (wi 7 rfl)))
  have CH0 : CHv s own_EL s.vm s.heap := CHv.start (own_EW hw) (fun p hp => hcalls.1 p ((by decide : ∀ p ∈ own_EL, p ∈ consts_1) p hp)) (hsets _ (wi 2 rfl)) (ww hw 19 rfl) (ww hw 1 rfl)
  obtain ⟨n, o, h1, h2, h3, _, L, rfl, ⟨rfl, N⟩, hq⟩ := rm0 l s _ hw tables_1 i0 i1 i2 i3 i4 i7 s.heap s.heap.size (Nat.le_refl _) S8 c9 fm S9 rf p e ha hc hk s m _ below hf ((Spec.applies_iff_loose hf).mp happ).1 ⟨rfl, State.Warmed39.refl s, rfl, CH0⟩ trivial
  refine ⟨n, _, h1, h2, h3, hpost _ _ _ _ _ _ ⟨Cond.after_iff.mpr rfl, Cond.after_iff.mpr (eq_i res_at (Term.int_eval (1)) rfl), trivial⟩ ⟨hq.1, hq.2.1, hq.2.2.1, (hq.2.2.2.sift fun y hy => Or.inr (N y hy)).mono (by decide) (by decide)⟩⟩
theorem main_1_1 : Claimed_1_1 := comes_1 fun _ _ _ _ _ _ h hF => ⟨h.1, hF⟩
theorem main_1_2 : Claimed_1_2 := comes_1 fun _ _ _ _ _ _ h hF => ⟨h.2.1, hF⟩

end Jvm.Pilot.@@N@@
namespace Jvm.Pilot.@@N@@
open Jvm Jvm.ClassFile Sem Op Lib Jvm.Free Jvm.Stand Jvm.Pilot.@@N@@.Jvm.D
/-! MADE BY PROGRAM (witnessworld.py) out of the Statement's table words and the real class files: 34 classes; the members and pool entries that the words name. The judged class is class 1, her method 2. -/
namespace start1
open Jvm.ClassFile
def u (s : String) : CpInfo := .utf8 (stringToUtf16 s)
/-- a pool by its gaps: so many unusable entries, then the entry; so many at the end -/
def gap : Nat → List CpInfo → List CpInfo
  | 0, r => r
  | n + 1, r => .unusable :: gap n r
def poolList (es : List (Nat × CpInfo)) (last : Nat) : List CpInfo := es.foldr (fun e r => gap e.1 (e.2 :: r)) (gap last [])
def pool (es : List (Nat × CpInfo)) (last : Nat) : Array CpInfo := ⟨poolList es last⟩
def fileOf (pool : Array CpInfo) (this : Nat) (attrs : Array Attribute := #[]) (ms : Array MethodInfo := #[]) (fl : Nat := 33) (sup : Nat := 0) (ifs : Array Nat := #[]) (fds : Array FieldInfo := #[]) : ClassFile where
  minorVersion := 0
  majorVersion := 65
  constantPool := pool
  accessFlags := fl
  thisClass := this
  superClass := sup
  interfaces := ifs
  fields := fds
  methods := ms
  attributes := attrs
def plain (name : String) (sup : Option ClassId) : Class where
  name := name
  kind := .ordinary
  loader := none
  accessFlags := 33
  super := sup
  interfaces := #[]
  cf := none
  fields := #[]
  methods := #[]
  instanceTypes := #[]
  staticTypes := #[]
  resolved := #[]
  callSites := []
  init := .initialized
  statics := none
  mirror := none

def pool0 : Array CpInfo := pool [(5, u "<init>"), (0, u "()V"), (1, .class_ 10), (1, u "java/lang/Object")] 113

def k0c0 : Code := { maxStack := 0, maxLocals := 1, code := object_method_1_code, exceptionTable := #[], attributes := #[] }
def k0m0 : Method := { name := "<init>", desc := "()V", sig := { parameters := [], returnType := none }, accessFlags := 1, code := some k0c0 }
/-- java/lang/Object -/
def k0 : Class := { plain "java/lang/Object" none with
  accessFlags := 33
  interfaces := #[]
  cf := some (fileOf pool0 8 #[] #[{ accessFlags := 1, nameIndex := 5, descriptorIndex := 6, attributes := #[] }] 33 0 #[] #[])
  fields := #[]
  methods := #[k0m0]
  instanceTypes := #[]
  staticTypes := #[]
  resolved := Array.replicate 124 none
  statics := none }

def pool1 : Array CpInfo := pool [(2, .class_ 4), (0, .nameAndType 5 6), (0, u "java/lang/Object"), (0, u "<init>"), (0, u "()V"), (0, .methodref 8 9), (0, .class_ 10), (0, .nameAndType 11 12), (0, u "java/lang/String"), (0, u "charAt"), (0, u "(I)C"), (0, .methodref 8 14), (0, .nameAndType 5 15), (0, u "([C)V"), (0, .class_ 17), (0, u "org/athenaeum/xml/XmlWriter"), (0, .methodref 16 3), (0, .methodref 16 20), (0, .nameAndType 21 22), (0, u "start"), (0, u "(Ljava/lang/String;)Lorg/athenaeum/xml/XmlWriter;"), (0, .string 24), (0, u ""), (0, .methodref 16 26), (0, .nameAndType 27 22), (0, u "text"), (0, .methodref 16 29), (0, .nameAndType 30 31), (0, u "end"), (0, u "()Lorg/athenaeum/xml/XmlWriter;"), (0, .methodref 16 33), (0, .nameAndType 34 35), (0, u "finish"), (0, u "()Ljava/lang/String;"), (0, .methodref 8 37), (0, .nameAndType 38 39), (0, u "length"), (0, u "()I"), (0, .methodref 41 42), (0, .class_ 43), (0, .nameAndType 44 45), (0, u "org/athenaeum/xml/XmlWriterEndPinLaw"), (0, u "at"), (0, u "(Ljava/lang/String;[CII)Z"), (3, u "law"), (0, u "(IIIII)Z")] 4

def k1m0 : Method := { name := "<init>", desc := "()V", sig := { parameters := [], returnType := none }, accessFlags := 1, code := none }
def k1c1 : Code := { maxStack := 3, maxLocals := 4, code := method_2_code, exceptionTable := #[], attributes := #[] }
def k1m1 : Method := { name := "at", desc := "(Ljava/lang/String;[CII)Z", sig := { parameters := [(.object "java/lang/String"), (.array .char), .int, .int], returnType := some .boolean }, accessFlags := 10, code := some k1c1 }
def k1c2 : Code := { maxStack := 6, maxLocals := 20, code := code, exceptionTable := #[], attributes := #[] }
def k1m2 : Method := { name := "law", desc := "(IIIII)Z", sig := { parameters := [.int, .int, .int, .int, .int], returnType := some .boolean }, accessFlags := 9, code := some k1c2 }
/-- org/athenaeum/xml/XmlWriterEndPinLaw -/
def k1 : Class := { plain "org/athenaeum/xml/XmlWriterEndPinLaw" (some 0) with
  accessFlags := 49
  interfaces := #[]
  cf := some (fileOf pool1 41 #[] #[{ accessFlags := 1, nameIndex := 5, descriptorIndex := 6, attributes := #[] }, { accessFlags := 10, nameIndex := 44, descriptorIndex := 45, attributes := #[] }, { accessFlags := 9, nameIndex := 49, descriptorIndex := 50, attributes := #[] }] 49 2 #[] #[])
  fields := #[]
  methods := #[k1m0, k1m1, k1m2]
  instanceTypes := #[]
  staticTypes := #[]
  resolved := Array.replicate 55 none
  statics := none }

def pool2 : Array CpInfo := pool [(1, .class_ 2), (0, u "java/io/Serializable"), (0, .class_ 4), (0, u "java/lang/Object")] 2

/-- java/io/Serializable -/
def k2 : Class := { plain "java/io/Serializable" (some 0) with
  accessFlags := 1537
  interfaces := #[]
  cf := some (fileOf pool2 1 #[] #[] 1537 3 #[] #[])
  fields := #[]
  methods := #[]
  instanceTypes := #[]
  staticTypes := #[]
  resolved := Array.replicate 7 none
  statics := none }

def pool3 : Array CpInfo := pool [(1, .class_ 2), (0, u "java/lang/Comparable"), (0, .class_ 4), (0, u "java/lang/Object")] 7

/-- java/lang/Comparable -/
def k3 : Class := { plain "java/lang/Comparable" (some 0) with
  accessFlags := 1537
  interfaces := #[]
  cf := some (fileOf pool3 1 #[] #[] 1537 3 #[] #[])
  fields := #[]
  methods := #[]
  instanceTypes := #[]
  staticTypes := #[]
  resolved := Array.replicate 12 none
  statics := none }

def pool4 : Array CpInfo := pool [(2, .class_ 4), (1, u "java/lang/CharSequence"), (42, .class_ 48), (0, u "java/lang/CharSequence$1CodePointIterator"), (10, .class_ 60), (0, u "java/lang/CharSequence$1CharIterator"), (5, .class_ 67), (0, u "java/lang/Object")] 63

/-- java/lang/CharSequence -/
def k4 : Class := { plain "java/lang/CharSequence" (some 0) with
  accessFlags := 1537
  interfaces := #[]
  cf := some (fileOf pool4 2 #[.nestMembers #[47, 59]] #[] 1537 66 #[] #[])
  fields := #[]
  methods := #[]
  instanceTypes := #[]
  staticTypes := #[]
  resolved := Array.replicate 131 none
  statics := none }

def pool5 : Array CpInfo := pool [(1, .class_ 2), (0, u "java/lang/constant/Constable"), (0, .class_ 4), (0, u "java/lang/Object")] 6

/-- java/lang/constant/Constable -/
def k5 : Class := { plain "java/lang/constant/Constable" (some 0) with
  accessFlags := 1537
  interfaces := #[]
  cf := some (fileOf pool5 1 #[] #[] 1537 3 #[] #[])
  fields := #[]
  methods := #[]
  instanceTypes := #[]
  staticTypes := #[]
  resolved := Array.replicate 11 none
  statics := none }

def pool6 : Array CpInfo := pool [(1, .class_ 2), (0, u "java/lang/constant/ConstantDesc"), (0, .class_ 4), (0, u "java/lang/Object")] 32

/-- java/lang/constant/ConstantDesc -/
def k6 : Class := { plain "java/lang/constant/ConstantDesc" (some 0) with
  accessFlags := 1537
  interfaces := #[]
  cf := some (fileOf pool6 1 #[] #[] 1537 3 #[] #[])
  fields := #[]
  methods := #[]
  instanceTypes := #[]
  staticTypes := #[]
  resolved := Array.replicate 37 none
  statics := none }

def pool7 : Array CpInfo := pool [(1, .methodref 2 3), (0, .class_ 4), (0, .nameAndType 5 6), (0, u "java/lang/Object"), (0, u "<init>"), (0, u "()V"), (2, .fieldref 10 11), (0, .class_ 12), (0, .nameAndType 13 14), (0, u "java/lang/String"), (0, u "value"), (0, u "[B"), (0, .fieldref 10 16), (0, .nameAndType 17 18), (0, u "coder"), (0, u "B"), (2, u "hash"), (0, u "I"), (2, u "hashIsZero"), (0, u "Z"), (0, .methodref 10 28), (0, .nameAndType 5 29), (0, u "([CIILjava/lang/Void;)V"), (8, .fieldref 10 39), (0, .nameAndType 40 26), (0, u "COMPACT_STRINGS"), (1, .class_ 44), (1, u "java/lang/StringUTF16"), (0, u "compress"), (1, .methodref 42 48), (0, .nameAndType 49 50), (0, u "coderFromArrayLen"), (0, u "([BI)B"), (3, .methodref 55 56), (0, .class_ 57), (0, .nameAndType 58 59), (0, u "java/util/Arrays"), (0, u "copyOfRange"), (0, u "([BII)[B"), (47, .class_ 109), (1, u "java/lang/StringLatin1"), (32, u "()Z"), (34, .methodref 42 178), (0, .nameAndType 45 179), (0, u "([CII)[B"), (13, .class_ 195), (1, u "java/lang/System"), (16, .methodref 193 213), (0, .nameAndType 214 215), (0, u "arraycopy"), (0, u "(Ljava/lang/Object;ILjava/lang/Object;II)V"), (118, u "()I"), (0, .methodref 10 336), (0, .nameAndType 17 337), (0, u "()B"), (2, u "()[B"), (22, u "([BI)C"), (27, u "(II)V"), (35, u "(I)C"), (61, .methodref 10 490), (0, .nameAndType 5 491), (0, u "(Ljava/lang/AbstractStringBuilder;Ljava/lang/Void;)V"), (0, .methodref 10 493), (0, .nameAndType 494 142), (0, u "isLatin1"), (0, .methodref 107 496), (0, .nameAndType 497 363), (0, u "charAt"), (3, u "checkIndex"), (4, .nameAndType 507 334), (0, u "length"), (24, u "getBytes"), (16, .methodref 550 506), (0, .class_ 551), (0, u "java/lang/AbstractStringBuilder"), (0, .methodref 550 553), (0, .nameAndType 554 340), (0, u "getValue"), (20, .class_ 576), (0, u "java/lang/CharSequence"), (22, u "CASE_INSENSITIVE_ORDER"), (0, u "Ljava/util/Comparator;"), (220, u "([BIB)V"), (188, u "([C)V"), (36, .methodref 550 493), (5, .fieldref 1054 1055), (0, .class_ 1056), (0, .nameAndType 1057 1058), (0, u "jdk/internal/util/Preconditions"), (0, u "SIOOBE_FORMATTER"), (0, u "Ljava/util/function/BiFunction;"), (0, .methodref 1054 1060), (0, .nameAndType 501 1061), (0, u "(IILjava/util/function/BiFunction;)I"), (39, u "serialPersistentFields"), (0, u "[Ljava/io/ObjectStreamField;"), (0, .class_ 1104), (0, u "java/lang/String$CaseInsensitiveComparator"), (1, .class_ 1107), (0, u "java/io/Serializable"), (0, .class_ 1109), (0, u "java/lang/Comparable"), (0, .class_ 1111), (0, u "java/lang/constant/Constable"), (0, .class_ 1113), (0, u "java/lang/constant/ConstantDesc"), (2, u "serialVersionUID"), (0, u "J"), (3, u "REPL"), (0, u "C"), (2, u "LATIN1"), (1, u "UTF16"), (105, u "(Ljava/lang/StringBuilder;)V")] 217

def k7m0 : Method := { name := "<init>", desc := "()V", sig := { parameters := [], returnType := none }, accessFlags := 1, code := none }
def k7c1 : Code := { maxStack := 5, maxLocals := 2, code := jdk_42_method_3_code, exceptionTable := #[], attributes := #[] }
def k7m1 : Method := { name := "<init>", desc := "([C)V", sig := { parameters := [(.array .char)], returnType := none }, accessFlags := 1, code := some k7c1 }
def k7c2 : Code := { maxStack := 3, maxLocals := 2, code := jdk_42_method_53_code, exceptionTable := #[], attributes := #[] }
def k7m2 : Method := { name := "<init>", desc := "(Ljava/lang/StringBuilder;)V", sig := { parameters := [(.object "java/lang/StringBuilder")], returnType := none }, accessFlags := 1, code := some k7c2 }
def k7c3 : Code := { maxStack := 2, maxLocals := 1, code := jdk_42_method_54_code, exceptionTable := #[], attributes := #[] }
def k7m3 : Method := { name := "length", desc := "()I", sig := { parameters := [], returnType := some .int }, accessFlags := 1, code := some k7c3 }
def k7c4 : Code := { maxStack := 2, maxLocals := 2, code := jdk_42_method_56_code, exceptionTable := #[], attributes := #[] }
def k7m4 : Method := { name := "charAt", desc := "(I)C", sig := { parameters := [.int], returnType := some .char }, accessFlags := 1, code := some k7c4 }
def k7c5 : Code := { maxStack := 5, maxLocals := 4, code := jdk_42_method_147_code, exceptionTable := #[], attributes := #[] }
def k7m5 : Method := { name := "getBytes", desc := "([BIB)V", sig := { parameters := [(.array .byte), .int, .byte], returnType := none }, accessFlags := 0, code := some k7c5 }
def k7c6 : Code := { maxStack := 4, maxLocals := 6, code := jdk_42_method_149_code, exceptionTable := #[], attributes := #[] }
def k7m6 : Method := { name := "<init>", desc := "([CIILjava/lang/Void;)V", sig := { parameters := [(.array .char), .int, .int, (.object "java/lang/Void")], returnType := none }, accessFlags := 2, code := some k7c6 }
def k7c7 : Code := { maxStack := 5, maxLocals := 5, code := jdk_42_method_150_code, exceptionTable := #[], attributes := #[] }
def k7m7 : Method := { name := "<init>", desc := "(Ljava/lang/AbstractStringBuilder;Ljava/lang/Void;)V", sig := { parameters := [(.object "java/lang/AbstractStringBuilder"), (.object "java/lang/Void")], returnType := none }, accessFlags := 0, code := some k7c7 }
def k7c8 : Code := { maxStack := 1, maxLocals := 1, code := jdk_42_method_152_code, exceptionTable := #[], attributes := #[] }
def k7m8 : Method := { name := "coder", desc := "()B", sig := { parameters := [], returnType := some .byte }, accessFlags := 0, code := some k7c8 }
def k7c9 : Code := { maxStack := 1, maxLocals := 1, code := jdk_42_method_154_code, exceptionTable := #[], attributes := #[] }
def k7m9 : Method := { name := "isLatin1", desc := "()Z", sig := { parameters := [], returnType := some .boolean }, accessFlags := 0, code := some k7c9 }
def k7c10 : Code := { maxStack := 3, maxLocals := 2, code := jdk_42_method_155_code, exceptionTable := #[], attributes := #[] }
def k7m10 : Method := { name := "checkIndex", desc := "(II)V", sig := { parameters := [.int, .int], returnType := none }, accessFlags := 8, code := some k7c10 }
/-- java/lang/String -/
def k7 : Class := { plain "java/lang/String" (some 0) with
  accessFlags := 49
  interfaces := #[2, 3, 4, 5, 6]
  cf := some (fileOf pool7 10 #[.nestMembers #[1103]] #[{ accessFlags := 1, nameIndex := 5, descriptorIndex := 6, attributes := #[] }, { accessFlags := 1, nameIndex := 5, descriptorIndex := 1010, attributes := #[] }, { accessFlags := 1, nameIndex := 5, descriptorIndex := 1233, attributes := #[] }, { accessFlags := 1, nameIndex := 507, descriptorIndex := 334, attributes := #[] }, { accessFlags := 1, nameIndex := 497, descriptorIndex := 427, attributes := #[] }, { accessFlags := 0, nameIndex := 532, descriptorIndex := 821, attributes := #[] }, { accessFlags := 2, nameIndex := 5, descriptorIndex := 29, attributes := #[] }, { accessFlags := 0, nameIndex := 5, descriptorIndex := 491, attributes := #[] }, { accessFlags := 0, nameIndex := 17, descriptorIndex := 337, attributes := #[] }, { accessFlags := 0, nameIndex := 494, descriptorIndex := 142, attributes := #[] }, { accessFlags := 8, nameIndex := 501, descriptorIndex := 391, attributes := #[] }] 49 2 #[1106, 1108, 575, 1110, 1112] #[{ accessFlags := 18, nameIndex := 13, descriptorIndex := 14, attributes := #[] }, { accessFlags := 18, nameIndex := 17, descriptorIndex := 18, attributes := #[] }, { accessFlags := 2, nameIndex := 21, descriptorIndex := 22, attributes := #[] }, { accessFlags := 2, nameIndex := 25, descriptorIndex := 26, attributes := #[] }, { accessFlags := 26, nameIndex := 1116, descriptorIndex := 1117, attributes := #[] }, { accessFlags := 24, nameIndex := 40, descriptorIndex := 26, attributes := #[] }, { accessFlags := 26, nameIndex := 1101, descriptorIndex := 1102, attributes := #[] }, { accessFlags := 26, nameIndex := 1121, descriptorIndex := 1122, attributes := #[] }, { accessFlags := 25, nameIndex := 599, descriptorIndex := 600, attributes := #[] }, { accessFlags := 24, nameIndex := 1125, descriptorIndex := 18, attributes := #[] }, { accessFlags := 24, nameIndex := 1127, descriptorIndex := 18, attributes := #[] }])
  fields := #[{ name := "value", type := (.array .byte), accessFlags := 18, slot := 0, constantValue := 0 }, { name := "coder", type := .byte, accessFlags := 18, slot := 1, constantValue := 0 }, { name := "hash", type := .int, accessFlags := 2, slot := 2, constantValue := 0 }, { name := "hashIsZero", type := .boolean, accessFlags := 2, slot := 3, constantValue := 0 }, { name := "serialVersionUID", type := .long, accessFlags := 26, slot := 0, constantValue := 0 }, { name := "COMPACT_STRINGS", type := .boolean, accessFlags := 24, slot := 1, constantValue := 0 }, { name := "serialPersistentFields", type := (.array (.object "java/io/ObjectStreamField")), accessFlags := 26, slot := 2, constantValue := 0 }, { name := "REPL", type := .char, accessFlags := 26, slot := 3, constantValue := 0 }, { name := "CASE_INSENSITIVE_ORDER", type := (.object "java/util/Comparator"), accessFlags := 25, slot := 4, constantValue := 0 }, { name := "LATIN1", type := .byte, accessFlags := 24, slot := 5, constantValue := 0 }, { name := "UTF16", type := .byte, accessFlags := 24, slot := 6, constantValue := 0 }]
  methods := #[k7m0, k7m1, k7m2, k7m3, k7m4, k7m5, k7m6, k7m7, k7m8, k7m9, k7m10]
  instanceTypes := #[(.array .byte), .byte, .int, .boolean]
  staticTypes := #[.long, .boolean, (.array (.object "java/io/ObjectStreamField")), .char, (.object "java/util/Comparator"), .byte, .byte]
  resolved := Array.replicate 1451 none
  statics := some 0 }

def pool8 : Array CpInfo := pool [(6, .class_ 8), (1, u "java/lang/Object"), (0, u "<init>"), (0, u "()V"), (1, .class_ 14), (1, u "java/lang/StringUTF16"), (31, u "$assertionsDisabled"), (0, u "Z"), (13, u "HI_BYTE_SHIFT"), (0, u "I"), (2, u "LO_BYTE_SHIFT"), (49, .methodref 12 116), (0, .nameAndType 117 118), (0, u "compress"), (0, u "([CI[BII)I"), (3, u "([CII)[B"), (138, u "coderFromArrayLen"), (0, u "([BI)B"), (106, .class_ 371), (1, u "java/lang/StringUTF16$LinesSpliterator"), (58, u "MAX_LENGTH"), (196, .class_ 628), (0, u "java/lang/StringUTF16$CodePointsSpliterator"), (0, .class_ 630), (0, u "java/lang/StringUTF16$CharsSpliterator")] 4

def k8m0 : Method := { name := "<init>", desc := "()V", sig := { parameters := [], returnType := none }, accessFlags := 0, code := none }
def k8c1 : Code := { maxStack := 2, maxLocals := 2, code := jdk_52_method_15_code, exceptionTable := #[], attributes := #[] }
def k8m1 : Method := { name := "coderFromArrayLen", desc := "([BI)B", sig := { parameters := [(.array .byte), .int], returnType := some .byte }, accessFlags := 8, code := some k8c1 }
def k8c2 : Code := { maxStack := 5, maxLocals := 6, code := jdk_52_method_16_code, exceptionTable := #[], attributes := #[] }
def k8m2 : Method := { name := "compress", desc := "([CII)[B", sig := { parameters := [(.array .char), .int, .int], returnType := some (.array .byte) }, accessFlags := 9, code := some k8c2 }
def k8c3 : Code := { maxStack := 3, maxLocals := 7, code := jdk_52_method_21_code, exceptionTable := #[], attributes := #[] }
def k8m3 : Method := { name := "compress", desc := "([CI[BII)I", sig := { parameters := [(.array .char), .int, (.array .byte), .int, .int], returnType := some .int }, accessFlags := 9, code := some k8c3 }
/-- java/lang/StringUTF16 -/
def k8 : Class := { plain "java/lang/StringUTF16" (some 0) with
  accessFlags := 48
  interfaces := #[]
  cf := some (fileOf pool8 12 #[.nestMembers #[627, 629, 369]] #[{ accessFlags := 0, nameIndex := 9, descriptorIndex := 10, attributes := #[] }, { accessFlags := 8, nameIndex := 261, descriptorIndex := 262, attributes := #[] }, { accessFlags := 9, nameIndex := 117, descriptorIndex := 122, attributes := #[] }, { accessFlags := 9, nameIndex := 117, descriptorIndex := 118, attributes := #[] }] 48 6 #[] #[{ accessFlags := 26, nameIndex := 61, descriptorIndex := 62, attributes := #[] }, { accessFlags := 26, nameIndex := 65, descriptorIndex := 62, attributes := #[] }, { accessFlags := 24, nameIndex := 430, descriptorIndex := 62, attributes := #[] }, { accessFlags := 4120, nameIndex := 46, descriptorIndex := 47, attributes := #[] }])
  fields := #[{ name := "HI_BYTE_SHIFT", type := .int, accessFlags := 26, slot := 0, constantValue := 0 }, { name := "LO_BYTE_SHIFT", type := .int, accessFlags := 26, slot := 1, constantValue := 0 }, { name := "MAX_LENGTH", type := .int, accessFlags := 24, slot := 2, constantValue := 0 }, { name := "$assertionsDisabled", type := .boolean, accessFlags := 4120, slot := 3, constantValue := 0 }]
  methods := #[k8m0, k8m1, k8m2, k8m3]
  instanceTypes := #[]
  staticTypes := #[.int, .int, .int, .boolean]
  resolved := Array.replicate 635 none
  statics := none }

def pool9 : Array CpInfo := pool [(1, .methodref 2 3), (0, .class_ 4), (0, .nameAndType 5 6), (0, u "java/lang/Object"), (0, u "<init>"), (0, u "()V"), (0, .class_ 8), (0, u "java/lang/StringBuilder"), (0, .string 10), (0, u "<?xml version=\"1.0\" encoding=\"UTF-8\"?>\n"), (0, .methodref 7 12), (0, .nameAndType 5 13), (0, u "(Ljava/lang/String;)V"), (0, .fieldref 15 16), (0, .class_ 17), (0, .nameAndType 18 19), (0, u "org/athenaeum/xml/XmlWriter"), (0, u "out"), (0, u "Ljava/lang/StringBuilder;"), (0, .class_ 21), (0, u "java/util/ArrayDeque"), (0, .methodref 20 3), (0, .fieldref 15 24), (0, .nameAndType 25 26), (0, u "open"), (0, u "Ljava/util/Deque;"), (0, .methodref 15 28), (0, .nameAndType 29 6), (0, u "closeStartTag"), (0, .methodref 7 31), (0, .nameAndType 32 33), (0, u "append"), (0, u "(C)Ljava/lang/StringBuilder;"), (0, .methodref 7 35), (0, .nameAndType 32 36), (0, u "(Ljava/lang/String;)Ljava/lang/StringBuilder;"), (0, .interfaceMethodref 38 39), (0, .class_ 40), (0, .nameAndType 41 42), (0, u "java/util/Deque"), (0, u "push"), (0, u "(Ljava/lang/Object;)V"), (0, .fieldref 15 44), (0, .nameAndType 45 46), (0, u "inStartTag"), (0, u "Z"), (9, .methodref 15 57), (0, .nameAndType 58 59), (0, u "escape"), (0, u "(Ljava/lang/String;Z)V"), (0, .interfaceMethodref 38 61), (0, .nameAndType 62 63), (0, u "pop"), (0, u "()Ljava/lang/Object;"), (0, .class_ 65), (0, u "java/lang/String"), (0, .string 67), (0, u "/>"), (0, .string 69), (0, u "</"), (2, u "start"), (0, u "(Ljava/lang/String;)Lorg/athenaeum/xml/XmlWriter;"), (2, u "text"), (0, .methodref 15 78), (0, .nameAndType 79 80), (0, u "end"), (0, u "()Lorg/athenaeum/xml/XmlWriter;"), (0, .interfaceMethodref 38 82), (0, .nameAndType 83 84), (0, u "isEmpty"), (0, u "()Z"), (0, .methodref 7 86), (0, .nameAndType 87 88), (0, u "toString"), (0, u "()Ljava/lang/String;"), (0, .methodref 64 90), (0, .nameAndType 91 92), (0, u "length"), (0, u "()I"), (33, .integer 65533), (15, u "finish")] 17

def k9c0 : Code := { maxStack := 4, maxLocals := 1, code := prog_100_method_1_code, exceptionTable := #[], attributes := #[] }
def k9m0 : Method := { name := "<init>", desc := "()V", sig := { parameters := [], returnType := none }, accessFlags := 1, code := some k9c0 }
def k9c1 : Code := { maxStack := 2, maxLocals := 2, code := prog_100_method_2_code, exceptionTable := #[], attributes := #[] }
def k9m1 : Method := { name := "start", desc := "(Ljava/lang/String;)Lorg/athenaeum/xml/XmlWriter;", sig := { parameters := [(.object "java/lang/String")], returnType := some (.object "org/athenaeum/xml/XmlWriter") }, accessFlags := 1, code := some k9c1 }
def k9c2 : Code := { maxStack := 3, maxLocals := 2, code := prog_100_method_4_code, exceptionTable := #[], attributes := #[] }
def k9m2 : Method := { name := "text", desc := "(Ljava/lang/String;)Lorg/athenaeum/xml/XmlWriter;", sig := { parameters := [(.object "java/lang/String")], returnType := some (.object "org/athenaeum/xml/XmlWriter") }, accessFlags := 1, code := some k9c2 }
def k9c3 : Code := { maxStack := 2, maxLocals := 2, code := prog_100_method_5_code, exceptionTable := #[], attributes := #[] }
def k9m3 : Method := { name := "end", desc := "()Lorg/athenaeum/xml/XmlWriter;", sig := { parameters := [], returnType := some (.object "org/athenaeum/xml/XmlWriter") }, accessFlags := 1, code := some k9c3 }
def k9c4 : Code := { maxStack := 2, maxLocals := 1, code := prog_100_method_7_code, exceptionTable := #[], attributes := #[] }
def k9m4 : Method := { name := "finish", desc := "()Ljava/lang/String;", sig := { parameters := [], returnType := some (.object "java/lang/String") }, accessFlags := 1, code := some k9c4 }
def k9c5 : Code := { maxStack := 2, maxLocals := 1, code := prog_100_method_8_code, exceptionTable := #[], attributes := #[] }
def k9m5 : Method := { name := "closeStartTag", desc := "()V", sig := { parameters := [], returnType := none }, accessFlags := 2, code := some k9c5 }
def k9c6 : Code := { maxStack := 2, maxLocals := 5, code := prog_100_method_9_code, exceptionTable := #[], attributes := #[] }
def k9m6 : Method := { name := "escape", desc := "(Ljava/lang/String;Z)V", sig := { parameters := [(.object "java/lang/String"), .boolean], returnType := none }, accessFlags := 2, code := some k9c6 }
/-- org/athenaeum/xml/XmlWriter -/
def k9 : Class := { plain "org/athenaeum/xml/XmlWriter" (some 0) with
  accessFlags := 49
  interfaces := #[]
  cf := some (fileOf pool9 15 #[] #[{ accessFlags := 1, nameIndex := 5, descriptorIndex := 6, attributes := #[] }, { accessFlags := 1, nameIndex := 72, descriptorIndex := 73, attributes := #[] }, { accessFlags := 1, nameIndex := 76, descriptorIndex := 73, attributes := #[] }, { accessFlags := 1, nameIndex := 79, descriptorIndex := 80, attributes := #[] }, { accessFlags := 1, nameIndex := 142, descriptorIndex := 88, attributes := #[] }, { accessFlags := 2, nameIndex := 29, descriptorIndex := 6, attributes := #[] }, { accessFlags := 2, nameIndex := 58, descriptorIndex := 59, attributes := #[] }] 49 2 #[] #[{ accessFlags := 18, nameIndex := 18, descriptorIndex := 19, attributes := #[] }, { accessFlags := 18, nameIndex := 25, descriptorIndex := 26, attributes := #[] }, { accessFlags := 2, nameIndex := 45, descriptorIndex := 46, attributes := #[] }])
  fields := #[{ name := "out", type := (.object "java/lang/StringBuilder"), accessFlags := 18, slot := 0, constantValue := 0 }, { name := "open", type := (.object "java/util/Deque"), accessFlags := 18, slot := 1, constantValue := 0 }, { name := "inStartTag", type := .boolean, accessFlags := 2, slot := 2, constantValue := 0 }]
  methods := #[k9m0, k9m1, k9m2, k9m3, k9m4, k9m5, k9m6]
  instanceTypes := #[(.object "java/lang/StringBuilder"), (.object "java/util/Deque"), .boolean]
  staticTypes := #[]
  resolved := Array.replicate 160 none
  statics := none }

def pool10 : Array CpInfo := pool [(1, .class_ 2), (0, u "java/lang/Appendable"), (0, .class_ 4), (0, u "java/lang/Object")] 9

/-- java/lang/Appendable -/
def k10 : Class := { plain "java/lang/Appendable" (some 0) with
  accessFlags := 1537
  interfaces := #[]
  cf := some (fileOf pool10 1 #[] #[] 1537 3 #[] #[])
  fields := #[]
  methods := #[]
  instanceTypes := #[]
  staticTypes := #[]
  resolved := Array.replicate 14 none
  statics := none }

def pool11 : Array CpInfo := pool [(1, .class_ 2), (0, u "java/lang/String"), (0, .methodref 4 5), (0, .class_ 6), (0, .nameAndType 7 8), (0, u "java/lang/Object"), (0, u "<init>"), (0, u "()V"), (1, .class_ 12), (1, u "java/lang/AbstractStringBuilder"), (0, u "EMPTYVALUE"), (0, u "[B"), (0, .fieldref 10 16), (0, .nameAndType 17 14), (0, u "value"), (0, .fieldref 1 19), (0, .nameAndType 20 21), (0, u "COMPACT_STRINGS"), (0, u "Z"), (0, .fieldref 10 23), (0, .nameAndType 24 25), (0, u "coder"), (0, u "B"), (6, .methodref 1 33), (0, .nameAndType 34 35), (0, u "length"), (0, u "()I"), (2, .integer 2147483631), (0, .integer 2147483647), (0, .methodref 1 41), (0, .nameAndType 24 42), (0, u "()B"), (0, .methodref 10 44), (0, .nameAndType 45 46), (0, u "append"), (0, u "(Ljava/lang/String;)Ljava/lang/AbstractStringBuilder;"), (1, .class_ 49), (0, u "java/lang/CharSequence"), (19, u "(Ljava/lang/String;)V"), (5, u "maybeLatin1"), (3, .fieldref 10 80), (0, .nameAndType 81 82), (0, u "count"), (0, u "I"), (0, .methodref 10 84), (0, .nameAndType 85 86), (0, u "isLatin1"), (0, u "()Z"), (1, .class_ 90), (1, u "java/lang/StringLatin1"), (9, .methodref 10 101), (0, .nameAndType 102 103), (0, u "ensureCapacityInternal"), (0, u "(I)V"), (0, .methodref 10 105), (0, .nameAndType 106 107), (0, u "newCapacity"), (0, u "(I)I"), (0, .methodref 109 110), (0, .class_ 111), (0, .nameAndType 112 113), (0, u "java/util/Arrays"), (0, u "copyOf"), (0, u "([BI)[B"), (0, .methodref 115 116), (0, .class_ 117), (0, .nameAndType 118 119), (0, u "jdk/internal/util/ArraysSupport"), (0, u "newLength"), (0, u "(III)I"), (71, .methodref 88 192), (0, .nameAndType 193 194), (0, u "canEncode"), (0, u "(C)Z"), (13, .methodref 10 209), (0, .nameAndType 210 211), (0, u "putStringAt"), (0, u "(ILjava/lang/String;)V"), (5, u "inflateIfNeededFor"), (2, .nameAndType 221 222), (0, u "getBytes"), (0, u "([BIB)V"), (69, u "(C)Ljava/lang/AbstractStringBuilder;"), (104, .methodref 10 398), (0, .nameAndType 217 69), (0, .methodref 1 220), (3, u "()[B"), (40, .class_ 445), (0, u "java/lang/Appendable"), (106, u "getValue")] 56

def k11m0 : Method := { name := "<init>", desc := "()V", sig := { parameters := [], returnType := none }, accessFlags := 0, code := none }
def k11c1 : Code := { maxStack := 2, maxLocals := 5, code := jdk_68_method_3_code, exceptionTable := #[], attributes := #[] }
def k11m1 : Method := { name := "<init>", desc := "(Ljava/lang/String;)V", sig := { parameters := [(.object "java/lang/String")], returnType := none }, accessFlags := 0, code := some k11c1 }
def k11c2 : Code := { maxStack := 1, maxLocals := 1, code := jdk_68_method_6_code, exceptionTable := #[], attributes := #[] }
def k11m2 : Method := { name := "length", desc := "()I", sig := { parameters := [], returnType := some .int }, accessFlags := 1, code := some k11c2 }
def k11c3 : Code := { maxStack := 4, maxLocals := 3, code := jdk_68_method_9_code, exceptionTable := #[], attributes := #[] }
def k11m3 : Method := { name := "ensureCapacityInternal", desc := "(I)V", sig := { parameters := [.int], returnType := none }, accessFlags := 2, code := some k11c3 }
def k11c4 : Code := { maxStack := 5, maxLocals := 6, code := jdk_68_method_10_code, exceptionTable := #[], attributes := #[] }
def k11m4 : Method := { name := "newCapacity", desc := "(I)I", sig := { parameters := [.int], returnType := some .int }, accessFlags := 2, code := some k11c4 }
def k11c5 : Code := { maxStack := 3, maxLocals := 3, code := jdk_68_method_22_code, exceptionTable := #[], attributes := #[] }
def k11m5 : Method := { name := "append", desc := "(Ljava/lang/String;)Ljava/lang/AbstractStringBuilder;", sig := { parameters := [(.object "java/lang/String")], returnType := some (.object "java/lang/AbstractStringBuilder") }, accessFlags := 1, code := some k11c5 }
def k11c6 : Code := { maxStack := 5, maxLocals := 2, code := jdk_68_method_31_code, exceptionTable := #[], attributes := #[] }
def k11m6 : Method := { name := "append", desc := "(C)Ljava/lang/AbstractStringBuilder;", sig := { parameters := [.char], returnType := some (.object "java/lang/AbstractStringBuilder") }, accessFlags := 1, code := some k11c6 }
def k11c7 : Code := { maxStack := 1, maxLocals := 1, code := jdk_68_method_64_code, exceptionTable := #[], attributes := #[] }
def k11m7 : Method := { name := "getValue", desc := "()[B", sig := { parameters := [], returnType := some (.array .byte) }, accessFlags := 16, code := some k11c7 }
def k11c8 : Code := { maxStack := 1, maxLocals := 1, code := jdk_68_method_68_code, exceptionTable := #[], attributes := #[] }
def k11m8 : Method := { name := "isLatin1", desc := "()Z", sig := { parameters := [], returnType := some .boolean }, accessFlags := 16, code := some k11c8 }
def k11c9 : Code := { maxStack := 2, maxLocals := 2, code := jdk_68_method_71_code, exceptionTable := #[], attributes := #[] }
def k11m9 : Method := { name := "inflateIfNeededFor", desc := "(Ljava/lang/String;)V", sig := { parameters := [(.object "java/lang/String")], returnType := none }, accessFlags := 2, code := some k11c9 }
def k11c10 : Code := { maxStack := 4, maxLocals := 3, code := jdk_68_method_73_code, exceptionTable := #[], attributes := #[] }
def k11m10 : Method := { name := "putStringAt", desc := "(ILjava/lang/String;)V", sig := { parameters := [.int, (.object "java/lang/String")], returnType := none }, accessFlags := 2, code := some k11c10 }
/-- java/lang/AbstractStringBuilder -/
def k11 : Class := { plain "java/lang/AbstractStringBuilder" (some 0) with
  accessFlags := 1056
  interfaces := #[10, 4]
  cf := some (fileOf pool11 10 #[] #[{ accessFlags := 0, nameIndex := 7, descriptorIndex := 8, attributes := #[] }, { accessFlags := 0, nameIndex := 7, descriptorIndex := 69, attributes := #[] }, { accessFlags := 1, nameIndex := 34, descriptorIndex := 35, attributes := #[] }, { accessFlags := 2, nameIndex := 102, descriptorIndex := 103, attributes := #[] }, { accessFlags := 2, nameIndex := 106, descriptorIndex := 107, attributes := #[] }, { accessFlags := 1, nameIndex := 45, descriptorIndex := 46, attributes := #[] }, { accessFlags := 1, nameIndex := 45, descriptorIndex := 292, attributes := #[] }, { accessFlags := 16, nameIndex := 552, descriptorIndex := 403, attributes := #[] }, { accessFlags := 16, nameIndex := 85, descriptorIndex := 86, attributes := #[] }, { accessFlags := 2, nameIndex := 217, descriptorIndex := 69, attributes := #[] }, { accessFlags := 2, nameIndex := 210, descriptorIndex := 211, attributes := #[] }] 1056 4 #[444, 48] #[{ accessFlags := 0, nameIndex := 17, descriptorIndex := 14, attributes := #[] }, { accessFlags := 0, nameIndex := 24, descriptorIndex := 25, attributes := #[] }, { accessFlags := 0, nameIndex := 75, descriptorIndex := 21, attributes := #[] }, { accessFlags := 0, nameIndex := 81, descriptorIndex := 82, attributes := #[] }, { accessFlags := 26, nameIndex := 13, descriptorIndex := 14, attributes := #[] }])
  fields := #[{ name := "value", type := (.array .byte), accessFlags := 0, slot := 0, constantValue := 0 }, { name := "coder", type := .byte, accessFlags := 0, slot := 1, constantValue := 0 }, { name := "maybeLatin1", type := .boolean, accessFlags := 0, slot := 2, constantValue := 0 }, { name := "count", type := .int, accessFlags := 0, slot := 3, constantValue := 0 }, { name := "EMPTYVALUE", type := (.array .byte), accessFlags := 26, slot := 0, constantValue := 0 }]
  methods := #[k11m0, k11m1, k11m2, k11m3, k11m4, k11m5, k11m6, k11m7, k11m8, k11m9, k11m10]
  instanceTypes := #[(.array .byte), .byte, .boolean, .int]
  staticTypes := #[(.array .byte)]
  resolved := Array.replicate 609 none
  statics := none }

def pool12 : Array CpInfo := pool [(2, .class_ 4), (1, u "java/lang/AbstractStringBuilder"), (0, u "<init>"), (1, .methodref 2 8), (0, .nameAndType 5 9), (0, u "(Ljava/lang/String;)V"), (8, .class_ 20), (1, u "java/lang/String"), (2, .methodref 24 25), (0, .class_ 26), (0, .nameAndType 27 28), (0, u "java/lang/StringBuilder"), (0, u "append"), (0, u "(Ljava/lang/String;)Ljava/lang/StringBuilder;"), (0, .methodref 2 30), (0, .nameAndType 27 31), (0, u "(Ljava/lang/String;)Ljava/lang/AbstractStringBuilder;"), (18, .methodref 2 51), (0, .nameAndType 27 52), (0, u "(C)Ljava/lang/AbstractStringBuilder;"), (84, .methodref 18 138), (0, .nameAndType 5 139), (0, u "(Ljava/lang/StringBuilder;)V"), (5, u "()V"), (10, u "()I"), (129, u "(C)Ljava/lang/StringBuilder;"), (56, .methodref 2 344), (0, .nameAndType 345 156), (0, u "length"), (3, .class_ 350), (0, u "java/lang/Appendable"), (0, .class_ 352), (0, u "java/io/Serializable"), (0, .class_ 354), (0, u "java/lang/Comparable"), (0, .class_ 356), (0, u "java/lang/CharSequence"), (0, u "serialVersionUID"), (0, u "J"), (40, u "toString"), (0, u "()Ljava/lang/String;")] 21

def k12m0 : Method := { name := "<init>", desc := "()V", sig := { parameters := [], returnType := none }, accessFlags := 1, code := none }
def k12c1 : Code := { maxStack := 2, maxLocals := 2, code := jdk_67_method_3_code, exceptionTable := #[], attributes := #[] }
def k12m1 : Method := { name := "<init>", desc := "(Ljava/lang/String;)V", sig := { parameters := [(.object "java/lang/String")], returnType := none }, accessFlags := 1, code := some k12c1 }
def k12c2 : Code := { maxStack := 2, maxLocals := 2, code := jdk_67_method_7_code, exceptionTable := #[], attributes := #[] }
def k12m2 : Method := { name := "append", desc := "(Ljava/lang/String;)Ljava/lang/StringBuilder;", sig := { parameters := [(.object "java/lang/String")], returnType := some (.object "java/lang/StringBuilder") }, accessFlags := 1, code := some k12c2 }
def k12c3 : Code := { maxStack := 2, maxLocals := 2, code := jdk_67_method_14_code, exceptionTable := #[], attributes := #[] }
def k12m3 : Method := { name := "append", desc := "(C)Ljava/lang/StringBuilder;", sig := { parameters := [.char], returnType := some (.object "java/lang/StringBuilder") }, accessFlags := 1, code := some k12c3 }
def k12c4 : Code := { maxStack := 3, maxLocals := 1, code := jdk_67_method_42_code, exceptionTable := #[], attributes := #[] }
def k12m4 : Method := { name := "toString", desc := "()Ljava/lang/String;", sig := { parameters := [], returnType := some (.object "java/lang/String") }, accessFlags := 1, code := some k12c4 }
def k12c5 : Code := { maxStack := 2, maxLocals := 2, code := jdk_67_method_80_code, exceptionTable := #[], attributes := #[] }
def k12m5 : Method := { name := "append", desc := "(Ljava/lang/String;)Ljava/lang/AbstractStringBuilder;", sig := { parameters := [(.object "java/lang/String")], returnType := some (.object "java/lang/AbstractStringBuilder") }, accessFlags := 4161, code := some k12c5 }
def k12c6 : Code := { maxStack := 1, maxLocals := 1, code := jdk_67_method_93_code, exceptionTable := #[], attributes := #[] }
def k12m6 : Method := { name := "length", desc := "()I", sig := { parameters := [], returnType := some .int }, accessFlags := 4161, code := some k12c6 }
/-- java/lang/StringBuilder -/
def k12 : Class := { plain "java/lang/StringBuilder" (some 11) with
  accessFlags := 49
  interfaces := #[10, 2, 3, 4]
  cf := some (fileOf pool12 24 #[] #[{ accessFlags := 1, nameIndex := 5, descriptorIndex := 145, attributes := #[] }, { accessFlags := 1, nameIndex := 5, descriptorIndex := 9, attributes := #[] }, { accessFlags := 1, nameIndex := 27, descriptorIndex := 28, attributes := #[] }, { accessFlags := 1, nameIndex := 27, descriptorIndex := 286, attributes := #[] }, { accessFlags := 1, nameIndex := 399, descriptorIndex := 400, attributes := #[] }, { accessFlags := 4161, nameIndex := 27, descriptorIndex := 31, attributes := #[] }, { accessFlags := 4161, nameIndex := 345, descriptorIndex := 156, attributes := #[] }] 49 2 #[349, 351, 353, 355] #[{ accessFlags := 24, nameIndex := 357, descriptorIndex := 358, attributes := #[] }])
  fields := #[{ name := "serialVersionUID", type := .long, accessFlags := 24, slot := 0, constantValue := 0 }]
  methods := #[k12m0, k12m1, k12m2, k12m3, k12m4, k12m5, k12m6]
  instanceTypes := #[(.array .byte), .byte, .boolean, .int]
  staticTypes := #[.long]
  resolved := Array.replicate 422 none
  statics := none }

def pool13 : Array CpInfo := pool [(2, .class_ 4), (1, u "java/lang/Object"), (0, u "<init>"), (0, u "()V"), (1, .class_ 10), (1, u "java/lang/System"), (0, u "allowSecurityManager"), (0, u "I"), (16, u "cons"), (0, u "Ljava/io/Console;"), (77, .class_ 110), (1, u "java/lang/System$CallersHolder"), (43, u "initialErrStream"), (0, u "Ljava/io/PrintStream;"), (19, u "security"), (0, u "Ljava/lang/SecurityManager;"), (31, .class_ 209), (0, u "java/lang/System$1"), (7, u "props"), (0, u "Ljava/util/Properties;"), (2, u "lineSeparator"), (0, u "Ljava/lang/String;"), (96, .class_ 321), (1, u "java/lang/System$LoggerFinder"), (5, .class_ 328), (0, u "java/lang/System$Logger"), (67, u "err"), (2, u "out"), (91, u "notSupportedJnuEncoding"), (15, u "in"), (17, u "initialIn"), (0, u "Ljava/io/InputStream;"), (35, u "bootLayer"), (0, u "Ljava/lang/ModuleLayer;"), (99, .class_ 664), (0, u "java/lang/System$2"), (9, u "NEVER"), (2, u "MAYBE"), (49, u "arraycopy"), (0, u "(Ljava/lang/Object;ILjava/lang/Object;II)V"), (72, .class_ 802), (0, u "java/lang/System$Logger$Level")] 31

def k13m0 : Method := { name := "<init>", desc := "()V", sig := { parameters := [], returnType := none }, accessFlags := 2, code := none }
def k13m1 : Method := { name := "arraycopy", desc := "(Ljava/lang/Object;ILjava/lang/Object;II)V", sig := { parameters := [(.object "java/lang/Object"), .int, (.object "java/lang/Object"), .int, .int], returnType := none }, accessFlags := 265, code := none }
/-- java/lang/System -/
def k13 : Class := { plain "java/lang/System" (some 0) with
  accessFlags := 49
  interfaces := #[]
  cf := some (fileOf pool13 8 #[.nestMembers #[319, 327, 801, 108, 663, 208]] #[{ accessFlags := 2, nameIndex := 5, descriptorIndex := 6, attributes := #[] }, { accessFlags := 265, nameIndex := 727, descriptorIndex := 728, attributes := #[] }] 49 2 #[] #[{ accessFlags := 25, nameIndex := 507, descriptorIndex := 526, attributes := #[] }, { accessFlags := 25, nameIndex := 399, descriptorIndex := 155, attributes := #[] }, { accessFlags := 25, nameIndex := 396, descriptorIndex := 155, attributes := #[] }, { accessFlags := 10, nameIndex := 525, descriptorIndex := 526, attributes := #[] }, { accessFlags := 26, nameIndex := 674, descriptorIndex := 12, attributes := #[] }, { accessFlags := 26, nameIndex := 677, descriptorIndex := 12, attributes := #[] }, { accessFlags := 10, nameIndex := 11, descriptorIndex := 12, attributes := #[] }, { accessFlags := 74, nameIndex := 175, descriptorIndex := 176, attributes := #[] }, { accessFlags := 10, nameIndex := 491, descriptorIndex := 222, attributes := #[] }, { accessFlags := 74, nameIndex := 29, descriptorIndex := 30, attributes := #[] }, { accessFlags := 74, nameIndex := 154, descriptorIndex := 155, attributes := #[] }, { accessFlags := 10, nameIndex := 217, descriptorIndex := 218, attributes := #[] }, { accessFlags := 10, nameIndex := 221, descriptorIndex := 222, attributes := #[] }, { accessFlags := 8, nameIndex := 562, descriptorIndex := 563, attributes := #[] }])
  fields := #[{ name := "in", type := (.object "java/io/InputStream"), accessFlags := 25, slot := 0, constantValue := 0 }, { name := "out", type := (.object "java/io/PrintStream"), accessFlags := 25, slot := 1, constantValue := 0 }, { name := "err", type := (.object "java/io/PrintStream"), accessFlags := 25, slot := 2, constantValue := 0 }, { name := "initialIn", type := (.object "java/io/InputStream"), accessFlags := 10, slot := 3, constantValue := 0 }, { name := "NEVER", type := .int, accessFlags := 26, slot := 4, constantValue := 0 }, { name := "MAYBE", type := .int, accessFlags := 26, slot := 5, constantValue := 0 }, { name := "allowSecurityManager", type := .int, accessFlags := 10, slot := 6, constantValue := 0 }, { name := "security", type := (.object "java/lang/SecurityManager"), accessFlags := 74, slot := 7, constantValue := 0 }, { name := "notSupportedJnuEncoding", type := (.object "java/lang/String"), accessFlags := 10, slot := 8, constantValue := 0 }, { name := "cons", type := (.object "java/io/Console"), accessFlags := 74, slot := 9, constantValue := 0 }, { name := "initialErrStream", type := (.object "java/io/PrintStream"), accessFlags := 74, slot := 10, constantValue := 0 }, { name := "props", type := (.object "java/util/Properties"), accessFlags := 10, slot := 11, constantValue := 0 }, { name := "lineSeparator", type := (.object "java/lang/String"), accessFlags := 10, slot := 12, constantValue := 0 }, { name := "bootLayer", type := (.object "java/lang/ModuleLayer"), accessFlags := 8, slot := 13, constantValue := 0 }]
  methods := #[k13m0, k13m1]
  instanceTypes := #[]
  staticTypes := #[(.object "java/io/InputStream"), (.object "java/io/PrintStream"), (.object "java/io/PrintStream"), (.object "java/io/InputStream"), .int, .int, .int, (.object "java/lang/SecurityManager"), (.object "java/lang/String"), (.object "java/io/Console"), (.object "java/io/PrintStream"), (.object "java/util/Properties"), (.object "java/lang/String"), (.object "java/lang/ModuleLayer")]
  resolved := Array.replicate 834 none
  statics := none }

def pool14 : Array CpInfo := pool [(8, .class_ 10), (1, u "java/lang/Iterable"), (24, .class_ 36), (0, u "java/lang/Object")] 25

/-- java/lang/Iterable -/
def k14 : Class := { plain "java/lang/Iterable" (some 0) with
  accessFlags := 1537
  interfaces := #[]
  cf := some (fileOf pool14 8 #[] #[] 1537 35 #[] #[])
  fields := #[]
  methods := #[]
  instanceTypes := #[]
  staticTypes := #[]
  resolved := Array.replicate 62 none
  statics := none }

def pool15 : Array CpInfo := pool [(10, .class_ 12), (1, u "java/util/Collection"), (17, u "()Z"), (29, .class_ 61), (0, u "java/lang/Object"), (0, .class_ 63), (0, u "java/lang/Iterable"), (2, u "isEmpty")] 48

def k15m0 : Method := { name := "isEmpty", desc := "()Z", sig := { parameters := [], returnType := some .boolean }, accessFlags := 1025, code := none }
/-- java/util/Collection -/
def k15 : Class := { plain "java/util/Collection" (some 0) with
  accessFlags := 1537
  interfaces := #[14]
  cf := some (fileOf pool15 10 #[] #[{ accessFlags := 1025, nameIndex := 66, descriptorIndex := 30, attributes := #[] }] 1537 60 #[62] #[])
  fields := #[]
  methods := #[k15m0]
  instanceTypes := #[]
  staticTypes := #[]
  resolved := Array.replicate 115 none
  statics := none }

def pool16 : Array CpInfo := pool [(1, .methodref 2 3), (0, .class_ 4), (0, .nameAndType 5 6), (0, u "java/lang/Object"), (0, u "<init>"), (0, u "()V"), (1, .class_ 10), (1, u "java/util/AbstractCollection"), (66, .class_ 78), (0, u "java/util/Collection")] 81

def k16c0 : Code := { maxStack := 1, maxLocals := 1, code := jdk_22_method_1_code, exceptionTable := #[], attributes := #[] }
def k16m0 : Method := { name := "<init>", desc := "()V", sig := { parameters := [], returnType := none }, accessFlags := 4, code := some k16c0 }
/-- java/util/AbstractCollection -/
def k16 : Class := { plain "java/util/AbstractCollection" (some 0) with
  accessFlags := 1057
  interfaces := #[15]
  cf := some (fileOf pool16 8 #[] #[{ accessFlags := 4, nameIndex := 5, descriptorIndex := 6, attributes := #[] }] 1057 2 #[77] #[])
  fields := #[]
  methods := #[k16m0]
  instanceTypes := #[]
  staticTypes := #[]
  resolved := Array.replicate 160 none
  statics := none }

def pool17 : Array CpInfo := pool [(1, .class_ 2), (0, u "java/util/Queue"), (0, .class_ 4), (0, u "java/lang/Object"), (0, .class_ 6), (0, u "java/util/Collection")] 14

/-- java/util/Queue -/
def k17 : Class := { plain "java/util/Queue" (some 0) with
  accessFlags := 1537
  interfaces := #[15]
  cf := some (fileOf pool17 1 #[] #[] 1537 3 #[5] #[])
  fields := #[]
  methods := #[]
  instanceTypes := #[]
  staticTypes := #[]
  resolved := Array.replicate 21 none
  statics := none }

def pool18 : Array CpInfo := pool [(8, .class_ 10), (1, u "java/util/SequencedCollection"), (15, .class_ 27), (0, u "java/lang/Object"), (0, .class_ 29), (0, u "java/util/Collection")] 27

/-- java/util/SequencedCollection -/
def k18 : Class := { plain "java/util/SequencedCollection" (some 0) with
  accessFlags := 1537
  interfaces := #[15]
  cf := some (fileOf pool18 8 #[] #[] 1537 26 #[28] #[])
  fields := #[]
  methods := #[]
  instanceTypes := #[]
  staticTypes := #[]
  resolved := Array.replicate 57 none
  statics := none }

def pool19 : Array CpInfo := pool [(8, .class_ 10), (1, u "java/util/Deque"), (2, .class_ 14), (0, u "java/lang/Object"), (0, .class_ 16), (0, u "java/util/Queue"), (0, .class_ 18), (0, u "java/util/SequencedCollection"), (1, u "(Ljava/lang/Object;)V"), (8, u "()Ljava/lang/Object;"), (19, u "push"), (0, u "pop")] 19

def k19m0 : Method := { name := "push", desc := "(Ljava/lang/Object;)V", sig := { parameters := [(.object "java/lang/Object")], returnType := none }, accessFlags := 1025, code := none }
def k19m1 : Method := { name := "pop", desc := "()Ljava/lang/Object;", sig := { parameters := [], returnType := some (.object "java/lang/Object") }, accessFlags := 1025, code := none }
/-- java/util/Deque -/
def k19 : Class := { plain "java/util/Deque" (some 0) with
  accessFlags := 1537
  interfaces := #[17, 18]
  cf := some (fileOf pool19 8 #[] #[{ accessFlags := 1025, nameIndex := 49, descriptorIndex := 20, attributes := #[] }, { accessFlags := 1025, nameIndex := 50, descriptorIndex := 29, attributes := #[] }] 1537 13 #[15, 17] #[])
  fields := #[]
  methods := #[k19m0, k19m1]
  instanceTypes := #[]
  staticTypes := #[]
  resolved := Array.replicate 70 none
  statics := none }

def pool20 : Array CpInfo := pool [(1, .class_ 2), (0, u "java/lang/Cloneable"), (0, .class_ 4), (0, u "java/lang/Object")] 2

/-- java/lang/Cloneable -/
def k20 : Class := { plain "java/lang/Cloneable" (some 0) with
  accessFlags := 1537
  interfaces := #[]
  cf := some (fileOf pool20 1 #[] #[] 1537 3 #[] #[])
  fields := #[]
  methods := #[]
  instanceTypes := #[]
  staticTypes := #[]
  resolved := Array.replicate 7 none
  statics := none }

def pool21 : Array CpInfo := pool [(3, .fieldref 4 5), (0, .class_ 6), (0, .nameAndType 7 8), (0, u "java/util/ArrayDeque"), (0, u "elements"), (0, u "[Ljava/lang/Object;"), (4, u "(II)I"), (6, .fieldref 4 21), (0, .nameAndType 22 23), (0, u "tail"), (0, u "I"), (0, .fieldref 4 25), (0, .nameAndType 26 23), (0, u "head"), (12, u "<init>"), (2, .methodref 43 44), (0, .class_ 45), (0, .nameAndType 39 46), (0, u "java/util/AbstractCollection"), (0, u "()V"), (0, .class_ 48), (0, u "java/lang/Object"), (19, .methodref 4 69), (0, .nameAndType 70 13), (0, u "dec"), (3, .methodref 4 75), (0, .nameAndType 76 13), (0, u "inc"), (9, .methodref 4 87), (0, .nameAndType 88 89), (0, u "addFirst"), (0, u "(Ljava/lang/Object;)V"), (3, .methodref 4 94), (0, .nameAndType 95 96), (0, u "pollFirst"), (0, u "()Ljava/lang/Object;"), (6, .methodref 4 104), (0, .nameAndType 105 106), (0, u "elementAt"), (0, u "([Ljava/lang/Object;I)Ljava/lang/Object;"), (11, .methodref 4 119), (0, .nameAndType 120 96), (0, u "removeFirst"), (10, .class_ 132), (0, u "java/util/ArrayDeque$DeqIterator"), (3, .class_ 137), (0, u "java/util/ArrayDeque$DescendingIterator"), (1, .class_ 140), (0, u "java/util/ArrayDeque$DeqSpliterator"), (137, .class_ 279), (0, u "java/util/Deque"), (0, .class_ 281), (0, u "java/lang/Cloneable"), (0, .class_ 283), (0, u "java/io/Serializable"), (0, u "MAX_ARRAY_SIZE"), (1, u "serialVersionUID"), (0, u "J"), (54, u "push"), (0, u "pop"), (3, u "isEmpty"), (0, u "()Z")] 89

def k21c0 : Code := { maxStack := 2, maxLocals := 1, code := jdk_21_method_3_code, exceptionTable := #[], attributes := #[] }
def k21m0 : Method := { name := "<init>", desc := "()V", sig := { parameters := [], returnType := none }, accessFlags := 1, code := some k21c0 }
def k21c1 : Code := { maxStack := 2, maxLocals := 2, code := jdk_21_method_6_code, exceptionTable := #[], attributes := #[] }
def k21m1 : Method := { name := "inc", desc := "(II)I", sig := { parameters := [.int, .int], returnType := some .int }, accessFlags := 24, code := some k21c1 }
def k21c2 : Code := { maxStack := 2, maxLocals := 2, code := jdk_21_method_7_code, exceptionTable := #[], attributes := #[] }
def k21m2 : Method := { name := "dec", desc := "(II)I", sig := { parameters := [.int, .int], returnType := some .int }, accessFlags := 24, code := some k21c2 }
def k21c3 : Code := { maxStack := 2, maxLocals := 2, code := jdk_21_method_10_code, exceptionTable := #[], attributes := #[] }
def k21m3 : Method := { name := "elementAt", desc := "([Ljava/lang/Object;I)Ljava/lang/Object;", sig := { parameters := [(.array (.object "java/lang/Object")), .int], returnType := some (.object "java/lang/Object") }, accessFlags := 24, code := some k21c3 }
def k21c4 : Code := { maxStack := 4, maxLocals := 3, code := jdk_21_method_12_code, exceptionTable := #[], attributes := #[] }
def k21m4 : Method := { name := "addFirst", desc := "(Ljava/lang/Object;)V", sig := { parameters := [(.object "java/lang/Object")], returnType := none }, accessFlags := 1, code := some k21c4 }
def k21c5 : Code := { maxStack := 2, maxLocals := 2, code := jdk_21_method_18_code, exceptionTable := #[], attributes := #[] }
def k21m5 : Method := { name := "removeFirst", desc := "()Ljava/lang/Object;", sig := { parameters := [], returnType := some (.object "java/lang/Object") }, accessFlags := 1, code := some k21c5 }
def k21c6 : Code := { maxStack := 3, maxLocals := 4, code := jdk_21_method_20_code, exceptionTable := #[], attributes := #[] }
def k21m6 : Method := { name := "pollFirst", desc := "()Ljava/lang/Object;", sig := { parameters := [], returnType := some (.object "java/lang/Object") }, accessFlags := 1, code := some k21c6 }
def k21c7 : Code := { maxStack := 2, maxLocals := 2, code := jdk_21_method_34_code, exceptionTable := #[], attributes := #[] }
def k21m7 : Method := { name := "push", desc := "(Ljava/lang/Object;)V", sig := { parameters := [(.object "java/lang/Object")], returnType := none }, accessFlags := 1, code := some k21c7 }
def k21c8 : Code := { maxStack := 1, maxLocals := 1, code := jdk_21_method_35_code, exceptionTable := #[], attributes := #[] }
def k21m8 : Method := { name := "pop", desc := "()Ljava/lang/Object;", sig := { parameters := [], returnType := some (.object "java/lang/Object") }, accessFlags := 1, code := some k21c8 }
def k21c9 : Code := { maxStack := 2, maxLocals := 1, code := jdk_21_method_38_code, exceptionTable := #[], attributes := #[] }
def k21m9 : Method := { name := "isEmpty", desc := "()Z", sig := { parameters := [], returnType := some .boolean }, accessFlags := 1, code := some k21c9 }
/-- java/util/ArrayDeque -/
def k21 : Class := { plain "java/util/ArrayDeque" (some 16) with
  accessFlags := 33
  interfaces := #[19, 20, 2]
  cf := some (fileOf pool21 4 #[.nestMembers #[139, 136, 131]] #[{ accessFlags := 1, nameIndex := 39, descriptorIndex := 46, attributes := #[] }, { accessFlags := 24, nameIndex := 76, descriptorIndex := 13, attributes := #[] }, { accessFlags := 24, nameIndex := 70, descriptorIndex := 13, attributes := #[] }, { accessFlags := 24, nameIndex := 105, descriptorIndex := 106, attributes := #[] }, { accessFlags := 1, nameIndex := 88, descriptorIndex := 89, attributes := #[] }, { accessFlags := 1, nameIndex := 120, descriptorIndex := 96, attributes := #[] }, { accessFlags := 1, nameIndex := 95, descriptorIndex := 96, attributes := #[] }, { accessFlags := 1, nameIndex := 342, descriptorIndex := 89, attributes := #[] }, { accessFlags := 1, nameIndex := 343, descriptorIndex := 96, attributes := #[] }, { accessFlags := 1, nameIndex := 347, descriptorIndex := 348, attributes := #[] }] 33 43 #[278, 280, 282] #[{ accessFlags := 128, nameIndex := 7, descriptorIndex := 8, attributes := #[] }, { accessFlags := 128, nameIndex := 26, descriptorIndex := 23, attributes := #[] }, { accessFlags := 128, nameIndex := 22, descriptorIndex := 23, attributes := #[] }, { accessFlags := 26, nameIndex := 284, descriptorIndex := 23, attributes := #[] }, { accessFlags := 26, nameIndex := 286, descriptorIndex := 287, attributes := #[] }])
  fields := #[{ name := "elements", type := (.array (.object "java/lang/Object")), accessFlags := 128, slot := 0, constantValue := 0 }, { name := "head", type := .int, accessFlags := 128, slot := 1, constantValue := 0 }, { name := "tail", type := .int, accessFlags := 128, slot := 2, constantValue := 0 }, { name := "MAX_ARRAY_SIZE", type := .int, accessFlags := 26, slot := 0, constantValue := 0 }, { name := "serialVersionUID", type := .long, accessFlags := 26, slot := 1, constantValue := 0 }]
  methods := #[k21m0, k21m1, k21m2, k21m3, k21m4, k21m5, k21m6, k21m7, k21m8, k21m9]
  instanceTypes := #[(.array (.object "java/lang/Object")), .int, .int]
  staticTypes := #[.int, .long]
  resolved := Array.replicate 438 none
  statics := none }

def pool22 : Array CpInfo := pool [(1, .class_ 2), (0, u "java/lang/String"), (1, .class_ 6), (1, u "java/lang/Object"), (0, u "<init>"), (0, u "()V"), (0, .methodref 1 10), (0, .nameAndType 11 12), (0, u "checkIndex"), (0, u "(II)V"), (1, .class_ 16), (1, u "java/lang/StringLatin1"), (36, u "([BI)C"), (36, u "canEncode"), (14, u "(C)Z"), (15, u "$assertionsDisabled"), (0, u "Z"), (98, .class_ 223), (1, u "java/lang/StringLatin1$LinesSpliterator"), (28, u "charAt"), (137, .class_ 391), (0, u "java/lang/StringLatin1$CharsSpliterator")] 3

def k22m0 : Method := { name := "<init>", desc := "()V", sig := { parameters := [], returnType := none }, accessFlags := 0, code := none }
def k22c1 : Code := { maxStack := 2, maxLocals := 2, code := jdk_43_method_2_code, exceptionTable := #[], attributes := #[] }
def k22m1 : Method := { name := "charAt", desc := "([BI)C", sig := { parameters := [(.array .byte), .int], returnType := some .char }, accessFlags := 9, code := some k22c1 }
def k22c2 : Code := { maxStack := 2, maxLocals := 1, code := jdk_43_method_3_code, exceptionTable := #[], attributes := #[] }
def k22m2 : Method := { name := "canEncode", desc := "(C)Z", sig := { parameters := [.char], returnType := some .boolean }, accessFlags := 9, code := some k22c2 }
/-- java/lang/StringLatin1 -/
def k22 : Class := { plain "java/lang/StringLatin1" (some 0) with
  accessFlags := 48
  interfaces := #[]
  cf := some (fileOf pool22 14 #[.nestMembers #[390, 221]] #[{ accessFlags := 0, nameIndex := 7, descriptorIndex := 8, attributes := #[] }, { accessFlags := 9, nameIndex := 252, descriptorIndex := 53, attributes := #[] }, { accessFlags := 9, nameIndex := 90, descriptorIndex := 105, attributes := #[] }] 48 4 #[] #[{ accessFlags := 4120, nameIndex := 121, descriptorIndex := 122, attributes := #[] }])
  fields := #[{ name := "$assertionsDisabled", type := .boolean, accessFlags := 4120, slot := 0, constantValue := 0 }]
  methods := #[k22m0, k22m1, k22m2]
  instanceTypes := #[]
  staticTypes := #[.boolean]
  resolved := Array.replicate 395 none
  statics := none }

def pool23 : Array CpInfo := pool [(2, .class_ 4), (1, u "java/lang/Object"), (0, u "<init>"), (0, u "()V"), (7, .class_ 16), (1, u "java/util/Arrays"), (57, .class_ 76), (1, u "java/util/Arrays$NaturalOrder"), (36, .class_ 115), (1, u "java/util/Arrays$LegacyMergeSort"), (1, u "Z"), (21, u "copyOfRange"), (10, .methodref 151 152), (0, .class_ 153), (0, .nameAndType 154 155), (0, u "java/lang/System"), (0, u "arraycopy"), (0, u "(Ljava/lang/Object;ILjava/lang/Object;II)V"), (146, u "copyOf"), (1, .methodref 305 306), (0, .class_ 307), (0, .nameAndType 308 309), (0, u "java/lang/Math"), (0, u "min"), (0, u "(II)I"), (29, .methodref 14 340), (0, .nameAndType 341 342), (0, u "copyOfRangeByte"), (0, u "([BII)[B"), (0, .methodref 14 344), (0, .nameAndType 345 346), (0, u "checkLength"), (0, u "(II)V"), (28, .class_ 376), (0, u "java/util/Arrays$ArrayList"), (68, u "$assertionsDisabled"), (269, u "MIN_ARRAY_SORT_GRAN"), (0, u "I"), (2, u "INSERTIONSORT_THRESHOLD"), (149, u "([BI)[B"), (105, .class_ 976), (0, u "java/util/Arrays$ArrayItr")] 52

def k23m0 : Method := { name := "<init>", desc := "()V", sig := { parameters := [], returnType := none }, accessFlags := 2, code := none }
def k23c1 : Code := { maxStack := 6, maxLocals := 3, code := jdk_65_method_121_code, exceptionTable := #[], attributes := #[] }
def k23m1 : Method := { name := "copyOf", desc := "([BI)[B", sig := { parameters := [(.array .byte), .int], returnType := some (.array .byte) }, accessFlags := 9, code := some k23c1 }
def k23c2 : Code := { maxStack := 4, maxLocals := 2, code := jdk_65_method_131_code, exceptionTable := #[], attributes := #[] }
def k23m2 : Method := { name := "checkLength", desc := "(II)V", sig := { parameters := [.int, .int], returnType := none }, accessFlags := 10, code := some k23c2 }
def k23c3 : Code := { maxStack := 3, maxLocals := 3, code := jdk_65_method_132_code, exceptionTable := #[], attributes := #[] }
def k23m3 : Method := { name := "copyOfRange", desc := "([BII)[B", sig := { parameters := [(.array .byte), .int, .int], returnType := some (.array .byte) }, accessFlags := 9, code := some k23c3 }
def k23c4 : Code := { maxStack := 6, maxLocals := 5, code := jdk_65_method_133_code, exceptionTable := #[], attributes := #[] }
def k23m4 : Method := { name := "copyOfRangeByte", desc := "([BII)[B", sig := { parameters := [(.array .byte), .int, .int], returnType := some (.array .byte) }, accessFlags := 10, code := some k23c4 }
/-- java/util/Arrays -/
def k23 : Class := { plain "java/util/Arrays" (some 0) with
  accessFlags := 49
  interfaces := #[]
  cf := some (fileOf pool23 14 #[.nestMembers #[975, 375, 113, 74]] #[{ accessFlags := 2, nameIndex := 5, descriptorIndex := 6, attributes := #[] }, { accessFlags := 9, nameIndex := 302, descriptorIndex := 869, attributes := #[] }, { accessFlags := 10, nameIndex := 345, descriptorIndex := 346, attributes := #[] }, { accessFlags := 9, nameIndex := 139, descriptorIndex := 342, attributes := #[] }, { accessFlags := 10, nameIndex := 341, descriptorIndex := 342, attributes := #[] }] 49 2 #[] #[{ accessFlags := 26, nameIndex := 715, descriptorIndex := 716, attributes := #[] }, { accessFlags := 26, nameIndex := 719, descriptorIndex := 716, attributes := #[] }, { accessFlags := 4120, nameIndex := 445, descriptorIndex := 117, attributes := #[] }])
  fields := #[{ name := "MIN_ARRAY_SORT_GRAN", type := .int, accessFlags := 26, slot := 0, constantValue := 0 }, { name := "INSERTIONSORT_THRESHOLD", type := .int, accessFlags := 26, slot := 1, constantValue := 0 }, { name := "$assertionsDisabled", type := .boolean, accessFlags := 4120, slot := 2, constantValue := 0 }]
  methods := #[k23m0, k23m1, k23m2, k23m3, k23m4]
  instanceTypes := #[]
  staticTypes := #[.int, .int, .boolean]
  resolved := Array.replicate 1029 none
  statics := none }

def pool24 : Array CpInfo := pool [(1, .class_ 2), (0, u "java/lang/Math"), (1, .class_ 6), (1, u "java/lang/Object"), (0, u "<init>"), (0, u "()V"), (89, .class_ 100), (1, u "java/lang/Math$RandomNumberGeneratorHolder"), (71, u "negativeZeroFloatBits"), (0, u "J"), (2, u "negativeZeroDoubleBits"), (21, u "max"), (2, u "min"), (43, u "$assertionsDisabled"), (0, u "Z"), (88, u "(II)I"), (2, u "twoToTheDoubleScaleDown"), (0, u "D"), (4, u "twoToTheDoubleScaleUp"), (9, u "E"), (3, u "PI"), (2, u "TAU"), (2, u "DEGREES_TO_RADIANS"), (0, u "RADIANS_TO_DEGREES")] 94

def k24m0 : Method := { name := "<init>", desc := "()V", sig := { parameters := [], returnType := none }, accessFlags := 2, code := none }
def k24c1 : Code := { maxStack := 2, maxLocals := 2, code := jdk_29_method_65_code, exceptionTable := #[], attributes := #[] }
def k24m1 : Method := { name := "max", desc := "(II)I", sig := { parameters := [.int, .int], returnType := some .int }, accessFlags := 9, code := some k24c1 }
def k24c2 : Code := { maxStack := 2, maxLocals := 2, code := jdk_29_method_69_code, exceptionTable := #[], attributes := #[] }
def k24m2 : Method := { name := "min", desc := "(II)I", sig := { parameters := [.int, .int], returnType := some .int }, accessFlags := 9, code := some k24c2 }
/-- java/lang/Math -/
def k24 : Class := { plain "java/lang/Math" (some 0) with
  accessFlags := 49
  interfaces := #[]
  cf := some (fileOf pool24 1 #[.nestMembers #[98]] #[{ accessFlags := 2, nameIndex := 7, descriptorIndex := 8, attributes := #[] }, { accessFlags := 9, nameIndex := 198, descriptorIndex := 335, attributes := #[] }, { accessFlags := 9, nameIndex := 201, descriptorIndex := 335, attributes := #[] }] 49 4 #[] #[{ accessFlags := 25, nameIndex := 354, descriptorIndex := 339, attributes := #[] }, { accessFlags := 25, nameIndex := 358, descriptorIndex := 339, attributes := #[] }, { accessFlags := 25, nameIndex := 361, descriptorIndex := 339, attributes := #[] }, { accessFlags := 26, nameIndex := 364, descriptorIndex := 339, attributes := #[] }, { accessFlags := 26, nameIndex := 365, descriptorIndex := 339, attributes := #[] }, { accessFlags := 26, nameIndex := 172, descriptorIndex := 173, attributes := #[] }, { accessFlags := 26, nameIndex := 176, descriptorIndex := 173, attributes := #[] }, { accessFlags := 8, nameIndex := 344, descriptorIndex := 339, attributes := #[] }, { accessFlags := 8, nameIndex := 338, descriptorIndex := 339, attributes := #[] }, { accessFlags := 4120, nameIndex := 245, descriptorIndex := 246, attributes := #[] }])
  fields := #[{ name := "E", type := .double, accessFlags := 25, slot := 0, constantValue := 0 }, { name := "PI", type := .double, accessFlags := 25, slot := 1, constantValue := 0 }, { name := "TAU", type := .double, accessFlags := 25, slot := 2, constantValue := 0 }, { name := "DEGREES_TO_RADIANS", type := .double, accessFlags := 26, slot := 3, constantValue := 0 }, { name := "RADIANS_TO_DEGREES", type := .double, accessFlags := 26, slot := 4, constantValue := 0 }, { name := "negativeZeroFloatBits", type := .long, accessFlags := 26, slot := 5, constantValue := 0 }, { name := "negativeZeroDoubleBits", type := .long, accessFlags := 26, slot := 6, constantValue := 0 }, { name := "twoToTheDoubleScaleUp", type := .double, accessFlags := 8, slot := 7, constantValue := 0 }, { name := "twoToTheDoubleScaleDown", type := .double, accessFlags := 8, slot := 8, constantValue := 0 }, { name := "$assertionsDisabled", type := .boolean, accessFlags := 4120, slot := 9, constantValue := 0 }]
  methods := #[k24m0, k24m1, k24m2]
  instanceTypes := #[]
  staticTypes := #[.double, .double, .double, .double, .double, .long, .long, .double, .double, .boolean]
  resolved := Array.replicate 460 none
  statics := none }

def pool25 : Array CpInfo := pool [(2, .class_ 4), (1, u "java/lang/Object"), (0, u "<init>"), (0, u "()V"), (17, .class_ 26), (1, u "jdk/internal/util/Preconditions"), (6, u "checkIndex"), (21, .class_ 56), (0, u "jdk/internal/util/Preconditions$4"), (57, .class_ 115), (0, u "jdk/internal/util/Preconditions$1"), (7, u "SIOOBE_FORMATTER"), (0, u "Ljava/util/function/BiFunction;"), (0, .class_ 126), (0, u "jdk/internal/util/Preconditions$2"), (3, u "AIOOBE_FORMATTER"), (0, .class_ 132), (0, u "jdk/internal/util/Preconditions$3"), (3, u "IOOBE_FORMATTER"), (41, u "(IILjava/util/function/BiFunction;)I")] 15

def k25m0 : Method := { name := "<init>", desc := "()V", sig := { parameters := [], returnType := none }, accessFlags := 1, code := none }
def k25c1 : Code := { maxStack := 3, maxLocals := 3, code := jdk_41_method_11_code, exceptionTable := #[], attributes := #[] }
def k25m1 : Method := { name := "checkIndex", desc := "(IILjava/util/function/BiFunction;)I", sig := { parameters := [.int, .int, (.object "java/util/function/BiFunction")], returnType := some .int }, accessFlags := 9, code := some k25c1 }
/-- jdk/internal/util/Preconditions -/
def k25 : Class := { plain "jdk/internal/util/Preconditions" (some 0) with
  accessFlags := 33
  interfaces := #[]
  cf := some (fileOf pool25 24 #[.nestMembers #[55, 131, 125, 114]] #[{ accessFlags := 1, nameIndex := 5, descriptorIndex := 6, attributes := #[] }, { accessFlags := 9, nameIndex := 33, descriptorIndex := 178, attributes := #[] }] 33 2 #[] #[{ accessFlags := 25, nameIndex := 123, descriptorIndex := 124, attributes := #[] }, { accessFlags := 25, nameIndex := 130, descriptorIndex := 124, attributes := #[] }, { accessFlags := 25, nameIndex := 136, descriptorIndex := 124, attributes := #[] }])
  fields := #[{ name := "SIOOBE_FORMATTER", type := (.object "java/util/function/BiFunction"), accessFlags := 25, slot := 0, constantValue := 0 }, { name := "AIOOBE_FORMATTER", type := (.object "java/util/function/BiFunction"), accessFlags := 25, slot := 1, constantValue := 0 }, { name := "IOOBE_FORMATTER", type := (.object "java/util/function/BiFunction"), accessFlags := 25, slot := 2, constantValue := 0 }]
  methods := #[k25m0, k25m1]
  instanceTypes := #[]
  staticTypes := #[(.object "java/util/function/BiFunction"), (.object "java/util/function/BiFunction"), (.object "java/util/function/BiFunction")]
  resolved := Array.replicate 194 none
  statics := some 1 }

def pool26 : Array CpInfo := pool [(9, u "<init>"), (6, .class_ 18), (1, u "java/lang/Object"), (0, u "()V"), (1, .class_ 23), (1, u "jdk/internal/util/ArraysSupport"), (0, u "LOG2_ARRAY_LONG_INDEX_SCALE"), (0, u "I"), (2, u "U"), (0, u "Ljdk/internal/misc/Unsafe;"), (8, u "BIG_ENDIAN"), (0, u "Z"), (8, u "LOG2_BYTE_BIT_SIZE"), (4, u "LOG2_ARRAY_INT_INDEX_SCALE"), (54, u "JLA"), (0, u "Ljdk/internal/access/JavaLangAccess;"), (11, u "LOG2_ARRAY_BOOLEAN_INDEX_SCALE"), (9, u "LOG2_ARRAY_BYTE_INDEX_SCALE"), (5, u "LOG2_ARRAY_CHAR_INDEX_SCALE"), (5, u "LOG2_ARRAY_SHORT_INDEX_SCALE"), (18, u "LOG2_ARRAY_FLOAT_INDEX_SCALE"), (24, u "LOG2_ARRAY_DOUBLE_INDEX_SCALE"), (6, .methodref 195 196), (0, .class_ 197), (0, .nameAndType 198 199), (0, u "java/lang/Math"), (0, u "max"), (0, u "(II)I"), (0, .integer 2147483639), (76, u "T_BOOLEAN"), (2, u "T_CHAR"), (1, u "T_FLOAT"), (1, u "T_DOUBLE"), (1, u "T_BYTE"), (1, u "T_SHORT"), (1, u "T_INT"), (1, u "T_LONG"), (1, u "SOFT_MAX_ARRAY_LENGTH"), (56, u "newLength"), (0, u "(III)I")] 25

def k26m0 : Method := { name := "<init>", desc := "()V", sig := { parameters := [], returnType := none }, accessFlags := 2, code := none }
def k26c1 : Code := { maxStack := 3, maxLocals := 4, code := jdk_48_method_27_code, exceptionTable := #[], attributes := #[] }
def k26m1 : Method := { name := "newLength", desc := "(III)I", sig := { parameters := [.int, .int, .int], returnType := some .int }, accessFlags := 9, code := some k26c1 }
/-- jdk/internal/util/ArraysSupport -/
def k26 : Class := { plain "jdk/internal/util/ArraysSupport" (some 0) with
  accessFlags := 33
  interfaces := #[]
  cf := some (fileOf pool26 21 #[] #[{ accessFlags := 2, nameIndex := 9, descriptorIndex := 19, attributes := #[] }, { accessFlags := 9, nameIndex := 351, descriptorIndex := 352, attributes := #[] }] 33 16 #[] #[{ accessFlags := 24, nameIndex := 28, descriptorIndex := 29, attributes := #[] }, { accessFlags := 26, nameIndex := 38, descriptorIndex := 39, attributes := #[] }, { accessFlags := 25, nameIndex := 121, descriptorIndex := 25, attributes := #[] }, { accessFlags := 25, nameIndex := 131, descriptorIndex := 25, attributes := #[] }, { accessFlags := 25, nameIndex := 137, descriptorIndex := 25, attributes := #[] }, { accessFlags := 25, nameIndex := 143, descriptorIndex := 25, attributes := #[] }, { accessFlags := 25, nameIndex := 53, descriptorIndex := 25, attributes := #[] }, { accessFlags := 25, nameIndex := 24, descriptorIndex := 25, attributes := #[] }, { accessFlags := 25, nameIndex := 162, descriptorIndex := 25, attributes := #[] }, { accessFlags := 25, nameIndex := 187, descriptorIndex := 25, attributes := #[] }, { accessFlags := 26, nameIndex := 48, descriptorIndex := 25, attributes := #[] }, { accessFlags := 25, nameIndex := 277, descriptorIndex := 25, attributes := #[] }, { accessFlags := 25, nameIndex := 280, descriptorIndex := 25, attributes := #[] }, { accessFlags := 25, nameIndex := 282, descriptorIndex := 25, attributes := #[] }, { accessFlags := 25, nameIndex := 284, descriptorIndex := 25, attributes := #[] }, { accessFlags := 25, nameIndex := 286, descriptorIndex := 25, attributes := #[] }, { accessFlags := 25, nameIndex := 288, descriptorIndex := 25, attributes := #[] }, { accessFlags := 25, nameIndex := 290, descriptorIndex := 25, attributes := #[] }, { accessFlags := 25, nameIndex := 292, descriptorIndex := 25, attributes := #[] }, { accessFlags := 26, nameIndex := 108, descriptorIndex := 109, attributes := #[] }, { accessFlags := 25, nameIndex := 294, descriptorIndex := 25, attributes := #[] }])
  fields := #[{ name := "U", type := (.object "jdk/internal/misc/Unsafe"), accessFlags := 24, slot := 0, constantValue := 0 }, { name := "BIG_ENDIAN", type := .boolean, accessFlags := 26, slot := 1, constantValue := 0 }, { name := "LOG2_ARRAY_BOOLEAN_INDEX_SCALE", type := .int, accessFlags := 25, slot := 2, constantValue := 0 }, { name := "LOG2_ARRAY_BYTE_INDEX_SCALE", type := .int, accessFlags := 25, slot := 3, constantValue := 0 }, { name := "LOG2_ARRAY_CHAR_INDEX_SCALE", type := .int, accessFlags := 25, slot := 4, constantValue := 0 }, { name := "LOG2_ARRAY_SHORT_INDEX_SCALE", type := .int, accessFlags := 25, slot := 5, constantValue := 0 }, { name := "LOG2_ARRAY_INT_INDEX_SCALE", type := .int, accessFlags := 25, slot := 6, constantValue := 0 }, { name := "LOG2_ARRAY_LONG_INDEX_SCALE", type := .int, accessFlags := 25, slot := 7, constantValue := 0 }, { name := "LOG2_ARRAY_FLOAT_INDEX_SCALE", type := .int, accessFlags := 25, slot := 8, constantValue := 0 }, { name := "LOG2_ARRAY_DOUBLE_INDEX_SCALE", type := .int, accessFlags := 25, slot := 9, constantValue := 0 }, { name := "LOG2_BYTE_BIT_SIZE", type := .int, accessFlags := 26, slot := 10, constantValue := 0 }, { name := "T_BOOLEAN", type := .int, accessFlags := 25, slot := 11, constantValue := 0 }, { name := "T_CHAR", type := .int, accessFlags := 25, slot := 12, constantValue := 0 }, { name := "T_FLOAT", type := .int, accessFlags := 25, slot := 13, constantValue := 0 }, { name := "T_DOUBLE", type := .int, accessFlags := 25, slot := 14, constantValue := 0 }, { name := "T_BYTE", type := .int, accessFlags := 25, slot := 15, constantValue := 0 }, { name := "T_SHORT", type := .int, accessFlags := 25, slot := 16, constantValue := 0 }, { name := "T_INT", type := .int, accessFlags := 25, slot := 17, constantValue := 0 }, { name := "T_LONG", type := .int, accessFlags := 25, slot := 18, constantValue := 0 }, { name := "JLA", type := (.object "jdk/internal/access/JavaLangAccess"), accessFlags := 26, slot := 19, constantValue := 0 }, { name := "SOFT_MAX_ARRAY_LENGTH", type := .int, accessFlags := 25, slot := 20, constantValue := 0 }]
  methods := #[k26m0, k26m1]
  instanceTypes := #[]
  staticTypes := #[(.object "jdk/internal/misc/Unsafe"), .boolean, .int, .int, .int, .int, .int, .int, .int, .int, .int, .int, .int, .int, .int, .int, .int, .int, .int, (.object "jdk/internal/access/JavaLangAccess"), .int]
  resolved := Array.replicate 378 none
  statics := none }

/-- the primitive byte -/
def k27 : Class := { plain "byte" none with kind := .primitive 'B', accessFlags := 0x411 }
/-- [B -/
def k28 : Class := { plain "[B" (some 0) with kind := .array 27 .byte, interfaces := #[20, 2], accessFlags := 1041 }

/-- the primitive char -/
def k29 : Class := { plain "char" none with kind := .primitive 'C', accessFlags := 0x411 }
/-- [C -/
def k30 : Class := { plain "[C" (some 0) with kind := .array 29 .char, interfaces := #[20, 2], accessFlags := 1041 }

/-- the primitive int -/
def k31 : Class := { plain "int" none with kind := .primitive 'I', accessFlags := 0x411 }
/-- [I -/
def k32 : Class := { plain "[I" (some 0) with kind := .array 31 .int, interfaces := #[20, 2], accessFlags := 1041 }

/-- [Ljava/lang/Object; -/
def k33 : Class := { plain "[Ljava/lang/Object;" (some 0) with kind := .array 0 (.object "java/lang/Object"), interfaces := #[20, 2], accessFlags := 1041 }

def heap : Heap := #[{ cls := 7, slots := #[.long 0, .int 1, .null, .int 0, .null, .int 0, .int 0], vm := .statics 7 },
  { cls := 25, slots := #[.null, .null, .null], vm := .statics 25 }]
def classes : Array Class := #[k0, k1, k2, k3, k4, k5, k6, k7, k8, k9, k10, k11, k12, k13, k14, k15, k16, k17, k18, k19, k20, k21, k22, k23, k24, k25, k26, k27, k28, k29, k30, k31, k32, k33]
def interned : List (Array UInt16 × Addr) := []
def slotsUsed : Nat := 10
def theMethod : MethodId := ⟨1, 2⟩
def args0 : Array Value := #[.int 7, .int 97, .int 98, .int 99, .int 100]
def aboutOver (below : List Frame) : State where
  vm := { classes := classes, interned := interned.toArray }
  heap := heap
  slotsUsed := slotsUsed
  threads := #[{ frames := .invoking theMethod args0 :: below }]
def below0 : List Frame := [.native { method := ⟨0, 0⟩, args := #[] }]
def about1 : State := aboutOver below0
def p0 : Program := .bare "" "" ""
def e0 : Env := launch0.env 0 0 0
theorem w_frames : about1.frames = Frame.invoking theMethod args0 :: below0 := rfl
set_option maxRecDepth 65536 in
theorem w_args : argsFit about1.vm theMethod args0 = true := by decide +kernel
set_option maxRecDepth 65536 in
theorem w_heap : heapFits about1 = true := by decide +kernel
set_option maxRecDepth 65536 in
theorem w_runnable : about1.curStatus? = some .runnable := by decide +kernel
set_option maxRecDepth 65536 in
theorem w_alone : about1.alone = true := by decide +kernel
set_option maxRecDepth 65536 in
theorem w_named : about1.methodNamed? x = some theMethod := by decide +kernel
set_option maxRecDepth 65536 in
theorem w_hears : about1.hears theMethod below0 = true := by decide +kernel
set_option maxRecDepth 65536 in
theorem w_ripe : about1.ripe theMethod args0 below0 = true := by decide +kernel
theorem w_running : about1.status = .running := rfl
set_option maxRecDepth 65536 in
theorem w_room : about1.hasRoom e0.platform room_1 = true :=
  launch0.hasRoom_least _ room_1 (by decide +kernel) (by decide +kernel) (by decide +kernel) (by decide +kernel) (by decide +kernel) (by decide +kernel)
theorem allAtoms_all (ts : List Jvm.Cond) (a : Array Jvm.Value) (st : Jvm.State) : (allAtoms ts).before a st = ts.all (fun c => c.before a st) := by
  induction ts with
  | nil => rfl
  | cons c t ih =>
    show (Jvm.Cond.and c (allAtoms t)).before a st = _
    rw [Jvm.Cond.before_and, ih, List.all_cons]
def words1 : List Jvm.Cond := Jvm.Cond.code x code maxLocals ret :: tables_1
/-- a 'code' word, met by the world's own term for the bytes: nothing is compared byte by byte -/
theorem code_word {y : MethodName} {bytes : ByteArray} {mx : Nat} {rt : Option FieldType} {a : Array Value} {s : State} {m : MethodId} {meth : Method} {c : Code} (h1 : s.methodNamed? y = some m) (h2 : s.vm.method? m = some meth) (h3 : meth.code = some c) (h4 : c.code = bytes)
    (h5 : (c.maxLocals == mx && c.exceptionTable.isEmpty && decide (c.maxStack ≤ mostOperands) && decide (meth.sig.returnType = rt) && !meth.locks && decide (parseMethodDescriptor y.desc = some meth.sig)) = true) : (Jvm.Cond.code y bytes mx rt).before a s = true := by
  simp only [Bool.and_eq_true, beq_iff_eq, Bool.not_eq_true', decide_eq_true_eq] at h5
  obtain ⟨⟨⟨⟨⟨g1, g2⟩, g3⟩, g4⟩, g5⟩, g6⟩ := h5
  simp [Cond.before, Cond.holds, Cond.value, h1, h2, h3, h4, g1, g2, g3, g4, g5, g6]
def isCode : Jvm.Cond → Bool
  | .code _ _ _ _ => true
  | _ => false
theorem all_split {L : List Jvm.Cond} {P : Jvm.Cond → Bool} (h1 : L.all (fun c => isCode c || P c) = true) (h2 : ∀ c ∈ L.filter isCode, P c = true) : L.all P = true := by
  refine List.all_eq_true.mpr fun c hc => ?_
  have h := List.all_eq_true.mp h1 c hc
  rcases Bool.eq_false_or_eq_true (isCode c) with hi | hi
  · exact h2 c (List.mem_filter.mpr ⟨hc, hi⟩)
  · simpa [hi] using h
set_option maxRecDepth 65536 in
theorem w_c0 : (Jvm.Cond.code x code maxLocals ret).before args0 about1 = true := code_word (m := ⟨1, 2⟩) (meth := k1m2) (c := k1c2) (by decide +kernel) rfl rfl rfl (by decide +kernel)
set_option maxRecDepth 65536 in
theorem w_c1 : (Jvm.Cond.code ({ cls := "java/lang/String", name := "<init>", desc := "([C)V" } : Jvm.MethodName) jdk_42_method_3_code (2 : Nat) (Option.none : Option Jvm.ClassFile.FieldType)).before args0 about1 = true := code_word (m := ⟨7, 1⟩) (meth := k7m1) (c := k7c1) (by decide +kernel) rfl rfl rfl (by decide +kernel)
set_option maxRecDepth 65536 in
theorem w_c2 : (Jvm.Cond.code ({ cls := "java/lang/String", name := "<init>", desc := "([CIILjava/lang/Void;)V" } : Jvm.MethodName) jdk_42_method_149_code (6 : Nat) (Option.none : Option Jvm.ClassFile.FieldType)).before args0 about1 = true := code_word (m := ⟨7, 6⟩) (meth := k7m6) (c := k7c6) (by decide +kernel) rfl rfl rfl (by decide +kernel)
set_option maxRecDepth 65536 in
theorem w_c3 : (Jvm.Cond.code ({ cls := "java/lang/Object", name := "<init>", desc := "()V" } : Jvm.MethodName) object_method_1_code (1 : Nat) (Option.none : Option Jvm.ClassFile.FieldType)).before args0 about1 = true := code_word (m := ⟨0, 0⟩) (meth := k0m0) (c := k0c0) (by decide +kernel) rfl rfl rfl (by decide +kernel)
set_option maxRecDepth 65536 in
theorem w_c4 : (Jvm.Cond.code ({ cls := "java/lang/StringUTF16", name := "compress", desc := "([CII)[B" } : Jvm.MethodName) jdk_52_method_16_code (6 : Nat) (Option.some (Jvm.ClassFile.FieldType.array Jvm.ClassFile.FieldType.byte))).before args0 about1 = true := code_word (m := ⟨8, 2⟩) (meth := k8m2) (c := k8c2) (by decide +kernel) rfl rfl rfl (by decide +kernel)
set_option maxRecDepth 65536 in
theorem w_c5 : (Jvm.Cond.code ({ cls := "java/lang/StringUTF16", name := "compress", desc := "([CI[BII)I" } : Jvm.MethodName) jdk_52_method_21_code (7 : Nat) (Option.some Jvm.ClassFile.FieldType.int)).before args0 about1 = true := code_word (m := ⟨8, 3⟩) (meth := k8m3) (c := k8c3) (by decide +kernel) rfl rfl rfl (by decide +kernel)
set_option maxRecDepth 65536 in
theorem w_c6 : (Jvm.Cond.code ({ cls := "java/lang/StringUTF16", name := "coderFromArrayLen", desc := "([BI)B" } : Jvm.MethodName) jdk_52_method_15_code (2 : Nat) (Option.some Jvm.ClassFile.FieldType.byte)).before args0 about1 = true := code_word (m := ⟨8, 1⟩) (meth := k8m1) (c := k8c1) (by decide +kernel) rfl rfl rfl (by decide +kernel)
set_option maxRecDepth 65536 in
theorem w_c7 : (Jvm.Cond.code ({ cls := "org/athenaeum/xml/XmlWriter", name := "<init>", desc := "()V" } : Jvm.MethodName) prog_100_method_1_code (1 : Nat) (Option.none : Option Jvm.ClassFile.FieldType)).before args0 about1 = true := code_word (m := ⟨9, 0⟩) (meth := k9m0) (c := k9c0) (by decide +kernel) rfl rfl rfl (by decide +kernel)
set_option maxRecDepth 65536 in
theorem w_c8 : (Jvm.Cond.code ({ cls := "java/lang/StringBuilder", name := "<init>", desc := "(Ljava/lang/String;)V" } : Jvm.MethodName) jdk_67_method_3_code (2 : Nat) (Option.none : Option Jvm.ClassFile.FieldType)).before args0 about1 = true := code_word (m := ⟨12, 1⟩) (meth := k12m1) (c := k12c1) (by decide +kernel) rfl rfl rfl (by decide +kernel)
set_option maxRecDepth 65536 in
theorem w_c9 : (Jvm.Cond.code ({ cls := "java/lang/AbstractStringBuilder", name := "<init>", desc := "(Ljava/lang/String;)V" } : Jvm.MethodName) jdk_68_method_3_code (5 : Nat) (Option.none : Option Jvm.ClassFile.FieldType)).before args0 about1 = true := code_word (m := ⟨11, 1⟩) (meth := k11m1) (c := k11c1) (by decide +kernel) rfl rfl rfl (by decide +kernel)
set_option maxRecDepth 65536 in
theorem w_c10 : (Jvm.Cond.code ({ cls := "java/lang/String", name := "length", desc := "()I" } : Jvm.MethodName) jdk_42_method_54_code (1 : Nat) (Option.some Jvm.ClassFile.FieldType.int)).before args0 about1 = true := code_word (m := ⟨7, 3⟩) (meth := k7m3) (c := k7c3) (by decide +kernel) rfl rfl rfl (by decide +kernel)
set_option maxRecDepth 65536 in
theorem w_c11 : (Jvm.Cond.code ({ cls := "java/lang/String", name := "coder", desc := "()B" } : Jvm.MethodName) jdk_42_method_152_code (1 : Nat) (Option.some Jvm.ClassFile.FieldType.byte)).before args0 about1 = true := code_word (m := ⟨7, 8⟩) (meth := k7m8) (c := k7c8) (by decide +kernel) rfl rfl rfl (by decide +kernel)
set_option maxRecDepth 65536 in
theorem w_c12 : (Jvm.Cond.code ({ cls := "java/lang/StringBuilder", name := "append", desc := "(Ljava/lang/String;)Ljava/lang/AbstractStringBuilder;" } : Jvm.MethodName) jdk_67_method_80_code (2 : Nat) (Option.some (Jvm.ClassFile.FieldType.object "java/lang/AbstractStringBuilder"))).before args0 about1 = true := code_word (m := ⟨12, 5⟩) (meth := k12m5) (c := k12c5) (by decide +kernel) rfl rfl rfl (by decide +kernel)
set_option maxRecDepth 65536 in
theorem w_c13 : (Jvm.Cond.code ({ cls := "java/lang/StringBuilder", name := "append", desc := "(Ljava/lang/String;)Ljava/lang/StringBuilder;" } : Jvm.MethodName) jdk_67_method_7_code (2 : Nat) (Option.some (Jvm.ClassFile.FieldType.object "java/lang/StringBuilder"))).before args0 about1 = true := code_word (m := ⟨12, 2⟩) (meth := k12m2) (c := k12c2) (by decide +kernel) rfl rfl rfl (by decide +kernel)
set_option maxRecDepth 65536 in
theorem w_c14 : (Jvm.Cond.code ({ cls := "java/lang/AbstractStringBuilder", name := "append", desc := "(Ljava/lang/String;)Ljava/lang/AbstractStringBuilder;" } : Jvm.MethodName) jdk_68_method_22_code (3 : Nat) (Option.some (Jvm.ClassFile.FieldType.object "java/lang/AbstractStringBuilder"))).before args0 about1 = true := code_word (m := ⟨11, 5⟩) (meth := k11m5) (c := k11c5) (by decide +kernel) rfl rfl rfl (by decide +kernel)
set_option maxRecDepth 65536 in
theorem w_c15 : (Jvm.Cond.code ({ cls := "java/lang/AbstractStringBuilder", name := "ensureCapacityInternal", desc := "(I)V" } : Jvm.MethodName) jdk_68_method_9_code (3 : Nat) (Option.none : Option Jvm.ClassFile.FieldType)).before args0 about1 = true := code_word (m := ⟨11, 3⟩) (meth := k11m3) (c := k11c3) (by decide +kernel) rfl rfl rfl (by decide +kernel)
set_option maxRecDepth 65536 in
theorem w_c16 : (Jvm.Cond.code ({ cls := "java/lang/AbstractStringBuilder", name := "putStringAt", desc := "(ILjava/lang/String;)V" } : Jvm.MethodName) jdk_68_method_73_code (3 : Nat) (Option.none : Option Jvm.ClassFile.FieldType)).before args0 about1 = true := code_word (m := ⟨11, 10⟩) (meth := k11m10) (c := k11c10) (by decide +kernel) rfl rfl rfl (by decide +kernel)
set_option maxRecDepth 65536 in
theorem w_c17 : (Jvm.Cond.code ({ cls := "java/lang/AbstractStringBuilder", name := "inflateIfNeededFor", desc := "(Ljava/lang/String;)V" } : Jvm.MethodName) jdk_68_method_71_code (2 : Nat) (Option.none : Option Jvm.ClassFile.FieldType)).before args0 about1 = true := code_word (m := ⟨11, 9⟩) (meth := k11m9) (c := k11c9) (by decide +kernel) rfl rfl rfl (by decide +kernel)
set_option maxRecDepth 65536 in
theorem w_c18 : (Jvm.Cond.code ({ cls := "java/lang/String", name := "getBytes", desc := "([BIB)V" } : Jvm.MethodName) jdk_42_method_147_code (4 : Nat) (Option.none : Option Jvm.ClassFile.FieldType)).before args0 about1 = true := code_word (m := ⟨7, 5⟩) (meth := k7m5) (c := k7c5) (by decide +kernel) rfl rfl rfl (by decide +kernel)
set_option maxRecDepth 65536 in
theorem w_c19 : (Jvm.Cond.code ({ cls := "java/util/ArrayDeque", name := "<init>", desc := "()V" } : Jvm.MethodName) jdk_21_method_3_code (1 : Nat) (Option.none : Option Jvm.ClassFile.FieldType)).before args0 about1 = true := code_word (m := ⟨21, 0⟩) (meth := k21m0) (c := k21c0) (by decide +kernel) rfl rfl rfl (by decide +kernel)
set_option maxRecDepth 65536 in
theorem w_c20 : (Jvm.Cond.code ({ cls := "java/util/AbstractCollection", name := "<init>", desc := "()V" } : Jvm.MethodName) jdk_22_method_1_code (1 : Nat) (Option.none : Option Jvm.ClassFile.FieldType)).before args0 about1 = true := code_word (m := ⟨16, 0⟩) (meth := k16m0) (c := k16c0) (by decide +kernel) rfl rfl rfl (by decide +kernel)
set_option maxRecDepth 65536 in
theorem w_c21 : (Jvm.Cond.code ({ cls := "org/athenaeum/xml/XmlWriter", name := "start", desc := "(Ljava/lang/String;)Lorg/athenaeum/xml/XmlWriter;" } : Jvm.MethodName) prog_100_method_2_code (2 : Nat) (Option.some (Jvm.ClassFile.FieldType.object "org/athenaeum/xml/XmlWriter"))).before args0 about1 = true := code_word (m := ⟨9, 1⟩) (meth := k9m1) (c := k9c1) (by decide +kernel) rfl rfl rfl (by decide +kernel)
set_option maxRecDepth 65536 in
theorem w_c22 : (Jvm.Cond.code ({ cls := "org/athenaeum/xml/XmlWriter", name := "closeStartTag", desc := "()V" } : Jvm.MethodName) prog_100_method_8_code (1 : Nat) (Option.none : Option Jvm.ClassFile.FieldType)).before args0 about1 = true := code_word (m := ⟨9, 5⟩) (meth := k9m5) (c := k9c5) (by decide +kernel) rfl rfl rfl (by decide +kernel)
set_option maxRecDepth 65536 in
theorem w_c23 : (Jvm.Cond.code ({ cls := "java/lang/StringBuilder", name := "append", desc := "(C)Ljava/lang/StringBuilder;" } : Jvm.MethodName) jdk_67_method_14_code (2 : Nat) (Option.some (Jvm.ClassFile.FieldType.object "java/lang/StringBuilder"))).before args0 about1 = true := code_word (m := ⟨12, 3⟩) (meth := k12m3) (c := k12c3) (by decide +kernel) rfl rfl rfl (by decide +kernel)
set_option maxRecDepth 65536 in
theorem w_c24 : (Jvm.Cond.code ({ cls := "java/lang/AbstractStringBuilder", name := "append", desc := "(C)Ljava/lang/AbstractStringBuilder;" } : Jvm.MethodName) jdk_68_method_31_code (2 : Nat) (Option.some (Jvm.ClassFile.FieldType.object "java/lang/AbstractStringBuilder"))).before args0 about1 = true := code_word (m := ⟨11, 6⟩) (meth := k11m6) (c := k11c6) (by decide +kernel) rfl rfl rfl (by decide +kernel)
set_option maxRecDepth 65536 in
theorem w_c25 : (Jvm.Cond.code ({ cls := "java/lang/AbstractStringBuilder", name := "isLatin1", desc := "()Z" } : Jvm.MethodName) jdk_68_method_68_code (1 : Nat) (Option.some Jvm.ClassFile.FieldType.boolean)).before args0 about1 = true := code_word (m := ⟨11, 8⟩) (meth := k11m8) (c := k11c8) (by decide +kernel) rfl rfl rfl (by decide +kernel)
set_option maxRecDepth 65536 in
theorem w_c26 : (Jvm.Cond.code ({ cls := "java/lang/StringLatin1", name := "canEncode", desc := "(C)Z" } : Jvm.MethodName) jdk_43_method_3_code (1 : Nat) (Option.some Jvm.ClassFile.FieldType.boolean)).before args0 about1 = true := code_word (m := ⟨22, 2⟩) (meth := k22m2) (c := k22c2) (by decide +kernel) rfl rfl rfl (by decide +kernel)
set_option maxRecDepth 65536 in
theorem w_c27 : (Jvm.Cond.code ({ cls := "java/util/ArrayDeque", name := "push", desc := "(Ljava/lang/Object;)V" } : Jvm.MethodName) jdk_21_method_34_code (2 : Nat) (Option.none : Option Jvm.ClassFile.FieldType)).before args0 about1 = true := code_word (m := ⟨21, 7⟩) (meth := k21m7) (c := k21c7) (by decide +kernel) rfl rfl rfl (by decide +kernel)
set_option maxRecDepth 65536 in
theorem w_c28 : (Jvm.Cond.code ({ cls := "java/util/ArrayDeque", name := "addFirst", desc := "(Ljava/lang/Object;)V" } : Jvm.MethodName) jdk_21_method_12_code (3 : Nat) (Option.none : Option Jvm.ClassFile.FieldType)).before args0 about1 = true := code_word (m := ⟨21, 4⟩) (meth := k21m4) (c := k21c4) (by decide +kernel) rfl rfl rfl (by decide +kernel)
set_option maxRecDepth 65536 in
theorem w_c29 : (Jvm.Cond.code ({ cls := "java/util/ArrayDeque", name := "dec", desc := "(II)I" } : Jvm.MethodName) jdk_21_method_7_code (2 : Nat) (Option.some Jvm.ClassFile.FieldType.int)).before args0 about1 = true := code_word (m := ⟨21, 2⟩) (meth := k21m2) (c := k21c2) (by decide +kernel) rfl rfl rfl (by decide +kernel)
set_option maxRecDepth 65536 in
theorem w_c30 : (Jvm.Cond.code ({ cls := "org/athenaeum/xml/XmlWriter", name := "end", desc := "()Lorg/athenaeum/xml/XmlWriter;" } : Jvm.MethodName) prog_100_method_5_code (2 : Nat) (Option.some (Jvm.ClassFile.FieldType.object "org/athenaeum/xml/XmlWriter"))).before args0 about1 = true := code_word (m := ⟨9, 3⟩) (meth := k9m3) (c := k9c3) (by decide +kernel) rfl rfl rfl (by decide +kernel)
set_option maxRecDepth 65536 in
theorem w_c31 : (Jvm.Cond.code ({ cls := "java/util/ArrayDeque", name := "pop", desc := "()Ljava/lang/Object;" } : Jvm.MethodName) jdk_21_method_35_code (1 : Nat) (Option.some (Jvm.ClassFile.FieldType.object "java/lang/Object"))).before args0 about1 = true := code_word (m := ⟨21, 8⟩) (meth := k21m8) (c := k21c8) (by decide +kernel) rfl rfl rfl (by decide +kernel)
set_option maxRecDepth 65536 in
theorem w_c32 : (Jvm.Cond.code ({ cls := "java/util/ArrayDeque", name := "removeFirst", desc := "()Ljava/lang/Object;" } : Jvm.MethodName) jdk_21_method_18_code (2 : Nat) (Option.some (Jvm.ClassFile.FieldType.object "java/lang/Object"))).before args0 about1 = true := code_word (m := ⟨21, 5⟩) (meth := k21m5) (c := k21c5) (by decide +kernel) rfl rfl rfl (by decide +kernel)
set_option maxRecDepth 65536 in
theorem w_c33 : (Jvm.Cond.code ({ cls := "java/util/ArrayDeque", name := "pollFirst", desc := "()Ljava/lang/Object;" } : Jvm.MethodName) jdk_21_method_20_code (4 : Nat) (Option.some (Jvm.ClassFile.FieldType.object "java/lang/Object"))).before args0 about1 = true := code_word (m := ⟨21, 6⟩) (meth := k21m6) (c := k21c6) (by decide +kernel) rfl rfl rfl (by decide +kernel)
set_option maxRecDepth 65536 in
theorem w_c34 : (Jvm.Cond.code ({ cls := "java/util/ArrayDeque", name := "elementAt", desc := "([Ljava/lang/Object;I)Ljava/lang/Object;" } : Jvm.MethodName) jdk_21_method_10_code (2 : Nat) (Option.some (Jvm.ClassFile.FieldType.object "java/lang/Object"))).before args0 about1 = true := code_word (m := ⟨21, 3⟩) (meth := k21m3) (c := k21c3) (by decide +kernel) rfl rfl rfl (by decide +kernel)
set_option maxRecDepth 65536 in
theorem w_c35 : (Jvm.Cond.code ({ cls := "java/util/ArrayDeque", name := "inc", desc := "(II)I" } : Jvm.MethodName) jdk_21_method_6_code (2 : Nat) (Option.some Jvm.ClassFile.FieldType.int)).before args0 about1 = true := code_word (m := ⟨21, 1⟩) (meth := k21m1) (c := k21c1) (by decide +kernel) rfl rfl rfl (by decide +kernel)
set_option maxRecDepth 65536 in
theorem w_c36 : (Jvm.Cond.code ({ cls := "org/athenaeum/xml/XmlWriter", name := "finish", desc := "()Ljava/lang/String;" } : Jvm.MethodName) prog_100_method_7_code (1 : Nat) (Option.some (Jvm.ClassFile.FieldType.object "java/lang/String"))).before args0 about1 = true := code_word (m := ⟨9, 4⟩) (meth := k9m4) (c := k9c4) (by decide +kernel) rfl rfl rfl (by decide +kernel)
set_option maxRecDepth 65536 in
theorem w_c37 : (Jvm.Cond.code ({ cls := "java/util/ArrayDeque", name := "isEmpty", desc := "()Z" } : Jvm.MethodName) jdk_21_method_38_code (1 : Nat) (Option.some Jvm.ClassFile.FieldType.boolean)).before args0 about1 = true := code_word (m := ⟨21, 9⟩) (meth := k21m9) (c := k21c9) (by decide +kernel) rfl rfl rfl (by decide +kernel)
set_option maxRecDepth 65536 in
theorem w_c38 : (Jvm.Cond.code ({ cls := "java/lang/StringBuilder", name := "toString", desc := "()Ljava/lang/String;" } : Jvm.MethodName) jdk_67_method_42_code (1 : Nat) (Option.some (Jvm.ClassFile.FieldType.object "java/lang/String"))).before args0 about1 = true := code_word (m := ⟨12, 4⟩) (meth := k12m4) (c := k12c4) (by decide +kernel) rfl rfl rfl (by decide +kernel)
set_option maxRecDepth 65536 in
theorem w_c39 : (Jvm.Cond.code ({ cls := "java/lang/String", name := "<init>", desc := "(Ljava/lang/StringBuilder;)V" } : Jvm.MethodName) jdk_42_method_53_code (2 : Nat) (Option.none : Option Jvm.ClassFile.FieldType)).before args0 about1 = true := code_word (m := ⟨7, 2⟩) (meth := k7m2) (c := k7c2) (by decide +kernel) rfl rfl rfl (by decide +kernel)
set_option maxRecDepth 65536 in
theorem w_c40 : (Jvm.Cond.code ({ cls := "java/lang/String", name := "<init>", desc := "(Ljava/lang/AbstractStringBuilder;Ljava/lang/Void;)V" } : Jvm.MethodName) jdk_42_method_150_code (5 : Nat) (Option.none : Option Jvm.ClassFile.FieldType)).before args0 about1 = true := code_word (m := ⟨7, 7⟩) (meth := k7m7) (c := k7c7) (by decide +kernel) rfl rfl rfl (by decide +kernel)
set_option maxRecDepth 65536 in
theorem w_c41 : (Jvm.Cond.code ({ cls := "java/lang/AbstractStringBuilder", name := "getValue", desc := "()[B" } : Jvm.MethodName) jdk_68_method_64_code (1 : Nat) (Option.some (Jvm.ClassFile.FieldType.array Jvm.ClassFile.FieldType.byte))).before args0 about1 = true := code_word (m := ⟨11, 7⟩) (meth := k11m7) (c := k11c7) (by decide +kernel) rfl rfl rfl (by decide +kernel)
set_option maxRecDepth 65536 in
theorem w_c42 : (Jvm.Cond.code ({ cls := "java/lang/StringBuilder", name := "length", desc := "()I" } : Jvm.MethodName) jdk_67_method_93_code (1 : Nat) (Option.some Jvm.ClassFile.FieldType.int)).before args0 about1 = true := code_word (m := ⟨12, 6⟩) (meth := k12m6) (c := k12c6) (by decide +kernel) rfl rfl rfl (by decide +kernel)
set_option maxRecDepth 65536 in
theorem w_c43 : (Jvm.Cond.code ({ cls := "java/lang/AbstractStringBuilder", name := "length", desc := "()I" } : Jvm.MethodName) jdk_68_method_6_code (1 : Nat) (Option.some Jvm.ClassFile.FieldType.int)).before args0 about1 = true := code_word (m := ⟨11, 2⟩) (meth := k11m2) (c := k11c2) (by decide +kernel) rfl rfl rfl (by decide +kernel)
set_option maxRecDepth 65536 in
theorem w_c44 : (Jvm.Cond.code ({ cls := "java/util/Arrays", name := "copyOfRange", desc := "([BII)[B" } : Jvm.MethodName) jdk_65_method_132_code (3 : Nat) (Option.some (Jvm.ClassFile.FieldType.array Jvm.ClassFile.FieldType.byte))).before args0 about1 = true := code_word (m := ⟨23, 3⟩) (meth := k23m3) (c := k23c3) (by decide +kernel) rfl rfl rfl (by decide +kernel)
set_option maxRecDepth 65536 in
theorem w_c45 : (Jvm.Cond.code ({ cls := "java/util/Arrays", name := "copyOfRangeByte", desc := "([BII)[B" } : Jvm.MethodName) jdk_65_method_133_code (5 : Nat) (Option.some (Jvm.ClassFile.FieldType.array Jvm.ClassFile.FieldType.byte))).before args0 about1 = true := code_word (m := ⟨23, 4⟩) (meth := k23m4) (c := k23c4) (by decide +kernel) rfl rfl rfl (by decide +kernel)
set_option maxRecDepth 65536 in
theorem w_c46 : (Jvm.Cond.code ({ cls := "java/util/Arrays", name := "checkLength", desc := "(II)V" } : Jvm.MethodName) jdk_65_method_131_code (2 : Nat) (Option.none : Option Jvm.ClassFile.FieldType)).before args0 about1 = true := code_word (m := ⟨23, 2⟩) (meth := k23m2) (c := k23c2) (by decide +kernel) rfl rfl rfl (by decide +kernel)
set_option maxRecDepth 65536 in
theorem w_c47 : (Jvm.Cond.code ({ cls := "java/lang/Math", name := "min", desc := "(II)I" } : Jvm.MethodName) jdk_29_method_69_code (2 : Nat) (Option.some Jvm.ClassFile.FieldType.int)).before args0 about1 = true := code_word (m := ⟨24, 2⟩) (meth := k24m2) (c := k24c2) (by decide +kernel) rfl rfl rfl (by decide +kernel)
set_option maxRecDepth 65536 in
theorem w_c48 : (Jvm.Cond.code ({ cls := "org/athenaeum/xml/XmlWriterEndPinLaw", name := "at", desc := "(Ljava/lang/String;[CII)Z" } : Jvm.MethodName) method_2_code (4 : Nat) (Option.some Jvm.ClassFile.FieldType.boolean)).before args0 about1 = true := code_word (m := ⟨1, 1⟩) (meth := k1m1) (c := k1c1) (by decide +kernel) rfl rfl rfl (by decide +kernel)
set_option maxRecDepth 65536 in
theorem w_c49 : (Jvm.Cond.code ({ cls := "java/lang/String", name := "charAt", desc := "(I)C" } : Jvm.MethodName) jdk_42_method_56_code (2 : Nat) (Option.some Jvm.ClassFile.FieldType.char)).before args0 about1 = true := code_word (m := ⟨7, 4⟩) (meth := k7m4) (c := k7c4) (by decide +kernel) rfl rfl rfl (by decide +kernel)
set_option maxRecDepth 65536 in
theorem w_c50 : (Jvm.Cond.code ({ cls := "java/lang/String", name := "isLatin1", desc := "()Z" } : Jvm.MethodName) jdk_42_method_154_code (1 : Nat) (Option.some Jvm.ClassFile.FieldType.boolean)).before args0 about1 = true := code_word (m := ⟨7, 9⟩) (meth := k7m9) (c := k7c9) (by decide +kernel) rfl rfl rfl (by decide +kernel)
set_option maxRecDepth 65536 in
theorem w_c51 : (Jvm.Cond.code ({ cls := "java/lang/StringLatin1", name := "charAt", desc := "([BI)C" } : Jvm.MethodName) jdk_43_method_2_code (2 : Nat) (Option.some Jvm.ClassFile.FieldType.char)).before args0 about1 = true := code_word (m := ⟨22, 1⟩) (meth := k22m1) (c := k22c1) (by decide +kernel) rfl rfl rfl (by decide +kernel)
set_option maxRecDepth 65536 in
theorem w_c52 : (Jvm.Cond.code ({ cls := "java/lang/String", name := "checkIndex", desc := "(II)V" } : Jvm.MethodName) jdk_42_method_155_code (2 : Nat) (Option.none : Option Jvm.ClassFile.FieldType)).before args0 about1 = true := code_word (m := ⟨7, 10⟩) (meth := k7m10) (c := k7c10) (by decide +kernel) rfl rfl rfl (by decide +kernel)
set_option maxRecDepth 65536 in
theorem w_c53 : (Jvm.Cond.code ({ cls := "jdk/internal/util/Preconditions", name := "checkIndex", desc := "(IILjava/util/function/BiFunction;)I" } : Jvm.MethodName) jdk_41_method_11_code (3 : Nat) (Option.some Jvm.ClassFile.FieldType.int)).before args0 about1 = true := code_word (m := ⟨25, 1⟩) (meth := k25m1) (c := k25c1) (by decide +kernel) rfl rfl rfl (by decide +kernel)
set_option maxRecDepth 65536 in
theorem w_c54 : (Jvm.Cond.code ({ cls := "org/athenaeum/xml/XmlWriter", name := "text", desc := "(Ljava/lang/String;)Lorg/athenaeum/xml/XmlWriter;" } : Jvm.MethodName) prog_100_method_4_code (2 : Nat) (Option.some (Jvm.ClassFile.FieldType.object "org/athenaeum/xml/XmlWriter"))).before args0 about1 = true := code_word (m := ⟨9, 2⟩) (meth := k9m2) (c := k9c2) (by decide +kernel) rfl rfl rfl (by decide +kernel)
set_option maxRecDepth 65536 in
theorem w_c55 : (Jvm.Cond.code ({ cls := "org/athenaeum/xml/XmlWriter", name := "escape", desc := "(Ljava/lang/String;Z)V" } : Jvm.MethodName) prog_100_method_9_code (5 : Nat) (Option.none : Option Jvm.ClassFile.FieldType)).before args0 about1 = true := code_word (m := ⟨9, 6⟩) (meth := k9m6) (c := k9c6) (by decide +kernel) rfl rfl rfl (by decide +kernel)
set_option maxRecDepth 65536 in
theorem w_c56 : (Jvm.Cond.code ({ cls := "java/lang/AbstractStringBuilder", name := "newCapacity", desc := "(I)I" } : Jvm.MethodName) jdk_68_method_10_code (6 : Nat) (Option.some Jvm.ClassFile.FieldType.int)).before args0 about1 = true := code_word (m := ⟨11, 4⟩) (meth := k11m4) (c := k11c4) (by decide +kernel) rfl rfl rfl (by decide +kernel)
set_option maxRecDepth 65536 in
theorem w_c57 : (Jvm.Cond.code ({ cls := "jdk/internal/util/ArraysSupport", name := "newLength", desc := "(III)I" } : Jvm.MethodName) jdk_48_method_27_code (4 : Nat) (Option.some Jvm.ClassFile.FieldType.int)).before args0 about1 = true := code_word (m := ⟨26, 1⟩) (meth := k26m1) (c := k26c1) (by decide +kernel) rfl rfl rfl (by decide +kernel)
set_option maxRecDepth 65536 in
theorem w_c58 : (Jvm.Cond.code ({ cls := "java/lang/Math", name := "max", desc := "(II)I" } : Jvm.MethodName) jdk_29_method_65_code (2 : Nat) (Option.some Jvm.ClassFile.FieldType.int)).before args0 about1 = true := code_word (m := ⟨24, 1⟩) (meth := k24m1) (c := k24c1) (by decide +kernel) rfl rfl rfl (by decide +kernel)
set_option maxRecDepth 65536 in
theorem w_c59 : (Jvm.Cond.code ({ cls := "java/util/Arrays", name := "copyOf", desc := "([BI)[B" } : Jvm.MethodName) jdk_65_method_121_code (3 : Nat) (Option.some (Jvm.ClassFile.FieldType.array Jvm.ClassFile.FieldType.byte))).before args0 about1 = true := code_word (m := ⟨23, 1⟩) (meth := k23m1) (c := k23c1) (by decide +kernel) rfl rfl rfl (by decide +kernel)
def codes1 : List Jvm.Cond := [Jvm.Cond.code x code maxLocals ret, Jvm.Cond.code ({ cls := "java/lang/String", name := "<init>", desc := "([C)V" } : Jvm.MethodName) jdk_42_method_3_code (2 : Nat) (Option.none : Option Jvm.ClassFile.FieldType), Jvm.Cond.code ({ cls := "java/lang/String", name := "<init>", desc := "([CIILjava/lang/Void;)V" } : Jvm.MethodName) jdk_42_method_149_code (6 : Nat) (Option.none : Option Jvm.ClassFile.FieldType), Jvm.Cond.code ({ cls := "java/lang/Object", name := "<init>", desc := "()V" } : Jvm.MethodName) object_method_1_code (1 : Nat) (Option.none : Option Jvm.ClassFile.FieldType), Jvm.Cond.code ({ cls := "java/lang/StringUTF16", name := "compress", desc := "([CII)[B" } : Jvm.MethodName) jdk_52_method_16_code (6 : Nat) (Option.some (Jvm.ClassFile.FieldType.array Jvm.ClassFile.FieldType.byte)), Jvm.Cond.code ({ cls := "java/lang/StringUTF16", name := "compress", desc := "([CI[BII)I" } : Jvm.MethodName) jdk_52_method_21_code (7 : Nat) (Option.some Jvm.ClassFile.FieldType.int), Jvm.Cond.code ({ cls := "java/lang/StringUTF16", name := "coderFromArrayLen", desc := "([BI)B" } : Jvm.MethodName) jdk_52_method_15_code (2 : Nat) (Option.some Jvm.ClassFile.FieldType.byte), Jvm.Cond.code ({ cls := "org/athenaeum/xml/XmlWriter", name := "<init>", desc := "()V" } : Jvm.MethodName) prog_100_method_1_code (1 : Nat) (Option.none : Option Jvm.ClassFile.FieldType), Jvm.Cond.code ({ cls := "java/lang/StringBuilder", name := "<init>", desc := "(Ljava/lang/String;)V" } : Jvm.MethodName) jdk_67_method_3_code (2 : Nat) (Option.none : Option Jvm.ClassFile.FieldType), Jvm.Cond.code ({ cls := "java/lang/AbstractStringBuilder", name := "<init>", desc := "(Ljava/lang/String;)V" } : Jvm.MethodName) jdk_68_method_3_code (5 : Nat) (Option.none : Option Jvm.ClassFile.FieldType), Jvm.Cond.code ({ cls := "java/lang/String", name := "length", desc := "()I" } : Jvm.MethodName) jdk_42_method_54_code (1 : Nat) (Option.some Jvm.ClassFile.FieldType.int), Jvm.Cond.code ({ cls := "java/lang/String", name := "coder", desc := "()B" } : Jvm.MethodName) jdk_42_method_152_code (1 : Nat) (Option.some Jvm.ClassFile.FieldType.byte), Jvm.Cond.code ({ cls := "java/lang/StringBuilder", name := "append", desc := "(Ljava/lang/String;)Ljava/lang/AbstractStringBuilder;" } : Jvm.MethodName) jdk_67_method_80_code (2 : Nat) (Option.some (Jvm.ClassFile.FieldType.object "java/lang/AbstractStringBuilder")), Jvm.Cond.code ({ cls := "java/lang/StringBuilder", name := "append", desc := "(Ljava/lang/String;)Ljava/lang/StringBuilder;" } : Jvm.MethodName) jdk_67_method_7_code (2 : Nat) (Option.some (Jvm.ClassFile.FieldType.object "java/lang/StringBuilder")), Jvm.Cond.code ({ cls := "java/lang/AbstractStringBuilder", name := "append", desc := "(Ljava/lang/String;)Ljava/lang/AbstractStringBuilder;" } : Jvm.MethodName) jdk_68_method_22_code (3 : Nat) (Option.some (Jvm.ClassFile.FieldType.object "java/lang/AbstractStringBuilder")), Jvm.Cond.code ({ cls := "java/lang/AbstractStringBuilder", name := "ensureCapacityInternal", desc := "(I)V" } : Jvm.MethodName) jdk_68_method_9_code (3 : Nat) (Option.none : Option Jvm.ClassFile.FieldType), Jvm.Cond.code ({ cls := "java/lang/AbstractStringBuilder", name := "putStringAt", desc := "(ILjava/lang/String;)V" } : Jvm.MethodName) jdk_68_method_73_code (3 : Nat) (Option.none : Option Jvm.ClassFile.FieldType), Jvm.Cond.code ({ cls := "java/lang/AbstractStringBuilder", name := "inflateIfNeededFor", desc := "(Ljava/lang/String;)V" } : Jvm.MethodName) jdk_68_method_71_code (2 : Nat) (Option.none : Option Jvm.ClassFile.FieldType), Jvm.Cond.code ({ cls := "java/lang/String", name := "getBytes", desc := "([BIB)V" } : Jvm.MethodName) jdk_42_method_147_code (4 : Nat) (Option.none : Option Jvm.ClassFile.FieldType), Jvm.Cond.code ({ cls := "java/util/ArrayDeque", name := "<init>", desc := "()V" } : Jvm.MethodName) jdk_21_method_3_code (1 : Nat) (Option.none : Option Jvm.ClassFile.FieldType), Jvm.Cond.code ({ cls := "java/util/AbstractCollection", name := "<init>", desc := "()V" } : Jvm.MethodName) jdk_22_method_1_code (1 : Nat) (Option.none : Option Jvm.ClassFile.FieldType), Jvm.Cond.code ({ cls := "org/athenaeum/xml/XmlWriter", name := "start", desc := "(Ljava/lang/String;)Lorg/athenaeum/xml/XmlWriter;" } : Jvm.MethodName) prog_100_method_2_code (2 : Nat) (Option.some (Jvm.ClassFile.FieldType.object "org/athenaeum/xml/XmlWriter")), Jvm.Cond.code ({ cls := "org/athenaeum/xml/XmlWriter", name := "closeStartTag", desc := "()V" } : Jvm.MethodName) prog_100_method_8_code (1 : Nat) (Option.none : Option Jvm.ClassFile.FieldType), Jvm.Cond.code ({ cls := "java/lang/StringBuilder", name := "append", desc := "(C)Ljava/lang/StringBuilder;" } : Jvm.MethodName) jdk_67_method_14_code (2 : Nat) (Option.some (Jvm.ClassFile.FieldType.object "java/lang/StringBuilder")), Jvm.Cond.code ({ cls := "java/lang/AbstractStringBuilder", name := "append", desc := "(C)Ljava/lang/AbstractStringBuilder;" } : Jvm.MethodName) jdk_68_method_31_code (2 : Nat) (Option.some (Jvm.ClassFile.FieldType.object "java/lang/AbstractStringBuilder")), Jvm.Cond.code ({ cls := "java/lang/AbstractStringBuilder", name := "isLatin1", desc := "()Z" } : Jvm.MethodName) jdk_68_method_68_code (1 : Nat) (Option.some Jvm.ClassFile.FieldType.boolean), Jvm.Cond.code ({ cls := "java/lang/StringLatin1", name := "canEncode", desc := "(C)Z" } : Jvm.MethodName) jdk_43_method_3_code (1 : Nat) (Option.some Jvm.ClassFile.FieldType.boolean), Jvm.Cond.code ({ cls := "java/util/ArrayDeque", name := "push", desc := "(Ljava/lang/Object;)V" } : Jvm.MethodName) jdk_21_method_34_code (2 : Nat) (Option.none : Option Jvm.ClassFile.FieldType), Jvm.Cond.code ({ cls := "java/util/ArrayDeque", name := "addFirst", desc := "(Ljava/lang/Object;)V" } : Jvm.MethodName) jdk_21_method_12_code (3 : Nat) (Option.none : Option Jvm.ClassFile.FieldType), Jvm.Cond.code ({ cls := "java/util/ArrayDeque", name := "dec", desc := "(II)I" } : Jvm.MethodName) jdk_21_method_7_code (2 : Nat) (Option.some Jvm.ClassFile.FieldType.int), Jvm.Cond.code ({ cls := "org/athenaeum/xml/XmlWriter", name := "end", desc := "()Lorg/athenaeum/xml/XmlWriter;" } : Jvm.MethodName) prog_100_method_5_code (2 : Nat) (Option.some (Jvm.ClassFile.FieldType.object "org/athenaeum/xml/XmlWriter")), Jvm.Cond.code ({ cls := "java/util/ArrayDeque", name := "pop", desc := "()Ljava/lang/Object;" } : Jvm.MethodName) jdk_21_method_35_code (1 : Nat) (Option.some (Jvm.ClassFile.FieldType.object "java/lang/Object")), Jvm.Cond.code ({ cls := "java/util/ArrayDeque", name := "removeFirst", desc := "()Ljava/lang/Object;" } : Jvm.MethodName) jdk_21_method_18_code (2 : Nat) (Option.some (Jvm.ClassFile.FieldType.object "java/lang/Object")), Jvm.Cond.code ({ cls := "java/util/ArrayDeque", name := "pollFirst", desc := "()Ljava/lang/Object;" } : Jvm.MethodName) jdk_21_method_20_code (4 : Nat) (Option.some (Jvm.ClassFile.FieldType.object "java/lang/Object")), Jvm.Cond.code ({ cls := "java/util/ArrayDeque", name := "elementAt", desc := "([Ljava/lang/Object;I)Ljava/lang/Object;" } : Jvm.MethodName) jdk_21_method_10_code (2 : Nat) (Option.some (Jvm.ClassFile.FieldType.object "java/lang/Object")), Jvm.Cond.code ({ cls := "java/util/ArrayDeque", name := "inc", desc := "(II)I" } : Jvm.MethodName) jdk_21_method_6_code (2 : Nat) (Option.some Jvm.ClassFile.FieldType.int), Jvm.Cond.code ({ cls := "org/athenaeum/xml/XmlWriter", name := "finish", desc := "()Ljava/lang/String;" } : Jvm.MethodName) prog_100_method_7_code (1 : Nat) (Option.some (Jvm.ClassFile.FieldType.object "java/lang/String")), Jvm.Cond.code ({ cls := "java/util/ArrayDeque", name := "isEmpty", desc := "()Z" } : Jvm.MethodName) jdk_21_method_38_code (1 : Nat) (Option.some Jvm.ClassFile.FieldType.boolean), Jvm.Cond.code ({ cls := "java/lang/StringBuilder", name := "toString", desc := "()Ljava/lang/String;" } : Jvm.MethodName) jdk_67_method_42_code (1 : Nat) (Option.some (Jvm.ClassFile.FieldType.object "java/lang/String")), Jvm.Cond.code ({ cls := "java/lang/String", name := "<init>", desc := "(Ljava/lang/StringBuilder;)V" } : Jvm.MethodName) jdk_42_method_53_code (2 : Nat) (Option.none : Option Jvm.ClassFile.FieldType), Jvm.Cond.code ({ cls := "java/lang/String", name := "<init>", desc := "(Ljava/lang/AbstractStringBuilder;Ljava/lang/Void;)V" } : Jvm.MethodName) jdk_42_method_150_code (5 : Nat) (Option.none : Option Jvm.ClassFile.FieldType), Jvm.Cond.code ({ cls := "java/lang/AbstractStringBuilder", name := "getValue", desc := "()[B" } : Jvm.MethodName) jdk_68_method_64_code (1 : Nat) (Option.some (Jvm.ClassFile.FieldType.array Jvm.ClassFile.FieldType.byte)), Jvm.Cond.code ({ cls := "java/lang/StringBuilder", name := "length", desc := "()I" } : Jvm.MethodName) jdk_67_method_93_code (1 : Nat) (Option.some Jvm.ClassFile.FieldType.int), Jvm.Cond.code ({ cls := "java/lang/AbstractStringBuilder", name := "length", desc := "()I" } : Jvm.MethodName) jdk_68_method_6_code (1 : Nat) (Option.some Jvm.ClassFile.FieldType.int), Jvm.Cond.code ({ cls := "java/util/Arrays", name := "copyOfRange", desc := "([BII)[B" } : Jvm.MethodName) jdk_65_method_132_code (3 : Nat) (Option.some (Jvm.ClassFile.FieldType.array Jvm.ClassFile.FieldType.byte)), Jvm.Cond.code ({ cls := "java/util/Arrays", name := "copyOfRangeByte", desc := "([BII)[B" } : Jvm.MethodName) jdk_65_method_133_code (5 : Nat) (Option.some (Jvm.ClassFile.FieldType.array Jvm.ClassFile.FieldType.byte)), Jvm.Cond.code ({ cls := "java/util/Arrays", name := "checkLength", desc := "(II)V" } : Jvm.MethodName) jdk_65_method_131_code (2 : Nat) (Option.none : Option Jvm.ClassFile.FieldType), Jvm.Cond.code ({ cls := "java/lang/Math", name := "min", desc := "(II)I" } : Jvm.MethodName) jdk_29_method_69_code (2 : Nat) (Option.some Jvm.ClassFile.FieldType.int), Jvm.Cond.code ({ cls := "org/athenaeum/xml/XmlWriterEndPinLaw", name := "at", desc := "(Ljava/lang/String;[CII)Z" } : Jvm.MethodName) method_2_code (4 : Nat) (Option.some Jvm.ClassFile.FieldType.boolean), Jvm.Cond.code ({ cls := "java/lang/String", name := "charAt", desc := "(I)C" } : Jvm.MethodName) jdk_42_method_56_code (2 : Nat) (Option.some Jvm.ClassFile.FieldType.char), Jvm.Cond.code ({ cls := "java/lang/String", name := "isLatin1", desc := "()Z" } : Jvm.MethodName) jdk_42_method_154_code (1 : Nat) (Option.some Jvm.ClassFile.FieldType.boolean), Jvm.Cond.code ({ cls := "java/lang/StringLatin1", name := "charAt", desc := "([BI)C" } : Jvm.MethodName) jdk_43_method_2_code (2 : Nat) (Option.some Jvm.ClassFile.FieldType.char), Jvm.Cond.code ({ cls := "java/lang/String", name := "checkIndex", desc := "(II)V" } : Jvm.MethodName) jdk_42_method_155_code (2 : Nat) (Option.none : Option Jvm.ClassFile.FieldType), Jvm.Cond.code ({ cls := "jdk/internal/util/Preconditions", name := "checkIndex", desc := "(IILjava/util/function/BiFunction;)I" } : Jvm.MethodName) jdk_41_method_11_code (3 : Nat) (Option.some Jvm.ClassFile.FieldType.int), Jvm.Cond.code ({ cls := "org/athenaeum/xml/XmlWriter", name := "text", desc := "(Ljava/lang/String;)Lorg/athenaeum/xml/XmlWriter;" } : Jvm.MethodName) prog_100_method_4_code (2 : Nat) (Option.some (Jvm.ClassFile.FieldType.object "org/athenaeum/xml/XmlWriter")), Jvm.Cond.code ({ cls := "org/athenaeum/xml/XmlWriter", name := "escape", desc := "(Ljava/lang/String;Z)V" } : Jvm.MethodName) prog_100_method_9_code (5 : Nat) (Option.none : Option Jvm.ClassFile.FieldType), Jvm.Cond.code ({ cls := "java/lang/AbstractStringBuilder", name := "newCapacity", desc := "(I)I" } : Jvm.MethodName) jdk_68_method_10_code (6 : Nat) (Option.some Jvm.ClassFile.FieldType.int), Jvm.Cond.code ({ cls := "jdk/internal/util/ArraysSupport", name := "newLength", desc := "(III)I" } : Jvm.MethodName) jdk_48_method_27_code (4 : Nat) (Option.some Jvm.ClassFile.FieldType.int), Jvm.Cond.code ({ cls := "java/lang/Math", name := "max", desc := "(II)I" } : Jvm.MethodName) jdk_29_method_65_code (2 : Nat) (Option.some Jvm.ClassFile.FieldType.int), Jvm.Cond.code ({ cls := "java/util/Arrays", name := "copyOf", desc := "([BI)[B" } : Jvm.MethodName) jdk_65_method_121_code (3 : Nat) (Option.some (Jvm.ClassFile.FieldType.array Jvm.ClassFile.FieldType.byte))]
set_option maxRecDepth 65536 in
theorem codes_eq : words1.filter isCode = codes1 := rfl
theorem w_codes : ∀ c ∈ words1.filter isCode, c.before args0 about1 = true := by
  rw [codes_eq]
  intro c hc
  simp only [codes1, List.mem_cons, List.not_mem_nil, or_false] at hc
  rcases hc with rfl | rfl | rfl | rfl | rfl | rfl | rfl | rfl | rfl | rfl | rfl | rfl | rfl | rfl | rfl | rfl | rfl | rfl | rfl | rfl | rfl | rfl | rfl | rfl | rfl | rfl | rfl | rfl | rfl | rfl | rfl | rfl | rfl | rfl | rfl | rfl | rfl | rfl | rfl | rfl | rfl | rfl | rfl | rfl | rfl | rfl | rfl | rfl | rfl | rfl | rfl | rfl | rfl | rfl | rfl | rfl | rfl | rfl | rfl | rfl
  · exact w_c0
  · exact w_c1
  · exact w_c2
  · exact w_c3
  · exact w_c4
  · exact w_c5
  · exact w_c6
  · exact w_c7
  · exact w_c8
  · exact w_c9
  · exact w_c10
  · exact w_c11
  · exact w_c12
  · exact w_c13
  · exact w_c14
  · exact w_c15
  · exact w_c16
  · exact w_c17
  · exact w_c18
  · exact w_c19
  · exact w_c20
  · exact w_c21
  · exact w_c22
  · exact w_c23
  · exact w_c24
  · exact w_c25
  · exact w_c26
  · exact w_c27
  · exact w_c28
  · exact w_c29
  · exact w_c30
  · exact w_c31
  · exact w_c32
  · exact w_c33
  · exact w_c34
  · exact w_c35
  · exact w_c36
  · exact w_c37
  · exact w_c38
  · exact w_c39
  · exact w_c40
  · exact w_c41
  · exact w_c42
  · exact w_c43
  · exact w_c44
  · exact w_c45
  · exact w_c46
  · exact w_c47
  · exact w_c48
  · exact w_c49
  · exact w_c50
  · exact w_c51
  · exact w_c52
  · exact w_c53
  · exact w_c54
  · exact w_c55
  · exact w_c56
  · exact w_c57
  · exact w_c58
  · exact w_c59
set_option maxRecDepth 65536 in
theorem w_t1 : (words1.take 24).all (fun c => isCode c || c.before args0 about1) = true := by decide +kernel
set_option maxRecDepth 65536 in
theorem w_t2 : ((words1.drop 24).take 24).all (fun c => isCode c || c.before args0 about1) = true := by decide +kernel
set_option maxRecDepth 65536 in
theorem w_t3 : (((words1.drop 24).drop 24).take 24).all (fun c => isCode c || c.before args0 about1) = true := by decide +kernel
set_option maxRecDepth 65536 in
theorem w_t4 : ((((words1.drop 24).drop 24).drop 24).take 24).all (fun c => isCode c || c.before args0 about1) = true := by decide +kernel
set_option maxRecDepth 65536 in
theorem w_t5 : (((((words1.drop 24).drop 24).drop 24).drop 24).take 24).all (fun c => isCode c || c.before args0 about1) = true := by decide +kernel
set_option maxRecDepth 65536 in
theorem w_t6 : ((((((words1.drop 24).drop 24).drop 24).drop 24).drop 24).take 24).all (fun c => isCode c || c.before args0 about1) = true := by decide +kernel
set_option maxRecDepth 65536 in
theorem w_t7 : (((((((words1.drop 24).drop 24).drop 24).drop 24).drop 24).drop 24).take 24).all (fun c => isCode c || c.before args0 about1) = true := by decide +kernel
set_option maxRecDepth 65536 in
theorem w_t8 : ((((((((words1.drop 24).drop 24).drop 24).drop 24).drop 24).drop 24).drop 24).take 24).all (fun c => isCode c || c.before args0 about1) = true := by decide +kernel
set_option maxRecDepth 65536 in
theorem w_t9 : (((((((((words1.drop 24).drop 24).drop 24).drop 24).drop 24).drop 24).drop 24).drop 24).take 24).all (fun c => isCode c || c.before args0 about1) = true := by decide +kernel
set_option maxRecDepth 65536 in
theorem w_t10 : ((((((((((words1.drop 24).drop 24).drop 24).drop 24).drop 24).drop 24).drop 24).drop 24).drop 24).take 24).all (fun c => isCode c || c.before args0 about1) = true := by decide +kernel
set_option maxRecDepth 65536 in
theorem w_t11 : (((((((((((words1.drop 24).drop 24).drop 24).drop 24).drop 24).drop 24).drop 24).drop 24).drop 24).drop 24).take 24).all (fun c => isCode c || c.before args0 about1) = true := by decide +kernel
set_option maxRecDepth 65536 in
theorem w_t12 : ((((((((((((words1.drop 24).drop 24).drop 24).drop 24).drop 24).drop 24).drop 24).drop 24).drop 24).drop 24).drop 24).take 24).all (fun c => isCode c || c.before args0 about1) = true := by decide +kernel
set_option maxRecDepth 65536 in
theorem w_t13 : (((((((((((((words1.drop 24).drop 24).drop 24).drop 24).drop 24).drop 24).drop 24).drop 24).drop 24).drop 24).drop 24).drop 24).take 24).all (fun c => isCode c || c.before args0 about1) = true := by decide +kernel
set_option maxRecDepth 65536 in
theorem w_t14 : (((((((((((((words1.drop 24).drop 24).drop 24).drop 24).drop 24).drop 24).drop 24).drop 24).drop 24).drop 24).drop 24).drop 24).drop 24).all (fun c => isCode c || c.before args0 about1) = true := by decide +kernel
theorem w_tables : (allAtoms (Jvm.Cond.code x code maxLocals ret :: tables_1)).before args0 about1 = true := by
  rw [allAtoms_all]
  show words1.all (fun c => c.before args0 about1) = true
  refine all_split ?_ w_codes
  rw [← List.take_append_drop 24 words1, List.all_append, w_t1, ← List.take_append_drop 24 (words1.drop 24), List.all_append, w_t2, ← List.take_append_drop 24 ((words1.drop 24).drop 24), List.all_append, w_t3, ← List.take_append_drop 24 (((words1.drop 24).drop 24).drop 24), List.all_append, w_t4, ← List.take_append_drop 24 ((((words1.drop 24).drop 24).drop 24).drop 24), List.all_append, w_t5, ← List.take_append_drop 24 (((((words1.drop 24).drop 24).drop 24).drop 24).drop 24), List.all_append, w_t6, ← List.take_append_drop 24 ((((((words1.drop 24).drop 24).drop 24).drop 24).drop 24).drop 24), List.all_append, w_t7, ← List.take_append_drop 24 (((((((words1.drop 24).drop 24).drop 24).drop 24).drop 24).drop 24).drop 24), List.all_append, w_t8, ← List.take_append_drop 24 ((((((((words1.drop 24).drop 24).drop 24).drop 24).drop 24).drop 24).drop 24).drop 24), List.all_append, w_t9, ← List.take_append_drop 24 (((((((((words1.drop 24).drop 24).drop 24).drop 24).drop 24).drop 24).drop 24).drop 24).drop 24), List.all_append, w_t10, ← List.take_append_drop 24 ((((((((((words1.drop 24).drop 24).drop 24).drop 24).drop 24).drop 24).drop 24).drop 24).drop 24).drop 24), List.all_append, w_t11, ← List.take_append_drop 24 (((((((((((words1.drop 24).drop 24).drop 24).drop 24).drop 24).drop 24).drop 24).drop 24).drop 24).drop 24).drop 24), List.all_append, w_t12, ← List.take_append_drop 24 ((((((((((((words1.drop 24).drop 24).drop 24).drop 24).drop 24).drop 24).drop 24).drop 24).drop 24).drop 24).drop 24).drop 24), List.all_append, w_t13, w_t14]
  rfl
set_option maxRecDepth 65536 in
theorem w_rest : rest_1_c.before args0 about1 = true := by decide +kernel
set_option maxRecDepth 65536 in
theorem w_case : (Jvm.Cond.and given_1 narrow_1).before args0 about1 = true := by decide +kernel
set_option maxRecDepth 65536 in
theorem w_consts : constsHeld consts_1 about1 := Jvm.Lit.constsHeldB_iff.mp (by decide +kernel)
theorem w_applies : (headSpec (Jvm.Cond.code x code maxLocals ret :: tables_1) room_1).applies x e0.platform about1 = true :=
  (Spec.applies_iff w_frames).mpr ⟨w_running, w_runnable, w_alone, w_named, w_hears, w_ripe, w_room, w_tables⟩
theorem atStart : AtStart classFile x code maxLocals ret World_1 tables_1 room_1 Calls_1 rest_1 Pre_1 launch0 p0 e0 about1 theMethod args0 below0 :=
  ⟨lists_1, trivial, launch0.admits_env _ _ _, launch0.least_env, fairChoices_fair.cas, fairChoices_fair.clock, w_frames, w_args, w_heap, w_applies, ⟨w_consts, trivial⟩, w_rest, w_case⟩
end start1
theorem witness_1 : WitnessClaimed_1 := ⟨start1.p0, start1.e0, start1.about1, start1.theMethod, start1.args0, start1.below0, start1.atStart⟩
end Jvm.Pilot.@@N@@
