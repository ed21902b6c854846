import JvmDerived
import JvmDerived.Pilot.@@N@@Statement
import JvmDerived.Pilot.@@N@@Code
set_option linter.unusedVariables false
set_option linter.unusedSimpArgs false
namespace Jvm.RoadKit
open Sem ClassFile Op Lib Jvm.Stand Jvm.Free Jvm.LawKit
section New
variable {p : Program} {l : Launch} {e : Env} {R : Room} {s : State} {m : MethodId} {args : Array Value} {below : List Frame} {meth : Method} {c : Code} {T : State} {locs : List Loc} {cells slots : Nat}
theorem retI (X : Stand p l e R s m args below meth c T locs cells slots) (hx : p.tables.exec = Jvm.exec) {pc : Nat} {Ls : Array Slot} {z : Int32} {rest : List Value} (hret : meth.sig.returnType = some .int) (hd : decode c.code pc = .ok (.ireturn, 1)) {fs : List Frame}
    (hl : ∀ (f : JFrame) (acts : List Action), f.method = m → f.locked = none → f.entered = [] → (doReturn e (T.setTop f) acts (some (.int z))).1 = T.setFrames fs) : Steps p.tables e below (T.setTop (mkF m pc Ls (.int z :: rest))) (T.setFrames fs) := by
  have hm' : T.vm.method? m = some meth := X.method'
  have hn : narrow .int (.int z) = .int z := rfl
  show Steps p.tables e below (T.setTop { method := m, pc := pc, locals := Ls, stack := _ :: rest, locked := none }) _
  jvm_step X.here [X.here.top, hx, hd, hm', hret, hn]
  first | (intro acts; rw [hl _ acts rfl rfl rfl]) | rw [hl _ _ rfl rfl rfl]
  exact Steps.refl _
end New
end Jvm.RoadKit
/- laws to paste: Road.backV, Road.chN, Road.codOf (cut by pick.py; bodies as the Statement names them) -/
namespace Jvm.Pilot.@@N@@
namespace StrChars
open Jvm Sem ClassFile Op Lib Jvm.Stand Jvm.Free.XT Jvm.Free.ALB Jvm.Free.JM Jvm.Free
open Jvm.Lib.Cold (StaticIs)
/-- a char array whose places are chars -/
def Ch (a : Addr) (A : Cell) (U : State) : Prop := Arr .char a A U ∧ Typed .char A
theorem Ch.mv {a : Addr} {A : Cell} {U U' : State} (h : Ch a A U) (hal : U.vm.Alike U'.vm) (hh : U'.heap = U.heap) : Ch a A U' := ⟨h.1.mv hal hh, h.2⟩
theorem Ch.keep {a : Addr} {A : Cell} {U U' : State} (h : Ch a A U) (hal : U.vm.Alike U'.vm) (hk : U'.heap[a]? = some A) : Ch a A U' := ⟨h.1.keep hal hk, h.2⟩
/-- what place i of a char[]'s cell holds -/
def cv (A : Cell) (i : Nat) : Int32 := match A.slots[i]? with | some (.int x) => x | _ => 0
theorem Ch.get {a : Addr} {A : Cell} {U : State} (h : Ch a A U) {i : Nat} (hi : i < A.slots.size) : A.slots[i]? = some (.int (cv A i)) := by
  have e := Array.getElem?_eq_getElem hi
  have f := h.2 i _ e
  unfold cv; rw [e]
  generalize A.slots[i] = v at f
  cases v <;> simp [fits] at f ⊢
/-- the byte that i2b leaves of a char -/
def lo8 (x : Int32) : Int32 := x.toInt8.toInt32
theorem fits_lo8 (y : Int32) : fits .byte (.int (lo8 y)) = true := by
  have h1 := y.toInt8.le_toInt
  have h2 := y.toInt8.toInt_lt
  simp only [lo8, fits, Bool.and_eq_true, decide_eq_true_eq, Int32.le_iff_toInt_le, Int8.toInt_toInt32, show (-128 : Int32).toInt = -128 from by decide, show (127 : Int32).toInt = 127 from by decide]
  omega
/-- A' is A but that each place j of lo .. hi - 1 holds f j -/
def Laid (A A' : Cell) (lo hi : Nat) (f : Nat → Value) : Prop := A'.cls = A.cls ∧ A'.vm = A.vm ∧ A'.slots.size = A.slots.size ∧ ∀ i, A'.slots[i]? = if lo ≤ i ∧ i < hi then some (f i) else A.slots[i]?
theorem Laid.zero (A : Cell) (lo : Nat) (f : Nat → Value) : Laid A A lo (lo + 0) f := ⟨rfl, rfl, rfl, fun i => by rw [if_neg (by omega)]⟩
theorem Laid.step {A Ak : Cell} {lo k : Nat} {f : Nat → Value} {v : Value} (h : Laid A Ak lo k f) (hlo : lo ≤ k) (hk : k < Ak.slots.size) (hv : v = f k) : Laid A (Ak.setSlot k v) lo (k + 1) f := by
  refine ⟨h.1, h.2.1, by simpa [Cell.setSlot] using h.2.2.1, fun i => ?_⟩
  by_cases e : k = i
  · subst e; rw [Cell.slots_setSlot_self v hk, if_pos (by omega), hv]
  · rw [Cell.slots_setSlot_ne v e, h.2.2.2 i]
    by_cases q : lo ≤ i ∧ i < k
    · rw [if_pos q, if_pos (by omega)]
    · rw [if_neg q, if_neg (by omega)]
def U16 : String := "java/lang/StringUTF16"
namespace Cmp5
def yN : MethodName := ⟨"java/lang/StringUTF16", "compress", "([CI[BII)I"⟩
abbrev yB : ByteArray := jdk_52_method_21_code
theorem d0 : decode yB 0 = .ok (.iconst 0, 1) := by decide +kernel
theorem d1 : decode yB 1 = .ok (.istore 5, 2) := by decide +kernel
theorem d3 : decode yB 3 = .ok (.iload 5, 2) := by decide +kernel
theorem d5 : decode yB 5 = .ok (.iload 4, 2) := by decide +kernel
theorem d7 : decode yB 7 = .ok (.if_icmp (.ge) 37, 3) := by decide +kernel
theorem d10 : decode yB 10 = .ok (.aload_n 0, 1) := by decide +kernel
theorem d11 : decode yB 11 = .ok (.iload_n 1, 1) := by decide +kernel
theorem d12 : decode yB 12 = .ok (.caload, 1) := by decide +kernel
theorem d13 : decode yB 13 = .ok (.istore 6, 2) := by decide +kernel
theorem d15 : decode yB 15 = .ok (.iload 6, 2) := by decide +kernel
theorem d17 : decode yB 17 = .ok (.sipush 255, 3) := by decide +kernel
theorem d20 : decode yB 20 = .ok (.if_icmp (.le) 6, 3) := by decide +kernel
theorem d26 : decode yB 26 = .ok (.aload_n 2, 1) := by decide +kernel
theorem d27 : decode yB 27 = .ok (.iload_n 3, 1) := by decide +kernel
theorem d28 : decode yB 28 = .ok (.iload 6, 2) := by decide +kernel
theorem d30 : decode yB 30 = .ok (.i2b, 1) := by decide +kernel
theorem d31 : decode yB 31 = .ok (.bastore, 1) := by decide +kernel
theorem d32 : decode yB 32 = .ok (.iinc 1 1, 3) := by decide +kernel
theorem d35 : decode yB 35 = .ok (.iinc 3 1, 3) := by decide +kernel
theorem d38 : decode yB 38 = .ok (.iinc 5 1, 3) := by decide +kernel
theorem d41 : decode yB 41 = .ok (.goto (-38), 3) := by decide +kernel
theorem d44 : decode yB 44 = .ok (.iload 4, 2) := by decide +kernel
theorem d46 : decode yB 46 = .ok (.ireturn, 1) := by decide +kernel
def site : List Cond := []
def tab : Cond := tabOf yN yB 7 (some .int) site
def P (b : Addr) (A : Cell) (d : Addr) (B : Cell) (o q len : Nat) (args : Array Value) (s : State) : Prop := args = #[.ref b, .int (Int32.ofNat o), .ref d, .int (Int32.ofNat q), .int (Int32.ofNat len)] ∧ Ch b A s ∧ Arr .byte d B s ∧ b ≠ d ∧ o + len ≤ A.slots.size ∧ q + len ≤ B.slots.size ∧ ∀ i, i < len → ¬ 255 < cv A (o + i)
def E (b : Addr) (A : Cell) (d : Addr) (B : Cell) (o q len : Nat) (r : Option Value) (s u : State) : Prop := r = some (.int (Int32.ofNat len)) ∧ ∃ B', Put d B' s u ∧ Laid B B' q (q + len) (fun j => Value.int (lo8 (cv A (o + (j - q)))))
/-- no char of the range above 255: len; the places written hold each char's low byte -/
theorem law (l : Launch) (b : Addr) (A : Cell) (d : Addr) (B : Cell) (o q len : Nat) : Law l yN 5 5 0 0 yB 7 (some .int) site (P b A d B o q len) (E b A d B o q len) (copyLocs d q len) 0 0 := by
  refine Law.of_walk (plainFor_of_name (by decide +kernel)) (by decide +kernel) (by decide +kernel) (by decide) (fun _ _ h => by rw [h.1]; rfl) (fun _ U U' hal hh h => ⟨h.1, h.2.1.mv hal hh, h.2.2.1.mv hal hh, h.2.2.2⟩) (fun r U U' V V' h1 hal h2 h => ⟨h.1, h.2.elim fun B' q => ⟨B', q.1.mv h1 h2, q.2⟩⟩) ?_
  intro p e s m args below meth c s₁ X0 hexec hbytes hml hret hlk hnm hown hh0 W hP
  obtain ⟨rfl, hA, hB, hne, l1, l2, hp⟩ := hP
  have c1 : Steps p.tables e below (s₁.setTop (entryFrame m #[.ref b, .int (Int32.ofNat o), .ref d, .int (Int32.ofNat q), .int (Int32.ofNat len)] 7)) (s₁.setTop (mkF m 0 #[.val (.ref b), .val (.int (Int32.ofNat o)), .val (.ref d), .val (.int (Int32.ofNat q)), .val (.int (Int32.ofNat len)), .unset, .unset] [])) := entry rfl
  have hA0 := hA.1.mv X0.warmed.alike hh0
  have hB0 := hB.mv X0.warmed.alike hh0
  have a31 := hA.1.2.2.2
  have c2 : Steps p.tables e below (s₁.setTop (entryFrame m #[.ref b, .int (Int32.ofNat o), .ref d, .int (Int32.ofNat q), .int (Int32.ofNat len)] 7)) (s₁.setTop (mkF m 3 #[.val (.ref b), .val (.int (Int32.ofNat o)), .val (.ref d), .val (.int (Int32.ofNat q)), .val (.int (Int32.ofNat len)), .val (.int 0), .unset] [])) := c1.trans (by
    refine iconstV X0.here hexec rfl 0 (hb hbytes d0) (by decide) ?_
    refine XS.istore X0.here hexec rfl (hb hbytes d1) rfl rfl ?_
    exact Steps.refl _)
  have loop : ∀ (r i : Nat), i + r = len → ∀ (z : Slot), (z = .unset ∨ ∃ w, z = .val w ∧ w.category = 1) → ∀ (Tl : State) (Bk : Cell), Stand p l e { frames := 0, locals := 0, cells := 0, slots := 0 } s m #[.ref b, .int (Int32.ofNat o), .ref d, .int (Int32.ofNat q), .int (Int32.ofNat len)] below meth c Tl ([] ++ copyLocs d q i) 0 0 → Put d Bk s₁ Tl → Laid B Bk q (q + i) (fun j => Value.int (lo8 (cv A (o + (j - q))))) →
      Steps p.tables e below (s₁.setTop (entryFrame m #[.ref b, .int (Int32.ofNat o), .ref d, .int (Int32.ofNat q), .int (Int32.ofNat len)] 7)) (Tl.setTop (mkF m 3 #[.val (.ref b), .val (.int (Int32.ofNat (o + i))), .val (.ref d), .val (.int (Int32.ofNat (q + i))), .val (.int (Int32.ofNat len)), .val (.int (Int32.ofNat i)), z] [])) → ∃ (T' : State) (B' : Cell) (z' : Slot), Stand p l e { frames := 0, locals := 0, cells := 0, slots := 0 } s m #[.ref b, .int (Int32.ofNat o), .ref d, .int (Int32.ofNat q), .int (Int32.ofNat len)] below meth c T' ([] ++ copyLocs d q len) 0 0 ∧ Put d B' s₁ T' ∧ Laid B B' q (q + len) (fun j => Value.int (lo8 (cv A (o + (j - q))))) ∧
      Steps p.tables e below (s₁.setTop (entryFrame m #[.ref b, .int (Int32.ofNat o), .ref d, .int (Int32.ofNat q), .int (Int32.ofNat len)] 7)) (T'.setTop (mkF m 3 #[.val (.ref b), .val (.int (Int32.ofNat (o + len))), .val (.ref d), .val (.int (Int32.ofNat (q + len))), .val (.int (Int32.ofNat len)), .val (.int (Int32.ofNat len)), z'] [])) := by
    intro r
    induction r with
    | zero =>
      intro i hi z hz Tl Bk Xl pl fl cl
      have hil : i = len := by omega
      rw [hil] at Xl fl cl
      exact ⟨Tl, Bk, z, Xl, pl, fl, cl⟩
    | succ r ih =>
      intro i hi z hz Tl Bk Xl pl fl cl
      have all := X0.warmed.alike.symm.trans Xl.warmed.alike
      have hAl := hA0.keep all (pl.other hne hA0.1)
      have hBk := hB0.like all pl.1 fl.1 fl.2.1 fl.2.2.1
      have hlt : q + i < Bk.slots.size := by rw [fl.2.2.1]; omega
      have c3 : Steps p.tables e below (s₁.setTop (entryFrame m #[.ref b, .int (Int32.ofNat o), .ref d, .int (Int32.ofNat q), .int (Int32.ofNat len)] 7)) (Tl.setTop (mkF m 12 #[.val (.ref b), .val (.int (Int32.ofNat (o + i))), .val (.ref d), .val (.int (Int32.ofNat (q + i))), .val (.int (Int32.ofNat len)), .val (.int (Int32.ofNat i)), z] [.int (Int32.ofNat (o + i)), .ref b])) := cl.trans (by
        refine XS.iload Xl.here hexec rfl (hb hbytes d3) rfl ?_
        refine XS.iload Xl.here hexec rfl (hb hbytes d5) rfl ?_
        refine XS.icmpNo Xl.here hexec rfl (hb hbytes d7) rfl (ii_ge_f (lt32 (by omega) (by omega))) ?_
        refine XS.aloadN Xl.here hexec rfl (hb hbytes d10) rfl rfl ?_
        refine XS.iloadN Xl.here hexec rfl (hb hbytes d11) rfl ?_
        exact Steps.refl _)
      have c4 : Steps p.tables e below (s₁.setTop (entryFrame m #[.ref b, .int (Int32.ofNat o), .ref d, .int (Int32.ofNat q), .int (Int32.ofNat len)] 7)) (Tl.setTop (mkF m 13 #[.val (.ref b), .val (.int (Int32.ofNat (o + i))), .val (.ref d), .val (.int (Int32.ofNat (q + i))), .val (.int (Int32.ofNat len)), .val (.int (Int32.ofNat i)), z] [.int (cv A (o + i))])) := c3.trans (by
        refine Xl.aget hexec hAl rfl (hA.get (i := o + i) (by omega)) rfl rfl (hb hbytes d12) ?_
        exact Steps.refl _)
      have c5 : Steps p.tables e below (s₁.setTop (entryFrame m #[.ref b, .int (Int32.ofNat o), .ref d, .int (Int32.ofNat q), .int (Int32.ofNat len)] 7)) (Tl.setTop (mkF m 15 #[.val (.ref b), .val (.int (Int32.ofNat (o + i))), .val (.ref d), .val (.int (Int32.ofNat (q + i))), .val (.int (Int32.ofNat len)), .val (.int (Int32.ofNat i)), .val (.int (cv A (o + i)))] [])) := c4.trans (by
        refine XS.istoreS Xl.here hexec rfl (hb hbytes d13) rfl rfl hz ?_
        exact Steps.refl _)
      have c6 : Steps p.tables e below (s₁.setTop (entryFrame m #[.ref b, .int (Int32.ofNat o), .ref d, .int (Int32.ofNat q), .int (Int32.ofNat len)] 7)) (Tl.setTop (mkF m 31 #[.val (.ref b), .val (.int (Int32.ofNat (o + i))), .val (.ref d), .val (.int (Int32.ofNat (q + i))), .val (.int (Int32.ofNat len)), .val (.int (Int32.ofNat i)), .val (.int (cv A (o + i)))] [.int (lo8 (cv A (o + i))), .int (Int32.ofNat (q + i)), .ref d])) := c5.trans (by
        refine XS.iload Xl.here hexec rfl (hb hbytes d15) rfl ?_
        refine sipushV Xl.here hexec rfl 255 (hb hbytes d17) (by decide) ?_
        refine XS.icmpYes Xl.here hexec rfl (pc0 := 20) rfl (hb hbytes d20) rfl (ii_le_t (hp i (by omega))) (by decide) rfl ?_
        refine XS.aloadN Xl.here hexec rfl (hb hbytes d26) rfl rfl ?_
        refine XS.iloadN Xl.here hexec rfl (hb hbytes d27) rfl ?_
        refine XS.iload Xl.here hexec rfl (hb hbytes d28) rfl ?_
        refine i2b Xl.here hexec rfl (hb hbytes d30) rfl ?_
        exact Steps.refl _)
      obtain ⟨T7, X7, p7, st7⟩ := Xl.aput hexec hBk rfl hlt rfl (fits_lo8 (cv A (o + i))) (g := (mkF m 31 #[.val (.ref b), .val (.int (Int32.ofNat (o + i))), .val (.ref d), .val (.int (Int32.ofNat (q + i))), .val (.int (Int32.ofNat len)), .val (.int (Int32.ofNat i)), .val (.int (cv A (o + i)))] [.int (lo8 (cv A (o + i))), .int (Int32.ofNat (q + i)), .ref d])) rfl (rest := []) rfl (hb hbytes d31)
      have c8 : Steps p.tables e below (s₁.setTop (entryFrame m #[.ref b, .int (Int32.ofNat o), .ref d, .int (Int32.ofNat q), .int (Int32.ofNat len)] 7)) (T7.setTop (mkF m 32 #[.val (.ref b), .val (.int (Int32.ofNat (o + i))), .val (.ref d), .val (.int (Int32.ofNat (q + i))), .val (.int (Int32.ofNat len)), .val (.int (Int32.ofNat i)), .val (.int (cv A (o + i)))] [])) := c6.trans (st7 _ (Steps.refl _))
      have c9 : Steps p.tables e below (s₁.setTop (entryFrame m #[.ref b, .int (Int32.ofNat o), .ref d, .int (Int32.ofNat q), .int (Int32.ofNat len)] 7)) (T7.setTop (mkF m 3 #[.val (.ref b), .val (.int (Int32.ofNat (o + i) + 1)), .val (.ref d), .val (.int (Int32.ofNat (q + i) + 1)), .val (.int (Int32.ofNat len)), .val (.int (Int32.ofNat i + 1)), .val (.int (cv A (o + i)))] [])) := c8.trans (by
        refine iincV X7.here hexec rfl 1 (hb hbytes d32) (by decide) rfl rfl ?_
        refine iincV X7.here hexec rfl 1 (hb hbytes d35) (by decide) rfl rfl ?_
        refine iincV X7.here hexec rfl 1 (hb hbytes d38) (by decide) rfl rfl ?_
        refine XS.goto X7.here hexec rfl (pc0 := 41) rfl (hb hbytes d41) (by decide) rfl ?_
        exact Steps.refl _)
      have c10 : Steps p.tables e below (s₁.setTop (entryFrame m #[.ref b, .int (Int32.ofNat o), .ref d, .int (Int32.ofNat q), .int (Int32.ofNat len)] 7)) (T7.setTop (mkF m 3 #[.val (.ref b), .val (.int (Int32.ofNat (o + (i + 1)))), .val (.ref d), .val (.int (Int32.ofNat (q + (i + 1)))), .val (.int (Int32.ofNat len)), .val (.int (Int32.ofNat (i + 1))), .val (.int (cv A (o + i)))] [])) := by
        have := c9
        rw [succ32, succ32, succ32] at this
        exact this
      exact ih (i + 1) (by omega) _ (Or.inr ⟨_, rfl, rfl⟩) T7 _ (by rw [copyLocs_step, ← List.append_assoc]; exact X7) (pl.trans p7) (fl.step (by omega) hlt (by simp)) c10
  obtain ⟨T9, B9, z9, X9, p9, f9, g9⟩ := loop len 0 (by omega) .unset (Or.inl rfl) s₁ B (by simpa [copyLocs] using X0) ⟨hB0.1, fun _ _ => rfl, rfl⟩ (Laid.zero _ _ _) c2
  have c11 : Steps p.tables e below (s₁.setTop (entryFrame m #[.ref b, .int (Int32.ofNat o), .ref d, .int (Int32.ofNat q), .int (Int32.ofNat len)] 7)) (T9.setTop (mkF m 46 #[.val (.ref b), .val (.int (Int32.ofNat (o + len))), .val (.ref d), .val (.int (Int32.ofNat (q + len))), .val (.int (Int32.ofNat len)), .val (.int (Int32.ofNat len)), z9] [.int (Int32.ofNat len)])) := g9.trans (by
    refine XS.iload X9.here hexec rfl (hb hbytes d3) rfl ?_
    refine XS.iload X9.here hexec rfl (hb hbytes d5) rfl ?_
    refine XS.icmpYes X9.here hexec rfl (pc0 := 7) rfl (hb hbytes d7) rfl (ii_ge_t (nlt32 (by omega) (Nat.le_refl _))) (by decide) rfl ?_
    refine XS.iload X9.here hexec rfl (hb hbytes d44) rfl ?_
    exact Steps.refl _)
  exact ⟨T9, some (.int (Int32.ofNat len)), _, _, _, X9, by simp, rfl, rfl, (fun h => by cases h), ⟨rfl, B9, p9.from hh0, f9⟩, fun fs hl => c11.trans (X9.ireturnOut hexec hret rfl (Or.inl rfl) (hb hbytes d46) hl)⟩
end Cmp5
namespace Cmp3
def yN : MethodName := ⟨"java/lang/StringUTF16", "compress", "([CII)[B"⟩
abbrev yB : ByteArray := jdk_52_method_16_code
theorem d0 : decode yB 0 = .ok (.iload_n 2, 1) := by decide +kernel
theorem d1 : decode yB 1 = .ok (.newarray .byte, 2) := by decide +kernel
theorem d3 : decode yB 3 = .ok (.astore_n 3, 1) := by decide +kernel
theorem d4 : decode yB 4 = .ok (.aload_n 0, 1) := by decide +kernel
theorem d5 : decode yB 5 = .ok (.iload_n 1, 1) := by decide +kernel
theorem d6 : decode yB 6 = .ok (.aload_n 3, 1) := by decide +kernel
theorem d7 : decode yB 7 = .ok (.iconst 0, 1) := by decide +kernel
theorem d8 : decode yB 8 = .ok (.iload_n 2, 1) := by decide +kernel
theorem d9 : decode yB 9 = .ok (.invokestatic 115, 3) := by decide +kernel
theorem d12 : decode yB 12 = .ok (.istore 4, 2) := by decide +kernel
theorem d14 : decode yB 14 = .ok (.iload 4, 2) := by decide +kernel
theorem d16 : decode yB 16 = .ok (.iload_n 2, 1) := by decide +kernel
theorem d17 : decode yB 17 = .ok (.if_icmp (.eq) 40, 3) := by decide +kernel
theorem d57 : decode yB 57 = .ok (.aload_n 3, 1) := by decide +kernel
theorem d58 : decode yB 58 = .ok (.areturn, 1) := by decide +kernel
def site : List Cond := [.arrayClass .byte, Cmp5.tab] ++ staticW U16 115 Cmp5.yN
def tab : Cond := tabOf yN yB 6 (some (.array .byte)) site
def P (b : Addr) (A : Cell) (o len : Nat) (args : Array Value) (s : State) : Prop := args = #[.ref b, .int (Int32.ofNat o), .int (Int32.ofNat len)] ∧ Ch b A s ∧ o + len ≤ A.slots.size ∧ len ≤ 536870912 ∧ ∀ i, i < len → ¬ 255 < cv A (o + i)
def E (b : Addr) (A : Cell) (o len : Nat) (r : Option Value) (s u : State) : Prop := NewArr .byte "[B" len (fun j => .int (lo8 (cv A (o + j)))) r s u ∧ u.heap.size = s.heap.size + 1
/-- no char of the range above 255: a new byte[] of their low bytes -/
theorem law (l : Launch) (b : Addr) (A : Cell) (o len : Nat) : Law l yN 3 3 1 18 yB 6 (some (.array .byte)) site (P b A o len) (E b A o len) [] 1 len := by
  refine Law.of_walk (plainFor_of_name (by decide +kernel)) (by decide +kernel) (by decide +kernel) (by decide) (fun _ _ h => by rw [h.1]; rfl) (fun _ U U' hal hh h => ⟨h.1, h.2.1.mv hal hh, h.2.2⟩) (fun r U U' V V' h1 hal h2 h => ⟨NewArr.mv r U U' V V' h1 hal h2 h.1, by rw [h1, h2]; exact h.2⟩) ?_
  intro p e s m args below meth c s₁ X0 hexec hbytes hml hret hlk hnm hown hh0 W hP
  obtain ⟨rfl, hA, l1, l2, hp⟩ := hP
  have a31 := hA.1.2.2.2
  have c1 : Steps p.tables e below (s₁.setTop (entryFrame m #[.ref b, .int (Int32.ofNat o), .int (Int32.ofNat len)] 6)) (s₁.setTop (mkF m 0 #[.val (.ref b), .val (.int (Int32.ofNat o)), .val (.int (Int32.ofNat len)), .unset, .unset, .unset] [])) := entry rfl
  have c2 : Steps p.tables e below (s₁.setTop (entryFrame m #[.ref b, .int (Int32.ofNat o), .int (Int32.ofNat len)] 6)) (s₁.setTop (mkF m 1 #[.val (.ref b), .val (.int (Int32.ofNat o)), .val (.int (Int32.ofNat len)), .unset, .unset, .unset] [.int (Int32.ofNat len)])) := c1.trans (by
    refine XS.iloadN X0.here hexec rfl (hb hbytes d0) rfl ?_
    exact Steps.refl _)
  obtain ⟨T3, B3, X3, ba3, bs3, bv3, bh3, bf3, st3⟩ := X0.anew hexec (atype := .byte) (wk W (.arrayClass .byte)) rfl (by show len * 1 ≤ _; omega) (by omega) (g := (mkF m 1 #[.val (.ref b), .val (.int (Int32.ofNat o)), .val (.int (Int32.ofNat len)), .unset, .unset, .unset] [.int (Int32.ofNat len)])) rfl (hb hbytes d1) (rest := []) rfl (Nat.le_refl _) (by show 0 + len ≤ len; omega)
  rw [hh0] at ba3 st3
  have kp3 : XT.Kept s T3 := (XT.Kept.of_eq hh0).push bh3
  have hA3 := hA.keep X3.warmed.alike (kp3 _ _ hA.1.1)
  have hne : b ≠ s.heap.size := hA.1.ne
  have c4 : Steps p.tables e below (s₁.setTop (entryFrame m #[.ref b, .int (Int32.ofNat o), .int (Int32.ofNat len)] 6)) (T3.setTop (mkF m 3 #[.val (.ref b), .val (.int (Int32.ofNat o)), .val (.int (Int32.ofNat len)), .unset, .unset, .unset] [.ref s.heap.size])) := c2.trans (st3 _ (Steps.refl _))
  have c5 : Steps p.tables e below (s₁.setTop (entryFrame m #[.ref b, .int (Int32.ofNat o), .int (Int32.ofNat len)] 6)) (T3.setTop (mkF m 9 #[.val (.ref b), .val (.int (Int32.ofNat o)), .val (.int (Int32.ofNat len)), .val (.ref s.heap.size), .unset, .unset] [.int (Int32.ofNat len), .int 0, .ref s.heap.size, .int (Int32.ofNat o), .ref b])) := c4.trans (by
    refine XS.astoreN X3.here hexec rfl (hb hbytes d3) rfl rfl rfl ?_
    refine XS.aloadN X3.here hexec rfl (hb hbytes d4) rfl rfl ?_
    refine XS.iloadN X3.here hexec rfl (hb hbytes d5) rfl ?_
    refine XS.aloadN X3.here hexec rfl (hb hbytes d6) rfl rfl ?_
    refine iconstV X3.here hexec rfl 0 (hb hbytes d7) (by decide) ?_
    refine XS.iloadN X3.here hexec rfl (hb hbytes d8) rfl ?_
    exact Steps.refl _)
  obtain ⟨v6, T6, X6, E6, g6⟩ := X3.callS hexec (Cmp5.law l b A s.heap.size B3 o 0 len) hown (wks W (staticW U16 115 Cmp5.yN)) (wk W Cmp5.tab) (W := 0) (Nat.le_of_ble_eq_true rfl) (Nat.le_of_ble_eq_true rfl) (Nat.le_refl _) (by show 0 + len + 0 ≤ len; omega) (g := (mkF m 9 #[.val (.ref b), .val (.int (Int32.ofNat o)), .val (.int (Int32.ofNat len)), .val (.ref s.heap.size), .unset, .unset] [.int (Int32.ofNat len), .int (Int32.ofNat 0), .ref s.heap.size, .int (Int32.ofNat o), .ref b])) rfl (by rw [hml]; rfl) c5 (argsL := [.ref b, .int (Int32.ofNat o), .ref s.heap.size, .int (Int32.ofNat 0), .int (Int32.ofNat len)]) (rest := []) rfl rfl (by show 2 * 0 + 0 ≤ _; decide) (hb hbytes d9) (⟨rfl, hA3, ba3, hne, l1, by rw [bs3]; simp, hp⟩)
  obtain ⟨rfl, B6, p6, f6⟩ := E6
  have c7 : Steps p.tables e below (s₁.setTop (entryFrame m #[.ref b, .int (Int32.ofNat o), .int (Int32.ofNat len)] 6)) (T6.setTop (mkF m 12 #[.val (.ref b), .val (.int (Int32.ofNat o)), .val (.int (Int32.ofNat len)), .val (.ref s.heap.size), .unset, .unset] [.int (Int32.ofNat len)])) := g6
  have c8 : Steps p.tables e below (s₁.setTop (entryFrame m #[.ref b, .int (Int32.ofNat o), .int (Int32.ofNat len)] 6)) (T6.setTop (mkF m 58 #[.val (.ref b), .val (.int (Int32.ofNat o)), .val (.int (Int32.ofNat len)), .val (.ref s.heap.size), .val (.int (Int32.ofNat len)), .unset] [.ref s.heap.size])) := c7.trans (by
    refine XS.istore X6.here hexec rfl (hb hbytes d12) rfl rfl ?_
    refine XS.iload X6.here hexec rfl (hb hbytes d14) rfl ?_
    refine XS.iloadN X6.here hexec rfl (hb hbytes d16) rfl ?_
    refine XS.icmpYes X6.here hexec rfl (pc0 := 17) rfl (hb hbytes d17) rfl (ii_eq_t rfl) (by decide) rfl ?_
    refine XS.aloadN X6.here hexec rfl (hb hbytes d57) rfl rfl ?_
    exact Steps.refl _)
  have X8 := X6.wide (L' := []) (cells' := 1) (slots' := len) (fun x hx hlt => by
    simp only [List.nil_append, copyLocs, List.mem_map, List.mem_range] at hx
    obtain ⟨i, -, rfl⟩ := hx
    exact absurd hlt (Nat.lt_irrefl _)) (Nat.le_refl _) (by omega)
  exact ⟨T6, some (.ref s.heap.size), _, _, _, X8, rfl, rfl, rfl, (fun h => by cases h), ⟨⟨rfl, B6, ba3.like (X3.warmed.alike.symm.trans X6.warmed.alike) p6.1 f6.1 f6.2.1 f6.2.2.1, f6.2.1.trans bv3, by rw [X6.warmed.alike.findClass, f6.1]; exact bf3, by rw [f6.2.2.1, bs3]; simp, fun j hj => by rw [f6.2.2.2 j, if_pos (by omega)]; rfl, kp3.put p6 (Nat.le_refl _)⟩, by rw [p6.2.2, bh3, hh0]; simp⟩, fun fs hl => c8.trans (X8.areturnOut hexec rfl hret rfl (hb hbytes d58) hl)⟩
end Cmp3
namespace CodL
def yN : MethodName := ⟨"java/lang/StringUTF16", "coderFromArrayLen", "([BI)B"⟩
abbrev yB : ByteArray := jdk_52_method_15_code
theorem d0 : decode yB 0 = .ok (.iload_n 1, 1) := by decide +kernel
theorem d1 : decode yB 1 = .ok (.aload_n 0, 1) := by decide +kernel
theorem d2 : decode yB 2 = .ok (.arraylength, 1) := by decide +kernel
theorem d3 : decode yB 3 = .ok (.isub, 1) := by decide +kernel
theorem d4 : decode yB 4 = .ok (.bipush 31, 2) := by decide +kernel
theorem d6 : decode yB 6 = .ok (.iushr, 1) := by decide +kernel
theorem d7 : decode yB 7 = .ok (.i2b, 1) := by decide +kernel
theorem d8 : decode yB 8 = .ok (.ireturn, 1) := by decide +kernel
def site : List Cond := []
def tab : Cond := tabOf yN yB 2 (some .byte) site
def P (d : Addr) (B : Cell) (args : Array Value) (s : State) : Prop := args = #[.ref d, .int (Int32.ofNat B.slots.size)] ∧ Arr .byte d B s
def E (r : Option Value) (s u : State) : Prop := XT.PureE (some (.int 0)) r s u
/-- an array as long as the number of chars: LATIN1 -/
theorem law (l : Launch) (d : Addr) (B : Cell) : Law l yN 2 2 0 0 yB 2 (some .byte) site (P d B) E [] 0 0 := by
  refine Law.of_walk (plainFor_of_name (by decide +kernel)) (by decide +kernel) (by decide +kernel) (by decide) (fun _ _ h => by rw [h.1]; rfl) (fun _ U U' hal hh h => ⟨h.1, h.2.mv hal hh⟩) (fun r U U' V V' h1 hal h2 h => XT.PureE.mv r U U' V V' h1 hal h2 h) ?_
  intro p e s m args below meth c s₁ X0 hexec hbytes hml hret hlk hnm hown hh0 W hP
  obtain ⟨rfl, hB⟩ := hP
  have hB0 := hB.mv X0.warmed.alike hh0
  have c1 : Steps p.tables e below (s₁.setTop (entryFrame m #[.ref d, .int (Int32.ofNat B.slots.size)] 2)) (s₁.setTop (mkF m 0 #[.val (.ref d), .val (.int (Int32.ofNat B.slots.size))] [])) := entry rfl
  have c2 : Steps p.tables e below (s₁.setTop (entryFrame m #[.ref d, .int (Int32.ofNat B.slots.size)] 2)) (s₁.setTop (mkF m 2 #[.val (.ref d), .val (.int (Int32.ofNat B.slots.size))] [.ref d, .int (Int32.ofNat B.slots.size)])) := c1.trans (by
    refine XS.iloadN X0.here hexec rfl (hb hbytes d0) rfl ?_
    refine XS.aloadN X0.here hexec rfl (hb hbytes d1) rfl rfl ?_
    exact Steps.refl _)
  have c3 : Steps p.tables e below (s₁.setTop (entryFrame m #[.ref d, .int (Int32.ofNat B.slots.size)] 2)) (s₁.setTop (mkF m 8 #[.val (.ref d), .val (.int (Int32.ofNat B.slots.size))] [.int (lo8 (ushr (Int32.ofNat B.slots.size - Int32.ofNat B.slots.size) 31))])) := c2.trans (by
    refine X0.alen hexec hB0 rfl rfl (hb hbytes d2) ?_
    refine XS.isub X0.here hexec rfl (hb hbytes d3) rfl ?_
    refine bipushV X0.here hexec rfl 31 (hb hbytes d4) (by decide) ?_
    refine iushr X0.here hexec rfl (hb hbytes d6) rfl ?_
    refine i2b X0.here hexec rfl (hb hbytes d7) rfl ?_
    exact Steps.refl _)
  have e0 : lo8 (ushr (Int32.ofNat B.slots.size - Int32.ofNat B.slots.size) 31) = 0 := by rw [Int32.sub_self]; decide
  rw [e0] at c3
  exact ⟨s₁, some (.int 0), _, _, _, X0, rfl, rfl, rfl, (fun h => by cases h), ⟨rfl, hh0⟩, fun fs hl => c3.trans (X0.ireturnOut hexec hret rfl (Or.inr (Or.inr (Or.inl rfl))) (hb hbytes d8) hl)⟩
end CodL
/-- the String at a is Latin-1 over a new byte[] (the heap's one new cell): the low bytes of the len chars of A from o on; every cell but a is kept -/
def Got (a : Addr) (D : Cell) (fV fC : Field) (A : Cell) (o len : Nat) (r : Option Value) (s u : State) : Prop := r = none ∧ ∃ D' V : Cell, Blank "java/lang/String" a D' u ∧ Same D D' [fV.slot, fC.slot] ∧ D'.slots[fV.slot]? = some (.ref s.heap.size) ∧ D'.slots[fC.slot]? = some (.int 0) ∧ Arr .byte s.heap.size V u ∧ V.vm = .none ∧ u.vm.findClass "[B" = some V.cls ∧ V.slots.size = len ∧ (∀ j, j < len → V.slots[j]? = some (.int (lo8 (cv A (o + j))))) ∧ (∀ (y : Addr) (c : Cell), y ≠ a → s.heap[y]? = some c → u.heap[y]? = some c) ∧ u.heap.size = s.heap.size + 1
theorem Got.mv {a : Addr} {D A : Cell} {fV fC : Field} {o len : Nat} : ∀ r (U U' V V' : State), U'.heap = U.heap → V.vm.Alike V'.vm → V'.heap = V.heap → Got a D fV fC A o len r U V → Got a D fV fC A o len r U' V' :=
  fun r U U' V V' h1 hal h2 ⟨e0, D', X, a1, a2, a3, a4, a5, a6, a7, a8, a9, a10, a11⟩ => ⟨e0, D', X, a1.mv hal h2, a2, by rw [h1]; exact a3, a4, by rw [h1]; exact a5.mv hal h2, a6, by rw [hal.findClass]; exact a7, a8, a9, by rw [h1, h2]; exact a10, by rw [h1, h2]; exact a11⟩
namespace New4
def yN : MethodName := ⟨"java/lang/String", "<init>", "([CIILjava/lang/Void;)V"⟩
abbrev yB : ByteArray := jdk_42_method_149_code
theorem d0 : decode yB 0 = .ok (.aload_n 0, 1) := by decide +kernel
theorem d1 : decode yB 1 = .ok (.invokespecial 1, 3) := by decide +kernel
theorem d4 : decode yB 4 = .ok (.iload_n 3, 1) := by decide +kernel
theorem d5 : decode yB 5 = .ok (.ifCond (.ne) 22, 3) := by decide +kernel
theorem d27 : decode yB 27 = .ok (.getstatic 38, 3) := by decide +kernel
theorem d30 : decode yB 30 = .ok (.ifCond (.eq) 28, 3) := by decide +kernel
theorem d33 : decode yB 33 = .ok (.aload_n 1, 1) := by decide +kernel
theorem d34 : decode yB 34 = .ok (.iload_n 2, 1) := by decide +kernel
theorem d35 : decode yB 35 = .ok (.iload_n 3, 1) := by decide +kernel
theorem d36 : decode yB 36 = .ok (.invokestatic 177, 3) := by decide +kernel
theorem d39 : decode yB 39 = .ok (.astore 5, 2) := by decide +kernel
theorem d41 : decode yB 41 = .ok (.aload_n 0, 1) := by decide +kernel
theorem d42 : decode yB 42 = .ok (.aload 5, 2) := by decide +kernel
theorem d44 : decode yB 44 = .ok (.iload_n 3, 1) := by decide +kernel
theorem d45 : decode yB 45 = .ok (.invokestatic 47, 3) := by decide +kernel
theorem d48 : decode yB 48 = .ok (.putfield 15, 3) := by decide +kernel
theorem d51 : decode yB 51 = .ok (.aload_n 0, 1) := by decide +kernel
theorem d52 : decode yB 52 = .ok (.aload 5, 2) := by decide +kernel
theorem d54 : decode yB 54 = .ok (.putfield 9, 3) := by decide +kernel
theorem d57 : decode yB 57 = .ok (.return_, 1) := by decide +kernel
def site : List Cond := [.fieldLink "java/lang/String" 38 "java/lang/String" "COMPACT_STRINGS" "Z", Cmp3.tab, CodL.tab, .laysFinal "java/lang/String" "java/lang/String" "value" "[B", .fieldLink "java/lang/String" 9 "java/lang/String" "value" "[B", .laysFinal "java/lang/String" "java/lang/String" "coder" "B", .fieldLink "java/lang/String" 15 "java/lang/String" "coder" "B"] ++ objW "java/lang/String" 1 ++ staticW "java/lang/String" 177 Cmp3.yN ++ staticW "java/lang/String" 47 CodL.yN
def tab : Cond := tabOf yN yB 6 none site
def P (a : Addr) (D : Cell) (fV fC : Field) (b : Addr) (A : Cell) (z : Int32) (o len : Nat) (args : Array Value) (s : State) : Prop := args = #[.ref a, .ref b, .int (Int32.ofNat o), .int (Int32.ofNat len), .null] ∧ Blank "java/lang/String" a D s ∧ Found "java/lang/String" "value" "[B" fV s ∧ Found "java/lang/String" "coder" "B" fC s ∧ Ch b A s ∧ StaticIs s "java/lang/String" "COMPACT_STRINGS" "Z" (.int z) ∧ ¬ z = 0 ∧ 0 < len ∧ o + len ≤ A.slots.size ∧ len ≤ 536870912 ∧ ∀ i, i < len → ¬ 255 < cv A (o + i)
def E (a : Addr) (D : Cell) (fV fC : Field) (A : Cell) (o len : Nat) (r : Option Value) (s u : State) : Prop := Got a D fV fC A o len r s u
/-- len > 0, no char of the range above 255: a Latin-1 String of their low bytes -/
theorem law (l : Launch) (a : Addr) (D : Cell) (fV fC : Field) (b : Addr) (A : Cell) (z : Int32) (o len : Nat) : Law l yN 5 4 2 35 yB 6 none site (P a D fV fC b A z o len) (E a D fV fC A o len) [⟨a, fC.slot⟩, ⟨a, fV.slot⟩] 1 len := by
  refine Law.of_walk (plainFor_of_name (by decide +kernel)) (by decide +kernel) (by decide +kernel) (by decide) (fun _ _ h => by rw [h.1]; rfl) (fun _ U U' hal hh h => ⟨h.1, h.2.1.mv hal hh, h.2.2.1.al hal, h.2.2.2.1.al hal, h.2.2.2.2.1.mv hal hh, h.2.2.2.2.2.1.there hal hh, h.2.2.2.2.2.2⟩) (fun r U U' V V' h1 hal h2 h => Got.mv r U U' V V' h1 hal h2 h) ?_
  intro p e s m args below meth c s₁ X0 hexec hbytes hml hret hlk hnm hown hh0 W hP
  obtain ⟨rfl, hB, f1, f2, hA, s1, hz, l0, l1, l2, hp⟩ := hP
  have a31 := hA.1.2.2.2
  have c1 : Steps p.tables e below (s₁.setTop (entryFrame m #[.ref a, .ref b, .int (Int32.ofNat o), .int (Int32.ofNat len), .null] 6)) (s₁.setTop (mkF m 0 #[.val (.ref a), .val (.ref b), .val (.int (Int32.ofNat o)), .val (.int (Int32.ofNat len)), .val .null, .unset] [])) := entry rfl
  have c2 : Steps p.tables e below (s₁.setTop (entryFrame m #[.ref a, .ref b, .int (Int32.ofNat o), .int (Int32.ofNat len), .null] 6)) (s₁.setTop (mkF m 1 #[.val (.ref a), .val (.ref b), .val (.int (Int32.ofNat o)), .val (.int (Int32.ofNat len)), .val .null, .unset] [.ref a])) := c1.trans (by
    refine XS.aloadN X0.here hexec rfl (hb hbytes d0) rfl rfl ?_
    exact Steps.refl _)
  obtain ⟨T3, X3, q3, st3⟩ := X0.oinit hexec hown (wks W (objW "java/lang/String" 1)) (g := (mkF m 1 #[.val (.ref a), .val (.ref b), .val (.int (Int32.ofNat o)), .val (.int (Int32.ofNat len)), .val .null, .unset] [.ref a])) rfl (by rw [hml]; rfl) (rest := []) rfl (hb hbytes d1) (W := 0) (by show 2 * 0 + 0 ≤ _; decide) (Nat.le_of_ble_eq_true rfl) (Nat.le_of_ble_eq_true rfl)
  have hh3 := q3.trans hh0
  have c4 : Steps p.tables e below (s₁.setTop (entryFrame m #[.ref a, .ref b, .int (Int32.ofNat o), .int (Int32.ofNat len), .null] 6)) (T3.setTop (mkF m 27 #[.val (.ref a), .val (.ref b), .val (.int (Int32.ofNat o)), .val (.int (Int32.ofNat len)), .val .null, .unset] [])) := (c2.trans (st3 _ (Steps.refl _))).trans (by
    refine XS.iloadN X3.here hexec rfl (hb hbytes d4) rfl ?_
    refine XS.ifYes X3.here hexec rfl (pc0 := 5) rfl (hb hbytes d5) rfl (i0_ne_t (nz32 (by omega) l0)) (by decide) rfl ?_
    exact Steps.refl _)
  obtain ⟨T5, X5, q5, st5⟩ := X3.sget hexec hown (wk W (.fieldLink "java/lang/String" 38 "java/lang/String" "COMPACT_STRINGS" "Z")) s1 (fun _ _ h => by rw [hh3]; exact h) (g := (mkF m 27 #[.val (.ref a), .val (.ref b), .val (.int (Int32.ofNat o)), .val (.int (Int32.ofNat len)), .val .null, .unset] [])) rfl (hb hbytes d27)
  have hh5 := q5.trans hh3
  have c6 : Steps p.tables e below (s₁.setTop (entryFrame m #[.ref a, .ref b, .int (Int32.ofNat o), .int (Int32.ofNat len), .null] 6)) (T5.setTop (mkF m 30 #[.val (.ref a), .val (.ref b), .val (.int (Int32.ofNat o)), .val (.int (Int32.ofNat len)), .val .null, .unset] [.int z])) := c4.trans (st5 _ (Steps.refl _))
  have c7 : Steps p.tables e below (s₁.setTop (entryFrame m #[.ref a, .ref b, .int (Int32.ofNat o), .int (Int32.ofNat len), .null] 6)) (T5.setTop (mkF m 36 #[.val (.ref a), .val (.ref b), .val (.int (Int32.ofNat o)), .val (.int (Int32.ofNat len)), .val .null, .unset] [.int (Int32.ofNat len), .int (Int32.ofNat o), .ref b])) := c6.trans (by
    refine XS.ifNo X5.here hexec rfl (hb hbytes d30) rfl (i0_eq_f hz) ?_
    refine XS.aloadN X5.here hexec rfl (hb hbytes d33) rfl rfl ?_
    refine XS.iloadN X5.here hexec rfl (hb hbytes d34) rfl ?_
    refine XS.iloadN X5.here hexec rfl (hb hbytes d35) rfl ?_
    exact Steps.refl _)
  obtain ⟨v8, T8, X8, E8, g8⟩ := X5.callS hexec (Cmp3.law l b A o len) hown (wks W (staticW "java/lang/String" 177 Cmp3.yN)) (wk W Cmp3.tab) (W := 0) (Nat.le_of_ble_eq_true rfl) (Nat.le_of_ble_eq_true rfl) (Nat.le_refl _) (by show 0 + len ≤ len; omega) (g := (mkF m 36 #[.val (.ref a), .val (.ref b), .val (.int (Int32.ofNat o)), .val (.int (Int32.ofNat len)), .val .null, .unset] [.int (Int32.ofNat len), .int (Int32.ofNat o), .ref b])) rfl (by rw [hml]; rfl) c7 (argsL := [.ref b, .int (Int32.ofNat o), .int (Int32.ofNat len)]) (rest := []) rfl rfl (by show 2 * 0 + 0 ≤ _; decide) (hb hbytes d36) (⟨rfl, hA.mv X5.warmed.alike hh5, l1, l2, hp⟩)
  obtain ⟨e8, z8⟩ := E8
  obtain ⟨rfl, N, n1, n2, n3, n4, n5, n6⟩ := NewArr.mv _ T5 s _ _ hh5.symm (Vm.Alike.refl _) rfl e8
  rw [hh5] at z8
  have hB1 := hB.keep X8.warmed.alike (n6 _ _ hB.1)
  have hne : s.heap.size ≠ a := (Nat.ne_of_lt (Array.getElem?_eq_some_iff.mp hB.1).1).symm
  have c9 : Steps p.tables e below (s₁.setTop (entryFrame m #[.ref a, .ref b, .int (Int32.ofNat o), .int (Int32.ofNat len), .null] 6)) (T8.setTop (mkF m 39 #[.val (.ref a), .val (.ref b), .val (.int (Int32.ofNat o)), .val (.int (Int32.ofNat len)), .val .null, .unset] [.ref s.heap.size])) := g8
  have c10 : Steps p.tables e below (s₁.setTop (entryFrame m #[.ref a, .ref b, .int (Int32.ofNat o), .int (Int32.ofNat len), .null] 6)) (T8.setTop (mkF m 45 #[.val (.ref a), .val (.ref b), .val (.int (Int32.ofNat o)), .val (.int (Int32.ofNat len)), .val .null, .val (.ref s.heap.size)] [.int (Int32.ofNat N.slots.size), .ref s.heap.size, .ref a])) := by
    have hc : Steps p.tables e below (s₁.setTop (entryFrame m #[.ref a, .ref b, .int (Int32.ofNat o), .int (Int32.ofNat len), .null] 6)) (T8.setTop (mkF m 45 #[.val (.ref a), .val (.ref b), .val (.int (Int32.ofNat o)), .val (.int (Int32.ofNat len)), .val .null, .val (.ref s.heap.size)] [.int (Int32.ofNat len), .ref s.heap.size, .ref a])) := c9.trans (by
      refine XS.astore X8.here hexec rfl (hb hbytes d39) rfl rfl rfl ?_
      refine XS.aloadN X8.here hexec rfl (hb hbytes d41) rfl rfl ?_
      refine XS.aload X8.here hexec rfl (hb hbytes d42) rfl rfl ?_
      refine XS.iloadN X8.here hexec rfl (hb hbytes d44) rfl ?_
      exact Steps.refl _)
    rw [n4]; exact hc
  obtain ⟨v11, T11, X11, E11, g11⟩ := X8.callS hexec (CodL.law l s.heap.size N) hown (wks W (staticW "java/lang/String" 47 CodL.yN)) (wk W CodL.tab) (W := 1) (Nat.le_of_ble_eq_true rfl) (Nat.le_of_ble_eq_true rfl) (Nat.le_refl _) (by show 0 + len + 0 ≤ len; omega) (g := (mkF m 45 #[.val (.ref a), .val (.ref b), .val (.int (Int32.ofNat o)), .val (.int (Int32.ofNat len)), .val .null, .val (.ref s.heap.size)] [.int (Int32.ofNat N.slots.size), .ref s.heap.size, .ref a])) rfl (by rw [hml]; rfl) c10 (argsL := [.ref s.heap.size, .int (Int32.ofNat N.slots.size)]) (rest := [.ref a]) rfl rfl (by show 2 * 0 + (1 + 0) ≤ _; decide) (hb hbytes d45) (⟨rfl, n1⟩)
  obtain ⟨rfl, q11⟩ := E11
  have hB11 := hB1.mv (X8.warmed.alike.symm.trans X11.warmed.alike) q11
  have c12 : Steps p.tables e below (s₁.setTop (entryFrame m #[.ref a, .ref b, .int (Int32.ofNat o), .int (Int32.ofNat len), .null] 6)) (T11.setTop (mkF m 48 #[.val (.ref a), .val (.ref b), .val (.int (Int32.ofNat o)), .val (.int (Int32.ofNat len)), .val .null, .val (.ref s.heap.size)] [.int 0, .ref a])) := g11
  obtain ⟨T13, X13, p13, bl13, sl13, st13⟩ := X11.finit hexec hown (wk W (.fieldLink "java/lang/String" 15 "java/lang/String" "coder" "B")) (Or.inr ⟨_, (wk W (.laysFinal "java/lang/String" "java/lang/String" "coder" "B"))⟩) (Or.inl ⟨rfl, hnm⟩) f2 (Or.inl rfl) hB11 (t := .byte) (by decide +kernel) rfl (g := (mkF m 48 #[.val (.ref a), .val (.ref b), .val (.int (Int32.ofNat o)), .val (.int (Int32.ofNat len)), .val .null, .val (.ref s.heap.size)] [.int 0, .ref a])) rfl (rest := []) rfl (hb hbytes d48)
  have c14 : Steps p.tables e below (s₁.setTop (entryFrame m #[.ref a, .ref b, .int (Int32.ofNat o), .int (Int32.ofNat len), .null] 6)) (T13.setTop (mkF m 54 #[.val (.ref a), .val (.ref b), .val (.int (Int32.ofNat o)), .val (.int (Int32.ofNat len)), .val .null, .val (.ref s.heap.size)] [.ref s.heap.size, .ref a])) := (c12.trans (st13 _ (Steps.refl _))).trans (by
    refine XS.aloadN X13.here hexec rfl (hb hbytes d51) rfl rfl ?_
    refine XS.aload X13.here hexec rfl (hb hbytes d52) rfl rfl ?_
    exact Steps.refl _)
  obtain ⟨T15, X15, p15, bl15, sl15, st15⟩ := X13.finit hexec hown (wk W (.fieldLink "java/lang/String" 9 "java/lang/String" "value" "[B")) (Or.inr ⟨_, (wk W (.laysFinal "java/lang/String" "java/lang/String" "value" "[B"))⟩) (Or.inl ⟨rfl, hnm⟩) f1 (Or.inl rfl) bl13 (t := (.array .byte)) (by decide +kernel) rfl (g := (mkF m 54 #[.val (.ref a), .val (.ref b), .val (.int (Int32.ofNat o)), .val (.int (Int32.ofNat len)), .val .null, .val (.ref s.heap.size)] [.ref s.heap.size, .ref a])) rfl (rest := []) rfl (hb hbytes d54)
  have c16 : Steps p.tables e below (s₁.setTop (entryFrame m #[.ref a, .ref b, .int (Int32.ofNat o), .int (Int32.ofNat len), .null] 6)) (T15.setTop (mkF m 57 #[.val (.ref a), .val (.ref b), .val (.int (Int32.ofNat o)), .val (.int (Int32.ofNat len)), .val .null, .val (.ref s.heap.size)] [])) := c14.trans (st15 _ (Steps.refl _))
  have ap := apart (Or.inr ⟨_, (wk W (.laysFinal "java/lang/String" "java/lang/String" "value" "[B"))⟩) (Or.inr ⟨_, (wk W (.laysFinal "java/lang/String" "java/lang/String" "coder" "B"))⟩) f1 f2 (t₁ := .array .byte) (t₂ := .byte) (by decide +kernel) (by decide +kernel) (by decide)
  have al := X8.warmed.alike.symm.trans X15.warmed.alike
  have n7 : T11.heap[s.heap.size]? = some N := by rw [q11]; exact n1.1
  exact ⟨T15, none, _, _, _, X15, by simp, rfl, by omega, (fun _ => rfl), ⟨rfl, _, N, bl15, ((Same.refl D _).set _ (by simp)).set _ (by simp), sl15, (Cell.slots_setSlot_ne _ ap).trans sl13, n1.keep al (p15.other hne (p13.other hne n7)), n2, by rw [al.findClass]; exact n3, n4, n5, fun y c h1 h2 => p15.other h1 (p13.other h1 (by rw [q11]; exact n6 y c h2)), by rw [p15.2.2, p13.2.2, q11]; exact z8⟩, fun fs hl => c16.trans (X15.returnOut hexec hret (hb hbytes d57) hl)⟩
end New4
namespace New1
def yN : MethodName := ⟨"java/lang/String", "<init>", "([C)V"⟩
abbrev yB : ByteArray := jdk_42_method_3_code
theorem d0 : decode yB 0 = .ok (.aload_n 0, 1) := by decide +kernel
theorem d1 : decode yB 1 = .ok (.aload_n 1, 1) := by decide +kernel
theorem d2 : decode yB 2 = .ok (.iconst 0, 1) := by decide +kernel
theorem d3 : decode yB 3 = .ok (.aload_n 1, 1) := by decide +kernel
theorem d4 : decode yB 4 = .ok (.arraylength, 1) := by decide +kernel
theorem d5 : decode yB 5 = .ok (.aconst_null, 1) := by decide +kernel
theorem d6 : decode yB 6 = .ok (.invokespecial 27, 3) := by decide +kernel
theorem d9 : decode yB 9 = .ok (.return_, 1) := by decide +kernel
def site : List Cond := [New4.tab] ++ initW "java/lang/String" 27 New4.yN
def tab : Cond := tabOf yN yB 2 none site
def P (a : Addr) (D : Cell) (fV fC : Field) (b : Addr) (A : Cell) (z : Int32) (args : Array Value) (s : State) : Prop := args = #[.ref a, .ref b] ∧ Blank "java/lang/String" a D s ∧ Found "java/lang/String" "value" "[B" fV s ∧ Found "java/lang/String" "coder" "B" fC s ∧ Ch b A s ∧ StaticIs s "java/lang/String" "COMPACT_STRINGS" "Z" (.int z) ∧ ¬ z = 0 ∧ 0 < A.slots.size ∧ A.slots.size ≤ 536870912 ∧ ∀ i, i < A.slots.size → ¬ 255 < cv A i
def E (a : Addr) (D : Cell) (fV fC : Field) (A : Cell) (r : Option Value) (s u : State) : Prop := Got a D fV fC A 0 A.slots.size r s u
/-- new String(chars), not empty, no char above 255: a Latin-1 String of their low bytes -/
theorem law (l : Launch) (a : Addr) (D : Cell) (fV fC : Field) (b : Addr) (A : Cell) (z : Int32) : Law l yN 2 1 3 52 yB 2 none site (P a D fV fC b A z) (E a D fV fC A) [⟨a, fC.slot⟩, ⟨a, fV.slot⟩] 1 A.slots.size := by
  refine Law.of_walk (plainFor_of_name (by decide +kernel)) (by decide +kernel) (by decide +kernel) (by decide) (fun _ _ h => by rw [h.1]; rfl) (fun _ U U' hal hh h => ⟨h.1, h.2.1.mv hal hh, h.2.2.1.al hal, h.2.2.2.1.al hal, h.2.2.2.2.1.mv hal hh, h.2.2.2.2.2.1.there hal hh, h.2.2.2.2.2.2⟩) (fun r U U' V V' h1 hal h2 h => Got.mv r U U' V V' h1 hal h2 h) ?_
  intro p e s m args below meth c s₁ X0 hexec hbytes hml hret hlk hnm hown hh0 W hP
  obtain ⟨rfl, hB, f1, f2, hA, s1, hz, l0, l2, hp⟩ := hP
  have c1 : Steps p.tables e below (s₁.setTop (entryFrame m #[.ref a, .ref b] 2)) (s₁.setTop (mkF m 0 #[.val (.ref a), .val (.ref b)] [])) := entry rfl
  have c2 : Steps p.tables e below (s₁.setTop (entryFrame m #[.ref a, .ref b] 2)) (s₁.setTop (mkF m 6 #[.val (.ref a), .val (.ref b)] [.null, .int (Int32.ofNat A.slots.size), .int 0, .ref b, .ref a])) := c1.trans (by
    refine XS.aloadN X0.here hexec rfl (hb hbytes d0) rfl rfl ?_
    refine XS.aloadN X0.here hexec rfl (hb hbytes d1) rfl rfl ?_
    refine iconstV X0.here hexec rfl 0 (hb hbytes d2) (by decide) ?_
    refine XS.aloadN X0.here hexec rfl (hb hbytes d3) rfl rfl ?_
    refine X0.alen hexec (hA.1.mv X0.warmed.alike hh0) rfl rfl (hb hbytes d4) ?_
    refine XS.aconstNull X0.here hexec rfl (hb hbytes d5) ?_
    exact Steps.refl _)
  obtain ⟨v3, T3, X3, E3, g3⟩ := X0.callN hexec (New4.law l a D fV fC b A z 0 A.slots.size) rfl hown (wks W (initW "java/lang/String" 27 New4.yN)) (W New4.tab (by simp only [site, List.mem_cons, List.mem_append, true_or, or_true])) (W := 0) (Nat.le_of_ble_eq_true rfl) (Nat.le_of_ble_eq_true rfl) (Nat.le_refl _) (by show 0 + A.slots.size ≤ A.slots.size; omega) (g := (mkF m 6 #[.val (.ref a), .val (.ref b)] [.null, .int (Int32.ofNat A.slots.size), .int (Int32.ofNat 0), .ref b, .ref a])) rfl (by rw [hml]; rfl) c2 (argsL := [.ref b, .int (Int32.ofNat 0), .int (Int32.ofNat A.slots.size), .null]) (rest := []) rfl rfl (by show 2 * 0 + 0 ≤ _; decide) (hb hbytes d6) (⟨rfl, hB.mv X0.warmed.alike hh0, f1.al X0.warmed.alike, f2.al X0.warmed.alike, hA.mv X0.warmed.alike hh0, s1.there X0.warmed.alike hh0, hz, l0, by omega, l2, fun i hi => by rw [Nat.zero_add]; exact hp i hi⟩)
  have e0 := Got.mv _ s₁ s _ _ hh0.symm (Vm.Alike.refl _) rfl E3
  obtain rfl := e0.1
  have c4 : Steps p.tables e below (s₁.setTop (entryFrame m #[.ref a, .ref b] 2)) (T3.setTop (mkF m 9 #[.val (.ref a), .val (.ref b)] [])) := g3
  exact ⟨T3, none, _, _, _, X3, by simp, rfl, by omega, (fun _ => rfl), e0, fun fs hl => c4.trans (X3.returnOut hexec hret (hb hbytes d9) hl)⟩
theorem pays {l : Launch} {R : Room} {p : Program} {e : Env} {below : List Frame} {s : State} {sargs : Array Value} {len W : Nat} (a : Addr) (D : Cell) (fV fC : Field) (b : Addr) (A : Cell) (z : Int32) (htab : tab.before sargs s = true) (hfr : 4 ≤ R.frames) (hlo : W + 65 ≤ R.locals) :
    Back l R p e below s sargs yN len W (fun A₁ a₁ => A₁.cells + 1 ≤ R.cells ∧ A₁.slots + A.slots.size ≤ R.slots ∧ P a D fV fC b A z a₁ A₁.U) (fun A₁ _ v₁ B₁ => E a D fV fC A v₁ A₁.U B₁.U ∧ B₁.locs = A₁.locs ++ [⟨a, fC.slot⟩, ⟨a, fV.slot⟩] ∧ B₁.cells = A₁.cells + 1 ∧ B₁.slots = A₁.slots + A.slots.size) :=
  (law l a D fV fC b A z).pays htab hfr (by omega)
end New1
/-- the byte, read back as charAt reads it, is the char -/
theorem lo8_mask {x : Int32} (h0 : ¬ x < 0) (h1 : ¬ 255 < x) : lo8 x &&& 255 = x := by
  have t : ∀ k : Fin 256, lo8 (Int32.ofNat k.val) &&& 255 = Int32.ofNat k.val := by decide +kernel
  rw [Int32.lt_iff_toInt_lt] at h0 h1
  have e0 : (0 : Int32).toInt = 0 := rfl
  have e1 : (255 : Int32).toInt = 255 := rfl
  obtain ⟨k, hk⟩ : ∃ k : Nat, x.toInt = k := ⟨x.toInt.toNat, by omega⟩
  have hx : x = Int32.ofNat k := Int32.toInt_inj.mp (by rw [hk, Int32.toInt_ofNat_small (by omega)])
  rw [hx]
  exact t ⟨k, by omega⟩
end StrChars
namespace StrChars.Road
open Jvm Sem ClassFile Op Lib Jvm.Stand Jvm.Free Jvm.Free.XT
open Jvm.Lib.Cold (StaticIs)
abbrev ST : String := "java/lang/String"
/-- every table word that New1's law asks, flat -/
abbrev words : List Jvm.Cond := [.code New1.yN New1.yB 2 none, .initialized ST, .methodLink ST 27 New4.yN, .instanceMethod New4.yN,
  .code New4.yN New4.yB 6 none, .fieldLink ST 38 ST "COMPACT_STRINGS" "Z", .laysFinal ST ST "value" "[B", .fieldLink ST 9 ST "value" "[B", .laysFinal ST ST "coder" "B", .fieldLink ST 15 ST "coder" "B",
  .methodLink ST 1 Lib.objectInit, .instanceMethod Lib.objectInit, .code Lib.objectInit ⟨#[0xb1]⟩ 1 none, .methodLink ST 177 Cmp3.yN, .static Cmp3.yN, .methodLink ST 47 CodL.yN, .static CodL.yN,
  .code Cmp3.yN Cmp3.yB 6 (some (.array .byte)), .initialized U16, .arrayClass .byte, .methodLink U16 115 Cmp5.yN, .static Cmp5.yN, .code Cmp5.yN Cmp5.yB 7 (some .int), .code CodL.yN CodL.yB 2 (some .byte)]
theorem tab_of {a : Array Value} {s : State} (h : ∀ w ∈ words, w.before a s = true) : New1.tab.before a s = true := by
  have h5 : Cmp5.tab.before a s = true := unparts (wk h (.code Cmp5.yN Cmp5.yB 7 (some .int))) (wks h (.initialized Cmp5.yN.cls :: Cmp5.site))
  have hc : CodL.tab.before a s = true := unparts (wk h (.code CodL.yN CodL.yB 2 (some .byte))) (wks h (.initialized CodL.yN.cls :: CodL.site))
  have q5 : ∀ w ∈ Cmp5.tab :: words, w.before a s = true := fun w hw => (List.mem_cons.mp hw).elim (fun e => e ▸ h5) (h w)
  have h3 : Cmp3.tab.before a s = true := unparts (wk q5 (.code Cmp3.yN Cmp3.yB 6 (some (.array .byte)))) (wks q5 (.initialized Cmp3.yN.cls :: Cmp3.site))
  have q3 : ∀ w ∈ Cmp3.tab :: CodL.tab :: words, w.before a s = true := fun w hw => (List.mem_cons.mp hw).elim (fun e => e ▸ h3) fun hw => (List.mem_cons.mp hw).elim (fun e => e ▸ hc) (h w)
  have h4 : New4.tab.before a s = true := unparts (wk q3 (.code New4.yN New4.yB 6 none)) (wks q3 (.initialized New4.yN.cls :: New4.site))
  have q4 : ∀ w ∈ New4.tab :: words, w.before a s = true := fun w hw => (List.mem_cons.mp hw).elim (fun e => e ▸ h4) (h w)
  exact unparts (wk q4 (.code New1.yN New1.yB 2 none)) (wks q4 (.initialized New1.yN.cls :: New1.site))
/-- the words ride from the start Z to the walk's own state -/
theorem moved {Z s : State} {a0 args : Array Value} (hZ : Z.Warmed39 s.vm) (hw : ∀ d ∈ words, d.before a0 Z = true) : ∀ d ∈ words, d.before args s = true := fun d hd => by
  have q := hw d hd
  have t : ∀ d ∈ words, d = .arrayClass .byte ∨ (d.onTables && d.keepsFace) = true := by decide +kernel
  rcases t d hd with rfl | t
  · exact RoadKit.mvA hZ q
  · exact RoadKit.mv hZ q t
/-- WHAT COMES BACK, over the tables of the start Z: h the heap at the call, h' behind it -/
def Q (Z : State) (x : Addr) (A : Cell) (h : Heap) (v : Option Value) (h' : Heap) (L : List Loc) : Prop := v = none ∧ (∀ y ∈ L, y.base = x) ∧ RoadKit.Keep h h' [x] ∧ h'.size = h.size + 1 ∧ RoadKit.Exa Z h' x ST ∧ RoadKit.Fld Z h' x ST "value" "[B" (.ref h.size) ∧ RoadKit.Fld Z h' x ST "coder" "B" (.int 0) ∧
  (∃ V : Cell, RoadKit.Arr Z h' h.size V .byte ∧ V.vm = .none ∧ Z.vm.findClass "[B" = some V.cls ∧ V.slots.size = A.slots.size ∧ ∀ j, j < A.slots.size → V.slots[j]? = some (.int (lo8 (cv A j)))) ∧
  ∀ (O n d : String) (w : Value), RoadKit.Fld Z h x O n d w → RoadKit.slotOf Z O n d ≠ RoadKit.slotOf Z ST "value" "[B" → RoadKit.slotOf Z O n d ≠ RoadKit.slotOf Z ST "coder" "B" → RoadKit.Fld Z h' x O n d w
/-- **new String(chars) AT A CALL, IN THE ROAD'S FORM**: for specialBack behind newO: x the fresh String, b the char[] with the cell A -/
theorem back {p : Program} {l : Launch} {e : Env} {R : Room} {s : State} {args : Array Value} {below : List Frame} {len W : Nat} {Z : State} {a0 : Array Value} {h : Heap} (hZ : Z.Warmed39 s.vm) (hw : ∀ d ∈ words, d.before a0 Z = true) {kI : Nat} (wi : (Jvm.Cond.instantiable ST kI).before a0 Z = true)
    {x b : Addr} {A : Cell} {z : Int32} {v0 c0 : Value} (E : RoadKit.Exa Z h x ST) (V : RoadKit.Fld Z h x ST "value" "[B" v0) (C : RoadKit.Fld Z h x ST "coder" "B" c0) (K : RoadKit.Arr Z h b A .char) (hty : Typed .char A) (S : RoadKit.Sta Z h ST "COMPACT_STRINGS" "Z" (.int z)) (hz : ¬ z = 0)
    (l0 : 0 < A.slots.size) (l2 : A.slots.size ≤ 536870912) (hp : ∀ i, i < A.slots.size → ¬ 255 < cv A i) (hfr : 4 ≤ R.frames) (hlo : W + 65 ≤ R.locals) :
    Back l R p e below s args New1.yN len W (fun P a => a = #[.ref x, .ref b] ∧ P.U.heap = h ∧ P.cells + 1 ≤ R.cells ∧ P.slots + A.slots.size ≤ R.slots)
      (fun P _ v B => ∃ L, Q Z x A h v B.U.heap L ∧ B.locs = P.locs ++ L ∧ B.cells = P.cells + 1 ∧ B.slots = P.slots + A.slots.size) := by
  intro m meth c P g ig mk a X hg hsize hdg hW hn hp'
  obtain ⟨rfl, rfl, r1, r2⟩ := hp'
  have al : Z.vm.Alike P.U.vm := hZ.alike.trans X.warmed.alike
  obtain ⟨D, cfV, kV, iV, fV, hD, gV, stV, knV, obV, asV, slV⟩ := id V
  obtain ⟨D', cfC, kC, iC, fC, hD', gC, stC, -, -, asC, slC⟩ := id C
  cases hD.symm.trans hD'
  obtain ⟨D2, kD, e1, e2, e3, e4, e5⟩ := id E
  cases hD.symm.trans e1
  obtain ⟨c2, k2, i1, i2, i3, -⟩ := Cond.instantiable_spec wi
  cases e2.symm.trans i1
  cases e3.symm.trans i2
  obtain ⟨kU, u1, u2⟩ := al.2.2 _ _ e3
  have hB : Blank ST x D P.U := ⟨hD, ⟨knV, fun q hq => by rw [hq] at obV; cases obV⟩, by rw [al.findClass]; exact e2, kU, u1, by rw [u2]; exact i3, by rw [u2]; exact e5 i3⟩
  have F1 : Found ST "value" "[B" fV P.U := ⟨SBG.found_only al ⟨cfV, kV, iV, gV⟩, stV⟩
  have F2 : Found ST "coder" "B" fC P.U := ⟨SBG.found_only al ⟨cfC, kC, iC, gC⟩, stC⟩
  have hA : Ch b A P.U := ⟨⟨K.1, State.isArrayOf_alike al K.2.1, K.2.2, by omega⟩, hty⟩
  have hS : StaticIs P.U ST "COMPACT_STRINGS" "Z" (.int z) := by
    obtain ⟨cfS, iS, kS, fS, st, cS, t1, t2, t3, t4, t5, t6, t7⟩ := S
    exact StaticIs.there (s := { Z with heap := P.U.heap }) ⟨cfS, iS, kS, fS, st, cS, t1, t2, t3, t4, t5, (fun q => by rw [q] at t6; cases t6), t7⟩ al rfl
  obtain ⟨v, B, X', ⟨⟨hv, E', V', q1, q2, q3, q4, q5, q6, q7, q8, q9, q10, q11⟩, hl, hc, hs⟩, st⟩ := New1.pays x D fV fC b A z (tab_of (moved hZ hw)) hfr hlo m meth c P g ig mk _ X hg hsize hdg hW hn ⟨r1, r2, rfl, hB, F1, F2, hA, hS, hz, l0, l2, hp⟩
  have al' : Z.vm.Alike B.U.vm := hZ.alike.trans X'.warmed.alike
  have hsz : E'.slots.size = D.slots.size := by
    obtain ⟨-, -, -, kB, w1, w2, w3⟩ := q1
    obtain ⟨kB', y1, y2⟩ := al'.2.2 _ _ e3
    rw [q2.2.1] at w1
    cases w1.symm.trans y1
    rw [w3, e5 i3, y2]
  refine ⟨v, B, X', ⟨_, ⟨hv, ?_, ⟨by omega, fun y cy hy hn' => q10 y cy (by simpa using hn') hy, fun y cy hy => ?_⟩, q11, ⟨E', _, q1.1, by rw [q2.2.1]; exact e2, by rw [q2.2.1]; exact e3, by rw [q2.1]; exact obV, fun _ => by rw [hsz]; exact e5 i3⟩,
    ⟨E', cfV, kV, iV, fV, q1.1, gV, stV, by rw [q2.1]; exact knV, by rw [q2.1]; exact obV, by rw [q2.2.1]; exact asV, q3⟩, ⟨E', cfC, kC, iC, fC, q1.1, gC, stC, by rw [q2.1]; exact knV, by rw [q2.1]; exact obV, by rw [q2.2.1]; exact asC, q4⟩,
    ⟨V', ⟨q5.1, State.isArrayOf_alike al'.symm q5.2.1, q5.2.2.1⟩, q6, by rw [← al'.findClass]; exact q7, q8, fun j hj => by have := q9 j hj; rwa [Nat.zero_add] at this⟩, fun O n d w F n1 n2 => ?_⟩, hl, hc, hs⟩, st⟩
  · intro y hy
    simp only [List.mem_cons, List.not_mem_nil, or_false] at hy
    rcases hy with rfl | rfl <;> rfl
  · by_cases q : y = x
    · subst q
      cases hD.symm.trans hy
      exact ⟨E', q1.1, q2.2.1, q2.1, hsz⟩
    · exact ⟨cy, q10 y cy q hy, rfl, rfl, rfl⟩
  · obtain ⟨D3, cf, k, i, f, g1, g2, g3, g4, g5, g6, g7⟩ := F
    cases hD.symm.trans g1
    simp only [RoadKit.slotOf, g2, gV, gC, Option.map_some, Option.getD_some] at n1 n2
    exact ⟨E', cf, k, i, f, q1.1, g2, g3, by rw [q2.1]; exact g4, by rw [q2.1]; exact g5, by rw [q2.2.1]; exact g6, by rw [q2.2.2 f.slot (by simp [n1, n2])]; exact g7⟩
end StrChars.Road
namespace StrChars.Road
open Jvm Sem ClassFile Op Lib Jvm.Stand Jvm.Free Jvm.Free.XT
/-- WHAT COMES BACK, the byte[] as a list of values -/
def QA (Z : State) (x : Addr) (zn : Int32) (cs : List Int32) (h : Heap) (v : Option Value) (h' : Heap) (L : List Loc) : Prop := v = none ∧ (∀ y ∈ L, y.base = x) ∧ RoadKit.Keep h h' [x] ∧ h'.size = h.size + 1 ∧ RoadKit.Exa Z h' x ST ∧ RoadKit.Fld Z h' x ST "value" "[B" (.ref h.size) ∧ RoadKit.Fld Z h' x ST "coder" "B" (.int 0) ∧
  (∃ kb, Z.vm.findClass "[B" = some kb ∧ RoadKit.Arv Z h' h.size kb .byte zn (cs.map fun c => .int (lo8 c)) (.int 0)) ∧
  ∀ (O n d : String) (w : Value), RoadKit.Fld Z h x O n d w → RoadKit.slotOf Z O n d ≠ RoadKit.slotOf Z ST "value" "[B" → RoadKit.slotOf Z O n d ≠ RoadKit.slotOf Z ST "coder" "B" → RoadKit.Fld Z h' x O n d w
/-- **new String(chars) AT A CALL, THE ARRAYS AS LISTS**: the char[] at b holds cs, not empty, no char above 255 -/
theorem backArv {p : Program} {l : Launch} {e : Env} {R : Room} {s : State} {args : Array Value} {below : List Frame} {len W : Nat} {Z : State} {a0 : Array Value} {h : Heap} (hZ : Z.Warmed39 s.vm) (hw : ∀ d ∈ words, d.before a0 Z = true) {kI : Nat} (wi : (Jvm.Cond.instantiable ST kI).before a0 Z = true)
    {x b : Addr} {k : ClassId} {zn z : Int32} {cs : List Int32} {dv v0 c0 : Value} (E : RoadKit.Exa Z h x ST) (V : RoadKit.Fld Z h x ST "value" "[B" v0) (C : RoadKit.Fld Z h x ST "coder" "B" c0) (K : RoadKit.Arv Z h b k .char zn (cs.map Value.int) dv) (S : RoadKit.Sta Z h ST "COMPACT_STRINGS" "Z" (.int z)) (hz : ¬ z = 0)
    (hlen : zn.toNatClampNeg = cs.length) (h0 : 0 < cs.length) (hbig : cs.length ≤ 536870912) (hall : ∀ c ∈ cs, ¬ 255 < c) (hfr : 4 ≤ R.frames) (hlo : W + 65 ≤ R.locals) :
    Back l R p e below s args New1.yN len W (fun P a => a = #[.ref x, .ref b] ∧ P.U.heap = h ∧ P.cells + 1 ≤ R.cells ∧ P.slots + cs.length ≤ R.slots)
      (fun P _ v B => ∃ L, QA Z x zn cs h v B.U.heap L ∧ B.locs = P.locs ++ L ∧ B.cells = P.cells + 1 ∧ B.slots = P.slots + cs.length) := by
  obtain ⟨A, K1, K2, K3, K4, K5, K6⟩ := K
  have e : A.slots.size = cs.length := K3.trans hlen
  have hat : ∀ (i : Nat) (hi : i < cs.length), A.slots[i]? = some (.int cs[i]) := fun i hi => by rw [K5 i (by omega)]; simp [List.getD_eq_getElem?_getD, hi]
  have hcv : ∀ (i : Nat) (hi : i < cs.length), cv A i = cs[i] := fun i hi => by unfold cv; rw [hat i hi]
  have hty : Typed .char A := fun i v hv => by
    have hi : i < A.slots.size := (Array.getElem?_eq_some_iff.mp hv).1
    have q := K5 i hi
    rw [hv] at q
    rw [Option.some.inj q]
    exact K6 i hi
  refine Back.mono (back hZ hw wi E V C K1 hty S hz (by omega) (by omega) (fun i hi => by rw [hcv i (by omega)]; exact hall _ (List.getElem_mem _)) hfr hlo) (fun P a hp => ⟨hp.1, hp.2.1, hp.2.2.1, by rw [e]; exact hp.2.2.2⟩) (fun P a v B hp hq => ?_)
  obtain ⟨L, ⟨q1, q2, q3, q4, q5, q6, q7, ⟨V', v1, v2, v3, v4, v5⟩, q9⟩, hl, hc, hs⟩ := hq
  refine ⟨L, ⟨q1, q2, q3, q4, q5, q6, q7, ⟨V'.cls, v3, V', v1, rfl, by rw [v4, e, hlen], K4, fun i hi => ?_, fun i hi => ?_⟩, q9⟩, hl, hc, by rw [hs, e]⟩
  · have hi' : i < cs.length := by omega
    rw [v5 i (by omega), hcv i hi']; simp [List.getD_eq_getElem?_getD, hi']
  · have hi' : i < cs.length := by omega
    simp only [List.getD_eq_getElem?_getD, List.getElem?_map, List.getElem?_eq_getElem hi', Option.map_some, Option.getD_some]
    exact fits_lo8 _
end StrChars.Road
namespace StrChars.Road
open Jvm Sem ClassFile Op Lib Jvm.Stand Jvm.Free Jvm.Free.XT
/-- WHAT COMES BACK, in the writer's own shape -/
def QV (Z : State) (x : Addr) (N : Int32) (bs : List Int32) (h : Heap) (n0 : Nat) (v : Option Value) (h' : Heap) (L : List Loc) : Prop := v = none ∧ RoadKit.Fr n0 L ∧ RoadKit.Keep h h' [x] ∧ RoadKit.Exa Z h' x ST ∧ RoadKit.Fld Z h' x ST "coder" "B" (.int 0) ∧
  ∃ (t : Addr) (kb : ClassId), n0 ≤ t ∧ h.size ≤ t ∧ ¬ t = x ∧ RoadKit.Fld Z h' x ST "value" "[B" (.ref t) ∧ RoadKit.Arv Z h' t kb .byte N (bs.map Value.int) (.int 0)
/-- **new String(chars) AT A CALL, FOR THE WRITER**: a char[] of n known ints, each 0 to 255 -/
theorem backV {p : Program} {l : Launch} {e : Env} {R : Room} {s : State} {args : Array Value} {below : List Frame} {len W : Nat} {Z : State} {a0 : Array Value} {h : Heap} (hZ : Z.Warmed39 s.vm) (hw : ∀ d ∈ words, d.before a0 Z = true) {kI : Nat} (wi : (Jvm.Cond.instantiable ST kI).before a0 Z = true)
    {x b : Addr} {kC : ClassId} {cs bs : List Int32} {d v0 c0 : Value} {z N : Int32} {n n0 : Nat} (hx0 : n0 ≤ x) (hh0 : n0 ≤ h.size) (E : RoadKit.Exa Z h x ST) (V : RoadKit.Fld Z h x ST "value" "[B" v0) (C : RoadKit.Fld Z h x ST "coder" "B" c0) (K : RoadKit.Arv Z h b kC .char N (cs.map Value.int) d) (S : RoadKit.Sta Z h ST "COMPACT_STRINGS" "Z" (.int z)) (hz : ¬ z = 0)
    (hn : cs.length = n) (hN : N = Int32.ofNat n) (l0 : 0 < n) (l2 : n ≤ 4000) (hp : ∀ c ∈ cs, ¬ c < 0 ∧ ¬ (255 : Int32) < c) (hb : bs = cs.map (fun c => c.toInt8.toInt32)) (hfr : 4 ≤ R.frames) (hlo : W + 65 ≤ R.locals) :
    Back l R p e below s args (⟨"java/lang/String", "<init>", "([C)V"⟩ : MethodName) len W (fun P a => a = #[.ref x, .ref b] ∧ P.U.heap = h ∧ P.cells + 1 ≤ R.cells ∧ P.slots + n ≤ R.slots)
      (fun P _ v B => ∃ L, QV Z x N bs h n0 v B.U.heap L ∧ B.locs = P.locs ++ L ∧ B.cells = P.cells + 1 ∧ B.slots = P.slots + n) := by
  subst hn hN hb
  refine Back.mono (backArv hZ hw wi E V C K S hz (n32 (by omega)) l0 (by omega) (fun c hc => (hp c hc).2) hfr hlo) (fun P a hp => hp) (fun P a v B hp hq => ?_)
  obtain ⟨L, ⟨q1, q2, q3, q4, q5, q6, q7, ⟨kb, v1, v2⟩, q9⟩, hl, hc, hs⟩ := hq
  exact ⟨L, ⟨q1, fun y hy => by rw [q2 y hy]; exact hx0, q3, q5, q7, h.size, kb, hh0, Nat.le_refl _, Nat.ne_of_gt E.lt, q6, by rw [List.map_map]; exact v2⟩, hl, hc, hs⟩
end StrChars.Road
namespace StrChars
open Jvm Sem ClassFile Op Lib Jvm.Stand Jvm.Free.XT Jvm.Free.ALB Jvm.Free.JM Jvm.Free
open Jvm.Lib.Cold (StaticIs)
def hi8 (x : Int32) : Int32 := lo8 (x >>> ((8 : Int32) &&& 31))
/-- what StringUTF16.getChar makes of two bytes -/
def pairCh (u v : Int32) : Int32 := (((u &&& 255) <<< ((0 : Int32) &&& 31)) ||| ((v &&& 255) <<< ((8 : Int32) &&& 31))).toUInt32.toUInt16.toUInt32.toInt32
theorem lo8_and (x : Int32) : (lo8 x &&& 255).toBitVec.toNat = x.toBitVec.toNat % 256 := by
  have h : (lo8 x).toBitVec = (x.toBitVec.signExtend 8).signExtend 32 := by rw [lo8, Int8.toBitVec_toInt32, Int32.toBitVec_toInt8]
  rw [Int32.toBitVec_and, BitVec.toNat_and, h]
  have e : ((x.toBitVec.signExtend 8).signExtend 32).toNat % 256 = x.toBitVec.toNat % 256 := by
    rw [BitVec.toNat_signExtend]
    have hlt := x.toBitVec.isLt
    simp only [BitVec.toNat_setWidth, BitVec.toNat_signExtend]
    split <;> split <;> omega
  rw [← e]
  exact Nat.and_two_pow_sub_one_eq_mod _ 8
theorem pair_says {c : Int32} (h0 : ¬ c < 0) (h1 : ¬ 65535 < c) : pairCh (lo8 c) (hi8 c) = c := by
  rw [Int32.lt_iff_toInt_lt] at h0 h1
  have e0 : (0 : Int32).toInt = 0 := rfl
  have e1 : (65535 : Int32).toInt = 65535 := rfl
  have hc : c.toInt = c.toBitVec.toNat := by
    have := c.toBitVec.isLt
    have e : c.toInt = c.toBitVec.toInt := rfl
    rw [e] at h0 h1
    rw [e]
    rw [BitVec.toInt_eq_toNat_cond] at h0 h1 ⊢
    split at h0 <;> split <;> omega
  have hn : c.toBitVec.toNat < 65536 := by omega
  have a1 := lo8_and c
  have a2 : (hi8 c &&& 255).toBitVec.toNat = c.toBitVec.toNat / 256 := by
    rw [hi8, lo8_and]
    have e : ((8 : Int32) &&& 31) = 8 := by decide
    rw [e, Int32.toBitVec_shiftRight]
    have e2 : ((8 : Int32).toBitVec.smod 32) = 8#32 := by decide
    rw [e2, BitVec.sshiftRight_eq', BitVec.toNat_sshiftRight_of_msb_false (by rw [BitVec.msb_eq_false_iff_two_mul_lt]; omega)]
    show c.toBitVec.toNat >>> 8 % 256 = _
    rw [Nat.shiftRight_eq_div_pow]
    omega
  unfold pairCh
  apply Int32.toBitVec_inj.mp
  apply BitVec.eq_of_toNat_eq
  have f0 : ((0 : Int32) &&& 31) = 0 := by decide
  have f8 : ((8 : Int32) &&& 31) = 8 := by decide
  rw [f0, f8]
  have g : (((lo8 c &&& 255) <<< (0 : Int32)) ||| ((hi8 c &&& 255) <<< (8 : Int32))).toBitVec.toNat = c.toBitVec.toNat := by
    rw [Int32.toBitVec_or, Int32.toBitVec_shiftLeft, Int32.toBitVec_shiftLeft]
    have s0 : ((0 : Int32).toBitVec.smod 32) = 0#32 := by decide
    have s8 : ((8 : Int32).toBitVec.smod 32) = 8#32 := by decide
    rw [s0, s8, BitVec.toNat_or]
    simp only [BitVec.shiftLeft_eq', BitVec.toNat_shiftLeft, a1, a2]
    show (c.toBitVec.toNat % 256) <<< 0 % 2 ^ 32 ||| (c.toBitVec.toNat / 256) <<< 8 % 2 ^ 32 = _
    rw [Nat.shiftLeft_zero, Nat.mod_eq_of_lt (show c.toBitVec.toNat % 256 < 2 ^ 32 by omega), Nat.mod_eq_of_lt (show (c.toBitVec.toNat / 256) <<< 8 < 2 ^ 32 by rw [Nat.shiftLeft_eq]; omega), Nat.or_comm, ← Nat.shiftLeft_add_eq_or_of_lt (by omega), Nat.shiftLeft_eq]
    omega
  show BitVec.toNat (((((lo8 c &&& 255) <<< (0 : Int32)) ||| ((hi8 c &&& 255) <<< (8 : Int32))).toBitVec.setWidth 16).setWidth 32) = _
  rw [BitVec.toNat_setWidth, BitVec.toNat_setWidth, g]
  omega
end StrChars
namespace StrChars
open Jvm Sem ClassFile Op Lib Jvm.Stand Jvm.Free.XT Jvm.Free.ALB Jvm.Free.JM Jvm.Free
open Jvm.Lib.Cold (StaticIs)
/-- charAt's cast of a byte read back -/
def chr8 (u : Int32) : Int32 := (u &&& 255).toUInt32.toUInt16.toUInt32.toInt32
theorem chr8_lo8 {c : Int32} (h0 : ¬ c < 0) (h1 : ¬ 255 < c) : chr8 (lo8 c) = c := by
  have t : ∀ k : Fin 256, (Int32.ofNat k.val).toUInt32.toUInt16.toUInt32.toInt32 = Int32.ofNat k.val := by decide +kernel
  unfold chr8
  rw [lo8_mask h0 h1]
  rw [Int32.lt_iff_toInt_lt] at h0 h1
  have e0 : (0 : Int32).toInt = 0 := rfl
  have e1 : (255 : Int32).toInt = 255 := rfl
  obtain ⟨k, hk⟩ : ∃ k : Nat, c.toInt = k := ⟨c.toInt.toNat, by omega⟩
  have hx : c = Int32.ofNat k := Int32.toInt_inj.mp (by rw [hk, Int32.toInt_ofNat_small (by omega)])
  rw [hx]
  exact t ⟨k, by omega⟩
theorem narrow_ch {c : Int32} (h0 : ¬ c < 0) (h1 : ¬ 65535 < c) : narrow .char (.int c) = .int c := by
  have q : narrow .char (.int (pairCh (lo8 c) (hi8 c))) = .int (pairCh (lo8 c) (hi8 c)) := narrow_c _
  rwa [pair_says h0 h1] at q
/-- the array's cell V codes the n chars f 0 .. f (n - 1) by the coder cd, as the JDK does: coder 1 just where some char is above 255 -/
def Cod (cd : Int32) (n : Nat) (f : Nat → Int32) (V : Cell) : Prop := (cd = 0 ∧ V.slots.size = n ∧ ∀ j, j < n → V.slots[j]? = some (.int (lo8 (f j))) ∧ ¬ 255 < f j) ∨ (cd = 1 ∧ V.slots.size = 2 * n ∧ (∀ j, j < n → V.slots[2 * j]? = some (.int (lo8 (f j))) ∧ V.slots[2 * j + 1]? = some (.int (hi8 (f j)))) ∧ ∃ j, j < n ∧ 255 < f j)
theorem Cod.cd {cd : Int32} {n : Nat} {f : Nat → Int32} {V : Cell} (h : Cod cd n f V) : cd = 0 ∨ cd = 1 := h.imp (fun q => q.1) fun q => q.1
/-- **x is a String of the n chars f 0 .. f (n - 1)**, Latin-1 or UTF-16; its array at t has the cell V -/
def Txt (x t : Addr) (V : Cell) (cd : Int32) (n : Nat) (f : Nat → Int32) (U : State) : Prop := Exact "java/lang/String" x U ∧ Has x "java/lang/String" "value" "[B" (.ref t) U ∧ Has x "java/lang/String" "coder" "B" (.int cd) U ∧ XT.Arr .byte t V U ∧ Cod cd n f V ∧ ∀ j, j < n → ¬ f j < 0 ∧ ¬ 65535 < f j
theorem Txt.mv {x t : Addr} {V : Cell} {cd : Int32} {n : Nat} {f : Nat → Int32} {U U' : State} (h : Txt x t V cd n f U) (hal : U.vm.Alike U'.vm) (hh : U'.heap = U.heap) : Txt x t V cd n f U' := ⟨h.1.mv hal hh, h.2.1.mv hal hh, h.2.2.1.mv hal hh, h.2.2.2.1.mv hal hh, h.2.2.2.2⟩
namespace IsL
def yN : MethodName := ⟨"java/lang/String", "isLatin1", "()Z"⟩
abbrev yB : ByteArray := jdk_42_method_154_code
theorem d0 : decode yB 0 = .ok (.getstatic 38, 3) := by decide +kernel
theorem d3 : decode yB 3 = .ok (.ifCond (.eq) 14, 3) := by decide +kernel
theorem d6 : decode yB 6 = .ok (.aload_n 0, 1) := by decide +kernel
theorem d7 : decode yB 7 = .ok (.getfield 15, 3) := by decide +kernel
theorem d10 : decode yB 10 = .ok (.ifCond (.ne) 7, 3) := by decide +kernel
theorem d13 : decode yB 13 = .ok (.iconst 1, 1) := by decide +kernel
theorem d14 : decode yB 14 = .ok (.goto 4, 3) := by decide +kernel
theorem d17 : decode yB 17 = .ok (.iconst 0, 1) := by decide +kernel
theorem d18 : decode yB 18 = .ok (.ireturn, 1) := by decide +kernel
def site : List Cond := [.fieldLink "java/lang/String" 38 "java/lang/String" "COMPACT_STRINGS" "Z", .fieldLink "java/lang/String" 15 "java/lang/String" "coder" "B"]
def tab : Cond := tabOf yN yB 1 (some .boolean) site
def P (x : Addr) (cd z : Int32) (args : Array Value) (s : State) : Prop := args = #[.ref x] ∧ Has x "java/lang/String" "coder" "B" (.int cd) s ∧ (cd = 0 ∨ cd = 1) ∧ StaticIs s "java/lang/String" "COMPACT_STRINGS" "Z" (.int z) ∧ ¬ z = 0
def E (cd : Int32) (r : Option Value) (s u : State) : Prop := XT.PureE (some (.int (1 - cd))) r s u
theorem law (l : Launch) (x : Addr) (cd z : Int32) : Law l yN 1 0 0 0 yB 1 (some .boolean) site (P x cd z) (E cd) [] 0 0 := by
  refine Law.of_walk (plainFor_of_name (by decide +kernel)) (by decide +kernel) (by decide +kernel) (by decide) (fun _ _ h => by rw [h.1]; rfl) (fun _ U U' hal hh h => ⟨h.1, h.2.1.mv hal hh, h.2.2.1, h.2.2.2.1.there hal hh, h.2.2.2.2⟩) (fun r U U' V V' h1 hal h2 h => XT.PureE.mv r U U' V V' h1 hal h2 h) ?_
  intro p e s m args below meth c s₁ X0 hexec hbytes hml hret hlk hnm hown hh0 W hP
  obtain ⟨rfl, hx, hc, s1, hz⟩ := hP
  have c1 : Steps p.tables e below (s₁.setTop (entryFrame m #[.ref x] 1)) (s₁.setTop (mkF m 0 #[.val (.ref x)] [])) := entry rfl
  obtain ⟨T2, X2, q2, st2⟩ := X0.sget hexec hown (wk W (.fieldLink "java/lang/String" 38 "java/lang/String" "COMPACT_STRINGS" "Z")) s1 (fun _ _ h => by rw [hh0]; exact h) (g := (mkF m 0 #[.val (.ref x)] [])) rfl (hb hbytes d0)
  have hh2 := q2.trans hh0
  have c3 : Steps p.tables e below (s₁.setTop (entryFrame m #[.ref x] 1)) (T2.setTop (mkF m 7 #[.val (.ref x)] [.ref x])) := (c1.trans (st2 _ (Steps.refl _))).trans (by
    refine XS.ifNo X2.here hexec rfl (hb hbytes d3) rfl (i0_eq_f hz) ?_
    refine XS.aloadN X2.here hexec rfl (hb hbytes d6) rfl rfl ?_
    exact Steps.refl _)
  obtain ⟨T4, X4, q4, st4⟩ := X2.hget hexec hown (wk W (.fieldLink "java/lang/String" 15 "java/lang/String" "coder" "B")) (hx.mv X2.warmed.alike hh2) (g := (mkF m 7 #[.val (.ref x)] [.ref x])) rfl (rest := []) rfl (hb hbytes d7)
  have c5 : Steps p.tables e below (s₁.setTop (entryFrame m #[.ref x] 1)) (T4.setTop (mkF m 10 #[.val (.ref x)] [.int cd])) := c3.trans (st4 _ (Steps.refl _))
  have c6 : Steps p.tables e below (s₁.setTop (entryFrame m #[.ref x] 1)) (T4.setTop (mkF m 18 #[.val (.ref x)] [.int (1 - cd)])) := by
    rcases hc with rfl | rfl
    · exact c5.trans (by
        refine XS.ifNo X4.here hexec rfl (hb hbytes d10) rfl (i0_ne_f rfl) ?_
        refine iconstV X4.here hexec rfl 1 (hb hbytes d13) (by decide) ?_
        refine XS.goto X4.here hexec rfl (pc0 := 14) rfl (hb hbytes d14) (by decide) rfl ?_
        exact Steps.refl _)
    · exact c5.trans (by
        refine XS.ifYes X4.here hexec rfl (pc0 := 10) rfl (hb hbytes d10) rfl (i0_ne_t (by decide)) (by decide) rfl ?_
        refine iconstV X4.here hexec rfl 0 (hb hbytes d17) (by decide) ?_
        exact Steps.refl _)
  exact ⟨T4, some (.int (1 - cd)), _, _, _, X4, rfl, rfl, rfl, (fun h => by cases h), ⟨rfl, q4.trans hh2⟩, fun fs hl => c6.trans (X4.ireturnOut hexec hret (by rcases hc with rfl | rfl <;> rfl) (Or.inr (Or.inl rfl)) (hb hbytes d18) hl)⟩
end IsL
namespace LChA
def yN : MethodName := ⟨"java/lang/StringLatin1", "charAt", "([BI)C"⟩
abbrev yB : ByteArray := jdk_43_method_2_code
theorem d0 : decode yB 0 = .ok (.iload_n 1, 1) := by decide +kernel
theorem d1 : decode yB 1 = .ok (.aload_n 0, 1) := by decide +kernel
theorem d2 : decode yB 2 = .ok (.arraylength, 1) := by decide +kernel
theorem d3 : decode yB 3 = .ok (.invokestatic 9, 3) := by decide +kernel
theorem d6 : decode yB 6 = .ok (.aload_n 0, 1) := by decide +kernel
theorem d7 : decode yB 7 = .ok (.iload_n 1, 1) := by decide +kernel
theorem d8 : decode yB 8 = .ok (.baload, 1) := by decide +kernel
theorem d9 : decode yB 9 = .ok (.sipush 255, 3) := by decide +kernel
theorem d12 : decode yB 12 = .ok (.iand, 1) := by decide +kernel
theorem d13 : decode yB 13 = .ok (.i2c, 1) := by decide +kernel
theorem d14 : decode yB 14 = .ok (.ireturn, 1) := by decide +kernel
def site : List Cond := [JO.Str_checkIndex.tab] ++ staticW "java/lang/StringLatin1" 9 JO.Str_checkIndex.yN
def tab : Cond := tabOf yN yB 2 (some .char) site
def P (t : Addr) (V : Cell) (i : Nat) (u : Int32) (fm : Value) (args : Array Value) (s : State) : Prop := args = #[.ref t, .int (Int32.ofNat i)] ∧ XT.Arr .byte t V s ∧ V.slots[i]? = some (.int u) ∧ (StaticIs s "jdk/internal/util/Preconditions" "SIOOBE_FORMATTER" "Ljava/util/function/BiFunction;" fm ∧ fm.isRef = true)
def E (u : Int32) (r : Option Value) (s w : State) : Prop := XT.PureE (some (.int (chr8 u))) r s w
theorem law (l : Launch) (t : Addr) (V : Cell) (i : Nat) (u : Int32) (fm : Value) : Law l yN 2 2 2 27 yB 2 (some .char) site (P t V i u fm) (E u) [] 0 0 := by
  refine Law.of_walk (plainFor_of_name (by decide +kernel)) (by decide +kernel) (by decide +kernel) (by decide) (fun _ _ h => by rw [h.1]; rfl) (fun _ U U' hal hh h => ⟨h.1, h.2.1.mv hal hh, h.2.2.1, h.2.2.2.1.there hal hh, h.2.2.2.2⟩) (fun r U U' V V' h1 hal h2 h => XT.PureE.mv r U U' V V' h1 hal h2 h) ?_
  intro p e s m args below meth c s₁ X0 hexec hbytes hml hret hlk hnm hown hh0 W hP
  obtain ⟨rfl, hV, hu, s1, rf⟩ := hP
  have v31 := hV.2.2.2
  have hi : i < V.slots.size := (Array.getElem?_eq_some_iff.mp hu).1
  have c1 : Steps p.tables e below (s₁.setTop (entryFrame m #[.ref t, .int (Int32.ofNat i)] 2)) (s₁.setTop (mkF m 0 #[.val (.ref t), .val (.int (Int32.ofNat i))] [])) := entry rfl
  have c2 : Steps p.tables e below (s₁.setTop (entryFrame m #[.ref t, .int (Int32.ofNat i)] 2)) (s₁.setTop (mkF m 3 #[.val (.ref t), .val (.int (Int32.ofNat i))] [.int (Int32.ofNat V.slots.size), .int (Int32.ofNat i)])) := c1.trans (by
    refine XS.iloadN X0.here hexec rfl (hb hbytes d0) rfl ?_
    refine XS.aloadN X0.here hexec rfl (hb hbytes d1) rfl rfl ?_
    refine X0.alen hexec (hV.mv X0.warmed.alike hh0) rfl rfl (hb hbytes d2) ?_
    exact Steps.refl _)
  obtain ⟨v3, T3, X3, E3, g3⟩ := X0.callS hexec (JO.Str_checkIndex.law l (Int32.ofNat i) (Int32.ofNat V.slots.size) fm) hown (wks W (staticW "java/lang/StringLatin1" 9 JO.Str_checkIndex.yN)) (wk W JO.Str_checkIndex.tab) (W := 0) (Nat.le_of_ble_eq_true rfl) (Nat.le_of_ble_eq_true rfl) (Nat.le_refl _) (Nat.le_refl _) (g := (mkF m 3 #[.val (.ref t), .val (.int (Int32.ofNat i))] [.int (Int32.ofNat V.slots.size), .int (Int32.ofNat i)])) rfl (by rw [hml]; rfl) c2 (argsL := [.int (Int32.ofNat i), .int (Int32.ofNat V.slots.size)]) (rest := []) rfl rfl (by show 2 * 0 + 0 ≤ _; decide) (hb hbytes d3) (⟨rfl, rf, s1.there X0.warmed.alike hh0, Int32.ofNat_not_neg (by omega), lt32 v31 hi⟩)
  obtain ⟨rfl, q3⟩ := E3
  have hh3 := q3.trans hh0
  have c4 : Steps p.tables e below (s₁.setTop (entryFrame m #[.ref t, .int (Int32.ofNat i)] 2)) (T3.setTop (mkF m 14 #[.val (.ref t), .val (.int (Int32.ofNat i))] [.int (chr8 u)])) := Steps.trans g3 (by
    refine XS.aloadN X3.here hexec rfl (hb hbytes d6) rfl rfl ?_
    refine XS.iloadN X3.here hexec rfl (hb hbytes d7) rfl ?_
    refine X3.aget hexec (hV.mv X3.warmed.alike hh3) rfl hu rfl rfl (hb hbytes d8) ?_
    refine sipushV X3.here hexec rfl 255 (hb hbytes d9) (by decide) ?_
    refine XS.iand X3.here hexec rfl (hb hbytes d12) rfl ?_
    refine i2c X3.here hexec rfl (hb hbytes d13) rfl ?_
    exact Steps.refl _)
  exact ⟨T3, some (.int (chr8 u)), _, _, _, X3, rfl, rfl, rfl, (fun h => by cases h), ⟨rfl, hh3⟩, fun fs hl => c4.trans (X3.ireturnOut hexec hret (narrow_c _) (Or.inr (Or.inr (Or.inr (Or.inl rfl)))) (hb hbytes d14) hl)⟩
end LChA
end StrChars
namespace StrChars.Road
open Jvm Sem ClassFile Op Lib Jvm.Stand Jvm.Free Jvm.Free.XT
open Jvm.Lib.Cold (StaticIs)
theorem consq {a : Array Value} {s : State} {c : Jvm.Cond} {L : List Jvm.Cond} (h0 : c.before a s = true) (h : ∀ w ∈ L, w.before a s = true) : ∀ w ∈ c :: L, w.before a s = true := fun w hw => (List.mem_cons.mp hw).elim (fun e => e ▸ h0) (h w)
/-- the bytes of the chars cs, low before high -/
def wideBytes : List Int32 → List Value
  | [] => []
  | c :: cs => .int (lo8 c) :: .int (hi8 c) :: wideBytes cs
theorem wide_lo (d : Value) : ∀ (cs : List Int32) (j : Nat), j < cs.length → (wideBytes cs).getD (2 * j) d = .int (lo8 (cs.getD j 0))
  | [], j, h => absurd h (Nat.not_lt_zero j)
  | c :: cs, 0, _ => rfl
  | c :: cs, j + 1, h => by
    have q := wide_lo d cs j (by simpa using h)
    rw [show 2 * (j + 1) = 2 * j + 1 + 1 from by omega]
    simpa [wideBytes] using q
theorem wide_hi (d : Value) : ∀ (cs : List Int32) (j : Nat), j < cs.length → (wideBytes cs).getD (2 * j + 1) d = .int (hi8 (cs.getD j 0))
  | [], j, h => absurd h (Nat.not_lt_zero j)
  | c :: cs, 0, _ => rfl
  | c :: cs, j + 1, h => by
    have q := wide_hi d cs j (by simpa using h)
    rw [show 2 * (j + 1) + 1 = 2 * j + 1 + 1 + 1 from by omega]
    simpa [wideBytes] using q
theorem low_at (d : Value) (cs : List Int32) (j : Nat) (h : j < cs.length) : (cs.map fun c => Value.int (lo8 c)).getD j d = .int (lo8 (cs.getD j 0)) := by
  simp [List.getD_eq_getElem?_getD, h]
/-- an array of N2 bytes vs codes the chars cs by the coder cd -/
def CodA (cs : List Int32) (cd N2 : Int32) (vs : List Value) : Prop := (cd = 0 ∧ N2 = Int32.ofNat cs.length ∧ vs = (cs.map fun c => Value.int (lo8 c)) ∧ ∀ c ∈ cs, ¬ 255 < c) ∨ (cd = 1 ∧ N2 = Int32.ofNat (2 * cs.length) ∧ vs = wideBytes cs ∧ ∃ c ∈ cs, 255 < c)
theorem CodA.cod {cs : List Int32} {cd N2 : Int32} {vs : List Value} {V : Cell} (h : CodA cs cd N2 vs) (hn : 2 * cs.length < 2 ^ 31) (hs : V.slots.size = N2.toNatClampNeg) (hv : RoadKit.Has V vs (.int 0)) : Cod cd cs.length (fun j => cs.getD j 0) V := by
  rcases h with ⟨rfl, rfl, rfl, h⟩ | ⟨rfl, rfl, rfl, c, hc, hw⟩
  · rw [n32 (by omega)] at hs
    exact Or.inl ⟨rfl, hs, fun j hj => ⟨by rw [hv j (by omega), low_at _ _ _ hj], by
      have e : cs.getD j 0 = cs[j] := by simp [List.getD_eq_getElem?_getD, hj]
      show ¬ 255 < cs.getD j 0
      rw [e]; exact h _ (List.getElem_mem _)⟩⟩
  · rw [n32 (by omega)] at hs
    obtain ⟨j, hj, rfl⟩ := List.getElem_of_mem hc
    exact Or.inr ⟨rfl, hs, fun j hj => ⟨by rw [hv _ (by omega), wide_lo _ _ _ hj], by rw [hv _ (by omega), wide_hi _ _ _ hj]⟩, j, hj, by
      have e : cs.getD j 0 = cs[j] := by simp [List.getD_eq_getElem?_getD, hj]
      show 255 < cs.getD j 0
      rw [e]; exact hw⟩
/-- an object of exactly java/lang/String, its two fields found: as the laws ask it -/
theorem strObj {Z U : State} {a0 : Array Value} {kI : Nat} (wi : (Jvm.Cond.instantiable ST kI).before a0 Z = true) (al : Z.vm.Alike U.vm) {x : Addr} {v0 c0 : Value} (E : RoadKit.Exa Z U.heap x ST) (V : RoadKit.Fld Z U.heap x ST "value" "[B" v0) (C : RoadKit.Fld Z U.heap x ST "coder" "B" c0) :
    ∃ (D : Cell) (fV fC : Field), Blank ST x D U ∧ Found ST "value" "[B" fV U ∧ Found ST "coder" "B" fC U ∧ D.slots[fV.slot]? = some v0 ∧ D.slots[fC.slot]? = some c0 ∧ RoadKit.slotOf Z ST "value" "[B" = fV.slot ∧ RoadKit.slotOf Z ST "coder" "B" = fC.slot := by
  obtain ⟨D, cfV, kV, iV, fV, hD, gV, stV, knV, obV, asV, slV⟩ := V
  obtain ⟨D', cfC, kC, iC, fC, hD', gC, stC, -, -, asC, slC⟩ := C
  cases hD.symm.trans hD'
  obtain ⟨D2, kD, e1, e2, e3, e4, e5⟩ := E
  cases hD.symm.trans e1
  obtain ⟨c2, k2, i1, i2, i3, -⟩ := Cond.instantiable_spec wi
  cases e2.symm.trans i1
  cases e3.symm.trans i2
  obtain ⟨kU, u1, u2⟩ := al.2.2 _ _ e3
  exact ⟨D, fV, fC, ⟨hD, ⟨knV, fun q hq => by rw [hq] at obV; cases obV⟩, by rw [al.findClass]; exact e2, kU, u1, by rw [u2]; exact i3, by rw [u2]; exact e5 i3⟩, ⟨SBG.found_only al ⟨cfV, kV, iV, gV⟩, stV⟩, ⟨SBG.found_only al ⟨cfC, kC, iC, gC⟩, stC⟩, slV, slC, by simp [RoadKit.slotOf, gV], by simp [RoadKit.slotOf, gC]⟩
theorem sta_is {Z U : State} (al : Z.vm.Alike U.vm) {C n d : String} {v : Value} (S : RoadKit.Sta Z U.heap C n d v) : StaticIs U C n d v := by
  obtain ⟨cfS, iS, kS, fS, st, cS, t1, t2, t3, t4, t5, t6, t7⟩ := S
  exact StaticIs.there (s := { Z with heap := U.heap }) ⟨cfS, iS, kS, fS, st, cS, t1, t2, t3, t4, t5, (fun q => by rw [q] at t6; cases t6), t7⟩ al rfl
end StrChars.Road
namespace StrChars.Road
open Jvm Sem ClassFile Op Lib Jvm.Stand Jvm.Free Jvm.Free.XT
open Jvm.Lib.Cold (StaticIs)
/-- the road's facts of a String, as the laws ask it -/
theorem txt_of {Z U : State} {a0 : Array Value} {kI : Nat} (wi : (Jvm.Cond.instantiable ST kI).before a0 Z = true) (al : Z.vm.Alike U.vm) {x t : Addr} {kb : ClassId} {cs : List Int32} {cd N2 : Int32} {vs : List Value} (E : RoadKit.Exa Z U.heap x ST) (V : RoadKit.Fld Z U.heap x ST "value" "[B" (.ref t)) (C : RoadKit.Fld Z U.heap x ST "coder" "B" (.int cd)) (K : RoadKit.Arv Z U.heap t kb .byte N2 vs (.int 0)) (hc : CodA cs cd N2 vs) (hb : ∀ c ∈ cs, ¬ c < 0 ∧ ¬ (65535 : Int32) < c) (l2 : cs.length ≤ 4000) :
    ∃ A, Txt x t A cd cs.length (fun j => cs.getD j 0) U := by
  obtain ⟨A, K1, K2, K3, K4, K5, K6⟩ := K
  have hcod := hc.cod (by omega) K3 K5
  obtain ⟨D, fV, fC, hB, F1, F2, g1, g2, -, -⟩ := strObj wi al E V C
  exact ⟨A, ⟨_, hB.2.2.1, D, hB.1, rfl, by cases q : D.vm <;> first | rfl | exact absurd q (hB.2.1.2 _)⟩, Has.of hB F1 g1, Has.of hB F2 g2, ⟨K1.1, State.isArrayOf_alike al K1.2.1, K1.2.2, by rcases hcod with ⟨-, q, -⟩ | ⟨-, q, -⟩ <;> omega⟩, hcod, fun j hj => by
    have e : cs.getD j 0 = cs[j] := by simp [List.getD_eq_getElem?_getD, hj]
    show ¬ cs.getD j 0 < 0 ∧ ¬ 65535 < cs.getD j 0
    rw [e]; exact hb _ (List.getElem_mem _)⟩
end StrChars.Road
namespace StrChars
open Jvm Sem ClassFile Op Lib Jvm.Stand Jvm.Free.XT Jvm.Free.ALB Jvm.Free.JM Jvm.Free
open Jvm.Lib.Cold (StaticIs)
namespace ChN
def yN : MethodName := ⟨"java/lang/String", "charAt", "(I)C"⟩
abbrev yB : ByteArray := jdk_42_method_56_code
theorem d0 : decode yB 0 = .ok (.aload_n 0, 1) := by decide +kernel
theorem d1 : decode yB 1 = .ok (.invokevirtual 492, 3) := by decide +kernel
theorem d4 : decode yB 4 = .ok (.ifCond (.eq) 12, 3) := by decide +kernel
theorem d7 : decode yB 7 = .ok (.aload_n 0, 1) := by decide +kernel
theorem d8 : decode yB 8 = .ok (.getfield 9, 3) := by decide +kernel
theorem d11 : decode yB 11 = .ok (.iload_n 1, 1) := by decide +kernel
theorem d12 : decode yB 12 = .ok (.invokestatic 495, 3) := by decide +kernel
theorem d15 : decode yB 15 = .ok (.ireturn, 1) := by decide +kernel
def site : List Cond := [.fieldLink "java/lang/String" 9 "java/lang/String" "value" "[B", IsL.tab, LChA.tab] ++ virtW "java/lang/String" 492 "java/lang/String" IsL.yN IsL.yN ++ staticW "java/lang/String" 495 LChA.yN
def tab : Cond := tabOf yN yB 2 (some .char) site
def P (x t : Addr) (V : Cell) (n : Nat) (f : Nat → Int32) (z : Int32) (fm : Value) (i : Nat) (args : Array Value) (s : State) : Prop := args = #[.ref x, .int (Int32.ofNat i)] ∧ Txt x t V 0 n f s ∧ i < n ∧ StaticIs s "java/lang/String" "COMPACT_STRINGS" "Z" (.int z) ∧ ¬ z = 0 ∧ StaticIs s "jdk/internal/util/Preconditions" "SIOOBE_FORMATTER" "Ljava/util/function/BiFunction;" fm ∧ fm.isRef = true
def E (f : Nat → Int32) (i : Nat) (r : Option Value) (s u : State) : Prop := XT.PureE (some (.int (f i))) r s u
/-- charAt(i) of a Latin-1 String of n chars, i < n: f i -/
theorem law (l : Launch) (x t : Addr) (V : Cell) (n : Nat) (f : Nat → Int32) (z : Int32) (fm : Value) (i : Nat) : Law l yN 2 1 3 40 yB 2 (some .char) site (P x t V n f z fm i) (E f i) [] 0 0 := by
  refine Law.of_walk (plainFor_of_name (by decide +kernel)) (by decide +kernel) (by decide +kernel) (by decide) (fun _ _ h => by rw [h.1]; rfl) (fun _ U U' hal hh h => ⟨h.1, h.2.1.mv hal hh, h.2.2.1, h.2.2.2.1.there hal hh, h.2.2.2.2.1, h.2.2.2.2.2.1.there hal hh, h.2.2.2.2.2.2⟩) (fun r U U' V V' h1 hal h2 h => XT.PureE.mv r U U' V V' h1 hal h2 h) ?_
  intro p e s m args below meth c s₁ X0 hexec hbytes hml hret hlk hnm hown hh0 W hP
  obtain ⟨rfl, hx, hi, s1, hz, s3, rf⟩ := hP
  have v31 := hx.2.2.2.1.2.2.2
  have hr := hx.2.2.2.2.2 i hi
  have hx0 := hx.mv X0.warmed.alike hh0
  have c1 : Steps p.tables e below (s₁.setTop (entryFrame m #[.ref x, .int (Int32.ofNat i)] 2)) (s₁.setTop (mkF m 1 #[.val (.ref x), .val (.int (Int32.ofNat i))] [.ref x])) := Steps.trans (entry rfl) (by
    show Steps p.tables e below (s₁.setTop (mkF m 0 #[.val (.ref x), .val (.int (Int32.ofNat i))] [])) _
    refine XS.aloadN X0.here hexec rfl (hb hbytes d0) rfl rfl ?_
    exact Steps.refl _)
  obtain ⟨v2, T2, X2, E2, g2⟩ := X0.callV hexec (IsL.law l x 0 z) hown (wks W (virtW "java/lang/String" 492 "java/lang/String" IsL.yN IsL.yN)) rfl (by decide) (wk W IsL.tab) (W := 0) (Nat.le_of_ble_eq_true rfl) (Nat.le_of_ble_eq_true rfl) (Nat.le_refl _) (Nat.le_refl _) (hx0.1.fc X0.warmed.alike) hx0.1.is (g := (mkF m 1 #[.val (.ref x), .val (.int (Int32.ofNat i))] [.ref x])) rfl (by rw [hml]; rfl) c1 (argsL := []) (rest := []) rfl rfl (by show 2 * 0 + 0 ≤ _; decide) (hb hbytes d1) (⟨rfl, hx0.2.2.1, hx.2.2.2.2.1.cd, s1.there X0.warmed.alike hh0, hz⟩)
  obtain ⟨rfl, q2⟩ := E2
  have hh2 := q2.trans hh0
  have hx2 := hx.mv X2.warmed.alike hh2
  obtain ⟨-, k1, k2⟩ | ⟨k0, -⟩ := hx.2.2.2.2.1
  · have c3 : Steps p.tables e below (s₁.setTop (entryFrame m #[.ref x, .int (Int32.ofNat i)] 2)) (T2.setTop (mkF m 8 #[.val (.ref x), .val (.int (Int32.ofNat i))] [.ref x])) := Steps.trans g2 (by
      refine XS.ifNo X2.here hexec rfl (hb hbytes d4) rfl (i0_eq_f (by decide)) ?_
      refine XS.aloadN X2.here hexec rfl (hb hbytes d7) rfl rfl ?_
      exact Steps.refl _)
    obtain ⟨T4, X4, q4, st4⟩ := X2.hget hexec hown (wk W (.fieldLink "java/lang/String" 9 "java/lang/String" "value" "[B")) hx2.2.1 (g := (mkF m 8 #[.val (.ref x), .val (.int (Int32.ofNat i))] [.ref x])) rfl (rest := []) rfl (hb hbytes d8)
    have hh4 := q4.trans hh2
    have c5 : Steps p.tables e below (s₁.setTop (entryFrame m #[.ref x, .int (Int32.ofNat i)] 2)) (T4.setTop (mkF m 12 #[.val (.ref x), .val (.int (Int32.ofNat i))] [.int (Int32.ofNat i), .ref t])) := (c3.trans (st4 _ (Steps.refl _))).trans (by
      refine XS.iloadN X4.here hexec rfl (hb hbytes d11) rfl ?_
      exact Steps.refl _)
    obtain ⟨v6, T6, X6, E6, g6⟩ := X4.callS hexec (LChA.law l t V i (lo8 (f i)) fm) hown (wks W (staticW "java/lang/String" 495 LChA.yN)) (wk W LChA.tab) (W := 0) (Nat.le_of_ble_eq_true rfl) (Nat.le_of_ble_eq_true rfl) (Nat.le_refl _) (Nat.le_refl _) (g := (mkF m 12 #[.val (.ref x), .val (.int (Int32.ofNat i))] [.int (Int32.ofNat i), .ref t])) rfl (by rw [hml]; rfl) c5 (argsL := [.ref t, .int (Int32.ofNat i)]) (rest := []) rfl rfl (by show 2 * 0 + 0 ≤ _; decide) (hb hbytes d12) (⟨rfl, hx.2.2.2.1.mv X4.warmed.alike hh4, (k2 i hi).1, s3.there X4.warmed.alike hh4, rf⟩)
    obtain ⟨rfl, q6⟩ := E6
    rw [chr8_lo8 hr.1 (k2 i hi).2] at g6
    exact ⟨T6, some (.int (f i)), _, _, _, X6, rfl, rfl, rfl, (fun h => by cases h), ⟨rfl, q6.trans hh4⟩, fun fs hl => Steps.trans g6 (X6.ireturnOut hexec hret (narrow_ch hr.1 hr.2) (Or.inr (Or.inr (Or.inr (Or.inl rfl)))) (hb hbytes d15) hl)⟩
  · exact absurd k0 (by decide)
theorem pays {l : Launch} {R : Room} {p : Program} {e : Env} {below : List Frame} {s : State} {sargs : Array Value} {len W : Nat} (x t : Addr) (V : Cell) (n : Nat) (f : Nat → Int32) (z : Int32) (fm : Value) (i : Nat) (htab : tab.before sargs s = true) (hfr : 4 ≤ R.frames) (hlo : W + 53 ≤ R.locals) :
    Back l R p e below s sargs yN len W (fun A₁ a₁ => A₁.cells + 0 ≤ R.cells ∧ A₁.slots + 0 ≤ R.slots ∧ P x t V n f z fm i a₁ A₁.U) (fun A₁ _ v₁ B₁ => E f i v₁ A₁.U B₁.U ∧ B₁.locs = A₁.locs ++ [] ∧ B₁.cells = A₁.cells + 0 ∧ B₁.slots = A₁.slots + 0) :=
  (law l x t V n f z fm i).pays htab hfr (by omega)
end ChN
end StrChars
namespace StrChars.Road
open Jvm Sem ClassFile Op Lib Jvm.Stand Jvm.Free Jvm.Free.XT
open Jvm.Lib.Cold (StaticIs)
/-- the words of String.charAt(int), the Latin-1 road alone -/
abbrev wordsChN : List Jvm.Cond := [.code ChN.yN ChN.yB 2 (some .char), .initialized ST, .fieldLink ST 9 ST "value" "[B", .fieldLink ST 38 ST "COMPACT_STRINGS" "Z", .fieldLink ST 15 ST "coder" "B", .code IsL.yN IsL.yB 1 (some .boolean), .methodLink ST 492 IsL.yN, .declares IsL.yN, .selects ST IsL.yN IsL.yN, .instanceMethod IsL.yN,
  .methodLink ST 495 LChA.yN, .static LChA.yN, .code LChA.yN LChA.yB 2 (some .char), .initialized "java/lang/StringLatin1", .methodLink "java/lang/StringLatin1" 9 JO.Str_checkIndex.yN, .static JO.Str_checkIndex.yN, .code JO.Str_checkIndex.yN JO.Str_checkIndex.yB 2 none,
  .fieldLink ST 1053 "jdk/internal/util/Preconditions" "SIOOBE_FORMATTER" "Ljava/util/function/BiFunction;", .methodLink ST 1059 JC.PreCheck.yN, .static JC.PreCheck.yN, .code JC.PreCheck.yN JC.PreCheck.yB 3 (some .int), .initialized "jdk/internal/util/Preconditions"]
theorem tabChN_of {a : Array Value} {s : State} (h : ∀ w ∈ wordsChN, w.before a s = true) : ChN.tab.before a s = true := by
  have hp : JC.PreCheck.tab.before a s = true := unparts (wk h (.code JC.PreCheck.yN JC.PreCheck.yB 3 (some .int))) (wks h (.initialized JC.PreCheck.yN.cls :: JC.PreCheck.site))
  have qk := consq hp h
  have hk : JO.Str_checkIndex.tab.before a s = true := unparts (wk qk (.code JO.Str_checkIndex.yN JO.Str_checkIndex.yB 2 none)) (wks qk (.initialized JO.Str_checkIndex.yN.cls :: JO.Str_checkIndex.site))
  have ql := consq hk h
  have hl : LChA.tab.before a s = true := unparts (wk ql (.code LChA.yN LChA.yB 2 (some .char))) (wks ql (.initialized LChA.yN.cls :: LChA.site))
  have hi : IsL.tab.before a s = true := unparts (wk h (.code IsL.yN IsL.yB 1 (some .boolean))) (wks h (.initialized IsL.yN.cls :: IsL.site))
  have q := consq hi (consq hl h)
  exact unparts (wk q (.code ChN.yN ChN.yB 2 (some .char))) (wks q (.initialized ChN.yN.cls :: ChN.site))
theorem movedChN {Z s : State} {a0 args : Array Value} (hZ : Z.Warmed39 s.vm) (hw : ∀ d ∈ wordsChN, d.before a0 Z = true) : ∀ d ∈ wordsChN, d.before args s = true := fun d hd => by
  have t : ∀ d ∈ wordsChN, (d.onTables && d.keepsFace) = true := by decide +kernel
  exact RoadKit.mv hZ (hw d hd) (t d hd)
/-- **charAt(i) OF A LATIN-1 STRING**, i < n: the char -/
theorem chN {p : Program} {l : Launch} {e : Env} {R : Room} {s : State} {args : Array Value} {below : List Frame} {len W : Nat} {Z : State} {a0 : Array Value} {h : Heap} (hZ : Z.Warmed39 s.vm) (hw : ∀ d ∈ wordsChN, d.before a0 Z = true) {kI : Nat} (wi : (Jvm.Cond.instantiable ST kI).before a0 Z = true)
    {x t : Addr} {kb : ClassId} {cs : List Int32} {N2 z : Int32} {vs : List Value} {fm : Value} {i : Nat} {j : Int32} (E : RoadKit.Exa Z h x ST) (V : RoadKit.Fld Z h x ST "value" "[B" (.ref t)) (C : RoadKit.Fld Z h x ST "coder" "B" (.int 0)) (K : RoadKit.Arv Z h t kb .byte N2 vs (.int 0)) (hc : CodA cs 0 N2 vs) (hb : ∀ c ∈ cs, ¬ c < 0 ∧ ¬ (65535 : Int32) < c)
    (S : RoadKit.Sta Z h ST "COMPACT_STRINGS" "Z" (.int z)) (hz : ¬ z = 0) (F : RoadKit.Sta Z h "jdk/internal/util/Preconditions" "SIOOBE_FORMATTER" "Ljava/util/function/BiFunction;" fm) (rf : fm.isRef = true) (l2 : cs.length ≤ 4000) (hi : i < cs.length) (hj : j = Int32.ofNat i) (hfr : 4 ≤ R.frames) (hlo : W + 53 ≤ R.locals) :
    Back l R p e below s args (⟨"java/lang/String", "charAt", "(I)C"⟩ : MethodName) len W (fun P a => a = #[.ref x, .int j] ∧ P.U.heap = h ∧ P.cells + 0 ≤ R.cells ∧ P.slots + 0 ≤ R.slots)
      (fun P _ v B => ∃ L, (v = some (.int (cs.getD i 0)) ∧ L = [] ∧ B.U.heap = h) ∧ B.locs = P.locs ++ L ∧ B.cells = P.cells + 0 ∧ B.slots = P.slots + 0) := by
  subst hj
  intro m meth c P g ig mk a X hg hsize hdg hW hn hp'
  obtain ⟨rfl, rfl, r1, r2⟩ := hp'
  have al : Z.vm.Alike P.U.vm := hZ.alike.trans X.warmed.alike
  obtain ⟨A, hx⟩ := txt_of wi al E V C K hc hb l2
  obtain ⟨v, B, X', ⟨⟨hv, hh⟩, hl, hk, hs⟩, st⟩ := ChN.pays x t A cs.length (fun j => cs.getD j 0) z fm i (tabChN_of (movedChN hZ hw)) hfr hlo m meth c P g ig mk _ X hg hsize hdg hW hn ⟨r1, r2, rfl, hx, hi, sta_is al S, hz, sta_is al F, rf⟩
  exact ⟨v, B, X', ⟨[], ⟨hv, rfl, hh⟩, hl, hk, hs⟩, st⟩
/-- what backV says of its String, as the contracts of this text ask it: cs's low bytes, coder 0 -/
theorem codOf {cs : List Int32} {n : Nat} (hn : cs.length = n) (hb : ∀ c ∈ cs, ¬ 255 < c) : CodA cs 0 (Int32.ofNat n) ((cs.map lo8).map Value.int) := Or.inl ⟨rfl, by rw [hn], by simp [List.map_map, Function.comp_def], hb⟩
end StrChars.Road
end Jvm.Pilot.@@N@@

namespace Jvm.Pilot.@@N@@
open Jvm Jvm.ClassFile Sem Op Lib Jvm.Free Jvm.Stand Jvm.LawKit Jvm.RoadKit Bundle Jvm.Pilot.@@N@@.Jvm.D
theorem pn_0 : plainName "com/example/fiducia/fiducia/model/IdentificationTypeCheckDigitPinLaw" = true := by first | (simp [plainName, overriddenIn]; done) | decide +kernel
theorem pd_0 : parseMethodDescriptor "(I)C" = some ⟨[.int], some .char⟩ := by decide +kernel
theorem pn_1 : plainName "com/example/fiducia/fiducia/model/IdentificationType" = true := by first | (simp [plainName, overriddenIn]; done) | decide +kernel
theorem pd_1 : parseMethodDescriptor "(JI)C" = some ⟨[.long, .int], some .char⟩ := by decide +kernel
theorem pd_2 : parseMethodDescriptor "([C)V" = some ⟨[(.array .char)], none⟩ := by decide +kernel
theorem pd_3 : parseMethodDescriptor "([CIII)I" = some ⟨[(.array .char), .int, .int, .int], some .int⟩ := by decide +kernel
theorem pd_4 : parseMethodDescriptor "(Ljava/lang/String;I)I" = some ⟨[(.object "java/lang/String"), .int], some .int⟩ := by decide +kernel
theorem d1_0 : decode method_3_code 0 = .ok (.lload_n 0, 1) := by decide +kernel
theorem d1_1 : decode method_3_code 1 = .ok (.iload_n 2, 1) := by decide +kernel
theorem d1_2 : decode method_3_code 2 = .ok (.lushr, 1) := by decide +kernel
theorem d1_3 : decode method_3_code 3 = .ok (.ldc2_w 36, 3) := by decide +kernel
theorem d1_6 : decode method_3_code 6 = .ok (.land, 1) := by decide +kernel
theorem d1_7 : decode method_3_code 7 = .ok (.l2i, 1) := by decide +kernel
theorem d1_8 : decode method_3_code 8 = .ok (.bipush 36, 2) := by decide +kernel
theorem d1_10 : decode method_3_code 10 = .ok (.irem, 1) := by decide +kernel
theorem d1_11 : decode method_3_code 11 = .ok (.istore_n 3, 1) := by decide +kernel
theorem d1_12 : decode method_3_code 12 = .ok (.iload_n 3, 1) := by decide +kernel
theorem d1_13 : decode method_3_code 13 = .ok (.bipush 10, 2) := by decide +kernel
theorem d1_15 : decode method_3_code 15 = .ok (.if_icmp .ge 9, 3) := by decide +kernel
theorem d1_18 : decode method_3_code 18 = .ok (.bipush 48, 2) := by decide +kernel
theorem d1_20 : decode method_3_code 20 = .ok (.iload_n 3, 1) := by decide +kernel
theorem d1_21 : decode method_3_code 21 = .ok (.iadd, 1) := by decide +kernel
theorem d1_22 : decode method_3_code 22 = .ok (.i2c, 1) := by decide +kernel
theorem d1_23 : decode method_3_code 23 = .ok (.ireturn, 1) := by decide +kernel
theorem d1_24 : decode method_3_code 24 = .ok (.bipush 65, 2) := by decide +kernel
theorem d1_26 : decode method_3_code 26 = .ok (.iload_n 3, 1) := by decide +kernel
theorem d1_27 : decode method_3_code 27 = .ok (.bipush 10, 2) := by decide +kernel
theorem d1_29 : decode method_3_code 29 = .ok (.isub, 1) := by decide +kernel
theorem d1_30 : decode method_3_code 30 = .ok (.iadd, 1) := by decide +kernel
theorem d1_31 : decode method_3_code 31 = .ok (.i2c, 1) := by decide +kernel
theorem d1_32 : decode method_3_code 32 = .ok (.ireturn, 1) := by decide +kernel
theorem d8_0 : decode method_4_code 0 = .ok (.iload_n 1, 1) := by decide +kernel
theorem d8_1 : decode method_4_code 1 = .ok (.iload_n 2, 1) := by decide +kernel
theorem d8_2 : decode method_4_code 2 = .ok (.if_icmp .lt 5, 3) := by decide +kernel
theorem d8_5 : decode method_4_code 5 = .ok (.iconst 0, 1) := by decide +kernel
theorem d8_6 : decode method_4_code 6 = .ok (.ireturn, 1) := by decide +kernel
theorem d8_7 : decode method_4_code 7 = .ok (.iload_n 2, 1) := by decide +kernel
theorem d8_8 : decode method_4_code 8 = .ok (.iconst 1, 1) := by decide +kernel
theorem d8_9 : decode method_4_code 9 = .ok (.isub, 1) := by decide +kernel
theorem d8_10 : decode method_4_code 10 = .ok (.iload_n 1, 1) := by decide +kernel
theorem d8_11 : decode method_4_code 11 = .ok (.isub, 1) := by decide +kernel
theorem d8_12 : decode method_4_code 12 = .ok (.istore 4, 2) := by decide +kernel
theorem d8_14 : decode method_4_code 14 = .ok (.aload_n 0, 1) := by decide +kernel
theorem d8_15 : decode method_4_code 15 = .ok (.iload_n 1, 1) := by decide +kernel
theorem d8_16 : decode method_4_code 16 = .ok (.caload, 1) := by decide +kernel
theorem d8_17 : decode method_4_code 17 = .ok (.bipush 48, 2) := by decide +kernel
theorem d8_19 : decode method_4_code 19 = .ok (.isub, 1) := by decide +kernel
theorem d8_20 : decode method_4_code 20 = .ok (.iconst 2, 1) := by decide +kernel
theorem d8_21 : decode method_4_code 21 = .ok (.iload 4, 2) := by decide +kernel
theorem d8_23 : decode method_4_code 23 = .ok (.iload_n 3, 1) := by decide +kernel
theorem d8_24 : decode method_4_code 24 = .ok (.iconst 1, 1) := by decide +kernel
theorem d8_25 : decode method_4_code 25 = .ok (.isub, 1) := by decide +kernel
theorem d8_26 : decode method_4_code 26 = .ok (.irem, 1) := by decide +kernel
theorem d8_27 : decode method_4_code 27 = .ok (.iadd, 1) := by decide +kernel
theorem d8_28 : decode method_4_code 28 = .ok (.imul, 1) := by decide +kernel
theorem d8_29 : decode method_4_code 29 = .ok (.ireturn, 1) := by decide +kernel
theorem d9_0 : decode prog_16_method_7_code 0 = .ok (.iconst 0, 1) := by decide +kernel
theorem d9_1 : decode prog_16_method_7_code 1 = .ok (.istore_n 3, 1) := by decide +kernel
theorem d9_2 : decode prog_16_method_7_code 2 = .ok (.iconst 2, 1) := by decide +kernel
theorem d9_3 : decode prog_16_method_7_code 3 = .ok (.istore 4, 2) := by decide +kernel
theorem d9_5 : decode prog_16_method_7_code 5 = .ok (.iload_n 2, 1) := by decide +kernel
theorem d9_6 : decode prog_16_method_7_code 6 = .ok (.iconst 1, 1) := by decide +kernel
theorem d9_7 : decode prog_16_method_7_code 7 = .ok (.isub, 1) := by decide +kernel
theorem d9_8 : decode prog_16_method_7_code 8 = .ok (.istore 5, 2) := by decide +kernel
theorem d9_10 : decode prog_16_method_7_code 10 = .ok (.iload 5, 2) := by decide +kernel
theorem d9_12 : decode prog_16_method_7_code 12 = .ok (.ifCond .lt 43, 3) := by decide +kernel
theorem d9_15 : decode prog_16_method_7_code 15 = .ok (.iload_n 3, 1) := by decide +kernel
theorem d9_16 : decode prog_16_method_7_code 16 = .ok (.aload_n 1, 1) := by decide +kernel
theorem d9_17 : decode prog_16_method_7_code 17 = .ok (.iload 5, 2) := by decide +kernel
theorem d9_19 : decode prog_16_method_7_code 19 = .ok (.invokevirtual 43, 3) := by decide +kernel
theorem d9_22 : decode prog_16_method_7_code 22 = .ok (.bipush 48, 2) := by decide +kernel
theorem d9_24 : decode prog_16_method_7_code 24 = .ok (.isub, 1) := by decide +kernel
theorem d9_25 : decode prog_16_method_7_code 25 = .ok (.iload 4, 2) := by decide +kernel
theorem d9_27 : decode prog_16_method_7_code 27 = .ok (.imul, 1) := by decide +kernel
theorem d9_28 : decode prog_16_method_7_code 28 = .ok (.iadd, 1) := by decide +kernel
theorem d9_29 : decode prog_16_method_7_code 29 = .ok (.istore_n 3, 1) := by decide +kernel
theorem d9_30 : decode prog_16_method_7_code 30 = .ok (.iload 4, 2) := by decide +kernel
theorem d9_32 : decode prog_16_method_7_code 32 = .ok (.aload_n 0, 1) := by decide +kernel
theorem d9_33 : decode prog_16_method_7_code 33 = .ok (.getfield 36, 3) := by decide +kernel
theorem d9_36 : decode prog_16_method_7_code 36 = .ok (.if_icmp .ne 7, 3) := by decide +kernel
theorem d9_39 : decode prog_16_method_7_code 39 = .ok (.iconst 2, 1) := by decide +kernel
theorem d9_40 : decode prog_16_method_7_code 40 = .ok (.goto 7, 3) := by decide +kernel
theorem d9_43 : decode prog_16_method_7_code 43 = .ok (.iload 4, 2) := by decide +kernel
theorem d9_45 : decode prog_16_method_7_code 45 = .ok (.iconst 1, 1) := by decide +kernel
theorem d9_46 : decode prog_16_method_7_code 46 = .ok (.iadd, 1) := by decide +kernel
theorem d9_47 : decode prog_16_method_7_code 47 = .ok (.istore 4, 2) := by decide +kernel
theorem d9_49 : decode prog_16_method_7_code 49 = .ok (.iinc 5 (-1), 3) := by decide +kernel
theorem d9_52 : decode prog_16_method_7_code 52 = .ok (.goto (-42), 3) := by decide +kernel
theorem d9_55 : decode prog_16_method_7_code 55 = .ok (.iload_n 3, 1) := by decide +kernel
theorem d9_56 : decode prog_16_method_7_code 56 = .ok (.bipush 11, 2) := by decide +kernel
theorem d9_58 : decode prog_16_method_7_code 58 = .ok (.irem, 1) := by decide +kernel
theorem d9_59 : decode prog_16_method_7_code 59 = .ok (.istore 5, 2) := by decide +kernel
theorem d9_61 : decode prog_16_method_7_code 61 = .ok (.iload 5, 2) := by decide +kernel
theorem d9_63 : decode prog_16_method_7_code 63 = .ok (.iconst 2, 1) := by decide +kernel
theorem d9_64 : decode prog_16_method_7_code 64 = .ok (.if_icmp .ge 7, 3) := by decide +kernel
theorem d9_67 : decode prog_16_method_7_code 67 = .ok (.iconst 0, 1) := by decide +kernel
theorem d9_68 : decode prog_16_method_7_code 68 = .ok (.goto 8, 3) := by decide +kernel
theorem d9_71 : decode prog_16_method_7_code 71 = .ok (.bipush 11, 2) := by decide +kernel
theorem d9_73 : decode prog_16_method_7_code 73 = .ok (.iload 5, 2) := by decide +kernel
theorem d9_75 : decode prog_16_method_7_code 75 = .ok (.isub, 1) := by decide +kernel
theorem d9_76 : decode prog_16_method_7_code 76 = .ok (.ireturn, 1) := by decide +kernel
theorem own_narR {t : FieldType} {w : Value} (ht : t.isReference = true) (h : w.isRef = true) : narrow t w = w := by rcases ref_cases h with rfl | ⟨_, rfl⟩ <;> cases t <;> first | rfl | (cases ht; done)
theorem own_fitsR {t : FieldType} {w : Value} (ht : t.isReference = true) (h : w.isRef = true) : fits t w = true := by rcases ref_cases h with rfl | ⟨_, rfl⟩ <;> cases t <;> first | rfl | (cases ht; done)
theorem own_nin {a b : Addr} (h : a ≠ b) : a ∉ [b] := fun z => h (List.mem_singleton.mp z)
theorem own_nil {a : Addr} : a ∉ ([] : List Addr) := fun z => nomatch z
theorem own_l36 : (36 : Int32).toInt = 36 := by decide
theorem own_v {x : Int64} {v : Int32} (h : v = ((x &&& (63 : Int64)).toInt32) % (36 : Int32)) : 0 ≤ v.toInt ∧ v.toInt < 36 := by
  have a : (x &&& (63 : Int64)).toInt = x.toInt % 64 := c_maskL x _ 6 (by decide) (by decide)
  have b := c_l2i (x &&& (63 : Int64))
  have r := rng32 ((x &&& (63 : Int64)).toInt32)
  have d := (c_irem ((x &&& (63 : Int64)).toInt32) 36 36 own_l36).1 (by omega)
  rw [h, d]
  omega
theorem own_nari {x : Int32} (h0 : 0 ≤ x.toInt) (h1 : x.toInt < 65536) : nar .char x = x := by
  apply Int32.toInt_inj.mp
  have a := c_i2c x
  show x.toUInt32.toUInt16.toUInt32.toInt32.toInt = x.toInt
  omega
theorem own_nar {x : Int32} (h : 48 ≤ x.toInt ∧ x.toInt ≤ 90) : nar .char x = x := own_nari (by omega) (by omega)
theorem own_i2c {x : Int32} (h0 : 0 ≤ x.toInt) (h1 : x.toInt < 65536) : nar .char (x.toUInt32.toUInt16.toUInt32.toInt32) = x := by
  have e : x.toUInt32.toUInt16.toUInt32.toInt32 = x := own_nari h0 h1
  rw [e]
  exact e
theorem own_ch1 {v : Int32} (hb : 0 ≤ v.toInt ∧ v.toInt < 36) (hc : v < (10 : Int32)) : 48 ≤ (nar .char (((48 : Int32) + v).toUInt32.toUInt16.toUInt32.toInt32)).toInt ∧ (nar .char (((48 : Int32) + v).toUInt32.toUInt16.toUInt32.toInt32)).toInt ≤ 90 := by
  have a := c_iadd 48 v
  have r := rng32 ((48 : Int32) + v)
  have k : (48 : Int32).toInt = 48 := by decide
  have k2 : (10 : Int32).toInt = 10 := by decide
  rw [Int32.lt_iff_toInt_lt, k2] at hc
  rw [k] at a
  rw [own_i2c (by omega) (by omega)]
  omega
theorem own_ch2 {v : Int32} (hb : 0 ≤ v.toInt ∧ v.toInt < 36) (hc : ¬ (v < (10 : Int32))) : 48 ≤ (nar .char (((65 : Int32) + (v - (10 : Int32))).toUInt32.toUInt16.toUInt32.toInt32)).toInt ∧ (nar .char (((65 : Int32) + (v - (10 : Int32))).toUInt32.toUInt16.toUInt32.toInt32)).toInt ≤ 90 := by
  have a := c_iadd 65 (v - 10)
  have a' := c_isub v 10
  have r := rng32 ((65 : Int32) + (v - 10))
  have r' := rng32 (v - 10)
  have k : (65 : Int32).toInt = 65 := by decide
  have k2 : (10 : Int32).toInt = 10 := by decide
  rw [Int32.lt_iff_toInt_lt, k2] at hc
  rw [k] at a
  rw [k2] at a'
  rw [own_i2c (by omega) (by omega)]
  omega
/-- what one place adds -/
def TG (cs : List Int32) (pn hn j : Nat) : Int := ((cs.getD j 0).toInt - 48) * (2 + (((pn - 1 - j) % (hn - 1) : Nat) : Int))
def TF (cs : List Int32) (pn hn j : Nat) : Int := if j < pn then TG cs pn hn j else 0
def SM (cs : List Int32) (pn hn : Nat) : Nat → Int
  | 0 => 0
  | j + 1 => SM cs pn hn j + TG cs pn hn j
theorem own_getD {cs : List Int32} {n : Nat} (hl : cs.length = 14) (hp : ∀ c ∈ cs, 48 ≤ c.toInt ∧ c.toInt ≤ 90) (hi : n < 14) : 48 ≤ (cs.getD n 0).toInt ∧ (cs.getD n 0).toInt ≤ 90 := by
  have e : cs.getD n 0 = cs[n]'(by omega) := by simp [List.getD_eq_getElem?_getD, show n < cs.length by omega]
  rw [e]
  exact hp _ (List.getElem_mem _)
theorem own_mulb {a b A B : Int} (ha : 0 ≤ a) (hb : 0 ≤ b) (hA : a ≤ A) (hB : b ≤ B) : 0 ≤ a * b ∧ a * b ≤ A * B := ⟨Int.mul_nonneg ha hb, Int.mul_le_mul hA hB hb (Int.le_trans ha hA)⟩
theorem own_mod {m hn : Nat} (hhn : hn = 9 ∨ hn = 11) : m % (hn - 1) ≤ 9 := by rcases hhn with rfl | rfl <;> omega
theorem own_tgb {cs : List Int32} {pn hn n : Nat} (hl : cs.length = 14) (hp : ∀ c ∈ cs, 48 ≤ c.toInt ∧ c.toInt ≤ 90) (hi : n < 14) (hhn : hn = 9 ∨ hn = 11) : 0 ≤ TG cs pn hn n ∧ TG cs pn hn n ≤ 462 := by
  have g := own_getD hl hp hi
  have m := own_mod (m := pn - 1 - n) hhn
  exact own_mulb (A := 42) (B := 11) (by omega) (by omega) (by omega) (by omega)
theorem own_smb {cs : List Int32} {pn hn : Nat} (hl : cs.length = 14) (hp : ∀ c ∈ cs, 48 ≤ c.toInt ∧ c.toInt ≤ 90) (hhn : hn = 9 ∨ hn = 11) : ∀ n, n ≤ 14 → 0 ≤ SM cs pn hn n ∧ SM cs pn hn n ≤ 462 * n
  | 0, _ => by simp [SM]
  | n + 1, h => by
    have q := own_smb (pn := pn) hl hp hhn n (by omega)
    have t := own_tgb (pn := pn) hl hp (show n < 14 by omega) hhn
    simp only [SM]
    omega
theorem own_smm {cs : List Int32} {pn hn : Nat} (hl : cs.length = 14) (hp : ∀ c ∈ cs, 48 ≤ c.toInt ∧ c.toInt ≤ 90) (hhn : hn = 9 ∨ hn = 11) {k : Nat} : ∀ n, k + n ≤ 14 → SM cs pn hn k ≤ SM cs pn hn (k + n)
  | 0, _ => Int.le_refl _
  | n + 1, h => by
    have q := own_smm (pn := pn) (k := k) hl hp hhn n (by omega)
    have t := own_tgb (pn := pn) hl hp (show k + n < 14 by omega) hhn
    rw [← Nat.add_assoc]
    simp only [SM]
    omega
theorem own_pr {x : Int32} (h : 48 ≤ x.toInt ∧ x.toInt ≤ 90) : ¬ x < 0 ∧ ¬ (255 : Int32) < x := by
  rw [Int32.lt_iff_toInt_lt, Int32.lt_iff_toInt_lt, show (255 : Int32).toInt = 255 by decide, Int32.toInt_zero]
  omega
theorem own_pr2 {x : Int32} (h : 48 ≤ x.toInt ∧ x.toInt ≤ 90) : ¬ x < 0 ∧ ¬ (65535 : Int32) < x := by
  rw [Int32.lt_iff_toInt_lt, Int32.lt_iff_toInt_lt, show (65535 : Int32).toInt = 65535 by decide, Int32.toInt_zero]
  omega
theorem own_tf0 {cs : List Int32} {p2 p3 : Int32} {i pn hn : Nat} (h2 : p2.toInt = (i : Int)) (h3 : p3.toInt = (pn : Int)) (hc : ¬ (p2 < p3)) : (0 : Int32).toInt = TF cs pn hn i := by
  rw [Int32.lt_iff_toInt_lt] at hc
  unfold TF
  rw [if_neg (by omega)]
  rfl
theorem own_in14 {p2 : Int32} {i : Nat} (hi : i < 14) (h2 : p2.toInt = (i : Int)) : ¬ p2 < 0 ∧ p2 < (14 : Int32) := by
  rw [Int32.lt_iff_toInt_lt, Int32.lt_iff_toInt_lt, show (14 : Int32).toInt = 14 by decide, Int32.toInt_zero]
  omega
theorem own_clamp {p2 : Int32} {i : Nat} (h2 : p2.toInt = (i : Int)) : p2.toNatClampNeg = i := by
  show p2.toInt.toNat = i
  omega
theorem own_at {c : Cell} {cs : List Int32} {p2 : Int32} {i : Nat} (S : c.slots.size = (14 : Int32).toNatClampNeg) (H : Has c (cs.map Value.int) (.int (0 : Int32))) (hl : cs.length = 14) (hi : i < 14) (h2 : p2.toInt = (i : Int)) : c.slots[(p2).toNatClampNeg]? = some (.int (cs.getD i 0)) := by
  rw [own_clamp h2, H i (by rw [S]; exact hi)]
  congr 1
  simp [List.getD_eq_getElem?_getD, show i < cs.length by omega]
theorem own_hne {p4 : Int32} {hn : Nat} (h4 : p4.toInt = (hn : Int)) (hhn : hn = 9 ∨ hn = 11) : p4 - (1 : Int32) ≠ 0 := fun z => by
  have a := c_isub p4 1
  have k : (1 : Int32).toInt = 1 := by decide
  rw [z, Int32.toInt_zero, k] at a
  omega
theorem own_prod {a b : Int32} {A B : Int} (ha : a.toInt = A) (hb : b.toInt = B) (h0 : 0 ≤ A * B) (h1 : A * B < 2147483648) : (a * b).toInt = A * B := by
  have c := c_imul a b
  have r := rng32 (a * b)
  rw [ha, hb] at c
  generalize A * B = P at *
  omega
theorem own_tf1 {cs : List Int32} {p2 p3 p4 dd : Int32} {i pn hn : Nat} (hl : cs.length = 14) (hp : ∀ c ∈ cs, 48 ≤ c.toInt ∧ c.toInt ≤ 90) (hi : i < 14) (h2 : p2.toInt = (i : Int)) (h3 : p3.toInt = (pn : Int)) (hpn : pn ≤ 14) (h4 : p4.toInt = (hn : Int)) (hhn : hn = 9 ∨ hn = 11) (hc : p2 < p3) (hdd : dd = ((p3 - (1 : Int32)) - p2)) :
    (((cs.getD i 0) - (48 : Int32)) * ((2 : Int32) + (dd % (p4 - (1 : Int32))))).toInt = TF cs pn hn i := by
  rw [Int32.lt_iff_toInt_lt, h2, h3] at hc
  have g := own_getD hl hp hi
  have k1 : (1 : Int32).toInt = 1 := by decide
  have k2 : (2 : Int32).toInt = 2 := by decide
  have k48 : (48 : Int32).toInt = 48 := by decide
  have a1 := c_isub (cs.getD i 0) 48
  have r1 := rng32 (cs.getD i 0 - 48)
  have a2 := c_isub p3 1
  have r2 := rng32 (p3 - 1)
  have a3 := c_isub (p3 - 1) p2
  rw [← hdd] at a3
  have r3 := rng32 dd
  have a4 := c_isub p4 1
  have r4 := rng32 (p4 - 1)
  rw [k1] at a2 a4
  rw [k48] at a1
  have e4 : (p4 - 1).toInt = ((hn - 1 : Nat) : Int) := by rcases hhn with rfl | rfl <;> omega
  have e3 : dd.toInt = ((pn - 1 - i : Nat) : Int) := by omega
  have a5 := (c_irem dd (p4 - 1) _ e4).1 (by omega)
  have m := own_mod (m := pn - 1 - i) hhn
  have e5 : (dd % (p4 - 1)).toInt = (((pn - 1 - i) % (hn - 1) : Nat) : Int) := by rw [a5, e3]; rfl
  have a6 := c_iadd 2 (dd % (p4 - 1))
  have r6 := rng32 ((2 : Int32) + dd % (p4 - 1))
  rw [k2, e5] at a6
  have t := own_tgb (pn := pn) hl hp hi hhn
  unfold TF
  rw [if_pos (by omega)]
  unfold TG at t ⊢
  exact own_prod (by omega) (by omega) t.1 (by omega)
/-! checkDigit's loop -/
def CI (cs : List Int32) (pn hn k : Nat) (S wt : Int32) : Prop := S.toInt = SM cs pn hn pn - SM cs pn hn k ∧ wt.toInt = 2 + (((pn - k) % (hn - 1) : Nat) : Int)
def CD (S : Int32) : Int32 := if S % (11 : Int32) < (2 : Int32) then (0 : Int32) else (11 : Int32) - S % (11 : Int32)
theorem own_cd1 {S : Int32} (h : S % (11 : Int32) < (2 : Int32)) : (some (.int (0 : Int32)) : Option Value) = some (.int (CD S)) := by unfold CD; rw [if_pos h]
theorem own_cd2 {S : Int32} (h : ¬ (S % (11 : Int32) < (2 : Int32))) : (some (.int ((11 : Int32) - S % (11 : Int32))) : Option Value) = some (.int (CD S)) := by unfold CD; rw [if_neg h]
theorem own_neg {i : Int32} (h : i.toInt = ((0 : Nat) : Int) - 1) : i < (0 : Int32) := by rw [Int32.lt_iff_toInt_lt, h]; decide
theorem own_nonneg {i : Int32} {k : Nat} (h : i.toInt = ((k + 1 : Nat) : Int) - 1) : ¬ (i < (0 : Int32)) := by rw [Int32.lt_iff_toInt_lt, h, Int32.toInt_zero]; omega
theorem own_dec {i : Int32} {k : Nat} (h : i.toInt = ((k + 1 : Nat) : Int) - 1) : (i + (-1 : Int32)).toInt = (k : Int) - 1 := by
  have a := c_iadd i (-1)
  have b := rng32 (i + (-1 : Int32))
  have b' := rng32 i
  have d : (-1 : Int32).toInt = -1 := by decide
  rw [d] at a
  omega
theorem own_ofnat {i : Int32} {k : Nat} (h : i.toInt = ((k + 1 : Nat) : Int) - 1) : i = Int32.ofNat k := by
  have b' := rng32 i
  apply Int32.toInt_inj.mp
  rw [Int32.toInt_ofNat_of_lt (by omega)]
  omega
theorem own_p1 {p3 : Int32} {pn : Nat} (h3 : p3.toInt = (pn : Int)) (hpn : pn ≤ 14) : (p3 - (1 : Int32)).toInt = (pn : Int) - 1 := by
  have a := c_isub p3 1
  have b := rng32 (p3 - 1)
  have d : (1 : Int32).toInt = 1 := by decide
  rw [d] at a
  omega
theorem own_ci0 (cs : List Int32) (pn hn : Nat) : CI cs pn hn pn 0 2 := by
  unfold CI
  rw [Nat.sub_self, Nat.zero_mod]
  exact ⟨by rw [Int.sub_self]; rfl, by decide⟩
theorem own_turnS {cs : List Int32} {pn hn k : Nat} {S wt S2 : Int32} (hl : cs.length = 14) (hp : ∀ c ∈ cs, 48 ≤ c.toInt ∧ c.toInt ≤ 90) (hpn : pn ≤ 14) (hhn : hn = 9 ∨ hn = 11) (hk : k + 1 ≤ pn) (hI : CI cs pn hn (k + 1) S wt) (hS2 : S2 = (S + (((cs.getD k 0) - (48 : Int32)) * wt))) : S2.toInt = SM cs pn hn pn - SM cs pn hn k := by
  obtain ⟨i1, i2⟩ := hI
  have g := own_getD hl hp (show k < 14 by omega)
  have k48 : (48 : Int32).toInt = 48 := by decide
  have a1 := c_isub (cs.getD k 0) 48
  have r1 := rng32 (cs.getD k 0 - 48)
  rw [k48] at a1
  have t := own_tgb (pn := pn) hl hp (show k < 14 by omega) hhn
  have e : pn - (k + 1) = pn - 1 - k := by omega
  rw [e] at i2
  have a2 : ((cs.getD k 0 - 48) * wt).toInt = TG cs pn hn k := own_prod (by omega) i2 t.1 (by unfold TG at t; omega)
  have a3 := c_iadd S ((cs.getD k 0 - 48) * wt)
  rw [← hS2, a2] at a3
  have r3 := rng32 S2
  have b1 := own_smb (pn := pn) hl hp hhn pn hpn
  have b2 := own_smb (pn := pn) hl hp hhn k (by omega)
  have b3 := own_smm (pn := pn) (k := k) hl hp hhn (pn - k) (by omega)
  rw [show k + (pn - k) = pn by omega] at b3
  simp only [SM] at i1
  omega
theorem own_turn1 {cs : List Int32} {pn hn k : Nat} {S wt S2 p4 w2 : Int32} (hl : cs.length = 14) (hp : ∀ c ∈ cs, 48 ≤ c.toInt ∧ c.toInt ≤ 90) (hpn : pn ≤ 14) (h4 : p4.toInt = (hn : Int)) (hhn : hn = 9 ∨ hn = 11) (hk : k + 1 ≤ pn) (hI : CI cs pn hn (k + 1) S wt) (hS2 : S2 = (S + (((cs.getD k 0) - (48 : Int32)) * wt))) (hc : wt = p4) (hw2 : w2 = (2 : Int32)) : CI cs pn hn k S2 w2 := by
  refine ⟨own_turnS hl hp hpn hhn hk hI hS2, ?_⟩
  have i2 := hI.2
  rw [hc, h4] at i2
  rw [hw2, show (2 : Int32).toInt = 2 by decide]
  rcases hhn with rfl | rfl <;> omega
theorem own_turn2 {cs : List Int32} {pn hn k : Nat} {S wt S2 p4 w2 : Int32} (hl : cs.length = 14) (hp : ∀ c ∈ cs, 48 ≤ c.toInt ∧ c.toInt ≤ 90) (hpn : pn ≤ 14) (h4 : p4.toInt = (hn : Int)) (hhn : hn = 9 ∨ hn = 11) (hk : k + 1 ≤ pn) (hI : CI cs pn hn (k + 1) S wt) (hS2 : S2 = (S + (((cs.getD k 0) - (48 : Int32)) * wt))) (hc : ¬ (wt = p4)) (hw2 : w2 = (wt + (1 : Int32))) : CI cs pn hn k S2 w2 := by
  refine ⟨own_turnS hl hp hpn hhn hk hI hS2, ?_⟩
  have i2 := hI.2
  have hc' : ¬ wt.toInt = p4.toInt := fun z => hc (Int32.toInt_inj.mp z)
  have a := c_iadd wt 1
  have k1 : (1 : Int32).toInt = 1 := by decide
  rw [← hw2, k1] at a
  have r := rng32 w2
  rcases hhn with rfl | rfl <;> omega
theorem own_cend {cs : List Int32} {pn hn : Nat} {S wt : Int32} (h : CI cs pn hn 0 S wt) : S.toInt = SM cs pn hn pn := by
  have q := h.1
  simp only [SM] at q
  omega
/-! the law -/
theorem own_pos {p ps : Int32} (h : ps = ((p &&& (2147483647 : Int32)) % (15 : Int32))) : ∃ pn : Nat, pn ≤ 14 ∧ ps.toInt = (pn : Int) := by
  have a := c_and p 2147483647 (by decide)
  have d := (c_irem (p &&& (2147483647 : Int32)) 15 15 (by decide)).1 a.1
  refine ⟨ps.toInt.toNat, ?_, ?_⟩
  · rw [h, d]; omega
  · rw [h, d]; omega
theorem own_all14 {c0 c1 c2 c3 c4 c5 c6 c7 c8 c9 c10 c11 c12 c13 : Int32} (h0 : 48 ≤ c0.toInt ∧ c0.toInt ≤ 90) (h1 : 48 ≤ c1.toInt ∧ c1.toInt ≤ 90) (h2 : 48 ≤ c2.toInt ∧ c2.toInt ≤ 90) (h3 : 48 ≤ c3.toInt ∧ c3.toInt ≤ 90) (h4 : 48 ≤ c4.toInt ∧ c4.toInt ≤ 90) (h5 : 48 ≤ c5.toInt ∧ c5.toInt ≤ 90) (h6 : 48 ≤ c6.toInt ∧ c6.toInt ≤ 90)
    (h7 : 48 ≤ c7.toInt ∧ c7.toInt ≤ 90) (h8 : 48 ≤ c8.toInt ∧ c8.toInt ≤ 90) (h9 : 48 ≤ c9.toInt ∧ c9.toInt ≤ 90) (h10 : 48 ≤ c10.toInt ∧ c10.toInt ≤ 90) (h11 : 48 ≤ c11.toInt ∧ c11.toInt ≤ 90) (h12 : 48 ≤ c12.toInt ∧ c12.toInt ≤ 90) (h13 : 48 ≤ c13.toInt ∧ c13.toInt ≤ 90) :
    ∀ c ∈ ([c0, c1, c2, c3, c4, c5, c6, c7, c8, c9, c10, c11, c12, c13] : List Int32), 48 ≤ c.toInt ∧ c.toInt ≤ 90 := by
  intro c hc
  simp only [List.mem_cons, List.not_mem_nil, or_false] at hc
  rcases hc with rfl | rfl | rfl | rfl | rfl | rfl | rfl | rfl | rfl | rfl | rfl | rfl | rfl | rfl <;> assumption
/-- the sum of what each place adds, in the law's own order -/
def SF (cs : List Int32) (pn hn : Nat) : Nat → Int
  | 0 => 0
  | j + 1 => SF cs pn hn j + TF cs pn hn j
theorem own_sf (cs : List Int32) (pn hn : Nat) : ∀ n, SF cs pn hn n = SM cs pn hn (min n pn)
  | 0 => by simp [SF, SM]
  | n + 1 => by
    simp only [SF, own_sf cs pn hn n, TF]
    by_cases h : n < pn
    · rw [if_pos h, show min n pn = n by omega, show min (n + 1) pn = n + 1 by omega]; rfl
    · rw [if_neg h, show min n pn = pn by omega, show min (n + 1) pn = pn by omega, Int.add_zero]
theorem own_tfb {cs : List Int32} {pn hn n : Nat} (hl : cs.length = 14) (hp : ∀ c ∈ cs, 48 ≤ c.toInt ∧ c.toInt ≤ 90) (hi : n < 14) (hhn : hn = 9 ∨ hn = 11) : 0 ≤ TF cs pn hn n ∧ TF cs pn hn n ≤ 462 := by
  unfold TF
  split
  · exact own_tgb hl hp hi hhn
  · omega
theorem own_acc {a b : Int32} {A B M : Int} (ha : a.toInt = A ∧ 0 ≤ A ∧ A ≤ M) (hb : b.toInt = B) (h2 : 0 ≤ B ∧ B ≤ 462) (hM : M ≤ 100000) : (a + b).toInt = A + B ∧ 0 ≤ A + B ∧ A + B ≤ M + 462 := by
  have c := c_iadd a b
  have r := rng32 (a + b)
  omega
theorem own_sum {cs : List Int32} {pn hn : Nat} {sm t0 t1 t2 t3 t4 t5 t6 t7 t8 t9 t10 t11 t12 t13 : Int32} (hl : cs.length = 14) (hp : ∀ c ∈ cs, 48 ≤ c.toInt ∧ c.toInt ≤ 90) (hpn : pn ≤ 14) (hhn : hn = 9 ∨ hn = 11) (hsm : sm = (((((((((((((t0 + t1) + t2) + t3) + t4) + t5) + t6) + t7) + t8) + t9) + t10) + t11) + t12) + t13))
    (h0 : t0.toInt = TF cs pn hn 0) (h1 : t1.toInt = TF cs pn hn 1) (h2 : t2.toInt = TF cs pn hn 2) (h3 : t3.toInt = TF cs pn hn 3) (h4 : t4.toInt = TF cs pn hn 4) (h5 : t5.toInt = TF cs pn hn 5) (h6 : t6.toInt = TF cs pn hn 6) (h7 : t7.toInt = TF cs pn hn 7) (h8 : t8.toInt = TF cs pn hn 8) (h9 : t9.toInt = TF cs pn hn 9) (h10 : t10.toInt = TF cs pn hn 10) (h11 : t11.toInt = TF cs pn hn 11) (h12 : t12.toInt = TF cs pn hn 12) (h13 : t13.toInt = TF cs pn hn 13) : sm.toInt = SM cs pn hn pn := by
  have b := fun n (h : n < 14) => own_tfb (pn := pn) (hn := hn) (n := n) hl hp h hhn
  have s0 : t0.toInt = TF cs pn hn 0 ∧ 0 ≤ TF cs pn hn 0 ∧ TF cs pn hn 0 ≤ 462 := ⟨h0, b 0 (by decide)⟩
  have s1 := own_acc s0 h1 (b 1 (by decide)) (by decide)
  have s2 := own_acc s1 h2 (b 2 (by decide)) (by decide)
  have s3 := own_acc s2 h3 (b 3 (by decide)) (by decide)
  have s4 := own_acc s3 h4 (b 4 (by decide)) (by decide)
  have s5 := own_acc s4 h5 (b 5 (by decide)) (by decide)
  have s6 := own_acc s5 h6 (b 6 (by decide)) (by decide)
  have s7 := own_acc s6 h7 (b 7 (by decide)) (by decide)
  have s8 := own_acc s7 h8 (b 8 (by decide)) (by decide)
  have s9 := own_acc s8 h9 (b 9 (by decide)) (by decide)
  have s10 := own_acc s9 h10 (b 10 (by decide)) (by decide)
  have s11 := own_acc s10 h11 (b 11 (by decide)) (by decide)
  have s12 := own_acc s11 h12 (b 12 (by decide)) (by decide)
  have s13 := own_acc s12 h13 (b 13 (by decide)) (by decide)
  have q := own_sf cs pn hn 14
  rw [show min 14 pn = pn by omega] at q
  rw [← q, hsm, s13.1]
  simp only [SF, Int.zero_add]
theorem own_fin1 {cs : List Int32} {pn hn : Nat} {sm S r : Int32} (h1 : sm.toInt = SM cs pn hn pn) (h2 : S.toInt = SM cs pn hn pn) (hr : r = (sm % (11 : Int32))) (hc : r < (2 : Int32)) : CD S = (0 : Int32) := by
  have e : S = sm := Int32.toInt_inj.mp (h2.trans h1.symm)
  rw [hr] at hc
  unfold CD
  rw [e, if_pos hc]
theorem own_fin2 {cs : List Int32} {pn hn : Nat} {sm S r : Int32} (h1 : sm.toInt = SM cs pn hn pn) (h2 : S.toInt = SM cs pn hn pn) (hr : r = (sm % (11 : Int32))) (hc : ¬ (r < (2 : Int32))) : CD S = ((11 : Int32) - r) := by
  have e : S = sm := Int32.toInt_inj.mp (h2.trans h1.symm)
  rw [hr] at hc ⊢
  unfold CD
  rw [e, if_neg hc]
theorem own_fld {args : Array Value} {s : State} {t : Term} {C f d : String} {a : Addr} {k : Int32} (h : (Jvm.Cond.eq (Jvm.Term.field t C f d) (Jvm.Term.int k)).value args s none s [] = some true) (ht : t.eval args s none [] s = some (.ref a)) : s.fieldOf? a C f d = some (.int k) := by
  have e := fld_at (C := C) (n := f) (dd := d) ht
  cases hv : s.fieldOf? a C f d with
  | none => simp [Cond.value, e, hv] at h
  | some v =>
    rw [hv] at e
    cases v <;> simp_all [Cond.value, Term.eval]

theorem ef_rm1 (m : MethodId) (x0 : Int64) (x1 : Int32) : entryFrame m #[(.long x0), (.int x1)] 4 = mkF m 0 #[.val (.long x0), .second, .val (.int x1), .unset] [] := by first | (simp [entryFrame, mkF, argsToLocals, Value.category]; done) | rfl
def Qrm1 (q1 : Int64) (p2 : Int32) (h0 : Heap) (n0 : Nat) (v : Option Value) (h : Heap) (L : List Loc) : Prop := ∃ r : Int32, v = some (.int r) ∧ (48 ≤ r.toInt ∧ r.toInt ≤ 90) ∧ Fr n0 L ∧ h = h0
set_option maxRecDepth 65536 in
set_option maxHeartbeats 40000000 in
theorem rm1 (l : Launch) (Z : State) (a0 : Array Value) (hw : ∀ d ∈ tables_1, d.before a0 Z = true) (ws : List Jvm.Cond) (q1 : Int64) (p2 : Int32) (h0 : Heap) (n0 : Nat) (Z0 : n0 ≤ h0.size)  :
    MetFree l (⟨"com/example/fiducia/fiducia/model/IdentificationTypeCheckDigitPinLaw", "ch", "(JI)C"⟩ : MethodName) (head1 (Jvm.Cond.code (⟨"com/example/fiducia/fiducia/model/IdentificationTypeCheckDigitPinLaw", "ch", "(JI)C"⟩ : MethodName) method_3_code 4 (some .char) :: ws) ({ frames := 0, cells := 0, slots := 0, locals := 0 } : Room)) (fun a U => a = #[(.long q1), (.int p2)] ∧ Z.Warmed39 U.vm ∧ U.heap = h0) (fun _ _ _ _ _ => True) (fun _ U o U' => ∃ v L, o = .returned v ∧ Qrm1 q1 p2 h0 n0 v U'.heap L ∧ FrameEnd U o U' L ({ frames := 0, cells := 0, slots := 0, locals := 0 } : Room).cells ({ frames := 0, cells := 0, slots := 0, locals := 0 } : Room).slots) := by
  refine MetFree.of_bodySF (plainFor_of_name pn_0) hisR ?_
  intro p e s m args below meth c s₁ Bd hml0 hP hK
  obtain ⟨rfl, hZ, hh⟩ := hP
  have hx := Bd.exec
  have hlk : meth.locks = false := BodyLoose.notSynchronized Bd
  have hby := Bd.bytes
  have hml : c.maxLocals = 4 := hml0
  have hown : s.vm.findClass "com/example/fiducia/fiducia/model/IdentificationTypeCheckDigitPinLaw" = some m.cls := findClass_of_methodNamed Bd.named
  have hnm := (name_of_methodNamed Bd.named Bd.method).1
  have X0 : Stand p l e ({ frames := 0, cells := 0, slots := 0, locals := 0 } : Room) s m #[(.long q1), (.int p2)] below meth c s₁ [] 0 0 := Stand.of_body Bd
  have e0 : s₁.heap = h0 := by rw [← hh, Bd.state]; rfl
  have N0 := Fr.nil n0
  have K0 : ∀ t, Steps p.tables e below (s₁.setTop (mkF m 0 #[.val (.long q1), .second, .val (.int p2), .unset] [])) t → Steps p.tables e below (s₁.setTop (entryFrame m #[(.long q1), (.int p2)] 4)) t := fun t k => castTop (ef_rm1 m q1 p2) k
  have KK0 : Keep h0 h0 [] := Keep.refl _ _
  
  have K101 : ∀ t, Steps p.tables e below (s₁.setTop (mkF m 11 #[.val (.long q1), .second, .val (.int p2), .unset] [(.int (((((q1.toUInt64 >>> (p2 &&& 0x3f).toInt64.toUInt64).toInt64) &&& (63 : Int64)).toInt32) % (36 : Int32)))])) t → Steps p.tables e below (s₁.setTop (entryFrame m #[(.long q1), (.int p2)] 4)) t := by
    intro t kt
    refine K0 t ?_
    show Steps p.tables e below (s₁.setTop (mkF m 0 #[.val (.long q1), .second, .val (.int p2), .unset] [])) _
    refine XS.lloadN X0.here hx rfl (hb hby d1_0) rfl ?_
    show Steps p.tables e below (s₁.setTop (mkF m 1 #[.val (.long q1), .second, .val (.int p2), .unset] [(.long q1)])) _
    refine XS.iloadN X0.here hx rfl (hb hby d1_1) rfl ?_
    show Steps p.tables e below (s₁.setTop (mkF m 2 #[.val (.long q1), .second, .val (.int p2), .unset] [(.int p2), (.long q1)])) _
    refine XS.lushr X0.here hx rfl (hb hby d1_2) rfl ?_
    show Steps p.tables e below (s₁.setTop (mkF m 3 #[.val (.long q1), .second, .val (.int p2), .unset] [(.long ((q1.toUInt64 >>> (p2 &&& 0x3f).toInt64.toUInt64).toInt64))])) _
    refine X0.ldc2Long hx hown (mvT hZ (hw _ (List.mem_of_getElem? (i := 9) rfl))) (g := (mkF m 3 #[.val (.long q1), .second, .val (.int p2), .unset] [(.long ((q1.toUInt64 >>> (p2 &&& 0x3f).toInt64.toUInt64).toInt64))])) rfl (hb hby d1_3) _ ?_
    show Steps p.tables e below (s₁.setTop (mkF m 6 #[.val (.long q1), .second, .val (.int p2), .unset] [(.long (63 : Int64)), (.long ((q1.toUInt64 >>> (p2 &&& 0x3f).toInt64.toUInt64).toInt64))])) _
    refine XS.land X0.here hx rfl (hb hby d1_6) rfl ?_
    show Steps p.tables e below (s₁.setTop (mkF m 7 #[.val (.long q1), .second, .val (.int p2), .unset] [(.long (((q1.toUInt64 >>> (p2 &&& 0x3f).toInt64.toUInt64).toInt64) &&& (63 : Int64)))])) _
    refine XS.l2i X0.here hx rfl (hb hby d1_7) rfl ?_
    show Steps p.tables e below (s₁.setTop (mkF m 8 #[.val (.long q1), .second, .val (.int p2), .unset] [(.int ((((q1.toUInt64 >>> (p2 &&& 0x3f).toInt64.toUInt64).toInt64) &&& (63 : Int64)).toInt32))])) _
    refine XS.bipush X0.here hx rfl (hb hby d1_8) ?_
    show Steps p.tables e below (s₁.setTop (mkF m 10 #[.val (.long q1), .second, .val (.int p2), .unset] [(.int (36 : Int32)), (.int ((((q1.toUInt64 >>> (p2 &&& 0x3f).toInt64.toUInt64).toInt64) &&& (63 : Int64)).toInt32))])) _
    refine iremM X0 hx rfl (hb hby d1_10) rfl (by decide) ?_
    exact kt
  obtain ⟨v1, hv1⟩ : ∃ z : Int32, z = (((((q1.toUInt64 >>> (p2 &&& 0x3f).toInt64.toUInt64).toInt64) &&& (63 : Int64)).toInt32) % (36 : Int32)) := ⟨_, rfl⟩
  have K102 : ∀ t, Steps p.tables e below (s₁.setTop (mkF m 11 #[.val (.long q1), .second, .val (.int p2), .unset] [(.int v1)])) t → Steps p.tables e below (s₁.setTop (entryFrame m #[(.long q1), (.int p2)] 4)) t := by
    rw [hv1]; exact K101
  have hb1 := own_v hv1
  have K103 : ∀ t, Steps p.tables e below (s₁.setTop (mkF m 15 #[.val (.long q1), .second, .val (.int p2), .val (.int v1)] [(.int (10 : Int32)), (.int v1)])) t → Steps p.tables e below (s₁.setTop (entryFrame m #[(.long q1), (.int p2)] 4)) t := by
    intro t kt
    refine K102 t ?_
    show Steps p.tables e below (s₁.setTop (mkF m 11 #[.val (.long q1), .second, .val (.int p2), .unset] [(.int v1)])) _
    refine XS.istoreN X0.here hx rfl (hb hby d1_11) rfl (l' := #[.val (.long q1), .second, .val (.int p2), .val (.int v1)]) rfl ?_
    show Steps p.tables e below (s₁.setTop (mkF m 12 #[.val (.long q1), .second, .val (.int p2), .val (.int v1)] [])) _
    refine XS.iloadN X0.here hx rfl (hb hby d1_12) rfl ?_
    show Steps p.tables e below (s₁.setTop (mkF m 13 #[.val (.long q1), .second, .val (.int p2), .val (.int v1)] [(.int v1)])) _
    refine XS.bipush X0.here hx rfl (hb hby d1_13) ?_
    exact kt
  by_cases hc : v1 < (10 : Int32)
  · have K104 : ∀ t, Steps p.tables e below (s₁.setTop (mkF m 23 #[.val (.long q1), .second, .val (.int p2), .val (.int v1)] [(.int (((48 : Int32) + v1).toUInt32.toUInt16.toUInt32.toInt32))])) t → Steps p.tables e below (s₁.setTop (entryFrame m #[(.long q1), (.int p2)] 4)) t := by
      intro t kt
      refine K103 t ?_
      show Steps p.tables e below (s₁.setTop (mkF m 15 #[.val (.long q1), .second, .val (.int p2), .val (.int v1)] [(.int (10 : Int32)), (.int v1)])) _
      refine XS.icmpNo X0.here hx rfl (hb hby d1_15) rfl (tlt (hc : v1 < (10 : Int32))).2.1 ?_
      show Steps p.tables e below (s₁.setTop (mkF m 18 #[.val (.long q1), .second, .val (.int p2), .val (.int v1)] [])) _
      refine XS.bipush X0.here hx rfl (hb hby d1_18) ?_
      show Steps p.tables e below (s₁.setTop (mkF m 20 #[.val (.long q1), .second, .val (.int p2), .val (.int v1)] [(.int (48 : Int32))])) _
      refine XS.iloadN X0.here hx rfl (hb hby d1_20) rfl ?_
      show Steps p.tables e below (s₁.setTop (mkF m 21 #[.val (.long q1), .second, .val (.int p2), .val (.int v1)] [(.int v1), (.int (48 : Int32))])) _
      refine XS.iadd X0.here hx rfl (hb hby d1_21) rfl ?_
      show Steps p.tables e below (s₁.setTop (mkF m 22 #[.val (.long q1), .second, .val (.int p2), .val (.int v1)] [(.int ((48 : Int32) + v1))])) _
      refine XS.i2c X0.here hx rfl (hb hby d1_22) rfl ?_
      exact kt
    obtain ⟨fs, hr, hrun, hended, hW, hsame⟩ := X0.leave (v := some (.int (nar .char (((48 : Int32) + v1).toUInt32.toUInt16.toUInt32.toInt32)))) (fun h => by rw [Bd.returns] at h; cases h) (hlocks := hlk)
    refine ⟨_, _, K104 _ ?_, hrun, hended, _, _, rfl, ?_, ⟨_, rfl⟩, hW, hsame.mono (by decide) (by decide)⟩
    · exact retN X0 hx (t := .char) Bd.returns (by simp) (hb hby d1_23) hr
    · show Qrm1 q1 p2 h0 n0 _ s₁.heap _
      rw [e0]
      exact ⟨_, rfl, own_ch1 hb1 hc, N0, rfl⟩
  · have K105 : ∀ t, Steps p.tables e below (s₁.setTop (mkF m 32 #[.val (.long q1), .second, .val (.int p2), .val (.int v1)] [(.int (((65 : Int32) + (v1 - (10 : Int32))).toUInt32.toUInt16.toUInt32.toInt32))])) t → Steps p.tables e below (s₁.setTop (entryFrame m #[(.long q1), (.int p2)] 4)) t := by
      intro t kt
      refine K103 t ?_
      show Steps p.tables e below (s₁.setTop (mkF m 15 #[.val (.long q1), .second, .val (.int p2), .val (.int v1)] [(.int (10 : Int32)), (.int v1)])) _
      refine XS.icmpYes X0.here hx rfl (pc0 := 15) (pc' := 24) rfl (hb hby d1_15) rfl (flt (hc : ¬ (v1 < (10 : Int32)))).2.1 (by decide) (by decide) ?_
      show Steps p.tables e below (s₁.setTop (mkF m 24 #[.val (.long q1), .second, .val (.int p2), .val (.int v1)] [])) _
      refine XS.bipush X0.here hx rfl (hb hby d1_24) ?_
      show Steps p.tables e below (s₁.setTop (mkF m 26 #[.val (.long q1), .second, .val (.int p2), .val (.int v1)] [(.int (65 : Int32))])) _
      refine XS.iloadN X0.here hx rfl (hb hby d1_26) rfl ?_
      show Steps p.tables e below (s₁.setTop (mkF m 27 #[.val (.long q1), .second, .val (.int p2), .val (.int v1)] [(.int v1), (.int (65 : Int32))])) _
      refine XS.bipush X0.here hx rfl (hb hby d1_27) ?_
      show Steps p.tables e below (s₁.setTop (mkF m 29 #[.val (.long q1), .second, .val (.int p2), .val (.int v1)] [(.int (10 : Int32)), (.int v1), (.int (65 : Int32))])) _
      refine XS.isub X0.here hx rfl (hb hby d1_29) rfl ?_
      show Steps p.tables e below (s₁.setTop (mkF m 30 #[.val (.long q1), .second, .val (.int p2), .val (.int v1)] [(.int (v1 - (10 : Int32))), (.int (65 : Int32))])) _
      refine XS.iadd X0.here hx rfl (hb hby d1_30) rfl ?_
      show Steps p.tables e below (s₁.setTop (mkF m 31 #[.val (.long q1), .second, .val (.int p2), .val (.int v1)] [(.int ((65 : Int32) + (v1 - (10 : Int32))))])) _
      refine XS.i2c X0.here hx rfl (hb hby d1_31) rfl ?_
      exact kt
    obtain ⟨fs, hr, hrun, hended, hW, hsame⟩ := X0.leave (v := some (.int (nar .char (((65 : Int32) + (v1 - (10 : Int32))).toUInt32.toUInt16.toUInt32.toInt32)))) (fun h => by rw [Bd.returns] at h; cases h) (hlocks := hlk)
    refine ⟨_, _, K105 _ ?_, hrun, hended, _, _, rfl, ?_, ⟨_, rfl⟩, hW, hsame.mono (by decide) (by decide)⟩
    · exact retN X0 hx (t := .char) Bd.returns (by simp) (hb hby d1_32) hr
    · show Qrm1 q1 p2 h0 n0 _ s₁.heap _
      rw [e0]
      exact ⟨_, rfl, own_ch2 hb1 hc, N0, rfl⟩
theorem ef_rm8 (m : MethodId) (x0 : Addr) (x1 : Int32) (x2 : Int32) (x3 : Int32) : entryFrame m #[(.ref x0), (.int x1), (.int x2), (.int x3)] 5 = mkF m 0 #[.val (.ref x0), .val (.int x1), .val (.int x2), .val (.int x3), .unset] [] := by first | (simp [entryFrame, mkF, argsToLocals, Value.category]; done) | rfl
def Qrm8 (a1 : Addr) (p2 p3 p4 : Int32) (kc : ClassId) (cs : List Int32) (i pn hn : Nat) (h0 : Heap) (n0 : Nat) (v : Option Value) (h : Heap) (L : List Loc) : Prop := ∃ r : Int32, v = some (.int r) ∧ r.toInt = TF cs pn hn i ∧ Fr n0 L ∧ h = h0
set_option maxRecDepth 65536 in
set_option maxHeartbeats 40000000 in
theorem rm8 (l : Launch) (Z : State) (a0 : Array Value) (hw : ∀ d ∈ tables_1, d.before a0 Z = true) (ws : List Jvm.Cond) (a1 : Addr) (p2 p3 p4 : Int32) (kc : ClassId) (cs : List Int32) (i pn hn : Nat) (h0 : Heap) (n0 : Nat) (Z0 : n0 ≤ h0.size) (V : Arv Z h0 a1 kc .char (14 : Int32) (cs.map Value.int) (.int (0 : Int32))) (hl : cs.length = 14) (hp : ∀ c ∈ cs, 48 ≤ c.toInt ∧ c.toInt ≤ 90) (hi : i < 14) (h2 : p2.toInt = (i : Int)) (h3 : p3.toInt = (pn : Int)) (hpn : pn ≤ 14) (h4 : p4.toInt = (hn : Int)) (hhn : hn = 9 ∨ hn = 11) :
    MetFree l (⟨"com/example/fiducia/fiducia/model/IdentificationTypeCheckDigitPinLaw", "term", "([CIII)I"⟩ : MethodName) (head1 (Jvm.Cond.code (⟨"com/example/fiducia/fiducia/model/IdentificationTypeCheckDigitPinLaw", "term", "([CIII)I"⟩ : MethodName) method_4_code 5 (some .int) :: ws) ({ frames := 0, cells := 0, slots := 0, locals := 0 } : Room)) (fun a U => a = #[(.ref a1), (.int p2), (.int p3), (.int p4)] ∧ Z.Warmed39 U.vm ∧ U.heap = h0) (fun _ _ _ _ _ => True) (fun _ U o U' => ∃ v L, o = .returned v ∧ Qrm8 a1 p2 p3 p4 kc cs i pn hn h0 n0 v U'.heap L ∧ FrameEnd U o U' L ({ frames := 0, cells := 0, slots := 0, locals := 0 } : Room).cells ({ frames := 0, cells := 0, slots := 0, locals := 0 } : Room).slots) := by
  refine MetFree.of_bodySF (plainFor_of_name pn_0) hisR ?_
  intro p e s m args below meth c s₁ Bd hml0 hP hK
  obtain ⟨rfl, hZ, hh⟩ := hP
  have hx := Bd.exec
  have hlk : meth.locks = false := BodyLoose.notSynchronized Bd
  have hby := Bd.bytes
  have hml : c.maxLocals = 5 := hml0
  have hown : s.vm.findClass "com/example/fiducia/fiducia/model/IdentificationTypeCheckDigitPinLaw" = some m.cls := findClass_of_methodNamed Bd.named
  have hnm := (name_of_methodNamed Bd.named Bd.method).1
  have X0 : Stand p l e ({ frames := 0, cells := 0, slots := 0, locals := 0 } : Room) s m #[(.ref a1), (.int p2), (.int p3), (.int p4)] below meth c s₁ [] 0 0 := Stand.of_body Bd
  have e0 : s₁.heap = h0 := by rw [← hh, Bd.state]; rfl
  have N0 := Fr.nil n0
  have K0 : ∀ t, Steps p.tables e below (s₁.setTop (mkF m 0 #[.val (.ref a1), .val (.int p2), .val (.int p3), .val (.int p4), .unset] [])) t → Steps p.tables e below (s₁.setTop (entryFrame m #[(.ref a1), (.int p2), (.int p3), (.int p4)] 5)) t := fun t k => castTop (ef_rm8 m a1 p2 p3 p4) k
  have KK0 : Keep h0 h0 [] := Keep.refl _ _
  
  have K101 : ∀ t, Steps p.tables e below (s₁.setTop (mkF m 2 #[.val (.ref a1), .val (.int p2), .val (.int p3), .val (.int p4), .unset] [(.int p3), (.int p2)])) t → Steps p.tables e below (s₁.setTop (entryFrame m #[(.ref a1), (.int p2), (.int p3), (.int p4)] 5)) t := by
    intro t kt
    refine K0 t ?_
    show Steps p.tables e below (s₁.setTop (mkF m 0 #[.val (.ref a1), .val (.int p2), .val (.int p3), .val (.int p4), .unset] [])) _
    refine XS.iloadN X0.here hx rfl (hb hby d8_0) rfl ?_
    show Steps p.tables e below (s₁.setTop (mkF m 1 #[.val (.ref a1), .val (.int p2), .val (.int p3), .val (.int p4), .unset] [(.int p2)])) _
    refine XS.iloadN X0.here hx rfl (hb hby d8_1) rfl ?_
    exact kt
  by_cases hc : p2 < p3
  · have K102 : ∀ t, Steps p.tables e below (s₁.setTop (mkF m 12 #[.val (.ref a1), .val (.int p2), .val (.int p3), .val (.int p4), .unset] [(.int ((p3 - (1 : Int32)) - p2))])) t → Steps p.tables e below (s₁.setTop (entryFrame m #[(.ref a1), (.int p2), (.int p3), (.int p4)] 5)) t := by
      intro t kt
      refine K101 t ?_
      show Steps p.tables e below (s₁.setTop (mkF m 2 #[.val (.ref a1), .val (.int p2), .val (.int p3), .val (.int p4), .unset] [(.int p3), (.int p2)])) _
      refine XS.icmpYes X0.here hx rfl (pc0 := 2) (pc' := 7) rfl (hb hby d8_2) rfl (tlt (hc : p2 < p3)).1 (by decide) (by decide) ?_
      show Steps p.tables e below (s₁.setTop (mkF m 7 #[.val (.ref a1), .val (.int p2), .val (.int p3), .val (.int p4), .unset] [])) _
      refine XS.iloadN X0.here hx rfl (hb hby d8_7) rfl ?_
      show Steps p.tables e below (s₁.setTop (mkF m 8 #[.val (.ref a1), .val (.int p2), .val (.int p3), .val (.int p4), .unset] [(.int p3)])) _
      refine XS.iconst X0.here hx rfl (hb hby d8_8) ?_
      show Steps p.tables e below (s₁.setTop (mkF m 9 #[.val (.ref a1), .val (.int p2), .val (.int p3), .val (.int p4), .unset] [(.int (1 : Int32)), (.int p3)])) _
      refine XS.isub X0.here hx rfl (hb hby d8_9) rfl ?_
      show Steps p.tables e below (s₁.setTop (mkF m 10 #[.val (.ref a1), .val (.int p2), .val (.int p3), .val (.int p4), .unset] [(.int (p3 - (1 : Int32)))])) _
      refine XS.iloadN X0.here hx rfl (hb hby d8_10) rfl ?_
      show Steps p.tables e below (s₁.setTop (mkF m 11 #[.val (.ref a1), .val (.int p2), .val (.int p3), .val (.int p4), .unset] [(.int p2), (.int (p3 - (1 : Int32)))])) _
      refine XS.isub X0.here hx rfl (hb hby d8_11) rfl ?_
      exact kt
    obtain ⟨dd, hdd⟩ : ∃ z : Int32, z = ((p3 - (1 : Int32)) - p2) := ⟨_, rfl⟩
    have K103 : ∀ t, Steps p.tables e below (s₁.setTop (mkF m 12 #[.val (.ref a1), .val (.int p2), .val (.int p3), .val (.int p4), .unset] [(.int dd)])) t → Steps p.tables e below (s₁.setTop (entryFrame m #[(.ref a1), (.int p2), (.int p3), (.int p4)] 5)) t := by
      rw [hdd]; exact K102
    have K104 : ∀ t, Steps p.tables e below (s₁.setTop (mkF m 16 #[.val (.ref a1), .val (.int p2), .val (.int p3), .val (.int p4), .val (.int dd)] [(.int p2), (.ref a1)])) t → Steps p.tables e below (s₁.setTop (entryFrame m #[(.ref a1), (.int p2), (.int p3), (.int p4)] 5)) t := by
      intro t kt
      refine K103 t ?_
      show Steps p.tables e below (s₁.setTop (mkF m 12 #[.val (.ref a1), .val (.int p2), .val (.int p3), .val (.int p4), .unset] [(.int dd)])) _
      refine XS.istore X0.here hx rfl (hb hby d8_12) rfl (l' := #[.val (.ref a1), .val (.int p2), .val (.int p3), .val (.int p4), .val (.int dd)]) rfl ?_
      show Steps p.tables e below (s₁.setTop (mkF m 14 #[.val (.ref a1), .val (.int p2), .val (.int p3), .val (.int p4), .val (.int dd)] [])) _
      refine XS.aloadN X0.here hx rfl (hb hby d8_14) rfl rfl ?_
      show Steps p.tables e below (s₁.setTop (mkF m 15 #[.val (.ref a1), .val (.int p2), .val (.int p3), .val (.int p4), .val (.int dd)] [(.ref a1)])) _
      refine XS.iloadN X0.here hx rfl (hb hby d8_15) rfl ?_
      exact kt
    obtain ⟨cl, Ar, q, S, M, H, G⟩ := V
    have hin : ¬ (p2 < 0 ∨ cl.slots.size ≤ (p2).toNatClampNeg) := inb_of S (own_in14 hi h2)
    have hat : cl.slots[(p2).toNatClampNeg]? = some (.int (cs.getD i 0)) := own_at S H hl hi h2
    have K105 : ∀ t, Steps p.tables e below (s₁.setTop (mkF m 29 #[.val (.ref a1), .val (.int p2), .val (.int p3), .val (.int p4), .val (.int dd)] [(.int (((cs.getD i 0) - (48 : Int32)) * ((2 : Int32) + (dd % (p4 - (1 : Int32))))))])) t → Steps p.tables e below (s₁.setTop (entryFrame m #[(.ref a1), (.int p2), (.int p3), (.int p4)] 5)) t := by
      intro t kt
      refine K104 t ?_
      show Steps p.tables e below (s₁.setTop (mkF m 16 #[.val (.ref a1), .val (.int p2), .val (.int p3), .val (.int p4), .val (.int dd)] [(.int p2), (.ref a1)])) _
      refine X0.caload hx (j := p2) (v := (.int (cs.getD i 0))) (by rw [e0]; exact Ar.1) (State.isArrayOf_alike hZ.alike Ar.2.1) Ar.2.2 hin hat (g := (mkF m 16 #[.val (.ref a1), .val (.int p2), .val (.int p3), .val (.int p4), .val (.int dd)] [(.int p2), (.ref a1)])) rfl rfl (hb hby d8_16) _ ?_
      show Steps p.tables e below (s₁.setTop (mkF m 17 #[.val (.ref a1), .val (.int p2), .val (.int p3), .val (.int p4), .val (.int dd)] [(.int (cs.getD i 0))])) _
      refine XS.bipush X0.here hx rfl (hb hby d8_17) ?_
      show Steps p.tables e below (s₁.setTop (mkF m 19 #[.val (.ref a1), .val (.int p2), .val (.int p3), .val (.int p4), .val (.int dd)] [(.int (48 : Int32)), (.int (cs.getD i 0))])) _
      refine XS.isub X0.here hx rfl (hb hby d8_19) rfl ?_
      show Steps p.tables e below (s₁.setTop (mkF m 20 #[.val (.ref a1), .val (.int p2), .val (.int p3), .val (.int p4), .val (.int dd)] [(.int ((cs.getD i 0) - (48 : Int32)))])) _
      refine XS.iconst X0.here hx rfl (hb hby d8_20) ?_
      show Steps p.tables e below (s₁.setTop (mkF m 21 #[.val (.ref a1), .val (.int p2), .val (.int p3), .val (.int p4), .val (.int dd)] [(.int (2 : Int32)), (.int ((cs.getD i 0) - (48 : Int32)))])) _
      refine XS.iload X0.here hx rfl (hb hby d8_21) rfl ?_
      show Steps p.tables e below (s₁.setTop (mkF m 23 #[.val (.ref a1), .val (.int p2), .val (.int p3), .val (.int p4), .val (.int dd)] [(.int dd), (.int (2 : Int32)), (.int ((cs.getD i 0) - (48 : Int32)))])) _
      refine XS.iloadN X0.here hx rfl (hb hby d8_23) rfl ?_
      show Steps p.tables e below (s₁.setTop (mkF m 24 #[.val (.ref a1), .val (.int p2), .val (.int p3), .val (.int p4), .val (.int dd)] [(.int p4), (.int dd), (.int (2 : Int32)), (.int ((cs.getD i 0) - (48 : Int32)))])) _
      refine XS.iconst X0.here hx rfl (hb hby d8_24) ?_
      show Steps p.tables e below (s₁.setTop (mkF m 25 #[.val (.ref a1), .val (.int p2), .val (.int p3), .val (.int p4), .val (.int dd)] [(.int (1 : Int32)), (.int p4), (.int dd), (.int (2 : Int32)), (.int ((cs.getD i 0) - (48 : Int32)))])) _
      refine XS.isub X0.here hx rfl (hb hby d8_25) rfl ?_
      show Steps p.tables e below (s₁.setTop (mkF m 26 #[.val (.ref a1), .val (.int p2), .val (.int p3), .val (.int p4), .val (.int dd)] [(.int (p4 - (1 : Int32))), (.int dd), (.int (2 : Int32)), (.int ((cs.getD i 0) - (48 : Int32)))])) _
      refine iremM X0 hx rfl (hb hby d8_26) rfl (own_hne h4 hhn) ?_
      show Steps p.tables e below (s₁.setTop (mkF m 27 #[.val (.ref a1), .val (.int p2), .val (.int p3), .val (.int p4), .val (.int dd)] [(.int (dd % (p4 - (1 : Int32)))), (.int (2 : Int32)), (.int ((cs.getD i 0) - (48 : Int32)))])) _
      refine XS.iadd X0.here hx rfl (hb hby d8_27) rfl ?_
      show Steps p.tables e below (s₁.setTop (mkF m 28 #[.val (.ref a1), .val (.int p2), .val (.int p3), .val (.int p4), .val (.int dd)] [(.int ((2 : Int32) + (dd % (p4 - (1 : Int32))))), (.int ((cs.getD i 0) - (48 : Int32)))])) _
      refine XS.imul X0.here hx rfl (hb hby d8_28) rfl ?_
      exact kt
    obtain ⟨fs, hr, hrun, hended, hW, hsame⟩ := X0.leave (v := some (.int (((cs.getD i 0) - (48 : Int32)) * ((2 : Int32) + (dd % (p4 - (1 : Int32))))))) (fun h => by rw [Bd.returns] at h; cases h) (hlocks := hlk)
    refine ⟨_, _, K105 _ ?_, hrun, hended, _, _, rfl, ?_, ⟨_, rfl⟩, hW, hsame.mono (by decide) (by decide)⟩
    · exact retI X0 hx Bd.returns (hb hby d8_29) hr
    · show Qrm8 a1 p2 p3 p4 kc cs i pn hn h0 n0 _ s₁.heap _
      rw [e0]
      exact ⟨_, rfl, own_tf1 hl hp hi h2 h3 hpn h4 hhn hc hdd, N0, rfl⟩
  · have K106 : ∀ t, Steps p.tables e below (s₁.setTop (mkF m 6 #[.val (.ref a1), .val (.int p2), .val (.int p3), .val (.int p4), .unset] [(.int (0 : Int32))])) t → Steps p.tables e below (s₁.setTop (entryFrame m #[(.ref a1), (.int p2), (.int p3), (.int p4)] 5)) t := by
      intro t kt
      refine K101 t ?_
      show Steps p.tables e below (s₁.setTop (mkF m 2 #[.val (.ref a1), .val (.int p2), .val (.int p3), .val (.int p4), .unset] [(.int p3), (.int p2)])) _
      refine XS.icmpNo X0.here hx rfl (hb hby d8_2) rfl (flt (hc : ¬ (p2 < p3))).1 ?_
      show Steps p.tables e below (s₁.setTop (mkF m 5 #[.val (.ref a1), .val (.int p2), .val (.int p3), .val (.int p4), .unset] [])) _
      refine XS.iconst X0.here hx rfl (hb hby d8_5) ?_
      exact kt
    obtain ⟨fs, hr, hrun, hended, hW, hsame⟩ := X0.leave (v := some (.int (0 : Int32))) (fun h => by rw [Bd.returns] at h; cases h) (hlocks := hlk)
    refine ⟨_, _, K106 _ ?_, hrun, hended, _, _, rfl, ?_, ⟨_, rfl⟩, hW, hsame.mono (by decide) (by decide)⟩
    · exact retI X0 hx Bd.returns (hb hby d8_6) hr
    · show Qrm8 a1 p2 p3 p4 kc cs i pn hn h0 n0 _ s₁.heap _
      rw [e0]
      exact ⟨_, rfl, own_tf0 h2 h3 hc, N0, rfl⟩
theorem ef_rm9 (m : MethodId) (x0 : Addr) (x1 : Addr) (x2 : Int32) : entryFrame m #[(.ref x0), (.ref x1), (.int x2)] 6 = mkF m 0 #[.val (.ref x0), .val (.ref x1), .val (.int x2), .unset, .unset, .unset] [] := by first | (simp [entryFrame, mkF, argsToLocals, Value.category]; done) | rfl
def Qrm9 (a1 a2 : Addr) (p3 p4 : Int32) (G1 : Int32) (G3 : Value) (t1 : Addr) (kb : ClassId) (cs : List Int32) (pn hn : Nat) (h0 : Heap) (n0 : Nat) (v : Option Value) (h : Heap) (L : List Loc) : Prop := ∃ S : Int32, S.toInt = SM cs pn hn pn ∧ v = some (.int (CD S)) ∧ Fr n0 L ∧ h = h0
set_option maxRecDepth 65536 in
set_option maxHeartbeats 40000000 in
theorem rm9 (l : Launch) (Z : State) (a0 : Array Value) (hw : ∀ d ∈ tables_1, d.before a0 Z = true) (ws : List Jvm.Cond) (a1 a2 : Addr) (p3 p4 : Int32) (G1 : Int32) (G3 : Value) (t1 : Addr) (kb : ClassId) (cs : List Int32) (pn hn : Nat) (h0 : Heap) (n0 : Nat) (Z0 : n0 ≤ h0.size) (F : Fld Z h0 a1 "com/example/fiducia/fiducia/model/IdentificationType" "highestWeight" "I" (.int p4)) (E2 : Exa Z h0 a2 "java/lang/String") (V2 : Fld Z h0 a2 "java/lang/String" "value" "[B" (.ref t1)) (C2 : Fld Z h0 a2 "java/lang/String" "coder" "B" (.int (0 : Int32))) (A2 : Arv Z h0 t1 kb .byte (14 : Int32) ((cs.map (fun c => c.toInt8.toInt32)).map Value.int) (.int (0 : Int32))) (hl : cs.length = 14) (hp : ∀ c ∈ cs, 48 ≤ c.toInt ∧ c.toInt ≤ 90) (O2 : Sta Z h0 "java/lang/String" "COMPACT_STRINGS" "Z" (.int G1)) (P5 : ¬ (G1 = (0 : Int32))) (O4 : Sta Z h0 "jdk/internal/util/Preconditions" "SIOOBE_FORMATTER" "Ljava/util/function/BiFunction;" G3) (rG3 : G3.isRef = true) (h3 : p3.toInt = (pn : Int)) (hpn : pn ≤ 14) (h4 : p4.toInt = (hn : Int)) (hhn : hn = 9 ∨ hn = 11) :
    MetFree l (⟨"com/example/fiducia/fiducia/model/IdentificationType", "checkDigit", "(Ljava/lang/String;I)I"⟩ : MethodName) (head1 (Jvm.Cond.code (⟨"com/example/fiducia/fiducia/model/IdentificationType", "checkDigit", "(Ljava/lang/String;I)I"⟩ : MethodName) prog_16_method_7_code 6 (some .int) :: ws) ({ frames := 4, cells := 0, slots := 0, locals := 54 } : Room)) (fun a U => a = #[(.ref a1), (.ref a2), (.int p3)] ∧ Z.Warmed39 U.vm ∧ U.heap = h0) (fun _ _ _ _ _ => True) (fun _ U o U' => ∃ v L, o = .returned v ∧ Qrm9 a1 a2 p3 p4 G1 G3 t1 kb cs pn hn h0 n0 v U'.heap L ∧ FrameEnd U o U' L ({ frames := 4, cells := 0, slots := 0, locals := 54 } : Room).cells ({ frames := 4, cells := 0, slots := 0, locals := 54 } : Room).slots) := by
  refine MetFree.of_bodySF (plainFor_of_name pn_1) hisR ?_
  intro p e s m args below meth c s₁ Bd hml0 hP hK
  obtain ⟨rfl, hZ, hh⟩ := hP
  have hx := Bd.exec
  have hlk : meth.locks = false := BodyLoose.notSynchronized Bd
  have hby := Bd.bytes
  have hml : c.maxLocals = 6 := hml0
  have hown : s.vm.findClass "com/example/fiducia/fiducia/model/IdentificationType" = some m.cls := findClass_of_methodNamed Bd.named
  have hnm := (name_of_methodNamed Bd.named Bd.method).1
  have X0 : Stand p l e ({ frames := 4, cells := 0, slots := 0, locals := 54 } : Room) s m #[(.ref a1), (.ref a2), (.int p3)] below meth c s₁ [] 0 0 := Stand.of_body Bd
  have e0 : s₁.heap = h0 := by rw [← hh, Bd.state]; rfl
  have N0 := Fr.nil n0
  have K0 : ∀ t, Steps p.tables e below (s₁.setTop (mkF m 0 #[.val (.ref a1), .val (.ref a2), .val (.int p3), .unset, .unset, .unset] [])) t → Steps p.tables e below (s₁.setTop (entryFrame m #[(.ref a1), (.ref a2), (.int p3)] 6)) t := fun t k => castTop (ef_rm9 m a1 a2 p3) k
  have KK0 : Keep h0 h0 [] := Keep.refl _ _
  
  have K101 : ∀ t, Steps p.tables e below (s₁.setTop (mkF m 10 #[.val (.ref a1), .val (.ref a2), .val (.int p3), .val (.int (0 : Int32)), .val (.int (2 : Int32)), .val (.int (p3 - (1 : Int32)))] [])) t → Steps p.tables e below (s₁.setTop (entryFrame m #[(.ref a1), (.ref a2), (.int p3)] 6)) t := by
    intro t kt
    refine K0 t ?_
    show Steps p.tables e below (s₁.setTop (mkF m 0 #[.val (.ref a1), .val (.ref a2), .val (.int p3), .unset, .unset, .unset] [])) _
    refine XS.iconst X0.here hx rfl (hb hby d9_0) ?_
    show Steps p.tables e below (s₁.setTop (mkF m 1 #[.val (.ref a1), .val (.ref a2), .val (.int p3), .unset, .unset, .unset] [(.int (0 : Int32))])) _
    refine XS.istoreN X0.here hx rfl (hb hby d9_1) rfl (l' := #[.val (.ref a1), .val (.ref a2), .val (.int p3), .val (.int (0 : Int32)), .unset, .unset]) rfl ?_
    show Steps p.tables e below (s₁.setTop (mkF m 2 #[.val (.ref a1), .val (.ref a2), .val (.int p3), .val (.int (0 : Int32)), .unset, .unset] [])) _
    refine XS.iconst X0.here hx rfl (hb hby d9_2) ?_
    show Steps p.tables e below (s₁.setTop (mkF m 3 #[.val (.ref a1), .val (.ref a2), .val (.int p3), .val (.int (0 : Int32)), .unset, .unset] [(.int (2 : Int32))])) _
    refine XS.istore X0.here hx rfl (hb hby d9_3) rfl (l' := #[.val (.ref a1), .val (.ref a2), .val (.int p3), .val (.int (0 : Int32)), .val (.int (2 : Int32)), .unset]) rfl ?_
    show Steps p.tables e below (s₁.setTop (mkF m 5 #[.val (.ref a1), .val (.ref a2), .val (.int p3), .val (.int (0 : Int32)), .val (.int (2 : Int32)), .unset] [])) _
    refine XS.iloadN X0.here hx rfl (hb hby d9_5) rfl ?_
    show Steps p.tables e below (s₁.setTop (mkF m 6 #[.val (.ref a1), .val (.ref a2), .val (.int p3), .val (.int (0 : Int32)), .val (.int (2 : Int32)), .unset] [(.int p3)])) _
    refine XS.iconst X0.here hx rfl (hb hby d9_6) ?_
    show Steps p.tables e below (s₁.setTop (mkF m 7 #[.val (.ref a1), .val (.ref a2), .val (.int p3), .val (.int (0 : Int32)), .val (.int (2 : Int32)), .unset] [(.int (1 : Int32)), (.int p3)])) _
    refine XS.isub X0.here hx rfl (hb hby d9_7) rfl ?_
    show Steps p.tables e below (s₁.setTop (mkF m 8 #[.val (.ref a1), .val (.ref a2), .val (.int p3), .val (.int (0 : Int32)), .val (.int (2 : Int32)), .unset] [(.int (p3 - (1 : Int32)))])) _
    refine XS.istore X0.here hx rfl (hb hby d9_8) rfl (l' := #[.val (.ref a1), .val (.ref a2), .val (.int p3), .val (.int (0 : Int32)), .val (.int (2 : Int32)), .val (.int (p3 - (1 : Int32)))]) rfl ?_
    exact kt
  have hch : ∀ d ∈ StrChars.Road.wordsChN, d.before a0 Z = true := fun d hd => hw d ((by decide +kernel : ∀ d ∈ StrChars.Road.wordsChN, d ∈ tables_1) d hd)
  have hcd : StrChars.Road.CodA cs 0 (14 : Int32) ((cs.map (fun c => c.toInt8.toInt32)).map Value.int) := StrChars.Road.codOf (n := 14) hl (fun x hx => (own_pr (hp x hx)).2)
  have hbd : ∀ x ∈ cs, ¬ x < 0 ∧ ¬ (65535 : Int32) < x := fun x hx => own_pr2 (hp x hx)
  have loop : ∀ (k : Nat) (S wt i : Int32) (T : State) (lc : List Loc), k ≤ pn → i.toInt = (k : Int) - 1 → CI cs pn hn k S wt → Stand p l e ({ frames := 4, cells := 0, slots := 0, locals := 54 } : Room) s m #[(.ref a1), (.ref a2), (.int p3)] below meth c T lc 0 0 → T.heap = h0 → Fr n0 lc → ∃ (T' : State) (lc' : List Loc) (S' wt' i' : Int32), Stand p l e ({ frames := 4, cells := 0, slots := 0, locals := 54 } : Room) s m #[(.ref a1), (.ref a2), (.int p3)] below meth c T' lc' 0 0 ∧ T'.heap = h0 ∧ Fr n0 lc' ∧ CI cs pn hn 0 S' wt' ∧ ∀ t, Steps p.tables e below (T'.setTop (mkF m 55 #[.val (.ref a1), .val (.ref a2), .val (.int p3), .val (.int S'), .val (.int wt'), .val (.int i')] [])) t → Steps p.tables e below (T.setTop (mkF m 10 #[.val (.ref a1), .val (.ref a2), .val (.int p3), .val (.int S), .val (.int wt), .val (.int i)] [])) t := by
    intro k
    induction k with
    | zero =>
      intro S wt i T lc hk hi hI X eT N
      have K102 : ∀ t, Steps p.tables e below (T.setTop (mkF m 10 #[.val (.ref a1), .val (.ref a2), .val (.int p3), .val (.int S), .val (.int wt), .val (.int i)] [])) t → Steps p.tables e below (T.setTop (mkF m 10 #[.val (.ref a1), .val (.ref a2), .val (.int p3), .val (.int S), .val (.int wt), .val (.int i)] [])) t := fun t kt => kt
      have K103 : ∀ t, Steps p.tables e below (T.setTop (mkF m 55 #[.val (.ref a1), .val (.ref a2), .val (.int p3), .val (.int S), .val (.int wt), .val (.int i)] [])) t → Steps p.tables e below (T.setTop (mkF m 10 #[.val (.ref a1), .val (.ref a2), .val (.int p3), .val (.int S), .val (.int wt), .val (.int i)] [])) t := by
        intro t kt
        refine K102 t ?_
        show Steps p.tables e below (T.setTop (mkF m 10 #[.val (.ref a1), .val (.ref a2), .val (.int p3), .val (.int S), .val (.int wt), .val (.int i)] [])) _
        refine XS.iload X.here hx rfl (hb hby d9_10) rfl ?_
        show Steps p.tables e below (T.setTop (mkF m 12 #[.val (.ref a1), .val (.ref a2), .val (.int p3), .val (.int S), .val (.int wt), .val (.int i)] [(.int i)])) _
        refine XS.ifYes X.here hx rfl (pc0 := 12) (pc' := 55) rfl (hb hby d9_12) rfl ((if0 _ _).trans (tlt (own_neg hi : i < (0 : Int32))).1) (by decide) (by decide) ?_
        exact kt
      exact ⟨T, lc, S, wt, i, X, eT, N, hI, K103⟩
    | succ k ih =>
      intro S wt i T lc hk hi hI X eT N
      have K104 : ∀ t, Steps p.tables e below (T.setTop (mkF m 10 #[.val (.ref a1), .val (.ref a2), .val (.int p3), .val (.int S), .val (.int wt), .val (.int i)] [])) t → Steps p.tables e below (T.setTop (mkF m 10 #[.val (.ref a1), .val (.ref a2), .val (.int p3), .val (.int S), .val (.int wt), .val (.int i)] [])) t := fun t kt => kt
      have K105 : ∀ t, Steps p.tables e below (T.setTop (mkF m 19 #[.val (.ref a1), .val (.ref a2), .val (.int p3), .val (.int S), .val (.int wt), .val (.int i)] [(.int i), (.ref a2), (.int S)])) t → Steps p.tables e below (T.setTop (mkF m 10 #[.val (.ref a1), .val (.ref a2), .val (.int p3), .val (.int S), .val (.int wt), .val (.int i)] [])) t := by
        intro t kt
        refine K104 t ?_
        show Steps p.tables e below (T.setTop (mkF m 10 #[.val (.ref a1), .val (.ref a2), .val (.int p3), .val (.int S), .val (.int wt), .val (.int i)] [])) _
        refine XS.iload X.here hx rfl (hb hby d9_10) rfl ?_
        show Steps p.tables e below (T.setTop (mkF m 12 #[.val (.ref a1), .val (.ref a2), .val (.int p3), .val (.int S), .val (.int wt), .val (.int i)] [(.int i)])) _
        refine XS.ifNo X.here hx rfl (hb hby d9_12) rfl ((if0 _ _).trans (flt (own_nonneg hi : ¬ (i < (0 : Int32)))).1) ?_
        show Steps p.tables e below (T.setTop (mkF m 15 #[.val (.ref a1), .val (.ref a2), .val (.int p3), .val (.int S), .val (.int wt), .val (.int i)] [])) _
        refine XS.iloadN X.here hx rfl (hb hby d9_15) rfl ?_
        show Steps p.tables e below (T.setTop (mkF m 16 #[.val (.ref a1), .val (.ref a2), .val (.int p3), .val (.int S), .val (.int wt), .val (.int i)] [(.int S)])) _
        refine XS.aloadN X.here hx rfl (hb hby d9_16) rfl rfl ?_
        show Steps p.tables e below (T.setTop (mkF m 17 #[.val (.ref a1), .val (.ref a2), .val (.int p3), .val (.int S), .val (.int wt), .val (.int i)] [(.ref a2), (.int S)])) _
        refine XS.iload X.here hx rfl (hb hby d9_17) rfl ?_
        exact kt
      obtain ⟨cq106, kq106, q106a, q106b, q106c⟩ := isOf hZ eT E2
      obtain ⟨_, _, ⟨T106, L106, k106, n106⟩, -, X106, ⟨Lc106, hQ106, l106, y106, z106⟩, st106⟩ := X.virtualBack hx (y := (⟨"java/lang/String", "charAt", "(I)C"⟩ : MethodName)) (z := (⟨"java/lang/String", "charAt", "(I)C"⟩ : MethodName)) hown (mvT hZ (hw _ (List.mem_of_getElem? (i := 49) rfl))) (mvT hZ (hw _ (List.mem_of_getElem? (i := 50) rfl))) (notFace_of_selects (args := #[]) (mvT hZ (hw _ (List.mem_of_getElem? (i := 52) rfl)))) (mvT hZ (hw _ (List.mem_of_getElem? (i := 52) rfl))) (mvT hZ (hw _ (List.mem_of_getElem? (i := 51) rfl))) (by decide) (StrChars.Road.chN (W := 1) hZ hch (kI := 4) (hw _ (List.mem_of_getElem? (i := 11) rfl)) E2 V2 C2 A2 hcd hbd O2 P5 O4 rG3 (by omega) (i := k) (by omega) (j := i) (own_ofnat hi) (by decide) (by decide)) q106a q106c (g := (mkF m 19 #[.val (.ref a1), .val (.ref a2), .val (.int p3), .val (.int S), .val (.int wt), .val (.int i)] [(.int i), (.ref a2), (.int S)])) rfl (by rw [hml]; rfl) (Steps.refl _) (argsL := [(.int i)]) (rest := [(.int S)]) (lenOf pd_0 rfl) rfl (by show 2 * 0 + _ ≤ _; exact Nat.le_of_eq rfl) (hb hby d9_19) (fun _ _ => ⟨rfl, eT, (by decide : 0 + 0 ≤ _), (by decide : 0 + 0 ≤ _)⟩)
      dsimp only [Pt.U, Pt.locs, Pt.cells, Pt.slots] at X106 l106 y106 z106 st106 hQ106
      subst l106 y106 z106
      obtain ⟨rfl, rfl, e106⟩ := hQ106
      have Nq106 : Fr n0 ([] : List Loc) := Fr.nil n0
      have N106 := Fr.app N Nq106
      have K107 : ∀ t, Steps p.tables e below (T106.setTop (mkF m 22 #[.val (.ref a1), .val (.ref a2), .val (.int p3), .val (.int S), .val (.int wt), .val (.int i)] [(.int (cs.getD k 0)), (.int S)])) t → Steps p.tables e below (T.setTop (mkF m 10 #[.val (.ref a1), .val (.ref a2), .val (.int p3), .val (.int S), .val (.int wt), .val (.int i)] [])) t := fun t kt => K105 t (st106.trans kt)
      have K108 : ∀ t, Steps p.tables e below (T106.setTop (mkF m 29 #[.val (.ref a1), .val (.ref a2), .val (.int p3), .val (.int S), .val (.int wt), .val (.int i)] [(.int (S + (((cs.getD k 0) - (48 : Int32)) * wt)))])) t → Steps p.tables e below (T.setTop (mkF m 10 #[.val (.ref a1), .val (.ref a2), .val (.int p3), .val (.int S), .val (.int wt), .val (.int i)] [])) t := by
        intro t kt
        refine K107 t ?_
        show Steps p.tables e below (T106.setTop (mkF m 22 #[.val (.ref a1), .val (.ref a2), .val (.int p3), .val (.int S), .val (.int wt), .val (.int i)] [(.int (cs.getD k 0)), (.int S)])) _
        refine XS.bipush X106.here hx rfl (hb hby d9_22) ?_
        show Steps p.tables e below (T106.setTop (mkF m 24 #[.val (.ref a1), .val (.ref a2), .val (.int p3), .val (.int S), .val (.int wt), .val (.int i)] [(.int (48 : Int32)), (.int (cs.getD k 0)), (.int S)])) _
        refine XS.isub X106.here hx rfl (hb hby d9_24) rfl ?_
        show Steps p.tables e below (T106.setTop (mkF m 25 #[.val (.ref a1), .val (.ref a2), .val (.int p3), .val (.int S), .val (.int wt), .val (.int i)] [(.int ((cs.getD k 0) - (48 : Int32))), (.int S)])) _
        refine XS.iload X106.here hx rfl (hb hby d9_25) rfl ?_
        show Steps p.tables e below (T106.setTop (mkF m 27 #[.val (.ref a1), .val (.ref a2), .val (.int p3), .val (.int S), .val (.int wt), .val (.int i)] [(.int wt), (.int ((cs.getD k 0) - (48 : Int32))), (.int S)])) _
        refine XS.imul X106.here hx rfl (hb hby d9_27) rfl ?_
        show Steps p.tables e below (T106.setTop (mkF m 28 #[.val (.ref a1), .val (.ref a2), .val (.int p3), .val (.int S), .val (.int wt), .val (.int i)] [(.int (((cs.getD k 0) - (48 : Int32)) * wt)), (.int S)])) _
        refine XS.iadd X106.here hx rfl (hb hby d9_28) rfl ?_
        exact kt
      obtain ⟨S2, hS2⟩ : ∃ z : Int32, z = (S + (((cs.getD k 0) - (48 : Int32)) * wt)) := ⟨_, rfl⟩
      have K109 : ∀ t, Steps p.tables e below (T106.setTop (mkF m 29 #[.val (.ref a1), .val (.ref a2), .val (.int p3), .val (.int S), .val (.int wt), .val (.int i)] [(.int S2)])) t → Steps p.tables e below (T.setTop (mkF m 10 #[.val (.ref a1), .val (.ref a2), .val (.int p3), .val (.int S), .val (.int wt), .val (.int i)] [])) t := by
        rw [hS2]; exact K108
      have K110 : ∀ t, Steps p.tables e below (T106.setTop (mkF m 33 #[.val (.ref a1), .val (.ref a2), .val (.int p3), .val (.int S2), .val (.int wt), .val (.int i)] [(.ref a1), (.int wt)])) t → Steps p.tables e below (T.setTop (mkF m 10 #[.val (.ref a1), .val (.ref a2), .val (.int p3), .val (.int S), .val (.int wt), .val (.int i)] [])) t := by
        intro t kt
        refine K109 t ?_
        show Steps p.tables e below (T106.setTop (mkF m 29 #[.val (.ref a1), .val (.ref a2), .val (.int p3), .val (.int S), .val (.int wt), .val (.int i)] [(.int S2)])) _
        refine XS.istoreN X106.here hx rfl (hb hby d9_29) rfl (l' := #[.val (.ref a1), .val (.ref a2), .val (.int p3), .val (.int S2), .val (.int wt), .val (.int i)]) rfl ?_
        show Steps p.tables e below (T106.setTop (mkF m 30 #[.val (.ref a1), .val (.ref a2), .val (.int p3), .val (.int S2), .val (.int wt), .val (.int i)] [])) _
        refine XS.iload X106.here hx rfl (hb hby d9_30) rfl ?_
        show Steps p.tables e below (T106.setTop (mkF m 32 #[.val (.ref a1), .val (.ref a2), .val (.int p3), .val (.int S2), .val (.int wt), .val (.int i)] [(.int wt)])) _
        refine XS.aloadN X106.here hx rfl (hb hby d9_32) rfl rfl ?_
        exact kt
      obtain ⟨T111, X111, e111, st111⟩ := getF X106 hx hZ hown (host := "") (Or.inl (hw _ (List.mem_of_getElem? (i := 71) rfl))) Via.refl e106 F (g := (mkF m 33 #[.val (.ref a1), .val (.ref a2), .val (.int p3), .val (.int S2), .val (.int wt), .val (.int i)] [(.ref a1), (.int wt)])) rfl rfl (hb hby d9_33)
      have K112 : ∀ t, Steps p.tables e below (T111.setTop (mkF m 36 #[.val (.ref a1), .val (.ref a2), .val (.int p3), .val (.int S2), .val (.int wt), .val (.int i)] [(.int p4), (.int wt)])) t → Steps p.tables e below (T.setTop (mkF m 10 #[.val (.ref a1), .val (.ref a2), .val (.int p3), .val (.int S), .val (.int wt), .val (.int i)] [])) t := fun t kt => K110 t (st111 t kt)
      by_cases hc : wt = p4
      · have K113 : ∀ t, Steps p.tables e below (T111.setTop (mkF m 47 #[.val (.ref a1), .val (.ref a2), .val (.int p3), .val (.int S2), .val (.int wt), .val (.int i)] [(.int (2 : Int32))])) t → Steps p.tables e below (T.setTop (mkF m 10 #[.val (.ref a1), .val (.ref a2), .val (.int p3), .val (.int S), .val (.int wt), .val (.int i)] [])) t := by
          intro t kt
          refine K112 t ?_
          show Steps p.tables e below (T111.setTop (mkF m 36 #[.val (.ref a1), .val (.ref a2), .val (.int p3), .val (.int S2), .val (.int wt), .val (.int i)] [(.int p4), (.int wt)])) _
          refine XS.icmpNo X111.here hx rfl (hb hby d9_36) rfl (teq (hc : wt = p4)).2 ?_
          show Steps p.tables e below (T111.setTop (mkF m 39 #[.val (.ref a1), .val (.ref a2), .val (.int p3), .val (.int S2), .val (.int wt), .val (.int i)] [])) _
          refine XS.iconst X111.here hx rfl (hb hby d9_39) ?_
          show Steps p.tables e below (T111.setTop (mkF m 40 #[.val (.ref a1), .val (.ref a2), .val (.int p3), .val (.int S2), .val (.int wt), .val (.int i)] [(.int (2 : Int32))])) _
          refine XS.goto X111.here hx rfl (pc0 := 40) (pc' := 47) rfl (hb hby d9_40) (by decide) (by decide) ?_
          exact kt
        obtain ⟨w2, hw2⟩ : ∃ z : Int32, z = (2 : Int32) := ⟨_, rfl⟩
        have K114 : ∀ t, Steps p.tables e below (T111.setTop (mkF m 47 #[.val (.ref a1), .val (.ref a2), .val (.int p3), .val (.int S2), .val (.int wt), .val (.int i)] [(.int w2)])) t → Steps p.tables e below (T.setTop (mkF m 10 #[.val (.ref a1), .val (.ref a2), .val (.int p3), .val (.int S), .val (.int wt), .val (.int i)] [])) t := by
          rw [hw2]; exact K113
        have K115 : ∀ t, Steps p.tables e below (T111.setTop (mkF m 10 #[.val (.ref a1), .val (.ref a2), .val (.int p3), .val (.int S2), .val (.int w2), .val (.int (i + (-1 : Int32)))] [])) t → Steps p.tables e below (T.setTop (mkF m 10 #[.val (.ref a1), .val (.ref a2), .val (.int p3), .val (.int S), .val (.int wt), .val (.int i)] [])) t := by
          intro t kt
          refine K114 t ?_
          show Steps p.tables e below (T111.setTop (mkF m 47 #[.val (.ref a1), .val (.ref a2), .val (.int p3), .val (.int S2), .val (.int wt), .val (.int i)] [(.int w2)])) _
          refine XS.istore X111.here hx rfl (hb hby d9_47) rfl (l' := #[.val (.ref a1), .val (.ref a2), .val (.int p3), .val (.int S2), .val (.int w2), .val (.int i)]) rfl ?_
          show Steps p.tables e below (T111.setTop (mkF m 49 #[.val (.ref a1), .val (.ref a2), .val (.int p3), .val (.int S2), .val (.int w2), .val (.int i)] [])) _
          refine XS.iinc X111.here hx rfl (hb hby d9_49) rfl (l' := #[.val (.ref a1), .val (.ref a2), .val (.int p3), .val (.int S2), .val (.int w2), .val (.int (i + (-1 : Int32)))]) rfl ?_
          show Steps p.tables e below (T111.setTop (mkF m 52 #[.val (.ref a1), .val (.ref a2), .val (.int p3), .val (.int S2), .val (.int w2), .val (.int (i + (-1 : Int32)))] [])) _
          refine XS.goto X111.here hx rfl (pc0 := 52) (pc' := 10) rfl (hb hby d9_52) (by decide) (by decide) ?_
          exact kt
        obtain ⟨T', lc', S', wt', i', X', eT', N', hI', K'⟩ := ih S2 w2 (i + (-1 : Int32)) T111 _ (by omega) (own_dec hi) (own_turn1 hl hp hpn h4 hhn hk hI hS2 hc hw2) X111 e111 N106
        exact ⟨T', lc', S', wt', i', X', eT', N', hI', fun t kt => K115 t (K' t kt)⟩
      · have K116 : ∀ t, Steps p.tables e below (T111.setTop (mkF m 47 #[.val (.ref a1), .val (.ref a2), .val (.int p3), .val (.int S2), .val (.int wt), .val (.int i)] [(.int (wt + (1 : Int32)))])) t → Steps p.tables e below (T.setTop (mkF m 10 #[.val (.ref a1), .val (.ref a2), .val (.int p3), .val (.int S), .val (.int wt), .val (.int i)] [])) t := by
          intro t kt
          refine K112 t ?_
          show Steps p.tables e below (T111.setTop (mkF m 36 #[.val (.ref a1), .val (.ref a2), .val (.int p3), .val (.int S2), .val (.int wt), .val (.int i)] [(.int p4), (.int wt)])) _
          refine XS.icmpYes X111.here hx rfl (pc0 := 36) (pc' := 43) rfl (hb hby d9_36) rfl (feq (hc : ¬ (wt = p4))).2 (by decide) (by decide) ?_
          show Steps p.tables e below (T111.setTop (mkF m 43 #[.val (.ref a1), .val (.ref a2), .val (.int p3), .val (.int S2), .val (.int wt), .val (.int i)] [])) _
          refine XS.iload X111.here hx rfl (hb hby d9_43) rfl ?_
          show Steps p.tables e below (T111.setTop (mkF m 45 #[.val (.ref a1), .val (.ref a2), .val (.int p3), .val (.int S2), .val (.int wt), .val (.int i)] [(.int wt)])) _
          refine XS.iconst X111.here hx rfl (hb hby d9_45) ?_
          show Steps p.tables e below (T111.setTop (mkF m 46 #[.val (.ref a1), .val (.ref a2), .val (.int p3), .val (.int S2), .val (.int wt), .val (.int i)] [(.int (1 : Int32)), (.int wt)])) _
          refine XS.iadd X111.here hx rfl (hb hby d9_46) rfl ?_
          exact kt
        obtain ⟨w2, hw2⟩ : ∃ z : Int32, z = (wt + (1 : Int32)) := ⟨_, rfl⟩
        have K117 : ∀ t, Steps p.tables e below (T111.setTop (mkF m 47 #[.val (.ref a1), .val (.ref a2), .val (.int p3), .val (.int S2), .val (.int wt), .val (.int i)] [(.int w2)])) t → Steps p.tables e below (T.setTop (mkF m 10 #[.val (.ref a1), .val (.ref a2), .val (.int p3), .val (.int S), .val (.int wt), .val (.int i)] [])) t := by
          rw [hw2]; exact K116
        have K118 : ∀ t, Steps p.tables e below (T111.setTop (mkF m 10 #[.val (.ref a1), .val (.ref a2), .val (.int p3), .val (.int S2), .val (.int w2), .val (.int (i + (-1 : Int32)))] [])) t → Steps p.tables e below (T.setTop (mkF m 10 #[.val (.ref a1), .val (.ref a2), .val (.int p3), .val (.int S), .val (.int wt), .val (.int i)] [])) t := by
          intro t kt
          refine K117 t ?_
          show Steps p.tables e below (T111.setTop (mkF m 47 #[.val (.ref a1), .val (.ref a2), .val (.int p3), .val (.int S2), .val (.int wt), .val (.int i)] [(.int w2)])) _
          refine XS.istore X111.here hx rfl (hb hby d9_47) rfl (l' := #[.val (.ref a1), .val (.ref a2), .val (.int p3), .val (.int S2), .val (.int w2), .val (.int i)]) rfl ?_
          show Steps p.tables e below (T111.setTop (mkF m 49 #[.val (.ref a1), .val (.ref a2), .val (.int p3), .val (.int S2), .val (.int w2), .val (.int i)] [])) _
          refine XS.iinc X111.here hx rfl (hb hby d9_49) rfl (l' := #[.val (.ref a1), .val (.ref a2), .val (.int p3), .val (.int S2), .val (.int w2), .val (.int (i + (-1 : Int32)))]) rfl ?_
          show Steps p.tables e below (T111.setTop (mkF m 52 #[.val (.ref a1), .val (.ref a2), .val (.int p3), .val (.int S2), .val (.int w2), .val (.int (i + (-1 : Int32)))] [])) _
          refine XS.goto X111.here hx rfl (pc0 := 52) (pc' := 10) rfl (hb hby d9_52) (by decide) (by decide) ?_
          exact kt
        obtain ⟨T', lc', S', wt', i', X', eT', N', hI', K'⟩ := ih S2 w2 (i + (-1 : Int32)) T111 _ (by omega) (own_dec hi) (own_turn2 hl hp hpn h4 hhn hk hI hS2 hc hw2) X111 e111 N106
        exact ⟨T', lc', S', wt', i', X', eT', N', hI', fun t kt => K118 t (K' t kt)⟩
  obtain ⟨T5, lc5, S5, wt5, i5, X5, e5, N5, hI5, st5⟩ := loop pn 0 2 (p3 - (1 : Int32)) s₁ [] (Nat.le_refl _) (own_p1 h3 hpn) (own_ci0 cs pn hn) X0 e0 N0
  have K119 : ∀ t, Steps p.tables e below (T5.setTop (mkF m 55 #[.val (.ref a1), .val (.ref a2), .val (.int p3), .val (.int S5), .val (.int wt5), .val (.int i5)] [])) t → Steps p.tables e below (s₁.setTop (entryFrame m #[(.ref a1), (.ref a2), (.int p3)] 6)) t := fun t kt => K101 t (st5 t kt)
  have K120 : ∀ t, Steps p.tables e below (T5.setTop (mkF m 64 #[.val (.ref a1), .val (.ref a2), .val (.int p3), .val (.int S5), .val (.int wt5), .val (.int (S5 % (11 : Int32)))] [(.int (2 : Int32)), (.int (S5 % (11 : Int32)))])) t → Steps p.tables e below (s₁.setTop (entryFrame m #[(.ref a1), (.ref a2), (.int p3)] 6)) t := by
    intro t kt
    refine K119 t ?_
    show Steps p.tables e below (T5.setTop (mkF m 55 #[.val (.ref a1), .val (.ref a2), .val (.int p3), .val (.int S5), .val (.int wt5), .val (.int i5)] [])) _
    refine XS.iloadN X5.here hx rfl (hb hby d9_55) rfl ?_
    show Steps p.tables e below (T5.setTop (mkF m 56 #[.val (.ref a1), .val (.ref a2), .val (.int p3), .val (.int S5), .val (.int wt5), .val (.int i5)] [(.int S5)])) _
    refine XS.bipush X5.here hx rfl (hb hby d9_56) ?_
    show Steps p.tables e below (T5.setTop (mkF m 58 #[.val (.ref a1), .val (.ref a2), .val (.int p3), .val (.int S5), .val (.int wt5), .val (.int i5)] [(.int (11 : Int32)), (.int S5)])) _
    refine iremM X5 hx rfl (hb hby d9_58) rfl (by decide) ?_
    show Steps p.tables e below (T5.setTop (mkF m 59 #[.val (.ref a1), .val (.ref a2), .val (.int p3), .val (.int S5), .val (.int wt5), .val (.int i5)] [(.int (S5 % (11 : Int32)))])) _
    refine XS.istore X5.here hx rfl (hb hby d9_59) rfl (l' := #[.val (.ref a1), .val (.ref a2), .val (.int p3), .val (.int S5), .val (.int wt5), .val (.int (S5 % (11 : Int32)))]) rfl ?_
    show Steps p.tables e below (T5.setTop (mkF m 61 #[.val (.ref a1), .val (.ref a2), .val (.int p3), .val (.int S5), .val (.int wt5), .val (.int (S5 % (11 : Int32)))] [])) _
    refine XS.iload X5.here hx rfl (hb hby d9_61) rfl ?_
    show Steps p.tables e below (T5.setTop (mkF m 63 #[.val (.ref a1), .val (.ref a2), .val (.int p3), .val (.int S5), .val (.int wt5), .val (.int (S5 % (11 : Int32)))] [(.int (S5 % (11 : Int32)))])) _
    refine XS.iconst X5.here hx rfl (hb hby d9_63) ?_
    exact kt
  by_cases hc : (S5 % (11 : Int32)) < (2 : Int32)
  · have K121 : ∀ t, Steps p.tables e below (T5.setTop (mkF m 76 #[.val (.ref a1), .val (.ref a2), .val (.int p3), .val (.int S5), .val (.int wt5), .val (.int (S5 % (11 : Int32)))] [(.int (0 : Int32))])) t → Steps p.tables e below (s₁.setTop (entryFrame m #[(.ref a1), (.ref a2), (.int p3)] 6)) t := by
      intro t kt
      refine K120 t ?_
      show Steps p.tables e below (T5.setTop (mkF m 64 #[.val (.ref a1), .val (.ref a2), .val (.int p3), .val (.int S5), .val (.int wt5), .val (.int (S5 % (11 : Int32)))] [(.int (2 : Int32)), (.int (S5 % (11 : Int32)))])) _
      refine XS.icmpNo X5.here hx rfl (hb hby d9_64) rfl (tlt (hc : (S5 % (11 : Int32)) < (2 : Int32))).2.1 ?_
      show Steps p.tables e below (T5.setTop (mkF m 67 #[.val (.ref a1), .val (.ref a2), .val (.int p3), .val (.int S5), .val (.int wt5), .val (.int (S5 % (11 : Int32)))] [])) _
      refine XS.iconst X5.here hx rfl (hb hby d9_67) ?_
      show Steps p.tables e below (T5.setTop (mkF m 68 #[.val (.ref a1), .val (.ref a2), .val (.int p3), .val (.int S5), .val (.int wt5), .val (.int (S5 % (11 : Int32)))] [(.int (0 : Int32))])) _
      refine XS.goto X5.here hx rfl (pc0 := 68) (pc' := 76) rfl (hb hby d9_68) (by decide) (by decide) ?_
      exact kt
    obtain ⟨fs, hr, hrun, hended, hW, hsame⟩ := X5.leave (v := some (.int (0 : Int32))) (fun h => by rw [Bd.returns] at h; cases h) (hlocks := hlk)
    refine ⟨_, _, K121 _ ?_, hrun, hended, _, _, rfl, ?_, ⟨_, rfl⟩, hW, hsame.mono (by decide) (by decide)⟩
    · exact retI X5 hx Bd.returns (hb hby d9_76) hr
    · show Qrm9 a1 a2 p3 p4 G1 G3 t1 kb cs pn hn h0 n0 _ T5.heap _
      rw [e5]
      exact ⟨S5, own_cend hI5, own_cd1 hc, N5, rfl⟩
  · have K122 : ∀ t, Steps p.tables e below (T5.setTop (mkF m 76 #[.val (.ref a1), .val (.ref a2), .val (.int p3), .val (.int S5), .val (.int wt5), .val (.int (S5 % (11 : Int32)))] [(.int ((11 : Int32) - (S5 % (11 : Int32))))])) t → Steps p.tables e below (s₁.setTop (entryFrame m #[(.ref a1), (.ref a2), (.int p3)] 6)) t := by
      intro t kt
      refine K120 t ?_
      show Steps p.tables e below (T5.setTop (mkF m 64 #[.val (.ref a1), .val (.ref a2), .val (.int p3), .val (.int S5), .val (.int wt5), .val (.int (S5 % (11 : Int32)))] [(.int (2 : Int32)), (.int (S5 % (11 : Int32)))])) _
      refine XS.icmpYes X5.here hx rfl (pc0 := 64) (pc' := 71) rfl (hb hby d9_64) rfl (flt (hc : ¬ ((S5 % (11 : Int32)) < (2 : Int32)))).2.1 (by decide) (by decide) ?_
      show Steps p.tables e below (T5.setTop (mkF m 71 #[.val (.ref a1), .val (.ref a2), .val (.int p3), .val (.int S5), .val (.int wt5), .val (.int (S5 % (11 : Int32)))] [])) _
      refine XS.bipush X5.here hx rfl (hb hby d9_71) ?_
      show Steps p.tables e below (T5.setTop (mkF m 73 #[.val (.ref a1), .val (.ref a2), .val (.int p3), .val (.int S5), .val (.int wt5), .val (.int (S5 % (11 : Int32)))] [(.int (11 : Int32))])) _
      refine XS.iload X5.here hx rfl (hb hby d9_73) rfl ?_
      show Steps p.tables e below (T5.setTop (mkF m 75 #[.val (.ref a1), .val (.ref a2), .val (.int p3), .val (.int S5), .val (.int wt5), .val (.int (S5 % (11 : Int32)))] [(.int (S5 % (11 : Int32))), (.int (11 : Int32))])) _
      refine XS.isub X5.here hx rfl (hb hby d9_75) rfl ?_
      exact kt
    obtain ⟨fs, hr, hrun, hended, hW, hsame⟩ := X5.leave (v := some (.int ((11 : Int32) - (S5 % (11 : Int32))))) (fun h => by rw [Bd.returns] at h; cases h) (hlocks := hlk)
    refine ⟨_, _, K122 _ ?_, hrun, hended, _, _, rfl, ?_, ⟨_, rfl⟩, hW, hsame.mono (by decide) (by decide)⟩
    · exact retI X5 hx Bd.returns (hb hby d9_76) hr
    · show Qrm9 a1 a2 p3 p4 G1 G3 t1 kb cs pn hn h0 n0 _ T5.heap _
      rw [e5]
      exact ⟨S5, own_cend hI5, own_cd2 hc, N5, rfl⟩
theorem ef_rm0 (m : MethodId) (x0 : Int64) (x1 : Int64) (x2 : Int32) (x3 : Int32) : entryFrame m #[(.long x0), (.long x1), (.int x2), (.int x3)] maxLocals = mkF m 0 #[.val (.long x0), .second, .val (.long x1), .second, .val (.int x2), .val (.int x3), .unset, .unset, .unset, .unset, .unset, .unset, .unset, .unset, .unset] [] := by first | (simp [entryFrame, mkF, argsToLocals, Value.category, maxLocals]; done) | rfl
def Qrm0 (q1 q2 : Int64) (p3 p4 : Int32) (G1 : Int32) (G3 : Value) (aN aF : Addr) (h0 : Heap) (n0 : Nat) (v : Option Value) (h : Heap) (L : List Loc) : Prop := v = some (.int 1) ∧ Fr n0 L
set_option maxRecDepth 65536 in
set_option maxHeartbeats 40000000 in
theorem rm0 (l : Launch) (Z : State) (a0 : Array Value) (hw : ∀ d ∈ tables_1, d.before a0 Z = true) (ws : List Jvm.Cond) (q1 q2 : Int64) (p3 p4 : Int32) (G1 : Int32) (G3 : Value) (aN aF : Addr) (h0 : Heap) (n0 : Nat) (Z0 : n0 ≤ h0.size) (EN : Exa Z h0 aN "com/example/fiducia/fiducia/model/IdentificationType") (EF : Exa Z h0 aF "com/example/fiducia/fiducia/model/IdentificationType") (FN : Fld Z h0 aN "com/example/fiducia/fiducia/model/IdentificationType" "highestWeight" "I" (.int 9)) (FF : Fld Z h0 aF "com/example/fiducia/fiducia/model/IdentificationType" "highestWeight" "I" (.int 11)) (SN : Sta Z h0 "com/example/fiducia/fiducia/model/IdentificationType" "CNPJ" "Lcom/example/fiducia/fiducia/model/IdentificationType;" (.ref aN)) (SF : Sta Z h0 "com/example/fiducia/fiducia/model/IdentificationType" "CPF" "Lcom/example/fiducia/fiducia/model/IdentificationType;" (.ref aF)) (O2 : Sta Z Z.heap "java/lang/String" "COMPACT_STRINGS" "Z" (.int G1)) (P5 : ¬ (G1 = (0 : Int32))) (O4 : Sta Z Z.heap "jdk/internal/util/Preconditions" "SIOOBE_FORMATTER" "Ljava/util/function/BiFunction;" G3) (rG3 : G3.isRef = true) (X00 : Old Z n0 h0) :
    MetFree l x (head1 (Jvm.Cond.code x code maxLocals ret :: ws) room_1) (fun a U => a = #[(.long q1), (.long q2), (.int p3), (.int p4)] ∧ Z.Warmed39 U.vm ∧ U.heap = h0) (fun _ _ _ _ _ => True) (fun _ U o U' => ∃ v L, o = .returned v ∧ Qrm0 q1 q2 p3 p4 G1 G3 aN aF h0 n0 v U'.heap L ∧ FrameEnd U o U' L room_1.cells room_1.slots) := by
  refine MetFree.of_bodySF (plainFor_of_name pn_0) hisR ?_
  intro p e s m args below meth c s₁ Bd hml0 hP hK
  obtain ⟨rfl, hZ, hh⟩ := hP
  have hx := Bd.exec
  have hlk : meth.locks = false := BodyLoose.notSynchronized Bd
  have hby := Bd.bytes
  have hml : c.maxLocals = 15 := hml0
  have hown : s.vm.findClass "com/example/fiducia/fiducia/model/IdentificationTypeCheckDigitPinLaw" = some m.cls := findClass_of_methodNamed Bd.named
  have hnm := (name_of_methodNamed Bd.named Bd.method).1
  have X0 : Stand p l e room_1 s m #[(.long q1), (.long q2), (.int p3), (.int p4)] below meth c s₁ [] 0 0 := Stand.of_body Bd
  have e0 : s₁.heap = h0 := by rw [← hh, Bd.state]; rfl
  have N0 := Fr.nil n0
  have K0 : ∀ t, Steps p.tables e below (s₁.setTop (mkF m 0 #[.val (.long q1), .second, .val (.long q2), .second, .val (.int p3), .val (.int p4), .unset, .unset, .unset, .unset, .unset, .unset, .unset, .unset, .unset] [])) t → Steps p.tables e below (s₁.setTop (entryFrame m #[(.long q1), (.long q2), (.int p3), (.int p4)] maxLocals)) t := fun t k => castTop (ef_rm0 m q1 q2 p3 p4) k
  have KK0 : Keep h0 h0 [] := Keep.refl _ _
  
  have K101 : ∀ t, Steps p.tables e below (s₁.setTop (mkF m 4 #[.val (.long q1), .second, .val (.long q2), .second, .val (.int p3), .val (.int p4), .unset, .unset, .unset, .unset, .unset, .unset, .unset, .unset, .unset] [(.int (p4 &&& (1 : Int32)))])) t → Steps p.tables e below (s₁.setTop (entryFrame m #[(.long q1), (.long q2), (.int p3), (.int p4)] maxLocals)) t := by
    intro t kt
    refine K0 t ?_
    show Steps p.tables e below (s₁.setTop (mkF m 0 #[.val (.long q1), .second, .val (.long q2), .second, .val (.int p3), .val (.int p4), .unset, .unset, .unset, .unset, .unset, .unset, .unset, .unset, .unset] [])) _
    refine XS.iload X0.here hx rfl (hb hby at_0) rfl ?_
    show Steps p.tables e below (s₁.setTop (mkF m 2 #[.val (.long q1), .second, .val (.long q2), .second, .val (.int p3), .val (.int p4), .unset, .unset, .unset, .unset, .unset, .unset, .unset, .unset, .unset] [(.int p4)])) _
    refine XS.iconst X0.here hx rfl (hb hby at_2) ?_
    show Steps p.tables e below (s₁.setTop (mkF m 3 #[.val (.long q1), .second, .val (.long q2), .second, .val (.int p3), .val (.int p4), .unset, .unset, .unset, .unset, .unset, .unset, .unset, .unset, .unset] [(.int (1 : Int32)), (.int p4)])) _
    refine XS.iand X0.here hx rfl (hb hby at_3) rfl ?_
    exact kt
  obtain ⟨Tj102, lc102, kd, ta, hv, Xj102, Nj102, ej102, pj102, Kj102⟩ : ∃ (Tj102 : State) (lc102 : List Loc) (kd : Int32) (ta : Addr) (hv : Int32), Stand p l e room_1 s m #[(.long q1), (.long q2), (.int p3), (.int p4)] below meth c Tj102 lc102 0 0 ∧ Fr n0 lc102 ∧ Tj102.heap = h0 ∧ (∃ hn : Nat, (hn = 9 ∨ hn = 11) ∧ Exa Z h0 ta "com/example/fiducia/fiducia/model/IdentificationType" ∧ Fld Z h0 ta "com/example/fiducia/fiducia/model/IdentificationType" "highestWeight" "I" (.int hv) ∧ hv.toInt = (hn : Int)) ∧ ∀ t, Steps p.tables e below (Tj102.setTop (mkF m 44 #[.val (.long q1), .second, .val (.long q2), .second, .val (.int p3), .val (.int p4), .val (.int kd), .val (.ref ta), .val (.int hv), .unset, .unset, .unset, .unset, .unset, .unset] [])) t → Steps p.tables e below (s₁.setTop (entryFrame m #[(.long q1), (.long q2), (.int p3), (.int p4)] maxLocals)) t := by
    by_cases hc : (p4 &&& (1 : Int32)) = (0 : Int32)
    · have K103 : ∀ t, Steps p.tables e below (s₁.setTop (mkF m 25 #[.val (.long q1), .second, .val (.long q2), .second, .val (.int p3), .val (.int p4), .val (.int (0 : Int32)), .unset, .unset, .unset, .unset, .unset, .unset, .unset, .unset] [])) t → Steps p.tables e below (s₁.setTop (entryFrame m #[(.long q1), (.long q2), (.int p3), (.int p4)] maxLocals)) t := by
        intro t kt
        refine K101 t ?_
        show Steps p.tables e below (s₁.setTop (mkF m 4 #[.val (.long q1), .second, .val (.long q2), .second, .val (.int p3), .val (.int p4), .unset, .unset, .unset, .unset, .unset, .unset, .unset, .unset, .unset] [(.int (p4 &&& (1 : Int32)))])) _
        refine XS.ifYes X0.here hx rfl (pc0 := 4) (pc' := 11) rfl (hb hby at_4) rfl ((if0 _ _).trans (teq (hc : (p4 &&& (1 : Int32)) = (0 : Int32))).1) (by decide) (by decide) ?_
        show Steps p.tables e below (s₁.setTop (mkF m 11 #[.val (.long q1), .second, .val (.long q2), .second, .val (.int p3), .val (.int p4), .unset, .unset, .unset, .unset, .unset, .unset, .unset, .unset, .unset] [])) _
        refine XS.iconst X0.here hx rfl (hb hby at_11) ?_
        show Steps p.tables e below (s₁.setTop (mkF m 12 #[.val (.long q1), .second, .val (.long q2), .second, .val (.int p3), .val (.int p4), .unset, .unset, .unset, .unset, .unset, .unset, .unset, .unset, .unset] [(.int (0 : Int32))])) _
        refine XS.istore X0.here hx rfl (hb hby at_12) rfl (l' := #[.val (.long q1), .second, .val (.long q2), .second, .val (.int p3), .val (.int p4), .val (.int (0 : Int32)), .unset, .unset, .unset, .unset, .unset, .unset, .unset, .unset]) rfl ?_
        show Steps p.tables e below (s₁.setTop (mkF m 14 #[.val (.long q1), .second, .val (.long q2), .second, .val (.int p3), .val (.int p4), .val (.int (0 : Int32)), .unset, .unset, .unset, .unset, .unset, .unset, .unset, .unset] [])) _
        refine XS.iload X0.here hx rfl (hb hby at_14) rfl ?_
        show Steps p.tables e below (s₁.setTop (mkF m 16 #[.val (.long q1), .second, .val (.long q2), .second, .val (.int p3), .val (.int p4), .val (.int (0 : Int32)), .unset, .unset, .unset, .unset, .unset, .unset, .unset, .unset] [(.int (0 : Int32))])) _
        refine XS.ifYes X0.here hx rfl (pc0 := 16) (pc' := 25) rfl (hb hby at_16) rfl ((if0 _ _).trans (teq (by decide : (0 : Int32) = (0 : Int32))).1) (by decide) (by decide) ?_
        exact kt
      obtain ⟨T104, X104, e104, st104⟩ := getS2 X0 hx hZ hown (host := "") (Or.inl (hw _ (List.mem_of_getElem? (i := 47) rfl))) Via.refl e0 SF (g := (mkF m 25 #[.val (.long q1), .second, .val (.long q2), .second, .val (.int p3), .val (.int p4), .val (.int (0 : Int32)), .unset, .unset, .unset, .unset, .unset, .unset, .unset, .unset] [])) rfl (hb hby at_25)
      have K105 : ∀ t, Steps p.tables e below (T104.setTop (mkF m 28 #[.val (.long q1), .second, .val (.long q2), .second, .val (.int p3), .val (.int p4), .val (.int (0 : Int32)), .unset, .unset, .unset, .unset, .unset, .unset, .unset, .unset] [(.ref aF)])) t → Steps p.tables e below (s₁.setTop (entryFrame m #[(.long q1), (.long q2), (.int p3), (.int p4)] maxLocals)) t := fun t kt => K103 t (st104 t kt)
      have K106 : ∀ t, Steps p.tables e below (T104.setTop (mkF m 44 #[.val (.long q1), .second, .val (.long q2), .second, .val (.int p3), .val (.int p4), .val (.int (0 : Int32)), .val (.ref aF), .val (.int (11 : Int32)), .unset, .unset, .unset, .unset, .unset, .unset] [])) t → Steps p.tables e below (s₁.setTop (entryFrame m #[(.long q1), (.long q2), (.int p3), (.int p4)] maxLocals)) t := by
        intro t kt
        refine K105 t ?_
        show Steps p.tables e below (T104.setTop (mkF m 28 #[.val (.long q1), .second, .val (.long q2), .second, .val (.int p3), .val (.int p4), .val (.int (0 : Int32)), .unset, .unset, .unset, .unset, .unset, .unset, .unset, .unset] [(.ref aF)])) _
        refine XS.astore X104.here hx rfl (hb hby at_28) rfl rfl (l' := #[.val (.long q1), .second, .val (.long q2), .second, .val (.int p3), .val (.int p4), .val (.int (0 : Int32)), .val (.ref aF), .unset, .unset, .unset, .unset, .unset, .unset, .unset]) rfl ?_
        show Steps p.tables e below (T104.setTop (mkF m 30 #[.val (.long q1), .second, .val (.long q2), .second, .val (.int p3), .val (.int p4), .val (.int (0 : Int32)), .val (.ref aF), .unset, .unset, .unset, .unset, .unset, .unset, .unset] [])) _
        refine XS.iload X104.here hx rfl (hb hby at_30) rfl ?_
        show Steps p.tables e below (T104.setTop (mkF m 32 #[.val (.long q1), .second, .val (.long q2), .second, .val (.int p3), .val (.int p4), .val (.int (0 : Int32)), .val (.ref aF), .unset, .unset, .unset, .unset, .unset, .unset, .unset] [(.int (0 : Int32))])) _
        refine XS.ifYes X104.here hx rfl (pc0 := 32) (pc' := 40) rfl (hb hby at_32) rfl ((if0 _ _).trans (teq (by decide : (0 : Int32) = (0 : Int32))).1) (by decide) (by decide) ?_
        show Steps p.tables e below (T104.setTop (mkF m 40 #[.val (.long q1), .second, .val (.long q2), .second, .val (.int p3), .val (.int p4), .val (.int (0 : Int32)), .val (.ref aF), .unset, .unset, .unset, .unset, .unset, .unset, .unset] [])) _
        refine XS.bipush X104.here hx rfl (hb hby at_40) ?_
        show Steps p.tables e below (T104.setTop (mkF m 42 #[.val (.long q1), .second, .val (.long q2), .second, .val (.int p3), .val (.int p4), .val (.int (0 : Int32)), .val (.ref aF), .unset, .unset, .unset, .unset, .unset, .unset, .unset] [(.int (11 : Int32))])) _
        refine XS.istore X104.here hx rfl (hb hby at_42) rfl (l' := #[.val (.long q1), .second, .val (.long q2), .second, .val (.int p3), .val (.int p4), .val (.int (0 : Int32)), .val (.ref aF), .val (.int (11 : Int32)), .unset, .unset, .unset, .unset, .unset, .unset]) rfl ?_
        exact kt
      exact ⟨T104, _, (0 : Int32), aF, (11 : Int32), X104.mono (by decide) (by decide), N0, e104, ⟨11, Or.inr rfl, EF, FF, by decide⟩, K106⟩
    · have K107 : ∀ t, Steps p.tables e below (s₁.setTop (mkF m 19 #[.val (.long q1), .second, .val (.long q2), .second, .val (.int p3), .val (.int p4), .val (.int (1 : Int32)), .unset, .unset, .unset, .unset, .unset, .unset, .unset, .unset] [])) t → Steps p.tables e below (s₁.setTop (entryFrame m #[(.long q1), (.long q2), (.int p3), (.int p4)] maxLocals)) t := by
        intro t kt
        refine K101 t ?_
        show Steps p.tables e below (s₁.setTop (mkF m 4 #[.val (.long q1), .second, .val (.long q2), .second, .val (.int p3), .val (.int p4), .unset, .unset, .unset, .unset, .unset, .unset, .unset, .unset, .unset] [(.int (p4 &&& (1 : Int32)))])) _
        refine XS.ifNo X0.here hx rfl (hb hby at_4) rfl ((if0 _ _).trans (feq (hc : ¬ ((p4 &&& (1 : Int32)) = (0 : Int32)))).1) ?_
        show Steps p.tables e below (s₁.setTop (mkF m 7 #[.val (.long q1), .second, .val (.long q2), .second, .val (.int p3), .val (.int p4), .unset, .unset, .unset, .unset, .unset, .unset, .unset, .unset, .unset] [])) _
        refine XS.iconst X0.here hx rfl (hb hby at_7) ?_
        show Steps p.tables e below (s₁.setTop (mkF m 8 #[.val (.long q1), .second, .val (.long q2), .second, .val (.int p3), .val (.int p4), .unset, .unset, .unset, .unset, .unset, .unset, .unset, .unset, .unset] [(.int (1 : Int32))])) _
        refine XS.goto X0.here hx rfl (pc0 := 8) (pc' := 12) rfl (hb hby at_8) (by decide) (by decide) ?_
        show Steps p.tables e below (s₁.setTop (mkF m 12 #[.val (.long q1), .second, .val (.long q2), .second, .val (.int p3), .val (.int p4), .unset, .unset, .unset, .unset, .unset, .unset, .unset, .unset, .unset] [(.int (1 : Int32))])) _
        refine XS.istore X0.here hx rfl (hb hby at_12) rfl (l' := #[.val (.long q1), .second, .val (.long q2), .second, .val (.int p3), .val (.int p4), .val (.int (1 : Int32)), .unset, .unset, .unset, .unset, .unset, .unset, .unset, .unset]) rfl ?_
        show Steps p.tables e below (s₁.setTop (mkF m 14 #[.val (.long q1), .second, .val (.long q2), .second, .val (.int p3), .val (.int p4), .val (.int (1 : Int32)), .unset, .unset, .unset, .unset, .unset, .unset, .unset, .unset] [])) _
        refine XS.iload X0.here hx rfl (hb hby at_14) rfl ?_
        show Steps p.tables e below (s₁.setTop (mkF m 16 #[.val (.long q1), .second, .val (.long q2), .second, .val (.int p3), .val (.int p4), .val (.int (1 : Int32)), .unset, .unset, .unset, .unset, .unset, .unset, .unset, .unset] [(.int (1 : Int32))])) _
        refine XS.ifNo X0.here hx rfl (hb hby at_16) rfl ((if0 _ _).trans (feq (by decide : ¬ ((1 : Int32) = (0 : Int32)))).1) ?_
        exact kt
      obtain ⟨T108, X108, e108, st108⟩ := getS2 X0 hx hZ hown (host := "") (Or.inl (hw _ (List.mem_of_getElem? (i := 0) rfl))) Via.refl e0 SN (g := (mkF m 19 #[.val (.long q1), .second, .val (.long q2), .second, .val (.int p3), .val (.int p4), .val (.int (1 : Int32)), .unset, .unset, .unset, .unset, .unset, .unset, .unset, .unset] [])) rfl (hb hby at_19)
      have K109 : ∀ t, Steps p.tables e below (T108.setTop (mkF m 22 #[.val (.long q1), .second, .val (.long q2), .second, .val (.int p3), .val (.int p4), .val (.int (1 : Int32)), .unset, .unset, .unset, .unset, .unset, .unset, .unset, .unset] [(.ref aN)])) t → Steps p.tables e below (s₁.setTop (entryFrame m #[(.long q1), (.long q2), (.int p3), (.int p4)] maxLocals)) t := fun t kt => K107 t (st108 t kt)
      have K110 : ∀ t, Steps p.tables e below (T108.setTop (mkF m 44 #[.val (.long q1), .second, .val (.long q2), .second, .val (.int p3), .val (.int p4), .val (.int (1 : Int32)), .val (.ref aN), .val (.int (9 : Int32)), .unset, .unset, .unset, .unset, .unset, .unset] [])) t → Steps p.tables e below (s₁.setTop (entryFrame m #[(.long q1), (.long q2), (.int p3), (.int p4)] maxLocals)) t := by
        intro t kt
        refine K109 t ?_
        show Steps p.tables e below (T108.setTop (mkF m 22 #[.val (.long q1), .second, .val (.long q2), .second, .val (.int p3), .val (.int p4), .val (.int (1 : Int32)), .unset, .unset, .unset, .unset, .unset, .unset, .unset, .unset] [(.ref aN)])) _
        refine XS.goto X108.here hx rfl (pc0 := 22) (pc' := 28) rfl (hb hby at_22) (by decide) (by decide) ?_
        show Steps p.tables e below (T108.setTop (mkF m 28 #[.val (.long q1), .second, .val (.long q2), .second, .val (.int p3), .val (.int p4), .val (.int (1 : Int32)), .unset, .unset, .unset, .unset, .unset, .unset, .unset, .unset] [(.ref aN)])) _
        refine XS.astore X108.here hx rfl (hb hby at_28) rfl rfl (l' := #[.val (.long q1), .second, .val (.long q2), .second, .val (.int p3), .val (.int p4), .val (.int (1 : Int32)), .val (.ref aN), .unset, .unset, .unset, .unset, .unset, .unset, .unset]) rfl ?_
        show Steps p.tables e below (T108.setTop (mkF m 30 #[.val (.long q1), .second, .val (.long q2), .second, .val (.int p3), .val (.int p4), .val (.int (1 : Int32)), .val (.ref aN), .unset, .unset, .unset, .unset, .unset, .unset, .unset] [])) _
        refine XS.iload X108.here hx rfl (hb hby at_30) rfl ?_
        show Steps p.tables e below (T108.setTop (mkF m 32 #[.val (.long q1), .second, .val (.long q2), .second, .val (.int p3), .val (.int p4), .val (.int (1 : Int32)), .val (.ref aN), .unset, .unset, .unset, .unset, .unset, .unset, .unset] [(.int (1 : Int32))])) _
        refine XS.ifNo X108.here hx rfl (hb hby at_32) rfl ((if0 _ _).trans (feq (by decide : ¬ ((1 : Int32) = (0 : Int32)))).1) ?_
        show Steps p.tables e below (T108.setTop (mkF m 35 #[.val (.long q1), .second, .val (.long q2), .second, .val (.int p3), .val (.int p4), .val (.int (1 : Int32)), .val (.ref aN), .unset, .unset, .unset, .unset, .unset, .unset, .unset] [])) _
        refine XS.bipush X108.here hx rfl (hb hby at_35) ?_
        show Steps p.tables e below (T108.setTop (mkF m 37 #[.val (.long q1), .second, .val (.long q2), .second, .val (.int p3), .val (.int p4), .val (.int (1 : Int32)), .val (.ref aN), .unset, .unset, .unset, .unset, .unset, .unset, .unset] [(.int (9 : Int32))])) _
        refine XS.goto X108.here hx rfl (pc0 := 37) (pc' := 42) rfl (hb hby at_37) (by decide) (by decide) ?_
        show Steps p.tables e below (T108.setTop (mkF m 42 #[.val (.long q1), .second, .val (.long q2), .second, .val (.int p3), .val (.int p4), .val (.int (1 : Int32)), .val (.ref aN), .unset, .unset, .unset, .unset, .unset, .unset, .unset] [(.int (9 : Int32))])) _
        refine XS.istore X108.here hx rfl (hb hby at_42) rfl (l' := #[.val (.long q1), .second, .val (.long q2), .second, .val (.int p3), .val (.int p4), .val (.int (1 : Int32)), .val (.ref aN), .val (.int (9 : Int32)), .unset, .unset, .unset, .unset, .unset, .unset]) rfl ?_
        exact kt
      exact ⟨T108, _, (1 : Int32), aN, (9 : Int32), X108.mono (by decide) (by decide), N0, e108, ⟨9, Or.inl rfl, EN, FN, by decide⟩, K110⟩
  have K111 : ∀ t, Steps p.tables e below (Tj102.setTop (mkF m 44 #[.val (.long q1), .second, .val (.long q2), .second, .val (.int p3), .val (.int p4), .val (.int kd), .val (.ref ta), .val (.int hv), .unset, .unset, .unset, .unset, .unset, .unset] [])) t → Steps p.tables e below (s₁.setTop (entryFrame m #[(.long q1), (.long q2), (.int p3), (.int p4)] maxLocals)) t := Kj102
  obtain ⟨hn, hhn, Et, Ft, hv4⟩ := pj102
  have K112 : ∀ t, Steps p.tables e below (Tj102.setTop (mkF m 52 #[.val (.long q1), .second, .val (.long q2), .second, .val (.int p3), .val (.int p4), .val (.int kd), .val (.ref ta), .val (.int hv), .unset, .unset, .unset, .unset, .unset, .unset] [(.int ((p3 &&& (2147483647 : Int32)) % (15 : Int32)))])) t → Steps p.tables e below (s₁.setTop (entryFrame m #[(.long q1), (.long q2), (.int p3), (.int p4)] maxLocals)) t := by
    intro t kt
    refine K111 t ?_
    show Steps p.tables e below (Tj102.setTop (mkF m 44 #[.val (.long q1), .second, .val (.long q2), .second, .val (.int p3), .val (.int p4), .val (.int kd), .val (.ref ta), .val (.int hv), .unset, .unset, .unset, .unset, .unset, .unset] [])) _
    refine XS.iload Xj102.here hx rfl (hb hby at_44) rfl ?_
    show Steps p.tables e below (Tj102.setTop (mkF m 46 #[.val (.long q1), .second, .val (.long q2), .second, .val (.int p3), .val (.int p4), .val (.int kd), .val (.ref ta), .val (.int hv), .unset, .unset, .unset, .unset, .unset, .unset] [(.int p3)])) _
    refine Xj102.ldcInt hx hown (mvT hZ (hw _ (List.mem_of_getElem? (i := 3) rfl))) (g := (mkF m 46 #[.val (.long q1), .second, .val (.long q2), .second, .val (.int p3), .val (.int p4), .val (.int kd), .val (.ref ta), .val (.int hv), .unset, .unset, .unset, .unset, .unset, .unset] [(.int p3)])) rfl (hb hby at_46) _ ?_
    show Steps p.tables e below (Tj102.setTop (mkF m 48 #[.val (.long q1), .second, .val (.long q2), .second, .val (.int p3), .val (.int p4), .val (.int kd), .val (.ref ta), .val (.int hv), .unset, .unset, .unset, .unset, .unset, .unset] [(.int (2147483647 : Int32)), (.int p3)])) _
    refine XS.iand Xj102.here hx rfl (hb hby at_48) rfl ?_
    show Steps p.tables e below (Tj102.setTop (mkF m 49 #[.val (.long q1), .second, .val (.long q2), .second, .val (.int p3), .val (.int p4), .val (.int kd), .val (.ref ta), .val (.int hv), .unset, .unset, .unset, .unset, .unset, .unset] [(.int (p3 &&& (2147483647 : Int32)))])) _
    refine XS.bipush Xj102.here hx rfl (hb hby at_49) ?_
    show Steps p.tables e below (Tj102.setTop (mkF m 51 #[.val (.long q1), .second, .val (.long q2), .second, .val (.int p3), .val (.int p4), .val (.int kd), .val (.ref ta), .val (.int hv), .unset, .unset, .unset, .unset, .unset, .unset] [(.int (15 : Int32)), (.int (p3 &&& (2147483647 : Int32)))])) _
    refine iremM Xj102 hx rfl (hb hby at_51) rfl (by decide) ?_
    exact kt
  obtain ⟨ps, hps⟩ : ∃ z : Int32, z = ((p3 &&& (2147483647 : Int32)) % (15 : Int32)) := ⟨_, rfl⟩
  have K113 : ∀ t, Steps p.tables e below (Tj102.setTop (mkF m 52 #[.val (.long q1), .second, .val (.long q2), .second, .val (.int p3), .val (.int p4), .val (.int kd), .val (.ref ta), .val (.int hv), .unset, .unset, .unset, .unset, .unset, .unset] [(.int ps)])) t → Steps p.tables e below (s₁.setTop (entryFrame m #[(.long q1), (.long q2), (.int p3), (.int p4)] maxLocals)) t := by
    rw [hps]; exact K112
  obtain ⟨pn, hpn, hps3⟩ := own_pos hps
  have K114 : ∀ t, Steps p.tables e below (Tj102.setTop (mkF m 56 #[.val (.long q1), .second, .val (.long q2), .second, .val (.int p3), .val (.int p4), .val (.int kd), .val (.ref ta), .val (.int hv), .val (.int ps), .unset, .unset, .unset, .unset, .unset] [(.int (14 : Int32))])) t → Steps p.tables e below (s₁.setTop (entryFrame m #[(.long q1), (.long q2), (.int p3), (.int p4)] maxLocals)) t := by
    intro t kt
    refine K113 t ?_
    show Steps p.tables e below (Tj102.setTop (mkF m 52 #[.val (.long q1), .second, .val (.long q2), .second, .val (.int p3), .val (.int p4), .val (.int kd), .val (.ref ta), .val (.int hv), .unset, .unset, .unset, .unset, .unset, .unset] [(.int ps)])) _
    refine XS.istore Xj102.here hx rfl (hb hby at_52) rfl (l' := #[.val (.long q1), .second, .val (.long q2), .second, .val (.int p3), .val (.int p4), .val (.int kd), .val (.ref ta), .val (.int hv), .val (.int ps), .unset, .unset, .unset, .unset, .unset]) rfl ?_
    show Steps p.tables e below (Tj102.setTop (mkF m 54 #[.val (.long q1), .second, .val (.long q2), .second, .val (.int p3), .val (.int p4), .val (.int kd), .val (.ref ta), .val (.int hv), .val (.int ps), .unset, .unset, .unset, .unset, .unset] [])) _
    refine XS.bipush Xj102.here hx rfl (hb hby at_54) ?_
    exact kt
  obtain ⟨T115, h115, k115, X115, e115, E115, A115, st115⟩ := newP Xj102 hx hZ (hw _ (List.mem_of_getElem? (i := 4) rfl)) ej102 (g := (mkF m 56 #[.val (.long q1), .second, .val (.long q2), .second, .val (.int p3), .val (.int p4), .val (.int kd), .val (.ref ta), .val (.int hv), .val (.int ps), .unset, .unset, .unset, .unset, .unset] [(.int (14 : Int32))])) rfl (hb hby at_56) rfl (by decide) (cap := 14) (by decide) (by decide) (by decide) (by decide)
  obtain ⟨b115, g115⟩ : ∃ z, z = h0.size := ⟨_, rfl⟩
  rw [← g115] at A115 st115
  have ne_ta_b115 : ta ≠ b115 := by rw [g115]; exact Nat.ne_of_lt Et.lt
  have sz116 : h0.size ≤ b115 := Nat.le_trans KK0.1 (Nat.le_of_eq g115.symm)
  have g_b115 : n0 ≤ b115 := Nat.le_trans Z0 (Nat.le_of_eq g115.symm)
  have f117 := Nat.le_trans Z0 E115.1
  have f118 := KK0.ext E115
  have f119 := X00.ext E115
  have f120 := Et.ext E115
  have f121 := Ft.ext E115
  have V115 : Arv Z h115 b115 k115 .char (14 : Int32) [(.int (0 : Int32)), (.int (0 : Int32)), (.int (0 : Int32)), (.int (0 : Int32)), (.int (0 : Int32)), (.int (0 : Int32)), (.int (0 : Int32)), (.int (0 : Int32)), (.int (0 : Int32)), (.int (0 : Int32)), (.int (0 : Int32)), (.int (0 : Int32)), (.int (0 : Int32)), (.int (0 : Int32))] (.int (0 : Int32)) := (Arv.new A115 (by decide)).pad (pad_rep [] (.int (0 : Int32)) 14)
  have K122 : ∀ t, Steps p.tables e below (T115.setTop (mkF m 58 #[.val (.long q1), .second, .val (.long q2), .second, .val (.int p3), .val (.int p4), .val (.int kd), .val (.ref ta), .val (.int hv), .val (.int ps), .unset, .unset, .unset, .unset, .unset] [(.ref b115)])) t → Steps p.tables e below (s₁.setTop (entryFrame m #[(.long q1), (.long q2), (.int p3), (.int p4)] maxLocals)) t := fun t kt => K114 t (st115 t kt)
  have K123 : ∀ t, Steps p.tables e below (T115.setTop (mkF m 65 #[.val (.long q1), .second, .val (.long q2), .second, .val (.int p3), .val (.int p4), .val (.int kd), .val (.ref ta), .val (.int hv), .val (.int ps), .val (.ref b115), .unset, .unset, .unset, .unset] [(.int (0 : Int32)), (.long q1), (.int (0 : Int32)), (.ref b115)])) t → Steps p.tables e below (s₁.setTop (entryFrame m #[(.long q1), (.long q2), (.int p3), (.int p4)] maxLocals)) t := by
    intro t kt
    refine K122 t ?_
    show Steps p.tables e below (T115.setTop (mkF m 58 #[.val (.long q1), .second, .val (.long q2), .second, .val (.int p3), .val (.int p4), .val (.int kd), .val (.ref ta), .val (.int hv), .val (.int ps), .unset, .unset, .unset, .unset, .unset] [(.ref b115)])) _
    refine XS.astore X115.here hx rfl (hb hby at_58) rfl rfl (l' := #[.val (.long q1), .second, .val (.long q2), .second, .val (.int p3), .val (.int p4), .val (.int kd), .val (.ref ta), .val (.int hv), .val (.int ps), .val (.ref b115), .unset, .unset, .unset, .unset]) rfl ?_
    show Steps p.tables e below (T115.setTop (mkF m 60 #[.val (.long q1), .second, .val (.long q2), .second, .val (.int p3), .val (.int p4), .val (.int kd), .val (.ref ta), .val (.int hv), .val (.int ps), .val (.ref b115), .unset, .unset, .unset, .unset] [])) _
    refine XS.aload X115.here hx rfl (hb hby at_60) rfl rfl ?_
    show Steps p.tables e below (T115.setTop (mkF m 62 #[.val (.long q1), .second, .val (.long q2), .second, .val (.int p3), .val (.int p4), .val (.int kd), .val (.ref ta), .val (.int hv), .val (.int ps), .val (.ref b115), .unset, .unset, .unset, .unset] [(.ref b115)])) _
    refine XS.iconst X115.here hx rfl (hb hby at_62) ?_
    show Steps p.tables e below (T115.setTop (mkF m 63 #[.val (.long q1), .second, .val (.long q2), .second, .val (.int p3), .val (.int p4), .val (.int kd), .val (.ref ta), .val (.int hv), .val (.int ps), .val (.ref b115), .unset, .unset, .unset, .unset] [(.int (0 : Int32)), (.ref b115)])) _
    refine XS.lloadN X115.here hx rfl (hb hby at_63) rfl ?_
    show Steps p.tables e below (T115.setTop (mkF m 64 #[.val (.long q1), .second, .val (.long q2), .second, .val (.int p3), .val (.int p4), .val (.int kd), .val (.ref ta), .val (.int hv), .val (.int ps), .val (.ref b115), .unset, .unset, .unset, .unset] [(.long q1), (.int (0 : Int32)), (.ref b115)])) _
    refine XS.iconst X115.here hx rfl (hb hby at_64) ?_
    exact kt
  obtain ⟨_, _, ⟨T124, L124, k124, n124⟩, -, X124, ⟨Lc124, hQ124, l124, y124, z124⟩, st124⟩ := Jvm.LawKit.callS X115 hx (y := (⟨"com/example/fiducia/fiducia/model/IdentificationTypeCheckDigitPinLaw", "ch", "(JI)C"⟩ : MethodName)) hown (mvT hZ (hw _ (List.mem_of_getElem? (i := 5) rfl))) (mvT hZ (hw _ (List.mem_of_getElem? (i := 6) rfl))) (mvT hZ (hw _ (List.mem_of_getElem? (i := 7) rfl))) (mvT hZ (hw _ (List.mem_of_getElem? (i := 8) rfl))) (by decide) (backOf (W := 2) (rm1 l Z a0 hw [] q1 (0 : Int32) h115 n0 f117) hZ (hw _ (List.mem_of_getElem? (i := 8) rfl)) (hw _ (List.mem_of_getElem? (i := 7) rfl)) (by decide) (by decide)) (g := (mkF m 65 #[.val (.long q1), .second, .val (.long q2), .second, .val (.int p3), .val (.int p4), .val (.int kd), .val (.ref ta), .val (.int hv), .val (.int ps), .val (.ref b115), .unset, .unset, .unset, .unset] [(.int (0 : Int32)), (.long q1), (.int (0 : Int32)), (.ref b115)])) rfl (by rw [hml]; rfl) (argsL := [(.long q1), (.int (0 : Int32))]) (rest := [(.int (0 : Int32)), (.ref b115)]) (lenOf pd_1 rfl) rfl (by show 2 * 0 + _ ≤ _; exact Nat.le_of_eq rfl) (hb hby at_65) (fun _ _ => ⟨rfl, e115, (by decide : 1 + 0 ≤ _), (by decide : 14 + 0 ≤ _)⟩)
  dsimp only [Pt.U, Pt.locs, Pt.cells, Pt.slots] at X124 l124 y124 z124 st124 hQ124
  obtain rfl : k124 = 1 := y124
  obtain rfl : n124 = 14 := z124
  obtain ⟨c0, rfl, hc0, Nq124, e124⟩ := hQ124
  have N124 : Fr n0 L124 := by rw [l124]; exact Fr.app Nj102 Nq124
  have K125 : ∀ t, Steps p.tables e below (T124.setTop (mkF m 68 #[.val (.long q1), .second, .val (.long q2), .second, .val (.int p3), .val (.int p4), .val (.int kd), .val (.ref ta), .val (.int hv), .val (.int ps), .val (.ref b115), .unset, .unset, .unset, .unset] [(.int c0), (.int (0 : Int32)), (.ref b115)])) t → Steps p.tables e below (s₁.setTop (entryFrame m #[(.long q1), (.long q2), (.int p3), (.int p4)] maxLocals)) t := fun t kt => K123 t (st124 t kt)
  obtain ⟨cl126, Ar126, q126, S126, M126, H126, G126⟩ := id V115
  have hin126 : ¬ ((0 : Int32) < 0 ∨ cl126.slots.size ≤ ((0 : Int32)).toNatClampNeg) := inb_of S126 ⟨by decide, by decide⟩
  obtain ⟨T126, h126, X126, e126, W126, st126⟩ := stC X124 hx hZ e124 Ar126 (j := (0 : Int32)) hin126 (g := (mkF m 68 #[.val (.long q1), .second, .val (.long q2), .second, .val (.int p3), .val (.int p4), .val (.int kd), .val (.ref ta), .val (.int hv), .val (.int ps), .val (.ref b115), .unset, .unset, .unset, .unset] [(.int c0), (.int (0 : Int32)), (.ref b115)])) rfl rfl (hb hby at_68)
  have f127 := Nat.le_trans f117 (Nat.le_of_eq W126.size.symm)
  have f128 := f118.wr W126 (Or.inr sz116)
  have f129 := f119.wr W126 g_b115
  have f130 := f120.wr W126
  have f131 := f121.other W126 (Or.inl ne_ta_b115)
  have V126 : Arv Z h126 b115 k115 .char (14 : Int32) [(.int (nar .char c0)), (.int (0 : Int32)), (.int (0 : Int32)), (.int (0 : Int32)), (.int (0 : Int32)), (.int (0 : Int32)), (.int (0 : Int32)), (.int (0 : Int32)), (.int (0 : Int32)), (.int (0 : Int32)), (.int (0 : Int32)), (.int (0 : Int32)), (.int (0 : Int32)), (.int (0 : Int32))] (.int (0 : Int32)) := Arv.set Ar126 q126 S126 M126 H126 G126 (fits_nar_char _) W126 0 rfl (Nat.le_of_ble_eq_true rfl)
  have V126n : Arv Z h126 b115 k115 .char (14 : Int32) [(.int c0), (.int (0 : Int32)), (.int (0 : Int32)), (.int (0 : Int32)), (.int (0 : Int32)), (.int (0 : Int32)), (.int (0 : Int32)), (.int (0 : Int32)), (.int (0 : Int32)), (.int (0 : Int32)), (.int (0 : Int32)), (.int (0 : Int32)), (.int (0 : Int32)), (.int (0 : Int32))] (.int (0 : Int32)) := by
    have z := V126
    rw [own_nar hc0] at z
    exact z
  have N126 := Fr.snoc X126 N124 g_b115
  have K132 : ∀ t, Steps p.tables e below (T126.setTop (mkF m 69 #[.val (.long q1), .second, .val (.long q2), .second, .val (.int p3), .val (.int p4), .val (.int kd), .val (.ref ta), .val (.int hv), .val (.int ps), .val (.ref b115), .unset, .unset, .unset, .unset] [])) t → Steps p.tables e below (s₁.setTop (entryFrame m #[(.long q1), (.long q2), (.int p3), (.int p4)] maxLocals)) t := fun t kt => K125 t (st126 t kt)
  have K133 : ∀ t, Steps p.tables e below (T126.setTop (mkF m 75 #[.val (.long q1), .second, .val (.long q2), .second, .val (.int p3), .val (.int p4), .val (.int kd), .val (.ref ta), .val (.int hv), .val (.int ps), .val (.ref b115), .unset, .unset, .unset, .unset] [(.int (6 : Int32)), (.long q1), (.int (1 : Int32)), (.ref b115)])) t → Steps p.tables e below (s₁.setTop (entryFrame m #[(.long q1), (.long q2), (.int p3), (.int p4)] maxLocals)) t := by
    intro t kt
    refine K132 t ?_
    show Steps p.tables e below (T126.setTop (mkF m 69 #[.val (.long q1), .second, .val (.long q2), .second, .val (.int p3), .val (.int p4), .val (.int kd), .val (.ref ta), .val (.int hv), .val (.int ps), .val (.ref b115), .unset, .unset, .unset, .unset] [])) _
    refine XS.aload X126.here hx rfl (hb hby at_69) rfl rfl ?_
    show Steps p.tables e below (T126.setTop (mkF m 71 #[.val (.long q1), .second, .val (.long q2), .second, .val (.int p3), .val (.int p4), .val (.int kd), .val (.ref ta), .val (.int hv), .val (.int ps), .val (.ref b115), .unset, .unset, .unset, .unset] [(.ref b115)])) _
    refine XS.iconst X126.here hx rfl (hb hby at_71) ?_
    show Steps p.tables e below (T126.setTop (mkF m 72 #[.val (.long q1), .second, .val (.long q2), .second, .val (.int p3), .val (.int p4), .val (.int kd), .val (.ref ta), .val (.int hv), .val (.int ps), .val (.ref b115), .unset, .unset, .unset, .unset] [(.int (1 : Int32)), (.ref b115)])) _
    refine XS.lloadN X126.here hx rfl (hb hby at_72) rfl ?_
    show Steps p.tables e below (T126.setTop (mkF m 73 #[.val (.long q1), .second, .val (.long q2), .second, .val (.int p3), .val (.int p4), .val (.int kd), .val (.ref ta), .val (.int hv), .val (.int ps), .val (.ref b115), .unset, .unset, .unset, .unset] [(.long q1), (.int (1 : Int32)), (.ref b115)])) _
    refine XS.bipush X126.here hx rfl (hb hby at_73) ?_
    exact kt
  obtain ⟨_, _, ⟨T134, L134, k134, n134⟩, -, X134, ⟨Lc134, hQ134, l134, y134, z134⟩, st134⟩ := Jvm.LawKit.callS X126 hx (y := (⟨"com/example/fiducia/fiducia/model/IdentificationTypeCheckDigitPinLaw", "ch", "(JI)C"⟩ : MethodName)) hown (mvT hZ (hw _ (List.mem_of_getElem? (i := 5) rfl))) (mvT hZ (hw _ (List.mem_of_getElem? (i := 6) rfl))) (mvT hZ (hw _ (List.mem_of_getElem? (i := 7) rfl))) (mvT hZ (hw _ (List.mem_of_getElem? (i := 8) rfl))) (by decide) (backOf (W := 2) (rm1 l Z a0 hw [] q1 (6 : Int32) h126 n0 f127) hZ (hw _ (List.mem_of_getElem? (i := 8) rfl)) (hw _ (List.mem_of_getElem? (i := 7) rfl)) (by decide) (by decide)) (g := (mkF m 75 #[.val (.long q1), .second, .val (.long q2), .second, .val (.int p3), .val (.int p4), .val (.int kd), .val (.ref ta), .val (.int hv), .val (.int ps), .val (.ref b115), .unset, .unset, .unset, .unset] [(.int (6 : Int32)), (.long q1), (.int (1 : Int32)), (.ref b115)])) rfl (by rw [hml]; rfl) (argsL := [(.long q1), (.int (6 : Int32))]) (rest := [(.int (1 : Int32)), (.ref b115)]) (lenOf pd_1 rfl) rfl (by show 2 * 0 + _ ≤ _; exact Nat.le_of_eq rfl) (hb hby at_75) (fun _ _ => ⟨rfl, e126, (by decide : 1 + 0 ≤ _), (by decide : 14 + 0 ≤ _)⟩)
  dsimp only [Pt.U, Pt.locs, Pt.cells, Pt.slots] at X134 l134 y134 z134 st134 hQ134
  obtain rfl : k134 = 1 := y134
  obtain rfl : n134 = 14 := z134
  obtain ⟨c1, rfl, hc1, Nq134, e134⟩ := hQ134
  have N134 : Fr n0 L134 := by rw [l134]; exact Fr.app N126 Nq134
  have K135 : ∀ t, Steps p.tables e below (T134.setTop (mkF m 78 #[.val (.long q1), .second, .val (.long q2), .second, .val (.int p3), .val (.int p4), .val (.int kd), .val (.ref ta), .val (.int hv), .val (.int ps), .val (.ref b115), .unset, .unset, .unset, .unset] [(.int c1), (.int (1 : Int32)), (.ref b115)])) t → Steps p.tables e below (s₁.setTop (entryFrame m #[(.long q1), (.long q2), (.int p3), (.int p4)] maxLocals)) t := fun t kt => K133 t (st134 t kt)
  obtain ⟨cl136, Ar136, q136, S136, M136, H136, G136⟩ := id V126n
  have hin136 : ¬ ((1 : Int32) < 0 ∨ cl136.slots.size ≤ ((1 : Int32)).toNatClampNeg) := inb_of S136 ⟨by decide, by decide⟩
  obtain ⟨T136, h136, X136, e136, W136, st136⟩ := stC X134 hx hZ e134 Ar136 (j := (1 : Int32)) hin136 (g := (mkF m 78 #[.val (.long q1), .second, .val (.long q2), .second, .val (.int p3), .val (.int p4), .val (.int kd), .val (.ref ta), .val (.int hv), .val (.int ps), .val (.ref b115), .unset, .unset, .unset, .unset] [(.int c1), (.int (1 : Int32)), (.ref b115)])) rfl rfl (hb hby at_78)
  have f137 := Nat.le_trans f127 (Nat.le_of_eq W136.size.symm)
  have f138 := f128.wr W136 (Or.inr sz116)
  have f139 := f129.wr W136 g_b115
  have f140 := f130.wr W136
  have f141 := f131.other W136 (Or.inl ne_ta_b115)
  have V136 : Arv Z h136 b115 k115 .char (14 : Int32) [(.int c0), (.int (nar .char c1)), (.int (0 : Int32)), (.int (0 : Int32)), (.int (0 : Int32)), (.int (0 : Int32)), (.int (0 : Int32)), (.int (0 : Int32)), (.int (0 : Int32)), (.int (0 : Int32)), (.int (0 : Int32)), (.int (0 : Int32)), (.int (0 : Int32)), (.int (0 : Int32))] (.int (0 : Int32)) := Arv.set Ar136 q136 S136 M136 H136 G136 (fits_nar_char _) W136 1 rfl (Nat.le_of_ble_eq_true rfl)
  have V136n : Arv Z h136 b115 k115 .char (14 : Int32) [(.int c0), (.int c1), (.int (0 : Int32)), (.int (0 : Int32)), (.int (0 : Int32)), (.int (0 : Int32)), (.int (0 : Int32)), (.int (0 : Int32)), (.int (0 : Int32)), (.int (0 : Int32)), (.int (0 : Int32)), (.int (0 : Int32)), (.int (0 : Int32)), (.int (0 : Int32))] (.int (0 : Int32)) := by
    have z := V136
    rw [own_nar hc1] at z
    exact z
  have N136 := Fr.snoc X136 N134 g_b115
  have K142 : ∀ t, Steps p.tables e below (T136.setTop (mkF m 79 #[.val (.long q1), .second, .val (.long q2), .second, .val (.int p3), .val (.int p4), .val (.int kd), .val (.ref ta), .val (.int hv), .val (.int ps), .val (.ref b115), .unset, .unset, .unset, .unset] [])) t → Steps p.tables e below (s₁.setTop (entryFrame m #[(.long q1), (.long q2), (.int p3), (.int p4)] maxLocals)) t := fun t kt => K135 t (st136 t kt)
  have K143 : ∀ t, Steps p.tables e below (T136.setTop (mkF m 85 #[.val (.long q1), .second, .val (.long q2), .second, .val (.int p3), .val (.int p4), .val (.int kd), .val (.ref ta), .val (.int hv), .val (.int ps), .val (.ref b115), .unset, .unset, .unset, .unset] [(.int (12 : Int32)), (.long q1), (.int (2 : Int32)), (.ref b115)])) t → Steps p.tables e below (s₁.setTop (entryFrame m #[(.long q1), (.long q2), (.int p3), (.int p4)] maxLocals)) t := by
    intro t kt
    refine K142 t ?_
    show Steps p.tables e below (T136.setTop (mkF m 79 #[.val (.long q1), .second, .val (.long q2), .second, .val (.int p3), .val (.int p4), .val (.int kd), .val (.ref ta), .val (.int hv), .val (.int ps), .val (.ref b115), .unset, .unset, .unset, .unset] [])) _
    refine XS.aload X136.here hx rfl (hb hby at_79) rfl rfl ?_
    show Steps p.tables e below (T136.setTop (mkF m 81 #[.val (.long q1), .second, .val (.long q2), .second, .val (.int p3), .val (.int p4), .val (.int kd), .val (.ref ta), .val (.int hv), .val (.int ps), .val (.ref b115), .unset, .unset, .unset, .unset] [(.ref b115)])) _
    refine XS.iconst X136.here hx rfl (hb hby at_81) ?_
    show Steps p.tables e below (T136.setTop (mkF m 82 #[.val (.long q1), .second, .val (.long q2), .second, .val (.int p3), .val (.int p4), .val (.int kd), .val (.ref ta), .val (.int hv), .val (.int ps), .val (.ref b115), .unset, .unset, .unset, .unset] [(.int (2 : Int32)), (.ref b115)])) _
    refine XS.lloadN X136.here hx rfl (hb hby at_82) rfl ?_
    show Steps p.tables e below (T136.setTop (mkF m 83 #[.val (.long q1), .second, .val (.long q2), .second, .val (.int p3), .val (.int p4), .val (.int kd), .val (.ref ta), .val (.int hv), .val (.int ps), .val (.ref b115), .unset, .unset, .unset, .unset] [(.long q1), (.int (2 : Int32)), (.ref b115)])) _
    refine XS.bipush X136.here hx rfl (hb hby at_83) ?_
    exact kt
  obtain ⟨_, _, ⟨T144, L144, k144, n144⟩, -, X144, ⟨Lc144, hQ144, l144, y144, z144⟩, st144⟩ := Jvm.LawKit.callS X136 hx (y := (⟨"com/example/fiducia/fiducia/model/IdentificationTypeCheckDigitPinLaw", "ch", "(JI)C"⟩ : MethodName)) hown (mvT hZ (hw _ (List.mem_of_getElem? (i := 5) rfl))) (mvT hZ (hw _ (List.mem_of_getElem? (i := 6) rfl))) (mvT hZ (hw _ (List.mem_of_getElem? (i := 7) rfl))) (mvT hZ (hw _ (List.mem_of_getElem? (i := 8) rfl))) (by decide) (backOf (W := 2) (rm1 l Z a0 hw [] q1 (12 : Int32) h136 n0 f137) hZ (hw _ (List.mem_of_getElem? (i := 8) rfl)) (hw _ (List.mem_of_getElem? (i := 7) rfl)) (by decide) (by decide)) (g := (mkF m 85 #[.val (.long q1), .second, .val (.long q2), .second, .val (.int p3), .val (.int p4), .val (.int kd), .val (.ref ta), .val (.int hv), .val (.int ps), .val (.ref b115), .unset, .unset, .unset, .unset] [(.int (12 : Int32)), (.long q1), (.int (2 : Int32)), (.ref b115)])) rfl (by rw [hml]; rfl) (argsL := [(.long q1), (.int (12 : Int32))]) (rest := [(.int (2 : Int32)), (.ref b115)]) (lenOf pd_1 rfl) rfl (by show 2 * 0 + _ ≤ _; exact Nat.le_of_eq rfl) (hb hby at_85) (fun _ _ => ⟨rfl, e136, (by decide : 1 + 0 ≤ _), (by decide : 14 + 0 ≤ _)⟩)
  dsimp only [Pt.U, Pt.locs, Pt.cells, Pt.slots] at X144 l144 y144 z144 st144 hQ144
  obtain rfl : k144 = 1 := y144
  obtain rfl : n144 = 14 := z144
  obtain ⟨c2, rfl, hc2, Nq144, e144⟩ := hQ144
  have N144 : Fr n0 L144 := by rw [l144]; exact Fr.app N136 Nq144
  have K145 : ∀ t, Steps p.tables e below (T144.setTop (mkF m 88 #[.val (.long q1), .second, .val (.long q2), .second, .val (.int p3), .val (.int p4), .val (.int kd), .val (.ref ta), .val (.int hv), .val (.int ps), .val (.ref b115), .unset, .unset, .unset, .unset] [(.int c2), (.int (2 : Int32)), (.ref b115)])) t → Steps p.tables e below (s₁.setTop (entryFrame m #[(.long q1), (.long q2), (.int p3), (.int p4)] maxLocals)) t := fun t kt => K143 t (st144 t kt)
  obtain ⟨cl146, Ar146, q146, S146, M146, H146, G146⟩ := id V136n
  have hin146 : ¬ ((2 : Int32) < 0 ∨ cl146.slots.size ≤ ((2 : Int32)).toNatClampNeg) := inb_of S146 ⟨by decide, by decide⟩
  obtain ⟨T146, h146, X146, e146, W146, st146⟩ := stC X144 hx hZ e144 Ar146 (j := (2 : Int32)) hin146 (g := (mkF m 88 #[.val (.long q1), .second, .val (.long q2), .second, .val (.int p3), .val (.int p4), .val (.int kd), .val (.ref ta), .val (.int hv), .val (.int ps), .val (.ref b115), .unset, .unset, .unset, .unset] [(.int c2), (.int (2 : Int32)), (.ref b115)])) rfl rfl (hb hby at_88)
  have f147 := Nat.le_trans f137 (Nat.le_of_eq W146.size.symm)
  have f148 := f138.wr W146 (Or.inr sz116)
  have f149 := f139.wr W146 g_b115
  have f150 := f140.wr W146
  have f151 := f141.other W146 (Or.inl ne_ta_b115)
  have V146 : Arv Z h146 b115 k115 .char (14 : Int32) [(.int c0), (.int c1), (.int (nar .char c2)), (.int (0 : Int32)), (.int (0 : Int32)), (.int (0 : Int32)), (.int (0 : Int32)), (.int (0 : Int32)), (.int (0 : Int32)), (.int (0 : Int32)), (.int (0 : Int32)), (.int (0 : Int32)), (.int (0 : Int32)), (.int (0 : Int32))] (.int (0 : Int32)) := Arv.set Ar146 q146 S146 M146 H146 G146 (fits_nar_char _) W146 2 rfl (Nat.le_of_ble_eq_true rfl)
  have V146n : Arv Z h146 b115 k115 .char (14 : Int32) [(.int c0), (.int c1), (.int c2), (.int (0 : Int32)), (.int (0 : Int32)), (.int (0 : Int32)), (.int (0 : Int32)), (.int (0 : Int32)), (.int (0 : Int32)), (.int (0 : Int32)), (.int (0 : Int32)), (.int (0 : Int32)), (.int (0 : Int32)), (.int (0 : Int32))] (.int (0 : Int32)) := by
    have z := V146
    rw [own_nar hc2] at z
    exact z
  have N146 := Fr.snoc X146 N144 g_b115
  have K152 : ∀ t, Steps p.tables e below (T146.setTop (mkF m 89 #[.val (.long q1), .second, .val (.long q2), .second, .val (.int p3), .val (.int p4), .val (.int kd), .val (.ref ta), .val (.int hv), .val (.int ps), .val (.ref b115), .unset, .unset, .unset, .unset] [])) t → Steps p.tables e below (s₁.setTop (entryFrame m #[(.long q1), (.long q2), (.int p3), (.int p4)] maxLocals)) t := fun t kt => K145 t (st146 t kt)
  have K153 : ∀ t, Steps p.tables e below (T146.setTop (mkF m 95 #[.val (.long q1), .second, .val (.long q2), .second, .val (.int p3), .val (.int p4), .val (.int kd), .val (.ref ta), .val (.int hv), .val (.int ps), .val (.ref b115), .unset, .unset, .unset, .unset] [(.int (18 : Int32)), (.long q1), (.int (3 : Int32)), (.ref b115)])) t → Steps p.tables e below (s₁.setTop (entryFrame m #[(.long q1), (.long q2), (.int p3), (.int p4)] maxLocals)) t := by
    intro t kt
    refine K152 t ?_
    show Steps p.tables e below (T146.setTop (mkF m 89 #[.val (.long q1), .second, .val (.long q2), .second, .val (.int p3), .val (.int p4), .val (.int kd), .val (.ref ta), .val (.int hv), .val (.int ps), .val (.ref b115), .unset, .unset, .unset, .unset] [])) _
    refine XS.aload X146.here hx rfl (hb hby at_89) rfl rfl ?_
    show Steps p.tables e below (T146.setTop (mkF m 91 #[.val (.long q1), .second, .val (.long q2), .second, .val (.int p3), .val (.int p4), .val (.int kd), .val (.ref ta), .val (.int hv), .val (.int ps), .val (.ref b115), .unset, .unset, .unset, .unset] [(.ref b115)])) _
    refine XS.iconst X146.here hx rfl (hb hby at_91) ?_
    show Steps p.tables e below (T146.setTop (mkF m 92 #[.val (.long q1), .second, .val (.long q2), .second, .val (.int p3), .val (.int p4), .val (.int kd), .val (.ref ta), .val (.int hv), .val (.int ps), .val (.ref b115), .unset, .unset, .unset, .unset] [(.int (3 : Int32)), (.ref b115)])) _
    refine XS.lloadN X146.here hx rfl (hb hby at_92) rfl ?_
    show Steps p.tables e below (T146.setTop (mkF m 93 #[.val (.long q1), .second, .val (.long q2), .second, .val (.int p3), .val (.int p4), .val (.int kd), .val (.ref ta), .val (.int hv), .val (.int ps), .val (.ref b115), .unset, .unset, .unset, .unset] [(.long q1), (.int (3 : Int32)), (.ref b115)])) _
    refine XS.bipush X146.here hx rfl (hb hby at_93) ?_
    exact kt
  obtain ⟨_, _, ⟨T154, L154, k154, n154⟩, -, X154, ⟨Lc154, hQ154, l154, y154, z154⟩, st154⟩ := Jvm.LawKit.callS X146 hx (y := (⟨"com/example/fiducia/fiducia/model/IdentificationTypeCheckDigitPinLaw", "ch", "(JI)C"⟩ : MethodName)) hown (mvT hZ (hw _ (List.mem_of_getElem? (i := 5) rfl))) (mvT hZ (hw _ (List.mem_of_getElem? (i := 6) rfl))) (mvT hZ (hw _ (List.mem_of_getElem? (i := 7) rfl))) (mvT hZ (hw _ (List.mem_of_getElem? (i := 8) rfl))) (by decide) (backOf (W := 2) (rm1 l Z a0 hw [] q1 (18 : Int32) h146 n0 f147) hZ (hw _ (List.mem_of_getElem? (i := 8) rfl)) (hw _ (List.mem_of_getElem? (i := 7) rfl)) (by decide) (by decide)) (g := (mkF m 95 #[.val (.long q1), .second, .val (.long q2), .second, .val (.int p3), .val (.int p4), .val (.int kd), .val (.ref ta), .val (.int hv), .val (.int ps), .val (.ref b115), .unset, .unset, .unset, .unset] [(.int (18 : Int32)), (.long q1), (.int (3 : Int32)), (.ref b115)])) rfl (by rw [hml]; rfl) (argsL := [(.long q1), (.int (18 : Int32))]) (rest := [(.int (3 : Int32)), (.ref b115)]) (lenOf pd_1 rfl) rfl (by show 2 * 0 + _ ≤ _; exact Nat.le_of_eq rfl) (hb hby at_95) (fun _ _ => ⟨rfl, e146, (by decide : 1 + 0 ≤ _), (by decide : 14 + 0 ≤ _)⟩)
  dsimp only [Pt.U, Pt.locs, Pt.cells, Pt.slots] at X154 l154 y154 z154 st154 hQ154
  obtain rfl : k154 = 1 := y154
  obtain rfl : n154 = 14 := z154
  obtain ⟨c3, rfl, hc3, Nq154, e154⟩ := hQ154
  have N154 : Fr n0 L154 := by rw [l154]; exact Fr.app N146 Nq154
  have K155 : ∀ t, Steps p.tables e below (T154.setTop (mkF m 98 #[.val (.long q1), .second, .val (.long q2), .second, .val (.int p3), .val (.int p4), .val (.int kd), .val (.ref ta), .val (.int hv), .val (.int ps), .val (.ref b115), .unset, .unset, .unset, .unset] [(.int c3), (.int (3 : Int32)), (.ref b115)])) t → Steps p.tables e below (s₁.setTop (entryFrame m #[(.long q1), (.long q2), (.int p3), (.int p4)] maxLocals)) t := fun t kt => K153 t (st154 t kt)
  obtain ⟨cl156, Ar156, q156, S156, M156, H156, G156⟩ := id V146n
  have hin156 : ¬ ((3 : Int32) < 0 ∨ cl156.slots.size ≤ ((3 : Int32)).toNatClampNeg) := inb_of S156 ⟨by decide, by decide⟩
  obtain ⟨T156, h156, X156, e156, W156, st156⟩ := stC X154 hx hZ e154 Ar156 (j := (3 : Int32)) hin156 (g := (mkF m 98 #[.val (.long q1), .second, .val (.long q2), .second, .val (.int p3), .val (.int p4), .val (.int kd), .val (.ref ta), .val (.int hv), .val (.int ps), .val (.ref b115), .unset, .unset, .unset, .unset] [(.int c3), (.int (3 : Int32)), (.ref b115)])) rfl rfl (hb hby at_98)
  have f157 := Nat.le_trans f147 (Nat.le_of_eq W156.size.symm)
  have f158 := f148.wr W156 (Or.inr sz116)
  have f159 := f149.wr W156 g_b115
  have f160 := f150.wr W156
  have f161 := f151.other W156 (Or.inl ne_ta_b115)
  have V156 : Arv Z h156 b115 k115 .char (14 : Int32) [(.int c0), (.int c1), (.int c2), (.int (nar .char c3)), (.int (0 : Int32)), (.int (0 : Int32)), (.int (0 : Int32)), (.int (0 : Int32)), (.int (0 : Int32)), (.int (0 : Int32)), (.int (0 : Int32)), (.int (0 : Int32)), (.int (0 : Int32)), (.int (0 : Int32))] (.int (0 : Int32)) := Arv.set Ar156 q156 S156 M156 H156 G156 (fits_nar_char _) W156 3 rfl (Nat.le_of_ble_eq_true rfl)
  have V156n : Arv Z h156 b115 k115 .char (14 : Int32) [(.int c0), (.int c1), (.int c2), (.int c3), (.int (0 : Int32)), (.int (0 : Int32)), (.int (0 : Int32)), (.int (0 : Int32)), (.int (0 : Int32)), (.int (0 : Int32)), (.int (0 : Int32)), (.int (0 : Int32)), (.int (0 : Int32)), (.int (0 : Int32))] (.int (0 : Int32)) := by
    have z := V156
    rw [own_nar hc3] at z
    exact z
  have N156 := Fr.snoc X156 N154 g_b115
  have K162 : ∀ t, Steps p.tables e below (T156.setTop (mkF m 99 #[.val (.long q1), .second, .val (.long q2), .second, .val (.int p3), .val (.int p4), .val (.int kd), .val (.ref ta), .val (.int hv), .val (.int ps), .val (.ref b115), .unset, .unset, .unset, .unset] [])) t → Steps p.tables e below (s₁.setTop (entryFrame m #[(.long q1), (.long q2), (.int p3), (.int p4)] maxLocals)) t := fun t kt => K155 t (st156 t kt)
  have K163 : ∀ t, Steps p.tables e below (T156.setTop (mkF m 105 #[.val (.long q1), .second, .val (.long q2), .second, .val (.int p3), .val (.int p4), .val (.int kd), .val (.ref ta), .val (.int hv), .val (.int ps), .val (.ref b115), .unset, .unset, .unset, .unset] [(.int (24 : Int32)), (.long q1), (.int (4 : Int32)), (.ref b115)])) t → Steps p.tables e below (s₁.setTop (entryFrame m #[(.long q1), (.long q2), (.int p3), (.int p4)] maxLocals)) t := by
    intro t kt
    refine K162 t ?_
    show Steps p.tables e below (T156.setTop (mkF m 99 #[.val (.long q1), .second, .val (.long q2), .second, .val (.int p3), .val (.int p4), .val (.int kd), .val (.ref ta), .val (.int hv), .val (.int ps), .val (.ref b115), .unset, .unset, .unset, .unset] [])) _
    refine XS.aload X156.here hx rfl (hb hby at_99) rfl rfl ?_
    show Steps p.tables e below (T156.setTop (mkF m 101 #[.val (.long q1), .second, .val (.long q2), .second, .val (.int p3), .val (.int p4), .val (.int kd), .val (.ref ta), .val (.int hv), .val (.int ps), .val (.ref b115), .unset, .unset, .unset, .unset] [(.ref b115)])) _
    refine XS.iconst X156.here hx rfl (hb hby at_101) ?_
    show Steps p.tables e below (T156.setTop (mkF m 102 #[.val (.long q1), .second, .val (.long q2), .second, .val (.int p3), .val (.int p4), .val (.int kd), .val (.ref ta), .val (.int hv), .val (.int ps), .val (.ref b115), .unset, .unset, .unset, .unset] [(.int (4 : Int32)), (.ref b115)])) _
    refine XS.lloadN X156.here hx rfl (hb hby at_102) rfl ?_
    show Steps p.tables e below (T156.setTop (mkF m 103 #[.val (.long q1), .second, .val (.long q2), .second, .val (.int p3), .val (.int p4), .val (.int kd), .val (.ref ta), .val (.int hv), .val (.int ps), .val (.ref b115), .unset, .unset, .unset, .unset] [(.long q1), (.int (4 : Int32)), (.ref b115)])) _
    refine XS.bipush X156.here hx rfl (hb hby at_103) ?_
    exact kt
  obtain ⟨_, _, ⟨T164, L164, k164, n164⟩, -, X164, ⟨Lc164, hQ164, l164, y164, z164⟩, st164⟩ := Jvm.LawKit.callS X156 hx (y := (⟨"com/example/fiducia/fiducia/model/IdentificationTypeCheckDigitPinLaw", "ch", "(JI)C"⟩ : MethodName)) hown (mvT hZ (hw _ (List.mem_of_getElem? (i := 5) rfl))) (mvT hZ (hw _ (List.mem_of_getElem? (i := 6) rfl))) (mvT hZ (hw _ (List.mem_of_getElem? (i := 7) rfl))) (mvT hZ (hw _ (List.mem_of_getElem? (i := 8) rfl))) (by decide) (backOf (W := 2) (rm1 l Z a0 hw [] q1 (24 : Int32) h156 n0 f157) hZ (hw _ (List.mem_of_getElem? (i := 8) rfl)) (hw _ (List.mem_of_getElem? (i := 7) rfl)) (by decide) (by decide)) (g := (mkF m 105 #[.val (.long q1), .second, .val (.long q2), .second, .val (.int p3), .val (.int p4), .val (.int kd), .val (.ref ta), .val (.int hv), .val (.int ps), .val (.ref b115), .unset, .unset, .unset, .unset] [(.int (24 : Int32)), (.long q1), (.int (4 : Int32)), (.ref b115)])) rfl (by rw [hml]; rfl) (argsL := [(.long q1), (.int (24 : Int32))]) (rest := [(.int (4 : Int32)), (.ref b115)]) (lenOf pd_1 rfl) rfl (by show 2 * 0 + _ ≤ _; exact Nat.le_of_eq rfl) (hb hby at_105) (fun _ _ => ⟨rfl, e156, (by decide : 1 + 0 ≤ _), (by decide : 14 + 0 ≤ _)⟩)
  dsimp only [Pt.U, Pt.locs, Pt.cells, Pt.slots] at X164 l164 y164 z164 st164 hQ164
  obtain rfl : k164 = 1 := y164
  obtain rfl : n164 = 14 := z164
  obtain ⟨c4, rfl, hc4, Nq164, e164⟩ := hQ164
  have N164 : Fr n0 L164 := by rw [l164]; exact Fr.app N156 Nq164
  have K165 : ∀ t, Steps p.tables e below (T164.setTop (mkF m 108 #[.val (.long q1), .second, .val (.long q2), .second, .val (.int p3), .val (.int p4), .val (.int kd), .val (.ref ta), .val (.int hv), .val (.int ps), .val (.ref b115), .unset, .unset, .unset, .unset] [(.int c4), (.int (4 : Int32)), (.ref b115)])) t → Steps p.tables e below (s₁.setTop (entryFrame m #[(.long q1), (.long q2), (.int p3), (.int p4)] maxLocals)) t := fun t kt => K163 t (st164 t kt)
  obtain ⟨cl166, Ar166, q166, S166, M166, H166, G166⟩ := id V156n
  have hin166 : ¬ ((4 : Int32) < 0 ∨ cl166.slots.size ≤ ((4 : Int32)).toNatClampNeg) := inb_of S166 ⟨by decide, by decide⟩
  obtain ⟨T166, h166, X166, e166, W166, st166⟩ := stC X164 hx hZ e164 Ar166 (j := (4 : Int32)) hin166 (g := (mkF m 108 #[.val (.long q1), .second, .val (.long q2), .second, .val (.int p3), .val (.int p4), .val (.int kd), .val (.ref ta), .val (.int hv), .val (.int ps), .val (.ref b115), .unset, .unset, .unset, .unset] [(.int c4), (.int (4 : Int32)), (.ref b115)])) rfl rfl (hb hby at_108)
  have f167 := Nat.le_trans f157 (Nat.le_of_eq W166.size.symm)
  have f168 := f158.wr W166 (Or.inr sz116)
  have f169 := f159.wr W166 g_b115
  have f170 := f160.wr W166
  have f171 := f161.other W166 (Or.inl ne_ta_b115)
  have V166 : Arv Z h166 b115 k115 .char (14 : Int32) (List.set [(.int c0), (.int c1), (.int c2), (.int c3), (.int (0 : Int32)), (.int (0 : Int32)), (.int (0 : Int32)), (.int (0 : Int32)), (.int (0 : Int32)), (.int (0 : Int32)), (.int (0 : Int32)), (.int (0 : Int32)), (.int (0 : Int32)), (.int (0 : Int32))] 4 (.int (nar .char c4))) (.int (0 : Int32)) := Arv.set Ar166 q166 S166 M166 H166 G166 (fits_nar_char _) W166 4 rfl (Nat.le_of_ble_eq_true rfl)
  simp only [List.set_cons_succ, List.set_cons_zero] at V166
  have V166n : Arv Z h166 b115 k115 .char (14 : Int32) [(.int c0), (.int c1), (.int c2), (.int c3), (.int c4), (.int (0 : Int32)), (.int (0 : Int32)), (.int (0 : Int32)), (.int (0 : Int32)), (.int (0 : Int32)), (.int (0 : Int32)), (.int (0 : Int32)), (.int (0 : Int32)), (.int (0 : Int32))] (.int (0 : Int32)) := by
    have z := V166
    rw [own_nar hc4] at z
    exact z
  have N166 := Fr.snoc X166 N164 g_b115
  have K172 : ∀ t, Steps p.tables e below (T166.setTop (mkF m 109 #[.val (.long q1), .second, .val (.long q2), .second, .val (.int p3), .val (.int p4), .val (.int kd), .val (.ref ta), .val (.int hv), .val (.int ps), .val (.ref b115), .unset, .unset, .unset, .unset] [])) t → Steps p.tables e below (s₁.setTop (entryFrame m #[(.long q1), (.long q2), (.int p3), (.int p4)] maxLocals)) t := fun t kt => K165 t (st166 t kt)
  have K173 : ∀ t, Steps p.tables e below (T166.setTop (mkF m 115 #[.val (.long q1), .second, .val (.long q2), .second, .val (.int p3), .val (.int p4), .val (.int kd), .val (.ref ta), .val (.int hv), .val (.int ps), .val (.ref b115), .unset, .unset, .unset, .unset] [(.int (30 : Int32)), (.long q1), (.int (5 : Int32)), (.ref b115)])) t → Steps p.tables e below (s₁.setTop (entryFrame m #[(.long q1), (.long q2), (.int p3), (.int p4)] maxLocals)) t := by
    intro t kt
    refine K172 t ?_
    show Steps p.tables e below (T166.setTop (mkF m 109 #[.val (.long q1), .second, .val (.long q2), .second, .val (.int p3), .val (.int p4), .val (.int kd), .val (.ref ta), .val (.int hv), .val (.int ps), .val (.ref b115), .unset, .unset, .unset, .unset] [])) _
    refine XS.aload X166.here hx rfl (hb hby at_109) rfl rfl ?_
    show Steps p.tables e below (T166.setTop (mkF m 111 #[.val (.long q1), .second, .val (.long q2), .second, .val (.int p3), .val (.int p4), .val (.int kd), .val (.ref ta), .val (.int hv), .val (.int ps), .val (.ref b115), .unset, .unset, .unset, .unset] [(.ref b115)])) _
    refine XS.iconst X166.here hx rfl (hb hby at_111) ?_
    show Steps p.tables e below (T166.setTop (mkF m 112 #[.val (.long q1), .second, .val (.long q2), .second, .val (.int p3), .val (.int p4), .val (.int kd), .val (.ref ta), .val (.int hv), .val (.int ps), .val (.ref b115), .unset, .unset, .unset, .unset] [(.int (5 : Int32)), (.ref b115)])) _
    refine XS.lloadN X166.here hx rfl (hb hby at_112) rfl ?_
    show Steps p.tables e below (T166.setTop (mkF m 113 #[.val (.long q1), .second, .val (.long q2), .second, .val (.int p3), .val (.int p4), .val (.int kd), .val (.ref ta), .val (.int hv), .val (.int ps), .val (.ref b115), .unset, .unset, .unset, .unset] [(.long q1), (.int (5 : Int32)), (.ref b115)])) _
    refine XS.bipush X166.here hx rfl (hb hby at_113) ?_
    exact kt
  obtain ⟨_, _, ⟨T174, L174, k174, n174⟩, -, X174, ⟨Lc174, hQ174, l174, y174, z174⟩, st174⟩ := Jvm.LawKit.callS X166 hx (y := (⟨"com/example/fiducia/fiducia/model/IdentificationTypeCheckDigitPinLaw", "ch", "(JI)C"⟩ : MethodName)) hown (mvT hZ (hw _ (List.mem_of_getElem? (i := 5) rfl))) (mvT hZ (hw _ (List.mem_of_getElem? (i := 6) rfl))) (mvT hZ (hw _ (List.mem_of_getElem? (i := 7) rfl))) (mvT hZ (hw _ (List.mem_of_getElem? (i := 8) rfl))) (by decide) (backOf (W := 2) (rm1 l Z a0 hw [] q1 (30 : Int32) h166 n0 f167) hZ (hw _ (List.mem_of_getElem? (i := 8) rfl)) (hw _ (List.mem_of_getElem? (i := 7) rfl)) (by decide) (by decide)) (g := (mkF m 115 #[.val (.long q1), .second, .val (.long q2), .second, .val (.int p3), .val (.int p4), .val (.int kd), .val (.ref ta), .val (.int hv), .val (.int ps), .val (.ref b115), .unset, .unset, .unset, .unset] [(.int (30 : Int32)), (.long q1), (.int (5 : Int32)), (.ref b115)])) rfl (by rw [hml]; rfl) (argsL := [(.long q1), (.int (30 : Int32))]) (rest := [(.int (5 : Int32)), (.ref b115)]) (lenOf pd_1 rfl) rfl (by show 2 * 0 + _ ≤ _; exact Nat.le_of_eq rfl) (hb hby at_115) (fun _ _ => ⟨rfl, e166, (by decide : 1 + 0 ≤ _), (by decide : 14 + 0 ≤ _)⟩)
  dsimp only [Pt.U, Pt.locs, Pt.cells, Pt.slots] at X174 l174 y174 z174 st174 hQ174
  obtain rfl : k174 = 1 := y174
  obtain rfl : n174 = 14 := z174
  obtain ⟨c5, rfl, hc5, Nq174, e174⟩ := hQ174
  have N174 : Fr n0 L174 := by rw [l174]; exact Fr.app N166 Nq174
  have K175 : ∀ t, Steps p.tables e below (T174.setTop (mkF m 118 #[.val (.long q1), .second, .val (.long q2), .second, .val (.int p3), .val (.int p4), .val (.int kd), .val (.ref ta), .val (.int hv), .val (.int ps), .val (.ref b115), .unset, .unset, .unset, .unset] [(.int c5), (.int (5 : Int32)), (.ref b115)])) t → Steps p.tables e below (s₁.setTop (entryFrame m #[(.long q1), (.long q2), (.int p3), (.int p4)] maxLocals)) t := fun t kt => K173 t (st174 t kt)
  obtain ⟨cl176, Ar176, q176, S176, M176, H176, G176⟩ := id V166n
  have hin176 : ¬ ((5 : Int32) < 0 ∨ cl176.slots.size ≤ ((5 : Int32)).toNatClampNeg) := inb_of S176 ⟨by decide, by decide⟩
  obtain ⟨T176, h176, X176, e176, W176, st176⟩ := stC X174 hx hZ e174 Ar176 (j := (5 : Int32)) hin176 (g := (mkF m 118 #[.val (.long q1), .second, .val (.long q2), .second, .val (.int p3), .val (.int p4), .val (.int kd), .val (.ref ta), .val (.int hv), .val (.int ps), .val (.ref b115), .unset, .unset, .unset, .unset] [(.int c5), (.int (5 : Int32)), (.ref b115)])) rfl rfl (hb hby at_118)
  have f177 := Nat.le_trans f167 (Nat.le_of_eq W176.size.symm)
  have f178 := f168.wr W176 (Or.inr sz116)
  have f179 := f169.wr W176 g_b115
  have f180 := f170.wr W176
  have f181 := f171.other W176 (Or.inl ne_ta_b115)
  have V176 : Arv Z h176 b115 k115 .char (14 : Int32) (List.set [(.int c0), (.int c1), (.int c2), (.int c3), (.int c4), (.int (0 : Int32)), (.int (0 : Int32)), (.int (0 : Int32)), (.int (0 : Int32)), (.int (0 : Int32)), (.int (0 : Int32)), (.int (0 : Int32)), (.int (0 : Int32)), (.int (0 : Int32))] 5 (.int (nar .char c5))) (.int (0 : Int32)) := Arv.set Ar176 q176 S176 M176 H176 G176 (fits_nar_char _) W176 5 rfl (Nat.le_of_ble_eq_true rfl)
  simp only [List.set_cons_succ, List.set_cons_zero] at V176
  have V176n : Arv Z h176 b115 k115 .char (14 : Int32) [(.int c0), (.int c1), (.int c2), (.int c3), (.int c4), (.int c5), (.int (0 : Int32)), (.int (0 : Int32)), (.int (0 : Int32)), (.int (0 : Int32)), (.int (0 : Int32)), (.int (0 : Int32)), (.int (0 : Int32)), (.int (0 : Int32))] (.int (0 : Int32)) := by
    have z := V176
    rw [own_nar hc5] at z
    exact z
  have N176 := Fr.snoc X176 N174 g_b115
  have K182 : ∀ t, Steps p.tables e below (T176.setTop (mkF m 119 #[.val (.long q1), .second, .val (.long q2), .second, .val (.int p3), .val (.int p4), .val (.int kd), .val (.ref ta), .val (.int hv), .val (.int ps), .val (.ref b115), .unset, .unset, .unset, .unset] [])) t → Steps p.tables e below (s₁.setTop (entryFrame m #[(.long q1), (.long q2), (.int p3), (.int p4)] maxLocals)) t := fun t kt => K175 t (st176 t kt)
  have K183 : ∀ t, Steps p.tables e below (T176.setTop (mkF m 126 #[.val (.long q1), .second, .val (.long q2), .second, .val (.int p3), .val (.int p4), .val (.int kd), .val (.ref ta), .val (.int hv), .val (.int ps), .val (.ref b115), .unset, .unset, .unset, .unset] [(.int (36 : Int32)), (.long q1), (.int (6 : Int32)), (.ref b115)])) t → Steps p.tables e below (s₁.setTop (entryFrame m #[(.long q1), (.long q2), (.int p3), (.int p4)] maxLocals)) t := by
    intro t kt
    refine K182 t ?_
    show Steps p.tables e below (T176.setTop (mkF m 119 #[.val (.long q1), .second, .val (.long q2), .second, .val (.int p3), .val (.int p4), .val (.int kd), .val (.ref ta), .val (.int hv), .val (.int ps), .val (.ref b115), .unset, .unset, .unset, .unset] [])) _
    refine XS.aload X176.here hx rfl (hb hby at_119) rfl rfl ?_
    show Steps p.tables e below (T176.setTop (mkF m 121 #[.val (.long q1), .second, .val (.long q2), .second, .val (.int p3), .val (.int p4), .val (.int kd), .val (.ref ta), .val (.int hv), .val (.int ps), .val (.ref b115), .unset, .unset, .unset, .unset] [(.ref b115)])) _
    refine XS.bipush X176.here hx rfl (hb hby at_121) ?_
    show Steps p.tables e below (T176.setTop (mkF m 123 #[.val (.long q1), .second, .val (.long q2), .second, .val (.int p3), .val (.int p4), .val (.int kd), .val (.ref ta), .val (.int hv), .val (.int ps), .val (.ref b115), .unset, .unset, .unset, .unset] [(.int (6 : Int32)), (.ref b115)])) _
    refine XS.lloadN X176.here hx rfl (hb hby at_123) rfl ?_
    show Steps p.tables e below (T176.setTop (mkF m 124 #[.val (.long q1), .second, .val (.long q2), .second, .val (.int p3), .val (.int p4), .val (.int kd), .val (.ref ta), .val (.int hv), .val (.int ps), .val (.ref b115), .unset, .unset, .unset, .unset] [(.long q1), (.int (6 : Int32)), (.ref b115)])) _
    refine XS.bipush X176.here hx rfl (hb hby at_124) ?_
    exact kt
  obtain ⟨_, _, ⟨T184, L184, k184, n184⟩, -, X184, ⟨Lc184, hQ184, l184, y184, z184⟩, st184⟩ := Jvm.LawKit.callS X176 hx (y := (⟨"com/example/fiducia/fiducia/model/IdentificationTypeCheckDigitPinLaw", "ch", "(JI)C"⟩ : MethodName)) hown (mvT hZ (hw _ (List.mem_of_getElem? (i := 5) rfl))) (mvT hZ (hw _ (List.mem_of_getElem? (i := 6) rfl))) (mvT hZ (hw _ (List.mem_of_getElem? (i := 7) rfl))) (mvT hZ (hw _ (List.mem_of_getElem? (i := 8) rfl))) (by decide) (backOf (W := 2) (rm1 l Z a0 hw [] q1 (36 : Int32) h176 n0 f177) hZ (hw _ (List.mem_of_getElem? (i := 8) rfl)) (hw _ (List.mem_of_getElem? (i := 7) rfl)) (by decide) (by decide)) (g := (mkF m 126 #[.val (.long q1), .second, .val (.long q2), .second, .val (.int p3), .val (.int p4), .val (.int kd), .val (.ref ta), .val (.int hv), .val (.int ps), .val (.ref b115), .unset, .unset, .unset, .unset] [(.int (36 : Int32)), (.long q1), (.int (6 : Int32)), (.ref b115)])) rfl (by rw [hml]; rfl) (argsL := [(.long q1), (.int (36 : Int32))]) (rest := [(.int (6 : Int32)), (.ref b115)]) (lenOf pd_1 rfl) rfl (by show 2 * 0 + _ ≤ _; exact Nat.le_of_eq rfl) (hb hby at_126) (fun _ _ => ⟨rfl, e176, (by decide : 1 + 0 ≤ _), (by decide : 14 + 0 ≤ _)⟩)
  dsimp only [Pt.U, Pt.locs, Pt.cells, Pt.slots] at X184 l184 y184 z184 st184 hQ184
  obtain rfl : k184 = 1 := y184
  obtain rfl : n184 = 14 := z184
  obtain ⟨c6, rfl, hc6, Nq184, e184⟩ := hQ184
  have N184 : Fr n0 L184 := by rw [l184]; exact Fr.app N176 Nq184
  have K185 : ∀ t, Steps p.tables e below (T184.setTop (mkF m 129 #[.val (.long q1), .second, .val (.long q2), .second, .val (.int p3), .val (.int p4), .val (.int kd), .val (.ref ta), .val (.int hv), .val (.int ps), .val (.ref b115), .unset, .unset, .unset, .unset] [(.int c6), (.int (6 : Int32)), (.ref b115)])) t → Steps p.tables e below (s₁.setTop (entryFrame m #[(.long q1), (.long q2), (.int p3), (.int p4)] maxLocals)) t := fun t kt => K183 t (st184 t kt)
  obtain ⟨cl186, Ar186, q186, S186, M186, H186, G186⟩ := id V176n
  have hin186 : ¬ ((6 : Int32) < 0 ∨ cl186.slots.size ≤ ((6 : Int32)).toNatClampNeg) := inb_of S186 ⟨by decide, by decide⟩
  obtain ⟨T186, h186, X186, e186, W186, st186⟩ := stC X184 hx hZ e184 Ar186 (j := (6 : Int32)) hin186 (g := (mkF m 129 #[.val (.long q1), .second, .val (.long q2), .second, .val (.int p3), .val (.int p4), .val (.int kd), .val (.ref ta), .val (.int hv), .val (.int ps), .val (.ref b115), .unset, .unset, .unset, .unset] [(.int c6), (.int (6 : Int32)), (.ref b115)])) rfl rfl (hb hby at_129)
  have f187 := Nat.le_trans f177 (Nat.le_of_eq W186.size.symm)
  have f188 := f178.wr W186 (Or.inr sz116)
  have f189 := f179.wr W186 g_b115
  have f190 := f180.wr W186
  have f191 := f181.other W186 (Or.inl ne_ta_b115)
  have V186 : Arv Z h186 b115 k115 .char (14 : Int32) (List.set [(.int c0), (.int c1), (.int c2), (.int c3), (.int c4), (.int c5), (.int (0 : Int32)), (.int (0 : Int32)), (.int (0 : Int32)), (.int (0 : Int32)), (.int (0 : Int32)), (.int (0 : Int32)), (.int (0 : Int32)), (.int (0 : Int32))] 6 (.int (nar .char c6))) (.int (0 : Int32)) := Arv.set Ar186 q186 S186 M186 H186 G186 (fits_nar_char _) W186 6 rfl (Nat.le_of_ble_eq_true rfl)
  simp only [List.set_cons_succ, List.set_cons_zero] at V186
  have V186n : Arv Z h186 b115 k115 .char (14 : Int32) [(.int c0), (.int c1), (.int c2), (.int c3), (.int c4), (.int c5), (.int c6), (.int (0 : Int32)), (.int (0 : Int32)), (.int (0 : Int32)), (.int (0 : Int32)), (.int (0 : Int32)), (.int (0 : Int32)), (.int (0 : Int32))] (.int (0 : Int32)) := by
    have z := V186
    rw [own_nar hc6] at z
    exact z
  have N186 := Fr.snoc X186 N184 g_b115
  have K192 : ∀ t, Steps p.tables e below (T186.setTop (mkF m 130 #[.val (.long q1), .second, .val (.long q2), .second, .val (.int p3), .val (.int p4), .val (.int kd), .val (.ref ta), .val (.int hv), .val (.int ps), .val (.ref b115), .unset, .unset, .unset, .unset] [])) t → Steps p.tables e below (s₁.setTop (entryFrame m #[(.long q1), (.long q2), (.int p3), (.int p4)] maxLocals)) t := fun t kt => K185 t (st186 t kt)
  have K193 : ∀ t, Steps p.tables e below (T186.setTop (mkF m 137 #[.val (.long q1), .second, .val (.long q2), .second, .val (.int p3), .val (.int p4), .val (.int kd), .val (.ref ta), .val (.int hv), .val (.int ps), .val (.ref b115), .unset, .unset, .unset, .unset] [(.int (42 : Int32)), (.long q1), (.int (7 : Int32)), (.ref b115)])) t → Steps p.tables e below (s₁.setTop (entryFrame m #[(.long q1), (.long q2), (.int p3), (.int p4)] maxLocals)) t := by
    intro t kt
    refine K192 t ?_
    show Steps p.tables e below (T186.setTop (mkF m 130 #[.val (.long q1), .second, .val (.long q2), .second, .val (.int p3), .val (.int p4), .val (.int kd), .val (.ref ta), .val (.int hv), .val (.int ps), .val (.ref b115), .unset, .unset, .unset, .unset] [])) _
    refine XS.aload X186.here hx rfl (hb hby at_130) rfl rfl ?_
    show Steps p.tables e below (T186.setTop (mkF m 132 #[.val (.long q1), .second, .val (.long q2), .second, .val (.int p3), .val (.int p4), .val (.int kd), .val (.ref ta), .val (.int hv), .val (.int ps), .val (.ref b115), .unset, .unset, .unset, .unset] [(.ref b115)])) _
    refine XS.bipush X186.here hx rfl (hb hby at_132) ?_
    show Steps p.tables e below (T186.setTop (mkF m 134 #[.val (.long q1), .second, .val (.long q2), .second, .val (.int p3), .val (.int p4), .val (.int kd), .val (.ref ta), .val (.int hv), .val (.int ps), .val (.ref b115), .unset, .unset, .unset, .unset] [(.int (7 : Int32)), (.ref b115)])) _
    refine XS.lloadN X186.here hx rfl (hb hby at_134) rfl ?_
    show Steps p.tables e below (T186.setTop (mkF m 135 #[.val (.long q1), .second, .val (.long q2), .second, .val (.int p3), .val (.int p4), .val (.int kd), .val (.ref ta), .val (.int hv), .val (.int ps), .val (.ref b115), .unset, .unset, .unset, .unset] [(.long q1), (.int (7 : Int32)), (.ref b115)])) _
    refine XS.bipush X186.here hx rfl (hb hby at_135) ?_
    exact kt
  obtain ⟨_, _, ⟨T194, L194, k194, n194⟩, -, X194, ⟨Lc194, hQ194, l194, y194, z194⟩, st194⟩ := Jvm.LawKit.callS X186 hx (y := (⟨"com/example/fiducia/fiducia/model/IdentificationTypeCheckDigitPinLaw", "ch", "(JI)C"⟩ : MethodName)) hown (mvT hZ (hw _ (List.mem_of_getElem? (i := 5) rfl))) (mvT hZ (hw _ (List.mem_of_getElem? (i := 6) rfl))) (mvT hZ (hw _ (List.mem_of_getElem? (i := 7) rfl))) (mvT hZ (hw _ (List.mem_of_getElem? (i := 8) rfl))) (by decide) (backOf (W := 2) (rm1 l Z a0 hw [] q1 (42 : Int32) h186 n0 f187) hZ (hw _ (List.mem_of_getElem? (i := 8) rfl)) (hw _ (List.mem_of_getElem? (i := 7) rfl)) (by decide) (by decide)) (g := (mkF m 137 #[.val (.long q1), .second, .val (.long q2), .second, .val (.int p3), .val (.int p4), .val (.int kd), .val (.ref ta), .val (.int hv), .val (.int ps), .val (.ref b115), .unset, .unset, .unset, .unset] [(.int (42 : Int32)), (.long q1), (.int (7 : Int32)), (.ref b115)])) rfl (by rw [hml]; rfl) (argsL := [(.long q1), (.int (42 : Int32))]) (rest := [(.int (7 : Int32)), (.ref b115)]) (lenOf pd_1 rfl) rfl (by show 2 * 0 + _ ≤ _; exact Nat.le_of_eq rfl) (hb hby at_137) (fun _ _ => ⟨rfl, e186, (by decide : 1 + 0 ≤ _), (by decide : 14 + 0 ≤ _)⟩)
  dsimp only [Pt.U, Pt.locs, Pt.cells, Pt.slots] at X194 l194 y194 z194 st194 hQ194
  obtain rfl : k194 = 1 := y194
  obtain rfl : n194 = 14 := z194
  obtain ⟨c7, rfl, hc7, Nq194, e194⟩ := hQ194
  have N194 : Fr n0 L194 := by rw [l194]; exact Fr.app N186 Nq194
  have K195 : ∀ t, Steps p.tables e below (T194.setTop (mkF m 140 #[.val (.long q1), .second, .val (.long q2), .second, .val (.int p3), .val (.int p4), .val (.int kd), .val (.ref ta), .val (.int hv), .val (.int ps), .val (.ref b115), .unset, .unset, .unset, .unset] [(.int c7), (.int (7 : Int32)), (.ref b115)])) t → Steps p.tables e below (s₁.setTop (entryFrame m #[(.long q1), (.long q2), (.int p3), (.int p4)] maxLocals)) t := fun t kt => K193 t (st194 t kt)
  obtain ⟨cl196, Ar196, q196, S196, M196, H196, G196⟩ := id V186n
  have hin196 : ¬ ((7 : Int32) < 0 ∨ cl196.slots.size ≤ ((7 : Int32)).toNatClampNeg) := inb_of S196 ⟨by decide, by decide⟩
  obtain ⟨T196, h196, X196, e196, W196, st196⟩ := stC X194 hx hZ e194 Ar196 (j := (7 : Int32)) hin196 (g := (mkF m 140 #[.val (.long q1), .second, .val (.long q2), .second, .val (.int p3), .val (.int p4), .val (.int kd), .val (.ref ta), .val (.int hv), .val (.int ps), .val (.ref b115), .unset, .unset, .unset, .unset] [(.int c7), (.int (7 : Int32)), (.ref b115)])) rfl rfl (hb hby at_140)
  have f197 := Nat.le_trans f187 (Nat.le_of_eq W196.size.symm)
  have f198 := f188.wr W196 (Or.inr sz116)
  have f199 := f189.wr W196 g_b115
  have f200 := f190.wr W196
  have f201 := f191.other W196 (Or.inl ne_ta_b115)
  have V196 : Arv Z h196 b115 k115 .char (14 : Int32) (List.set [(.int c0), (.int c1), (.int c2), (.int c3), (.int c4), (.int c5), (.int c6), (.int (0 : Int32)), (.int (0 : Int32)), (.int (0 : Int32)), (.int (0 : Int32)), (.int (0 : Int32)), (.int (0 : Int32)), (.int (0 : Int32))] 7 (.int (nar .char c7))) (.int (0 : Int32)) := Arv.set Ar196 q196 S196 M196 H196 G196 (fits_nar_char _) W196 7 rfl (Nat.le_of_ble_eq_true rfl)
  simp only [List.set_cons_succ, List.set_cons_zero] at V196
  have V196n : Arv Z h196 b115 k115 .char (14 : Int32) [(.int c0), (.int c1), (.int c2), (.int c3), (.int c4), (.int c5), (.int c6), (.int c7), (.int (0 : Int32)), (.int (0 : Int32)), (.int (0 : Int32)), (.int (0 : Int32)), (.int (0 : Int32)), (.int (0 : Int32))] (.int (0 : Int32)) := by
    have z := V196
    rw [own_nar hc7] at z
    exact z
  have N196 := Fr.snoc X196 N194 g_b115
  have K202 : ∀ t, Steps p.tables e below (T196.setTop (mkF m 141 #[.val (.long q1), .second, .val (.long q2), .second, .val (.int p3), .val (.int p4), .val (.int kd), .val (.ref ta), .val (.int hv), .val (.int ps), .val (.ref b115), .unset, .unset, .unset, .unset] [])) t → Steps p.tables e below (s₁.setTop (entryFrame m #[(.long q1), (.long q2), (.int p3), (.int p4)] maxLocals)) t := fun t kt => K195 t (st196 t kt)
  have K203 : ∀ t, Steps p.tables e below (T196.setTop (mkF m 148 #[.val (.long q1), .second, .val (.long q2), .second, .val (.int p3), .val (.int p4), .val (.int kd), .val (.ref ta), .val (.int hv), .val (.int ps), .val (.ref b115), .unset, .unset, .unset, .unset] [(.int (48 : Int32)), (.long q1), (.int (8 : Int32)), (.ref b115)])) t → Steps p.tables e below (s₁.setTop (entryFrame m #[(.long q1), (.long q2), (.int p3), (.int p4)] maxLocals)) t := by
    intro t kt
    refine K202 t ?_
    show Steps p.tables e below (T196.setTop (mkF m 141 #[.val (.long q1), .second, .val (.long q2), .second, .val (.int p3), .val (.int p4), .val (.int kd), .val (.ref ta), .val (.int hv), .val (.int ps), .val (.ref b115), .unset, .unset, .unset, .unset] [])) _
    refine XS.aload X196.here hx rfl (hb hby at_141) rfl rfl ?_
    show Steps p.tables e below (T196.setTop (mkF m 143 #[.val (.long q1), .second, .val (.long q2), .second, .val (.int p3), .val (.int p4), .val (.int kd), .val (.ref ta), .val (.int hv), .val (.int ps), .val (.ref b115), .unset, .unset, .unset, .unset] [(.ref b115)])) _
    refine XS.bipush X196.here hx rfl (hb hby at_143) ?_
    show Steps p.tables e below (T196.setTop (mkF m 145 #[.val (.long q1), .second, .val (.long q2), .second, .val (.int p3), .val (.int p4), .val (.int kd), .val (.ref ta), .val (.int hv), .val (.int ps), .val (.ref b115), .unset, .unset, .unset, .unset] [(.int (8 : Int32)), (.ref b115)])) _
    refine XS.lloadN X196.here hx rfl (hb hby at_145) rfl ?_
    show Steps p.tables e below (T196.setTop (mkF m 146 #[.val (.long q1), .second, .val (.long q2), .second, .val (.int p3), .val (.int p4), .val (.int kd), .val (.ref ta), .val (.int hv), .val (.int ps), .val (.ref b115), .unset, .unset, .unset, .unset] [(.long q1), (.int (8 : Int32)), (.ref b115)])) _
    refine XS.bipush X196.here hx rfl (hb hby at_146) ?_
    exact kt
  obtain ⟨_, _, ⟨T204, L204, k204, n204⟩, -, X204, ⟨Lc204, hQ204, l204, y204, z204⟩, st204⟩ := Jvm.LawKit.callS X196 hx (y := (⟨"com/example/fiducia/fiducia/model/IdentificationTypeCheckDigitPinLaw", "ch", "(JI)C"⟩ : MethodName)) hown (mvT hZ (hw _ (List.mem_of_getElem? (i := 5) rfl))) (mvT hZ (hw _ (List.mem_of_getElem? (i := 6) rfl))) (mvT hZ (hw _ (List.mem_of_getElem? (i := 7) rfl))) (mvT hZ (hw _ (List.mem_of_getElem? (i := 8) rfl))) (by decide) (backOf (W := 2) (rm1 l Z a0 hw [] q1 (48 : Int32) h196 n0 f197) hZ (hw _ (List.mem_of_getElem? (i := 8) rfl)) (hw _ (List.mem_of_getElem? (i := 7) rfl)) (by decide) (by decide)) (g := (mkF m 148 #[.val (.long q1), .second, .val (.long q2), .second, .val (.int p3), .val (.int p4), .val (.int kd), .val (.ref ta), .val (.int hv), .val (.int ps), .val (.ref b115), .unset, .unset, .unset, .unset] [(.int (48 : Int32)), (.long q1), (.int (8 : Int32)), (.ref b115)])) rfl (by rw [hml]; rfl) (argsL := [(.long q1), (.int (48 : Int32))]) (rest := [(.int (8 : Int32)), (.ref b115)]) (lenOf pd_1 rfl) rfl (by show 2 * 0 + _ ≤ _; exact Nat.le_of_eq rfl) (hb hby at_148) (fun _ _ => ⟨rfl, e196, (by decide : 1 + 0 ≤ _), (by decide : 14 + 0 ≤ _)⟩)
  dsimp only [Pt.U, Pt.locs, Pt.cells, Pt.slots] at X204 l204 y204 z204 st204 hQ204
  obtain rfl : k204 = 1 := y204
  obtain rfl : n204 = 14 := z204
  obtain ⟨c8, rfl, hc8, Nq204, e204⟩ := hQ204
  have N204 : Fr n0 L204 := by rw [l204]; exact Fr.app N196 Nq204
  have K205 : ∀ t, Steps p.tables e below (T204.setTop (mkF m 151 #[.val (.long q1), .second, .val (.long q2), .second, .val (.int p3), .val (.int p4), .val (.int kd), .val (.ref ta), .val (.int hv), .val (.int ps), .val (.ref b115), .unset, .unset, .unset, .unset] [(.int c8), (.int (8 : Int32)), (.ref b115)])) t → Steps p.tables e below (s₁.setTop (entryFrame m #[(.long q1), (.long q2), (.int p3), (.int p4)] maxLocals)) t := fun t kt => K203 t (st204 t kt)
  obtain ⟨cl206, Ar206, q206, S206, M206, H206, G206⟩ := id V196n
  have hin206 : ¬ ((8 : Int32) < 0 ∨ cl206.slots.size ≤ ((8 : Int32)).toNatClampNeg) := inb_of S206 ⟨by decide, by decide⟩
  obtain ⟨T206, h206, X206, e206, W206, st206⟩ := stC X204 hx hZ e204 Ar206 (j := (8 : Int32)) hin206 (g := (mkF m 151 #[.val (.long q1), .second, .val (.long q2), .second, .val (.int p3), .val (.int p4), .val (.int kd), .val (.ref ta), .val (.int hv), .val (.int ps), .val (.ref b115), .unset, .unset, .unset, .unset] [(.int c8), (.int (8 : Int32)), (.ref b115)])) rfl rfl (hb hby at_151)
  have f207 := Nat.le_trans f197 (Nat.le_of_eq W206.size.symm)
  have f208 := f198.wr W206 (Or.inr sz116)
  have f209 := f199.wr W206 g_b115
  have f210 := f200.wr W206
  have f211 := f201.other W206 (Or.inl ne_ta_b115)
  have V206 : Arv Z h206 b115 k115 .char (14 : Int32) (List.set [(.int c0), (.int c1), (.int c2), (.int c3), (.int c4), (.int c5), (.int c6), (.int c7), (.int (0 : Int32)), (.int (0 : Int32)), (.int (0 : Int32)), (.int (0 : Int32)), (.int (0 : Int32)), (.int (0 : Int32))] 8 (.int (nar .char c8))) (.int (0 : Int32)) := Arv.set Ar206 q206 S206 M206 H206 G206 (fits_nar_char _) W206 8 rfl (Nat.le_of_ble_eq_true rfl)
  simp only [List.set_cons_succ, List.set_cons_zero] at V206
  have V206n : Arv Z h206 b115 k115 .char (14 : Int32) [(.int c0), (.int c1), (.int c2), (.int c3), (.int c4), (.int c5), (.int c6), (.int c7), (.int c8), (.int (0 : Int32)), (.int (0 : Int32)), (.int (0 : Int32)), (.int (0 : Int32)), (.int (0 : Int32))] (.int (0 : Int32)) := by
    have z := V206
    rw [own_nar hc8] at z
    exact z
  have N206 := Fr.snoc X206 N204 g_b115
  have K212 : ∀ t, Steps p.tables e below (T206.setTop (mkF m 152 #[.val (.long q1), .second, .val (.long q2), .second, .val (.int p3), .val (.int p4), .val (.int kd), .val (.ref ta), .val (.int hv), .val (.int ps), .val (.ref b115), .unset, .unset, .unset, .unset] [])) t → Steps p.tables e below (s₁.setTop (entryFrame m #[(.long q1), (.long q2), (.int p3), (.int p4)] maxLocals)) t := fun t kt => K205 t (st206 t kt)
  have K213 : ∀ t, Steps p.tables e below (T206.setTop (mkF m 159 #[.val (.long q1), .second, .val (.long q2), .second, .val (.int p3), .val (.int p4), .val (.int kd), .val (.ref ta), .val (.int hv), .val (.int ps), .val (.ref b115), .unset, .unset, .unset, .unset] [(.int (54 : Int32)), (.long q1), (.int (9 : Int32)), (.ref b115)])) t → Steps p.tables e below (s₁.setTop (entryFrame m #[(.long q1), (.long q2), (.int p3), (.int p4)] maxLocals)) t := by
    intro t kt
    refine K212 t ?_
    show Steps p.tables e below (T206.setTop (mkF m 152 #[.val (.long q1), .second, .val (.long q2), .second, .val (.int p3), .val (.int p4), .val (.int kd), .val (.ref ta), .val (.int hv), .val (.int ps), .val (.ref b115), .unset, .unset, .unset, .unset] [])) _
    refine XS.aload X206.here hx rfl (hb hby at_152) rfl rfl ?_
    show Steps p.tables e below (T206.setTop (mkF m 154 #[.val (.long q1), .second, .val (.long q2), .second, .val (.int p3), .val (.int p4), .val (.int kd), .val (.ref ta), .val (.int hv), .val (.int ps), .val (.ref b115), .unset, .unset, .unset, .unset] [(.ref b115)])) _
    refine XS.bipush X206.here hx rfl (hb hby at_154) ?_
    show Steps p.tables e below (T206.setTop (mkF m 156 #[.val (.long q1), .second, .val (.long q2), .second, .val (.int p3), .val (.int p4), .val (.int kd), .val (.ref ta), .val (.int hv), .val (.int ps), .val (.ref b115), .unset, .unset, .unset, .unset] [(.int (9 : Int32)), (.ref b115)])) _
    refine XS.lloadN X206.here hx rfl (hb hby at_156) rfl ?_
    show Steps p.tables e below (T206.setTop (mkF m 157 #[.val (.long q1), .second, .val (.long q2), .second, .val (.int p3), .val (.int p4), .val (.int kd), .val (.ref ta), .val (.int hv), .val (.int ps), .val (.ref b115), .unset, .unset, .unset, .unset] [(.long q1), (.int (9 : Int32)), (.ref b115)])) _
    refine XS.bipush X206.here hx rfl (hb hby at_157) ?_
    exact kt
  obtain ⟨_, _, ⟨T214, L214, k214, n214⟩, -, X214, ⟨Lc214, hQ214, l214, y214, z214⟩, st214⟩ := Jvm.LawKit.callS X206 hx (y := (⟨"com/example/fiducia/fiducia/model/IdentificationTypeCheckDigitPinLaw", "ch", "(JI)C"⟩ : MethodName)) hown (mvT hZ (hw _ (List.mem_of_getElem? (i := 5) rfl))) (mvT hZ (hw _ (List.mem_of_getElem? (i := 6) rfl))) (mvT hZ (hw _ (List.mem_of_getElem? (i := 7) rfl))) (mvT hZ (hw _ (List.mem_of_getElem? (i := 8) rfl))) (by decide) (backOf (W := 2) (rm1 l Z a0 hw [] q1 (54 : Int32) h206 n0 f207) hZ (hw _ (List.mem_of_getElem? (i := 8) rfl)) (hw _ (List.mem_of_getElem? (i := 7) rfl)) (by decide) (by decide)) (g := (mkF m 159 #[.val (.long q1), .second, .val (.long q2), .second, .val (.int p3), .val (.int p4), .val (.int kd), .val (.ref ta), .val (.int hv), .val (.int ps), .val (.ref b115), .unset, .unset, .unset, .unset] [(.int (54 : Int32)), (.long q1), (.int (9 : Int32)), (.ref b115)])) rfl (by rw [hml]; rfl) (argsL := [(.long q1), (.int (54 : Int32))]) (rest := [(.int (9 : Int32)), (.ref b115)]) (lenOf pd_1 rfl) rfl (by show 2 * 0 + _ ≤ _; exact Nat.le_of_eq rfl) (hb hby at_159) (fun _ _ => ⟨rfl, e206, (by decide : 1 + 0 ≤ _), (by decide : 14 + 0 ≤ _)⟩)
  dsimp only [Pt.U, Pt.locs, Pt.cells, Pt.slots] at X214 l214 y214 z214 st214 hQ214
  obtain rfl : k214 = 1 := y214
  obtain rfl : n214 = 14 := z214
  obtain ⟨c9, rfl, hc9, Nq214, e214⟩ := hQ214
  have N214 : Fr n0 L214 := by rw [l214]; exact Fr.app N206 Nq214
  have K215 : ∀ t, Steps p.tables e below (T214.setTop (mkF m 162 #[.val (.long q1), .second, .val (.long q2), .second, .val (.int p3), .val (.int p4), .val (.int kd), .val (.ref ta), .val (.int hv), .val (.int ps), .val (.ref b115), .unset, .unset, .unset, .unset] [(.int c9), (.int (9 : Int32)), (.ref b115)])) t → Steps p.tables e below (s₁.setTop (entryFrame m #[(.long q1), (.long q2), (.int p3), (.int p4)] maxLocals)) t := fun t kt => K213 t (st214 t kt)
  obtain ⟨cl216, Ar216, q216, S216, M216, H216, G216⟩ := id V206n
  have hin216 : ¬ ((9 : Int32) < 0 ∨ cl216.slots.size ≤ ((9 : Int32)).toNatClampNeg) := inb_of S216 ⟨by decide, by decide⟩
  obtain ⟨T216, h216, X216, e216, W216, st216⟩ := stC X214 hx hZ e214 Ar216 (j := (9 : Int32)) hin216 (g := (mkF m 162 #[.val (.long q1), .second, .val (.long q2), .second, .val (.int p3), .val (.int p4), .val (.int kd), .val (.ref ta), .val (.int hv), .val (.int ps), .val (.ref b115), .unset, .unset, .unset, .unset] [(.int c9), (.int (9 : Int32)), (.ref b115)])) rfl rfl (hb hby at_162)
  have f217 := Nat.le_trans f207 (Nat.le_of_eq W216.size.symm)
  have f218 := f208.wr W216 (Or.inr sz116)
  have f219 := f209.wr W216 g_b115
  have f220 := f210.wr W216
  have f221 := f211.other W216 (Or.inl ne_ta_b115)
  have V216 : Arv Z h216 b115 k115 .char (14 : Int32) (List.set [(.int c0), (.int c1), (.int c2), (.int c3), (.int c4), (.int c5), (.int c6), (.int c7), (.int c8), (.int (0 : Int32)), (.int (0 : Int32)), (.int (0 : Int32)), (.int (0 : Int32)), (.int (0 : Int32))] 9 (.int (nar .char c9))) (.int (0 : Int32)) := Arv.set Ar216 q216 S216 M216 H216 G216 (fits_nar_char _) W216 9 rfl (Nat.le_of_ble_eq_true rfl)
  simp only [List.set_cons_succ, List.set_cons_zero] at V216
  have V216n : Arv Z h216 b115 k115 .char (14 : Int32) [(.int c0), (.int c1), (.int c2), (.int c3), (.int c4), (.int c5), (.int c6), (.int c7), (.int c8), (.int c9), (.int (0 : Int32)), (.int (0 : Int32)), (.int (0 : Int32)), (.int (0 : Int32))] (.int (0 : Int32)) := by
    have z := V216
    rw [own_nar hc9] at z
    exact z
  have N216 := Fr.snoc X216 N214 g_b115
  have K222 : ∀ t, Steps p.tables e below (T216.setTop (mkF m 163 #[.val (.long q1), .second, .val (.long q2), .second, .val (.int p3), .val (.int p4), .val (.int kd), .val (.ref ta), .val (.int hv), .val (.int ps), .val (.ref b115), .unset, .unset, .unset, .unset] [])) t → Steps p.tables e below (s₁.setTop (entryFrame m #[(.long q1), (.long q2), (.int p3), (.int p4)] maxLocals)) t := fun t kt => K215 t (st216 t kt)
  have K223 : ∀ t, Steps p.tables e below (T216.setTop (mkF m 169 #[.val (.long q1), .second, .val (.long q2), .second, .val (.int p3), .val (.int p4), .val (.int kd), .val (.ref ta), .val (.int hv), .val (.int ps), .val (.ref b115), .unset, .unset, .unset, .unset] [(.int (0 : Int32)), (.long q2), (.int (10 : Int32)), (.ref b115)])) t → Steps p.tables e below (s₁.setTop (entryFrame m #[(.long q1), (.long q2), (.int p3), (.int p4)] maxLocals)) t := by
    intro t kt
    refine K222 t ?_
    show Steps p.tables e below (T216.setTop (mkF m 163 #[.val (.long q1), .second, .val (.long q2), .second, .val (.int p3), .val (.int p4), .val (.int kd), .val (.ref ta), .val (.int hv), .val (.int ps), .val (.ref b115), .unset, .unset, .unset, .unset] [])) _
    refine XS.aload X216.here hx rfl (hb hby at_163) rfl rfl ?_
    show Steps p.tables e below (T216.setTop (mkF m 165 #[.val (.long q1), .second, .val (.long q2), .second, .val (.int p3), .val (.int p4), .val (.int kd), .val (.ref ta), .val (.int hv), .val (.int ps), .val (.ref b115), .unset, .unset, .unset, .unset] [(.ref b115)])) _
    refine XS.bipush X216.here hx rfl (hb hby at_165) ?_
    show Steps p.tables e below (T216.setTop (mkF m 167 #[.val (.long q1), .second, .val (.long q2), .second, .val (.int p3), .val (.int p4), .val (.int kd), .val (.ref ta), .val (.int hv), .val (.int ps), .val (.ref b115), .unset, .unset, .unset, .unset] [(.int (10 : Int32)), (.ref b115)])) _
    refine XS.lloadN X216.here hx rfl (hb hby at_167) rfl ?_
    show Steps p.tables e below (T216.setTop (mkF m 168 #[.val (.long q1), .second, .val (.long q2), .second, .val (.int p3), .val (.int p4), .val (.int kd), .val (.ref ta), .val (.int hv), .val (.int ps), .val (.ref b115), .unset, .unset, .unset, .unset] [(.long q2), (.int (10 : Int32)), (.ref b115)])) _
    refine XS.iconst X216.here hx rfl (hb hby at_168) ?_
    exact kt
  obtain ⟨_, _, ⟨T224, L224, k224, n224⟩, -, X224, ⟨Lc224, hQ224, l224, y224, z224⟩, st224⟩ := Jvm.LawKit.callS X216 hx (y := (⟨"com/example/fiducia/fiducia/model/IdentificationTypeCheckDigitPinLaw", "ch", "(JI)C"⟩ : MethodName)) hown (mvT hZ (hw _ (List.mem_of_getElem? (i := 5) rfl))) (mvT hZ (hw _ (List.mem_of_getElem? (i := 6) rfl))) (mvT hZ (hw _ (List.mem_of_getElem? (i := 7) rfl))) (mvT hZ (hw _ (List.mem_of_getElem? (i := 8) rfl))) (by decide) (backOf (W := 2) (rm1 l Z a0 hw [] q2 (0 : Int32) h216 n0 f217) hZ (hw _ (List.mem_of_getElem? (i := 8) rfl)) (hw _ (List.mem_of_getElem? (i := 7) rfl)) (by decide) (by decide)) (g := (mkF m 169 #[.val (.long q1), .second, .val (.long q2), .second, .val (.int p3), .val (.int p4), .val (.int kd), .val (.ref ta), .val (.int hv), .val (.int ps), .val (.ref b115), .unset, .unset, .unset, .unset] [(.int (0 : Int32)), (.long q2), (.int (10 : Int32)), (.ref b115)])) rfl (by rw [hml]; rfl) (argsL := [(.long q2), (.int (0 : Int32))]) (rest := [(.int (10 : Int32)), (.ref b115)]) (lenOf pd_1 rfl) rfl (by show 2 * 0 + _ ≤ _; exact Nat.le_of_eq rfl) (hb hby at_169) (fun _ _ => ⟨rfl, e216, (by decide : 1 + 0 ≤ _), (by decide : 14 + 0 ≤ _)⟩)
  dsimp only [Pt.U, Pt.locs, Pt.cells, Pt.slots] at X224 l224 y224 z224 st224 hQ224
  obtain rfl : k224 = 1 := y224
  obtain rfl : n224 = 14 := z224
  obtain ⟨c10, rfl, hc10, Nq224, e224⟩ := hQ224
  have N224 : Fr n0 L224 := by rw [l224]; exact Fr.app N216 Nq224
  have K225 : ∀ t, Steps p.tables e below (T224.setTop (mkF m 172 #[.val (.long q1), .second, .val (.long q2), .second, .val (.int p3), .val (.int p4), .val (.int kd), .val (.ref ta), .val (.int hv), .val (.int ps), .val (.ref b115), .unset, .unset, .unset, .unset] [(.int c10), (.int (10 : Int32)), (.ref b115)])) t → Steps p.tables e below (s₁.setTop (entryFrame m #[(.long q1), (.long q2), (.int p3), (.int p4)] maxLocals)) t := fun t kt => K223 t (st224 t kt)
  obtain ⟨cl226, Ar226, q226, S226, M226, H226, G226⟩ := id V216n
  have hin226 : ¬ ((10 : Int32) < 0 ∨ cl226.slots.size ≤ ((10 : Int32)).toNatClampNeg) := inb_of S226 ⟨by decide, by decide⟩
  obtain ⟨T226, h226, X226, e226, W226, st226⟩ := stC X224 hx hZ e224 Ar226 (j := (10 : Int32)) hin226 (g := (mkF m 172 #[.val (.long q1), .second, .val (.long q2), .second, .val (.int p3), .val (.int p4), .val (.int kd), .val (.ref ta), .val (.int hv), .val (.int ps), .val (.ref b115), .unset, .unset, .unset, .unset] [(.int c10), (.int (10 : Int32)), (.ref b115)])) rfl rfl (hb hby at_172)
  have f227 := Nat.le_trans f217 (Nat.le_of_eq W226.size.symm)
  have f228 := f218.wr W226 (Or.inr sz116)
  have f229 := f219.wr W226 g_b115
  have f230 := f220.wr W226
  have f231 := f221.other W226 (Or.inl ne_ta_b115)
  have V226 : Arv Z h226 b115 k115 .char (14 : Int32) (List.set [(.int c0), (.int c1), (.int c2), (.int c3), (.int c4), (.int c5), (.int c6), (.int c7), (.int c8), (.int c9), (.int (0 : Int32)), (.int (0 : Int32)), (.int (0 : Int32)), (.int (0 : Int32))] 10 (.int (nar .char c10))) (.int (0 : Int32)) := Arv.set Ar226 q226 S226 M226 H226 G226 (fits_nar_char _) W226 10 rfl (Nat.le_of_ble_eq_true rfl)
  simp only [List.set_cons_succ, List.set_cons_zero] at V226
  have V226n : Arv Z h226 b115 k115 .char (14 : Int32) [(.int c0), (.int c1), (.int c2), (.int c3), (.int c4), (.int c5), (.int c6), (.int c7), (.int c8), (.int c9), (.int c10), (.int (0 : Int32)), (.int (0 : Int32)), (.int (0 : Int32))] (.int (0 : Int32)) := by
    have z := V226
    rw [own_nar hc10] at z
    exact z
  have N226 := Fr.snoc X226 N224 g_b115
  have K232 : ∀ t, Steps p.tables e below (T226.setTop (mkF m 173 #[.val (.long q1), .second, .val (.long q2), .second, .val (.int p3), .val (.int p4), .val (.int kd), .val (.ref ta), .val (.int hv), .val (.int ps), .val (.ref b115), .unset, .unset, .unset, .unset] [])) t → Steps p.tables e below (s₁.setTop (entryFrame m #[(.long q1), (.long q2), (.int p3), (.int p4)] maxLocals)) t := fun t kt => K225 t (st226 t kt)
  have K233 : ∀ t, Steps p.tables e below (T226.setTop (mkF m 180 #[.val (.long q1), .second, .val (.long q2), .second, .val (.int p3), .val (.int p4), .val (.int kd), .val (.ref ta), .val (.int hv), .val (.int ps), .val (.ref b115), .unset, .unset, .unset, .unset] [(.int (6 : Int32)), (.long q2), (.int (11 : Int32)), (.ref b115)])) t → Steps p.tables e below (s₁.setTop (entryFrame m #[(.long q1), (.long q2), (.int p3), (.int p4)] maxLocals)) t := by
    intro t kt
    refine K232 t ?_
    show Steps p.tables e below (T226.setTop (mkF m 173 #[.val (.long q1), .second, .val (.long q2), .second, .val (.int p3), .val (.int p4), .val (.int kd), .val (.ref ta), .val (.int hv), .val (.int ps), .val (.ref b115), .unset, .unset, .unset, .unset] [])) _
    refine XS.aload X226.here hx rfl (hb hby at_173) rfl rfl ?_
    show Steps p.tables e below (T226.setTop (mkF m 175 #[.val (.long q1), .second, .val (.long q2), .second, .val (.int p3), .val (.int p4), .val (.int kd), .val (.ref ta), .val (.int hv), .val (.int ps), .val (.ref b115), .unset, .unset, .unset, .unset] [(.ref b115)])) _
    refine XS.bipush X226.here hx rfl (hb hby at_175) ?_
    show Steps p.tables e below (T226.setTop (mkF m 177 #[.val (.long q1), .second, .val (.long q2), .second, .val (.int p3), .val (.int p4), .val (.int kd), .val (.ref ta), .val (.int hv), .val (.int ps), .val (.ref b115), .unset, .unset, .unset, .unset] [(.int (11 : Int32)), (.ref b115)])) _
    refine XS.lloadN X226.here hx rfl (hb hby at_177) rfl ?_
    show Steps p.tables e below (T226.setTop (mkF m 178 #[.val (.long q1), .second, .val (.long q2), .second, .val (.int p3), .val (.int p4), .val (.int kd), .val (.ref ta), .val (.int hv), .val (.int ps), .val (.ref b115), .unset, .unset, .unset, .unset] [(.long q2), (.int (11 : Int32)), (.ref b115)])) _
    refine XS.bipush X226.here hx rfl (hb hby at_178) ?_
    exact kt
  obtain ⟨_, _, ⟨T234, L234, k234, n234⟩, -, X234, ⟨Lc234, hQ234, l234, y234, z234⟩, st234⟩ := Jvm.LawKit.callS X226 hx (y := (⟨"com/example/fiducia/fiducia/model/IdentificationTypeCheckDigitPinLaw", "ch", "(JI)C"⟩ : MethodName)) hown (mvT hZ (hw _ (List.mem_of_getElem? (i := 5) rfl))) (mvT hZ (hw _ (List.mem_of_getElem? (i := 6) rfl))) (mvT hZ (hw _ (List.mem_of_getElem? (i := 7) rfl))) (mvT hZ (hw _ (List.mem_of_getElem? (i := 8) rfl))) (by decide) (backOf (W := 2) (rm1 l Z a0 hw [] q2 (6 : Int32) h226 n0 f227) hZ (hw _ (List.mem_of_getElem? (i := 8) rfl)) (hw _ (List.mem_of_getElem? (i := 7) rfl)) (by decide) (by decide)) (g := (mkF m 180 #[.val (.long q1), .second, .val (.long q2), .second, .val (.int p3), .val (.int p4), .val (.int kd), .val (.ref ta), .val (.int hv), .val (.int ps), .val (.ref b115), .unset, .unset, .unset, .unset] [(.int (6 : Int32)), (.long q2), (.int (11 : Int32)), (.ref b115)])) rfl (by rw [hml]; rfl) (argsL := [(.long q2), (.int (6 : Int32))]) (rest := [(.int (11 : Int32)), (.ref b115)]) (lenOf pd_1 rfl) rfl (by show 2 * 0 + _ ≤ _; exact Nat.le_of_eq rfl) (hb hby at_180) (fun _ _ => ⟨rfl, e226, (by decide : 1 + 0 ≤ _), (by decide : 14 + 0 ≤ _)⟩)
  dsimp only [Pt.U, Pt.locs, Pt.cells, Pt.slots] at X234 l234 y234 z234 st234 hQ234
  obtain rfl : k234 = 1 := y234
  obtain rfl : n234 = 14 := z234
  obtain ⟨c11, rfl, hc11, Nq234, e234⟩ := hQ234
  have N234 : Fr n0 L234 := by rw [l234]; exact Fr.app N226 Nq234
  have K235 : ∀ t, Steps p.tables e below (T234.setTop (mkF m 183 #[.val (.long q1), .second, .val (.long q2), .second, .val (.int p3), .val (.int p4), .val (.int kd), .val (.ref ta), .val (.int hv), .val (.int ps), .val (.ref b115), .unset, .unset, .unset, .unset] [(.int c11), (.int (11 : Int32)), (.ref b115)])) t → Steps p.tables e below (s₁.setTop (entryFrame m #[(.long q1), (.long q2), (.int p3), (.int p4)] maxLocals)) t := fun t kt => K233 t (st234 t kt)
  obtain ⟨cl236, Ar236, q236, S236, M236, H236, G236⟩ := id V226n
  have hin236 : ¬ ((11 : Int32) < 0 ∨ cl236.slots.size ≤ ((11 : Int32)).toNatClampNeg) := inb_of S236 ⟨by decide, by decide⟩
  obtain ⟨T236, h236, X236, e236, W236, st236⟩ := stC X234 hx hZ e234 Ar236 (j := (11 : Int32)) hin236 (g := (mkF m 183 #[.val (.long q1), .second, .val (.long q2), .second, .val (.int p3), .val (.int p4), .val (.int kd), .val (.ref ta), .val (.int hv), .val (.int ps), .val (.ref b115), .unset, .unset, .unset, .unset] [(.int c11), (.int (11 : Int32)), (.ref b115)])) rfl rfl (hb hby at_183)
  have f237 := Nat.le_trans f227 (Nat.le_of_eq W236.size.symm)
  have f238 := f228.wr W236 (Or.inr sz116)
  have f239 := f229.wr W236 g_b115
  have f240 := f230.wr W236
  have f241 := f231.other W236 (Or.inl ne_ta_b115)
  have V236 : Arv Z h236 b115 k115 .char (14 : Int32) (List.set [(.int c0), (.int c1), (.int c2), (.int c3), (.int c4), (.int c5), (.int c6), (.int c7), (.int c8), (.int c9), (.int c10), (.int (0 : Int32)), (.int (0 : Int32)), (.int (0 : Int32))] 11 (.int (nar .char c11))) (.int (0 : Int32)) := Arv.set Ar236 q236 S236 M236 H236 G236 (fits_nar_char _) W236 11 rfl (Nat.le_of_ble_eq_true rfl)
  simp only [List.set_cons_succ, List.set_cons_zero] at V236
  have V236n : Arv Z h236 b115 k115 .char (14 : Int32) [(.int c0), (.int c1), (.int c2), (.int c3), (.int c4), (.int c5), (.int c6), (.int c7), (.int c8), (.int c9), (.int c10), (.int c11), (.int (0 : Int32)), (.int (0 : Int32))] (.int (0 : Int32)) := by
    have z := V236
    rw [own_nar hc11] at z
    exact z
  have N236 := Fr.snoc X236 N234 g_b115
  have K242 : ∀ t, Steps p.tables e below (T236.setTop (mkF m 184 #[.val (.long q1), .second, .val (.long q2), .second, .val (.int p3), .val (.int p4), .val (.int kd), .val (.ref ta), .val (.int hv), .val (.int ps), .val (.ref b115), .unset, .unset, .unset, .unset] [])) t → Steps p.tables e below (s₁.setTop (entryFrame m #[(.long q1), (.long q2), (.int p3), (.int p4)] maxLocals)) t := fun t kt => K235 t (st236 t kt)
  have K243 : ∀ t, Steps p.tables e below (T236.setTop (mkF m 191 #[.val (.long q1), .second, .val (.long q2), .second, .val (.int p3), .val (.int p4), .val (.int kd), .val (.ref ta), .val (.int hv), .val (.int ps), .val (.ref b115), .unset, .unset, .unset, .unset] [(.int (12 : Int32)), (.long q2), (.int (12 : Int32)), (.ref b115)])) t → Steps p.tables e below (s₁.setTop (entryFrame m #[(.long q1), (.long q2), (.int p3), (.int p4)] maxLocals)) t := by
    intro t kt
    refine K242 t ?_
    show Steps p.tables e below (T236.setTop (mkF m 184 #[.val (.long q1), .second, .val (.long q2), .second, .val (.int p3), .val (.int p4), .val (.int kd), .val (.ref ta), .val (.int hv), .val (.int ps), .val (.ref b115), .unset, .unset, .unset, .unset] [])) _
    refine XS.aload X236.here hx rfl (hb hby at_184) rfl rfl ?_
    show Steps p.tables e below (T236.setTop (mkF m 186 #[.val (.long q1), .second, .val (.long q2), .second, .val (.int p3), .val (.int p4), .val (.int kd), .val (.ref ta), .val (.int hv), .val (.int ps), .val (.ref b115), .unset, .unset, .unset, .unset] [(.ref b115)])) _
    refine XS.bipush X236.here hx rfl (hb hby at_186) ?_
    show Steps p.tables e below (T236.setTop (mkF m 188 #[.val (.long q1), .second, .val (.long q2), .second, .val (.int p3), .val (.int p4), .val (.int kd), .val (.ref ta), .val (.int hv), .val (.int ps), .val (.ref b115), .unset, .unset, .unset, .unset] [(.int (12 : Int32)), (.ref b115)])) _
    refine XS.lloadN X236.here hx rfl (hb hby at_188) rfl ?_
    show Steps p.tables e below (T236.setTop (mkF m 189 #[.val (.long q1), .second, .val (.long q2), .second, .val (.int p3), .val (.int p4), .val (.int kd), .val (.ref ta), .val (.int hv), .val (.int ps), .val (.ref b115), .unset, .unset, .unset, .unset] [(.long q2), (.int (12 : Int32)), (.ref b115)])) _
    refine XS.bipush X236.here hx rfl (hb hby at_189) ?_
    exact kt
  obtain ⟨_, _, ⟨T244, L244, k244, n244⟩, -, X244, ⟨Lc244, hQ244, l244, y244, z244⟩, st244⟩ := Jvm.LawKit.callS X236 hx (y := (⟨"com/example/fiducia/fiducia/model/IdentificationTypeCheckDigitPinLaw", "ch", "(JI)C"⟩ : MethodName)) hown (mvT hZ (hw _ (List.mem_of_getElem? (i := 5) rfl))) (mvT hZ (hw _ (List.mem_of_getElem? (i := 6) rfl))) (mvT hZ (hw _ (List.mem_of_getElem? (i := 7) rfl))) (mvT hZ (hw _ (List.mem_of_getElem? (i := 8) rfl))) (by decide) (backOf (W := 2) (rm1 l Z a0 hw [] q2 (12 : Int32) h236 n0 f237) hZ (hw _ (List.mem_of_getElem? (i := 8) rfl)) (hw _ (List.mem_of_getElem? (i := 7) rfl)) (by decide) (by decide)) (g := (mkF m 191 #[.val (.long q1), .second, .val (.long q2), .second, .val (.int p3), .val (.int p4), .val (.int kd), .val (.ref ta), .val (.int hv), .val (.int ps), .val (.ref b115), .unset, .unset, .unset, .unset] [(.int (12 : Int32)), (.long q2), (.int (12 : Int32)), (.ref b115)])) rfl (by rw [hml]; rfl) (argsL := [(.long q2), (.int (12 : Int32))]) (rest := [(.int (12 : Int32)), (.ref b115)]) (lenOf pd_1 rfl) rfl (by show 2 * 0 + _ ≤ _; exact Nat.le_of_eq rfl) (hb hby at_191) (fun _ _ => ⟨rfl, e236, (by decide : 1 + 0 ≤ _), (by decide : 14 + 0 ≤ _)⟩)
  dsimp only [Pt.U, Pt.locs, Pt.cells, Pt.slots] at X244 l244 y244 z244 st244 hQ244
  obtain rfl : k244 = 1 := y244
  obtain rfl : n244 = 14 := z244
  obtain ⟨c12, rfl, hc12, Nq244, e244⟩ := hQ244
  have N244 : Fr n0 L244 := by rw [l244]; exact Fr.app N236 Nq244
  have K245 : ∀ t, Steps p.tables e below (T244.setTop (mkF m 194 #[.val (.long q1), .second, .val (.long q2), .second, .val (.int p3), .val (.int p4), .val (.int kd), .val (.ref ta), .val (.int hv), .val (.int ps), .val (.ref b115), .unset, .unset, .unset, .unset] [(.int c12), (.int (12 : Int32)), (.ref b115)])) t → Steps p.tables e below (s₁.setTop (entryFrame m #[(.long q1), (.long q2), (.int p3), (.int p4)] maxLocals)) t := fun t kt => K243 t (st244 t kt)
  obtain ⟨cl246, Ar246, q246, S246, M246, H246, G246⟩ := id V236n
  have hin246 : ¬ ((12 : Int32) < 0 ∨ cl246.slots.size ≤ ((12 : Int32)).toNatClampNeg) := inb_of S246 ⟨by decide, by decide⟩
  obtain ⟨T246, h246, X246, e246, W246, st246⟩ := stC X244 hx hZ e244 Ar246 (j := (12 : Int32)) hin246 (g := (mkF m 194 #[.val (.long q1), .second, .val (.long q2), .second, .val (.int p3), .val (.int p4), .val (.int kd), .val (.ref ta), .val (.int hv), .val (.int ps), .val (.ref b115), .unset, .unset, .unset, .unset] [(.int c12), (.int (12 : Int32)), (.ref b115)])) rfl rfl (hb hby at_194)
  have f247 := Nat.le_trans f237 (Nat.le_of_eq W246.size.symm)
  have f248 := f238.wr W246 (Or.inr sz116)
  have f249 := f239.wr W246 g_b115
  have f250 := f240.wr W246
  have f251 := f241.other W246 (Or.inl ne_ta_b115)
  have V246 : Arv Z h246 b115 k115 .char (14 : Int32) (List.set [(.int c0), (.int c1), (.int c2), (.int c3), (.int c4), (.int c5), (.int c6), (.int c7), (.int c8), (.int c9), (.int c10), (.int c11), (.int (0 : Int32)), (.int (0 : Int32))] 12 (.int (nar .char c12))) (.int (0 : Int32)) := Arv.set Ar246 q246 S246 M246 H246 G246 (fits_nar_char _) W246 12 rfl (Nat.le_of_ble_eq_true rfl)
  simp only [List.set_cons_succ, List.set_cons_zero] at V246
  have V246n : Arv Z h246 b115 k115 .char (14 : Int32) [(.int c0), (.int c1), (.int c2), (.int c3), (.int c4), (.int c5), (.int c6), (.int c7), (.int c8), (.int c9), (.int c10), (.int c11), (.int c12), (.int (0 : Int32))] (.int (0 : Int32)) := by
    have z := V246
    rw [own_nar hc12] at z
    exact z
  have N246 := Fr.snoc X246 N244 g_b115
  have K252 : ∀ t, Steps p.tables e below (T246.setTop (mkF m 195 #[.val (.long q1), .second, .val (.long q2), .second, .val (.int p3), .val (.int p4), .val (.int kd), .val (.ref ta), .val (.int hv), .val (.int ps), .val (.ref b115), .unset, .unset, .unset, .unset] [])) t → Steps p.tables e below (s₁.setTop (entryFrame m #[(.long q1), (.long q2), (.int p3), (.int p4)] maxLocals)) t := fun t kt => K245 t (st246 t kt)
  have K253 : ∀ t, Steps p.tables e below (T246.setTop (mkF m 202 #[.val (.long q1), .second, .val (.long q2), .second, .val (.int p3), .val (.int p4), .val (.int kd), .val (.ref ta), .val (.int hv), .val (.int ps), .val (.ref b115), .unset, .unset, .unset, .unset] [(.int (18 : Int32)), (.long q2), (.int (13 : Int32)), (.ref b115)])) t → Steps p.tables e below (s₁.setTop (entryFrame m #[(.long q1), (.long q2), (.int p3), (.int p4)] maxLocals)) t := by
    intro t kt
    refine K252 t ?_
    show Steps p.tables e below (T246.setTop (mkF m 195 #[.val (.long q1), .second, .val (.long q2), .second, .val (.int p3), .val (.int p4), .val (.int kd), .val (.ref ta), .val (.int hv), .val (.int ps), .val (.ref b115), .unset, .unset, .unset, .unset] [])) _
    refine XS.aload X246.here hx rfl (hb hby at_195) rfl rfl ?_
    show Steps p.tables e below (T246.setTop (mkF m 197 #[.val (.long q1), .second, .val (.long q2), .second, .val (.int p3), .val (.int p4), .val (.int kd), .val (.ref ta), .val (.int hv), .val (.int ps), .val (.ref b115), .unset, .unset, .unset, .unset] [(.ref b115)])) _
    refine XS.bipush X246.here hx rfl (hb hby at_197) ?_
    show Steps p.tables e below (T246.setTop (mkF m 199 #[.val (.long q1), .second, .val (.long q2), .second, .val (.int p3), .val (.int p4), .val (.int kd), .val (.ref ta), .val (.int hv), .val (.int ps), .val (.ref b115), .unset, .unset, .unset, .unset] [(.int (13 : Int32)), (.ref b115)])) _
    refine XS.lloadN X246.here hx rfl (hb hby at_199) rfl ?_
    show Steps p.tables e below (T246.setTop (mkF m 200 #[.val (.long q1), .second, .val (.long q2), .second, .val (.int p3), .val (.int p4), .val (.int kd), .val (.ref ta), .val (.int hv), .val (.int ps), .val (.ref b115), .unset, .unset, .unset, .unset] [(.long q2), (.int (13 : Int32)), (.ref b115)])) _
    refine XS.bipush X246.here hx rfl (hb hby at_200) ?_
    exact kt
  obtain ⟨_, _, ⟨T254, L254, k254, n254⟩, -, X254, ⟨Lc254, hQ254, l254, y254, z254⟩, st254⟩ := Jvm.LawKit.callS X246 hx (y := (⟨"com/example/fiducia/fiducia/model/IdentificationTypeCheckDigitPinLaw", "ch", "(JI)C"⟩ : MethodName)) hown (mvT hZ (hw _ (List.mem_of_getElem? (i := 5) rfl))) (mvT hZ (hw _ (List.mem_of_getElem? (i := 6) rfl))) (mvT hZ (hw _ (List.mem_of_getElem? (i := 7) rfl))) (mvT hZ (hw _ (List.mem_of_getElem? (i := 8) rfl))) (by decide) (backOf (W := 2) (rm1 l Z a0 hw [] q2 (18 : Int32) h246 n0 f247) hZ (hw _ (List.mem_of_getElem? (i := 8) rfl)) (hw _ (List.mem_of_getElem? (i := 7) rfl)) (by decide) (by decide)) (g := (mkF m 202 #[.val (.long q1), .second, .val (.long q2), .second, .val (.int p3), .val (.int p4), .val (.int kd), .val (.ref ta), .val (.int hv), .val (.int ps), .val (.ref b115), .unset, .unset, .unset, .unset] [(.int (18 : Int32)), (.long q2), (.int (13 : Int32)), (.ref b115)])) rfl (by rw [hml]; rfl) (argsL := [(.long q2), (.int (18 : Int32))]) (rest := [(.int (13 : Int32)), (.ref b115)]) (lenOf pd_1 rfl) rfl (by show 2 * 0 + _ ≤ _; exact Nat.le_of_eq rfl) (hb hby at_202) (fun _ _ => ⟨rfl, e246, (by decide : 1 + 0 ≤ _), (by decide : 14 + 0 ≤ _)⟩)
  dsimp only [Pt.U, Pt.locs, Pt.cells, Pt.slots] at X254 l254 y254 z254 st254 hQ254
  obtain rfl : k254 = 1 := y254
  obtain rfl : n254 = 14 := z254
  obtain ⟨c13, rfl, hc13, Nq254, e254⟩ := hQ254
  have N254 : Fr n0 L254 := by rw [l254]; exact Fr.app N246 Nq254
  have K255 : ∀ t, Steps p.tables e below (T254.setTop (mkF m 205 #[.val (.long q1), .second, .val (.long q2), .second, .val (.int p3), .val (.int p4), .val (.int kd), .val (.ref ta), .val (.int hv), .val (.int ps), .val (.ref b115), .unset, .unset, .unset, .unset] [(.int c13), (.int (13 : Int32)), (.ref b115)])) t → Steps p.tables e below (s₁.setTop (entryFrame m #[(.long q1), (.long q2), (.int p3), (.int p4)] maxLocals)) t := fun t kt => K253 t (st254 t kt)
  obtain ⟨cl256, Ar256, q256, S256, M256, H256, G256⟩ := id V246n
  have hin256 : ¬ ((13 : Int32) < 0 ∨ cl256.slots.size ≤ ((13 : Int32)).toNatClampNeg) := inb_of S256 ⟨by decide, by decide⟩
  obtain ⟨T256, h256, X256, e256, W256, st256⟩ := stC X254 hx hZ e254 Ar256 (j := (13 : Int32)) hin256 (g := (mkF m 205 #[.val (.long q1), .second, .val (.long q2), .second, .val (.int p3), .val (.int p4), .val (.int kd), .val (.ref ta), .val (.int hv), .val (.int ps), .val (.ref b115), .unset, .unset, .unset, .unset] [(.int c13), (.int (13 : Int32)), (.ref b115)])) rfl rfl (hb hby at_205)
  have f257 := Nat.le_trans f247 (Nat.le_of_eq W256.size.symm)
  have f258 := f248.wr W256 (Or.inr sz116)
  have f259 := f249.wr W256 g_b115
  have f260 := f250.wr W256
  have f261 := f251.other W256 (Or.inl ne_ta_b115)
  have V256 : Arv Z h256 b115 k115 .char (14 : Int32) (List.set [(.int c0), (.int c1), (.int c2), (.int c3), (.int c4), (.int c5), (.int c6), (.int c7), (.int c8), (.int c9), (.int c10), (.int c11), (.int c12), (.int (0 : Int32))] 13 (.int (nar .char c13))) (.int (0 : Int32)) := Arv.set Ar256 q256 S256 M256 H256 G256 (fits_nar_char _) W256 13 rfl (Nat.le_of_ble_eq_true rfl)
  simp only [List.set_cons_succ, List.set_cons_zero] at V256
  have V256n : Arv Z h256 b115 k115 .char (14 : Int32) [(.int c0), (.int c1), (.int c2), (.int c3), (.int c4), (.int c5), (.int c6), (.int c7), (.int c8), (.int c9), (.int c10), (.int c11), (.int c12), (.int c13)] (.int (0 : Int32)) := by
    have z := V256
    rw [own_nar hc13] at z
    exact z
  have N256 := Fr.snoc X256 N254 g_b115
  have K262 : ∀ t, Steps p.tables e below (T256.setTop (mkF m 206 #[.val (.long q1), .second, .val (.long q2), .second, .val (.int p3), .val (.int p4), .val (.int kd), .val (.ref ta), .val (.int hv), .val (.int ps), .val (.ref b115), .unset, .unset, .unset, .unset] [])) t → Steps p.tables e below (s₁.setTop (entryFrame m #[(.long q1), (.long q2), (.int p3), (.int p4)] maxLocals)) t := fun t kt => K255 t (st256 t kt)
  have hp : ∀ c ∈ ([c0, c1, c2, c3, c4, c5, c6, c7, c8, c9, c10, c11, c12, c13] : List Int32), 48 ≤ c.toInt ∧ c.toInt ≤ 90 := own_all14 hc0 hc1 hc2 hc3 hc4 hc5 hc6 hc7 hc8 hc9 hc10 hc11 hc12 hc13
  have hpp : ∀ c ∈ ([c0, c1, c2, c3, c4, c5, c6, c7, c8, c9, c10, c11, c12, c13] : List Int32), ¬ c < 0 ∧ ¬ (255 : Int32) < c := fun x hx => own_pr (hp x hx)
  have hws : ∀ d ∈ StrChars.Road.words, d.before a0 Z = true := fun d hd => hw d ((by decide +kernel : ∀ d ∈ StrChars.Road.words, d ∈ tables_1) d hd)
  obtain ⟨T263, h263, X263, e263, E263, A263, D263, U263, st263⟩ := newO X256 hx hZ hown (hw _ (List.mem_of_getElem? (i := 10) rfl)) (hw _ (List.mem_of_getElem? (i := 11) rfl)) (hw _ (List.mem_of_getElem? (i := 12) rfl)) e256 (g := (mkF m 206 #[.val (.long q1), .second, .val (.long q2), .second, .val (.int p3), .val (.int p4), .val (.int kd), .val (.ref ta), .val (.int hv), .val (.int ps), .val (.ref b115), .unset, .unset, .unset, .unset] [])) rfl (hb hby at_206) (by decide) (by decide)
  obtain ⟨b263, g263⟩ : ∃ z, z = h256.size := ⟨_, rfl⟩
  rw [← g263] at A263 D263 U263 st263
  have ne_ta_b263 : ta ≠ b263 := by rw [g263]; exact Nat.ne_of_lt f260.lt
  have ne_b115_b263 : b115 ≠ b263 := by rw [g263]; exact Nat.ne_of_lt V256n.lt
  have sz264 : h0.size ≤ b263 := Nat.le_trans f258.1 (Nat.le_of_eq g263.symm)
  have g_b263 : n0 ≤ b263 := Nat.le_trans f257 (Nat.le_of_eq g263.symm)
  have f265 := Nat.le_trans f257 E263.1
  have f266 := f258.ext E263
  have f267 := f259.ext E263
  have f268 := f260.ext E263
  have f269 := f261.ext E263
  have f270 := V256n.ext E263
  have F271 : Fld Z h263 b263 "java/lang/String" "coder" "B" (.int (0 : Int32)) := D263 (Or.inr (hw _ (List.mem_of_getElem? (i := 36) rfl))) (ty := .byte) (by decide)
  have F272 : Fld Z h263 b263 "java/lang/String" "value" "[B" .null := D263 (Or.inr (hw _ (List.mem_of_getElem? (i := 38) rfl))) (ty := (.array .byte)) (by decide)
  have K273 : ∀ t, Steps p.tables e below (T263.setTop (mkF m 209 #[.val (.long q1), .second, .val (.long q2), .second, .val (.int p3), .val (.int p4), .val (.int kd), .val (.ref ta), .val (.int hv), .val (.int ps), .val (.ref b115), .unset, .unset, .unset, .unset] [(.ref b263)])) t → Steps p.tables e below (s₁.setTop (entryFrame m #[(.long q1), (.long q2), (.int p3), (.int p4)] maxLocals)) t := fun t kt => K262 t (st263 t kt)
  have K274 : ∀ t, Steps p.tables e below (T263.setTop (mkF m 212 #[.val (.long q1), .second, .val (.long q2), .second, .val (.int p3), .val (.int p4), .val (.int kd), .val (.ref ta), .val (.int hv), .val (.int ps), .val (.ref b115), .unset, .unset, .unset, .unset] [(.ref b115), (.ref b263), (.ref b263)])) t → Steps p.tables e below (s₁.setTop (entryFrame m #[(.long q1), (.long q2), (.int p3), (.int p4)] maxLocals)) t := by
    intro t kt
    refine K273 t ?_
    show Steps p.tables e below (T263.setTop (mkF m 209 #[.val (.long q1), .second, .val (.long q2), .second, .val (.int p3), .val (.int p4), .val (.int kd), .val (.ref ta), .val (.int hv), .val (.int ps), .val (.ref b115), .unset, .unset, .unset, .unset] [(.ref b263)])) _
    refine XS.dup X263.here hx rfl (hb hby at_209) rfl rfl ?_
    show Steps p.tables e below (T263.setTop (mkF m 210 #[.val (.long q1), .second, .val (.long q2), .second, .val (.int p3), .val (.int p4), .val (.int kd), .val (.ref ta), .val (.int hv), .val (.int ps), .val (.ref b115), .unset, .unset, .unset, .unset] [(.ref b263), (.ref b263)])) _
    refine XS.aload X263.here hx rfl (hb hby at_210) rfl rfl ?_
    exact kt
  obtain ⟨_, _, ⟨T275, L275, k275, n275⟩, -, X275, ⟨Lc275, hQ275, l275, y275, z275⟩, st275⟩ := X263.specialBack hx (y := (⟨"java/lang/String", "<init>", "([C)V"⟩ : MethodName)) rfl hown (mvT hZ (hw _ (List.mem_of_getElem? (i := 13) rfl))) (mvT hZ (hw _ (List.mem_of_getElem? (i := 14) rfl))) (mvT hZ (hw _ (List.mem_of_getElem? (i := 15) rfl))) (by decide) (StrChars.Road.backV (W := 1) hZ hws (kI := 4) (hw _ (List.mem_of_getElem? (i := 11) rfl)) (cs := ([c0, c1, c2, c3, c4, c5, c6, c7, c8, c9, c10, c11, c12, c13] : List Int32)) (bs := ([c0, c1, c2, c3, c4, c5, c6, c7, c8, c9, c10, c11, c12, c13] : List Int32).map (fun c => c.toInt8.toInt32)) (n := 14) g_b263 f265 A263 F272 F271 f270 (O2.ext f267.2) P5 rfl rfl (by decide) (by decide) hpp rfl (by decide) (by decide)) (g := (mkF m 212 #[.val (.long q1), .second, .val (.long q2), .second, .val (.int p3), .val (.int p4), .val (.int kd), .val (.ref ta), .val (.int hv), .val (.int ps), .val (.ref b115), .unset, .unset, .unset, .unset] [(.ref b115), (.ref b263), (.ref b263)])) rfl (by rw [hml]; rfl) (Steps.refl _) (a := b263) (argsL := [(.ref b115)]) (rest := [(.ref b263)]) (lenOf pd_2 rfl) rfl (by show 2 * 0 + _ ≤ _; exact Nat.le_of_eq rfl) (hb hby at_212) (fun _ _ => ⟨rfl, e263, (by decide : 2 + 1 ≤ _), (by decide : 18 + 14 ≤ _)⟩)
  dsimp only [Pt.U, Pt.locs, Pt.cells, Pt.slots] at X275 l275 y275 z275 st275 hQ275
  obtain rfl : k275 = 3 := y275
  obtain rfl : n275 = 32 := z275
  obtain ⟨rfl, Nq275, Kq275, g275E, g275C, t275, k275b, u275, v275, w275, g275V, g275A⟩ := hQ275
  have f276 := Nat.le_trans f265 Kq275.1
  have f277 := f266.trans Kq275 (allS (Or.inr sz264) all0)
  have f278 := f267.keep Kq275 (allS g_b263 all0)
  have f279 := f268.keep Kq275
  have f280 := f269.keep Kq275 (own_nin ne_ta_b263)
  have f281 := f270.keep Kq275 (own_nin ne_b115_b263)
  have f282 := A263.keep Kq275
  have N275 : Fr n0 L275 := by rw [l275]; exact Fr.app N256 Nq275
  have K283 : ∀ t, Steps p.tables e below (T275.setTop (mkF m 215 #[.val (.long q1), .second, .val (.long q2), .second, .val (.int p3), .val (.int p4), .val (.int kd), .val (.ref ta), .val (.int hv), .val (.int ps), .val (.ref b115), .unset, .unset, .unset, .unset] [(.ref b263)])) t → Steps p.tables e below (s₁.setTop (entryFrame m #[(.long q1), (.long q2), (.int p3), (.int p4)] maxLocals)) t := fun t kt => K274 t (st275.trans kt)
  have ne_ta_t275 : ta ≠ t275 := Nat.ne_of_lt (Nat.lt_of_lt_of_le f268.lt v275)
  have ne_b115_t275 : b115 ≠ t275 := Nat.ne_of_lt (Nat.lt_of_lt_of_le f270.lt v275)
  have K284 : ∀ t, Steps p.tables e below (T275.setTop (mkF m 224 #[.val (.long q1), .second, .val (.long q2), .second, .val (.int p3), .val (.int p4), .val (.int kd), .val (.ref ta), .val (.int hv), .val (.int ps), .val (.ref b115), .val (.ref b263), .unset, .unset, .unset] [(.int hv), (.int ps), (.int (0 : Int32)), (.ref b115)])) t → Steps p.tables e below (s₁.setTop (entryFrame m #[(.long q1), (.long q2), (.int p3), (.int p4)] maxLocals)) t := by
    intro t kt
    refine K283 t ?_
    show Steps p.tables e below (T275.setTop (mkF m 215 #[.val (.long q1), .second, .val (.long q2), .second, .val (.int p3), .val (.int p4), .val (.int kd), .val (.ref ta), .val (.int hv), .val (.int ps), .val (.ref b115), .unset, .unset, .unset, .unset] [(.ref b263)])) _
    refine XS.astore X275.here hx rfl (hb hby at_215) rfl rfl (l' := #[.val (.long q1), .second, .val (.long q2), .second, .val (.int p3), .val (.int p4), .val (.int kd), .val (.ref ta), .val (.int hv), .val (.int ps), .val (.ref b115), .val (.ref b263), .unset, .unset, .unset]) rfl ?_
    show Steps p.tables e below (T275.setTop (mkF m 217 #[.val (.long q1), .second, .val (.long q2), .second, .val (.int p3), .val (.int p4), .val (.int kd), .val (.ref ta), .val (.int hv), .val (.int ps), .val (.ref b115), .val (.ref b263), .unset, .unset, .unset] [])) _
    refine XS.aload X275.here hx rfl (hb hby at_217) rfl rfl ?_
    show Steps p.tables e below (T275.setTop (mkF m 219 #[.val (.long q1), .second, .val (.long q2), .second, .val (.int p3), .val (.int p4), .val (.int kd), .val (.ref ta), .val (.int hv), .val (.int ps), .val (.ref b115), .val (.ref b263), .unset, .unset, .unset] [(.ref b115)])) _
    refine XS.iconst X275.here hx rfl (hb hby at_219) ?_
    show Steps p.tables e below (T275.setTop (mkF m 220 #[.val (.long q1), .second, .val (.long q2), .second, .val (.int p3), .val (.int p4), .val (.int kd), .val (.ref ta), .val (.int hv), .val (.int ps), .val (.ref b115), .val (.ref b263), .unset, .unset, .unset] [(.int (0 : Int32)), (.ref b115)])) _
    refine XS.iload X275.here hx rfl (hb hby at_220) rfl ?_
    show Steps p.tables e below (T275.setTop (mkF m 222 #[.val (.long q1), .second, .val (.long q2), .second, .val (.int p3), .val (.int p4), .val (.int kd), .val (.ref ta), .val (.int hv), .val (.int ps), .val (.ref b115), .val (.ref b263), .unset, .unset, .unset] [(.int ps), (.int (0 : Int32)), (.ref b115)])) _
    refine XS.iload X275.here hx rfl (hb hby at_222) rfl ?_
    exact kt
  obtain ⟨_, _, ⟨T285, L285, k285, n285⟩, -, X285, ⟨Lc285, hQ285, l285, y285, z285⟩, st285⟩ := Jvm.LawKit.callS X275 hx (y := (⟨"com/example/fiducia/fiducia/model/IdentificationTypeCheckDigitPinLaw", "term", "([CIII)I"⟩ : MethodName)) hown (mvT hZ (hw _ (List.mem_of_getElem? (i := 39) rfl))) (mvT hZ (hw _ (List.mem_of_getElem? (i := 40) rfl))) (mvT hZ (hw _ (List.mem_of_getElem? (i := 7) rfl))) (mvT hZ (hw _ (List.mem_of_getElem? (i := 41) rfl))) (by decide) (backOf (W := 0) (rm8 l Z a0 hw [] b115 (0 : Int32) ps hv k115 ([c0, c1, c2, c3, c4, c5, c6, c7, c8, c9, c10, c11, c12, c13] : List Int32) 0 pn hn T275.heap n0 f276 f281 rfl hp (by decide) (by decide) hps3 hpn hv4 hhn) hZ (hw _ (List.mem_of_getElem? (i := 41) rfl)) (hw _ (List.mem_of_getElem? (i := 7) rfl)) (by decide) (by decide)) (g := (mkF m 224 #[.val (.long q1), .second, .val (.long q2), .second, .val (.int p3), .val (.int p4), .val (.int kd), .val (.ref ta), .val (.int hv), .val (.int ps), .val (.ref b115), .val (.ref b263), .unset, .unset, .unset] [(.int hv), (.int ps), (.int (0 : Int32)), (.ref b115)])) rfl (by rw [hml]; rfl) (argsL := [(.ref b115), (.int (0 : Int32)), (.int ps), (.int hv)]) (rest := []) (lenOf pd_3 rfl) rfl (by show 2 * 0 + _ ≤ _; exact Nat.le_of_eq rfl) (hb hby at_224) (fun _ _ => ⟨rfl, rfl, (by decide : 3 + 0 ≤ _), (by decide : 32 + 0 ≤ _)⟩)
  dsimp only [Pt.U, Pt.locs, Pt.cells, Pt.slots] at X285 l285 y285 z285 st285 hQ285
  obtain rfl : k285 = 3 := y285
  obtain rfl : n285 = 32 := z285
  obtain ⟨t0, rfl, ht0, Nq285, e285⟩ := hQ285
  have N285 : Fr n0 L285 := by rw [l285]; exact Fr.app N275 Nq285
  have K286 : ∀ t, Steps p.tables e below (T285.setTop (mkF m 227 #[.val (.long q1), .second, .val (.long q2), .second, .val (.int p3), .val (.int p4), .val (.int kd), .val (.ref ta), .val (.int hv), .val (.int ps), .val (.ref b115), .val (.ref b263), .unset, .unset, .unset] [(.int t0)])) t → Steps p.tables e below (s₁.setTop (entryFrame m #[(.long q1), (.long q2), (.int p3), (.int p4)] maxLocals)) t := fun t kt => K284 t (st285 t kt)
  have K287 : ∀ t, Steps p.tables e below (T285.setTop (mkF m 234 #[.val (.long q1), .second, .val (.long q2), .second, .val (.int p3), .val (.int p4), .val (.int kd), .val (.ref ta), .val (.int hv), .val (.int ps), .val (.ref b115), .val (.ref b263), .unset, .unset, .unset] [(.int hv), (.int ps), (.int (1 : Int32)), (.ref b115), (.int t0)])) t → Steps p.tables e below (s₁.setTop (entryFrame m #[(.long q1), (.long q2), (.int p3), (.int p4)] maxLocals)) t := by
    intro t kt
    refine K286 t ?_
    show Steps p.tables e below (T285.setTop (mkF m 227 #[.val (.long q1), .second, .val (.long q2), .second, .val (.int p3), .val (.int p4), .val (.int kd), .val (.ref ta), .val (.int hv), .val (.int ps), .val (.ref b115), .val (.ref b263), .unset, .unset, .unset] [(.int t0)])) _
    refine XS.aload X285.here hx rfl (hb hby at_227) rfl rfl ?_
    show Steps p.tables e below (T285.setTop (mkF m 229 #[.val (.long q1), .second, .val (.long q2), .second, .val (.int p3), .val (.int p4), .val (.int kd), .val (.ref ta), .val (.int hv), .val (.int ps), .val (.ref b115), .val (.ref b263), .unset, .unset, .unset] [(.ref b115), (.int t0)])) _
    refine XS.iconst X285.here hx rfl (hb hby at_229) ?_
    show Steps p.tables e below (T285.setTop (mkF m 230 #[.val (.long q1), .second, .val (.long q2), .second, .val (.int p3), .val (.int p4), .val (.int kd), .val (.ref ta), .val (.int hv), .val (.int ps), .val (.ref b115), .val (.ref b263), .unset, .unset, .unset] [(.int (1 : Int32)), (.ref b115), (.int t0)])) _
    refine XS.iload X285.here hx rfl (hb hby at_230) rfl ?_
    show Steps p.tables e below (T285.setTop (mkF m 232 #[.val (.long q1), .second, .val (.long q2), .second, .val (.int p3), .val (.int p4), .val (.int kd), .val (.ref ta), .val (.int hv), .val (.int ps), .val (.ref b115), .val (.ref b263), .unset, .unset, .unset] [(.int ps), (.int (1 : Int32)), (.ref b115), (.int t0)])) _
    refine XS.iload X285.here hx rfl (hb hby at_232) rfl ?_
    exact kt
  obtain ⟨_, _, ⟨T288, L288, k288, n288⟩, -, X288, ⟨Lc288, hQ288, l288, y288, z288⟩, st288⟩ := Jvm.LawKit.callS X285 hx (y := (⟨"com/example/fiducia/fiducia/model/IdentificationTypeCheckDigitPinLaw", "term", "([CIII)I"⟩ : MethodName)) hown (mvT hZ (hw _ (List.mem_of_getElem? (i := 39) rfl))) (mvT hZ (hw _ (List.mem_of_getElem? (i := 40) rfl))) (mvT hZ (hw _ (List.mem_of_getElem? (i := 7) rfl))) (mvT hZ (hw _ (List.mem_of_getElem? (i := 41) rfl))) (by decide) (backOf (W := 1) (rm8 l Z a0 hw [] b115 (1 : Int32) ps hv k115 ([c0, c1, c2, c3, c4, c5, c6, c7, c8, c9, c10, c11, c12, c13] : List Int32) 1 pn hn T275.heap n0 f276 f281 rfl hp (by decide) (by decide) hps3 hpn hv4 hhn) hZ (hw _ (List.mem_of_getElem? (i := 41) rfl)) (hw _ (List.mem_of_getElem? (i := 7) rfl)) (by decide) (by decide)) (g := (mkF m 234 #[.val (.long q1), .second, .val (.long q2), .second, .val (.int p3), .val (.int p4), .val (.int kd), .val (.ref ta), .val (.int hv), .val (.int ps), .val (.ref b115), .val (.ref b263), .unset, .unset, .unset] [(.int hv), (.int ps), (.int (1 : Int32)), (.ref b115), (.int t0)])) rfl (by rw [hml]; rfl) (argsL := [(.ref b115), (.int (1 : Int32)), (.int ps), (.int hv)]) (rest := [(.int t0)]) (lenOf pd_3 rfl) rfl (by show 2 * 0 + _ ≤ _; exact Nat.le_of_eq rfl) (hb hby at_234) (fun _ _ => ⟨rfl, e285, (by decide : 3 + 0 ≤ _), (by decide : 32 + 0 ≤ _)⟩)
  dsimp only [Pt.U, Pt.locs, Pt.cells, Pt.slots] at X288 l288 y288 z288 st288 hQ288
  obtain rfl : k288 = 3 := y288
  obtain rfl : n288 = 32 := z288
  obtain ⟨t1, rfl, ht1, Nq288, e288⟩ := hQ288
  have N288 : Fr n0 L288 := by rw [l288]; exact Fr.app N285 Nq288
  have K289 : ∀ t, Steps p.tables e below (T288.setTop (mkF m 237 #[.val (.long q1), .second, .val (.long q2), .second, .val (.int p3), .val (.int p4), .val (.int kd), .val (.ref ta), .val (.int hv), .val (.int ps), .val (.ref b115), .val (.ref b263), .unset, .unset, .unset] [(.int t1), (.int t0)])) t → Steps p.tables e below (s₁.setTop (entryFrame m #[(.long q1), (.long q2), (.int p3), (.int p4)] maxLocals)) t := fun t kt => K287 t (st288 t kt)
  have K290 : ∀ t, Steps p.tables e below (T288.setTop (mkF m 245 #[.val (.long q1), .second, .val (.long q2), .second, .val (.int p3), .val (.int p4), .val (.int kd), .val (.ref ta), .val (.int hv), .val (.int ps), .val (.ref b115), .val (.ref b263), .unset, .unset, .unset] [(.int hv), (.int ps), (.int (2 : Int32)), (.ref b115), (.int (t0 + t1))])) t → Steps p.tables e below (s₁.setTop (entryFrame m #[(.long q1), (.long q2), (.int p3), (.int p4)] maxLocals)) t := by
    intro t kt
    refine K289 t ?_
    show Steps p.tables e below (T288.setTop (mkF m 237 #[.val (.long q1), .second, .val (.long q2), .second, .val (.int p3), .val (.int p4), .val (.int kd), .val (.ref ta), .val (.int hv), .val (.int ps), .val (.ref b115), .val (.ref b263), .unset, .unset, .unset] [(.int t1), (.int t0)])) _
    refine XS.iadd X288.here hx rfl (hb hby at_237) rfl ?_
    show Steps p.tables e below (T288.setTop (mkF m 238 #[.val (.long q1), .second, .val (.long q2), .second, .val (.int p3), .val (.int p4), .val (.int kd), .val (.ref ta), .val (.int hv), .val (.int ps), .val (.ref b115), .val (.ref b263), .unset, .unset, .unset] [(.int (t0 + t1))])) _
    refine XS.aload X288.here hx rfl (hb hby at_238) rfl rfl ?_
    show Steps p.tables e below (T288.setTop (mkF m 240 #[.val (.long q1), .second, .val (.long q2), .second, .val (.int p3), .val (.int p4), .val (.int kd), .val (.ref ta), .val (.int hv), .val (.int ps), .val (.ref b115), .val (.ref b263), .unset, .unset, .unset] [(.ref b115), (.int (t0 + t1))])) _
    refine XS.iconst X288.here hx rfl (hb hby at_240) ?_
    show Steps p.tables e below (T288.setTop (mkF m 241 #[.val (.long q1), .second, .val (.long q2), .second, .val (.int p3), .val (.int p4), .val (.int kd), .val (.ref ta), .val (.int hv), .val (.int ps), .val (.ref b115), .val (.ref b263), .unset, .unset, .unset] [(.int (2 : Int32)), (.ref b115), (.int (t0 + t1))])) _
    refine XS.iload X288.here hx rfl (hb hby at_241) rfl ?_
    show Steps p.tables e below (T288.setTop (mkF m 243 #[.val (.long q1), .second, .val (.long q2), .second, .val (.int p3), .val (.int p4), .val (.int kd), .val (.ref ta), .val (.int hv), .val (.int ps), .val (.ref b115), .val (.ref b263), .unset, .unset, .unset] [(.int ps), (.int (2 : Int32)), (.ref b115), (.int (t0 + t1))])) _
    refine XS.iload X288.here hx rfl (hb hby at_243) rfl ?_
    exact kt
  obtain ⟨_, _, ⟨T291, L291, k291, n291⟩, -, X291, ⟨Lc291, hQ291, l291, y291, z291⟩, st291⟩ := Jvm.LawKit.callS X288 hx (y := (⟨"com/example/fiducia/fiducia/model/IdentificationTypeCheckDigitPinLaw", "term", "([CIII)I"⟩ : MethodName)) hown (mvT hZ (hw _ (List.mem_of_getElem? (i := 39) rfl))) (mvT hZ (hw _ (List.mem_of_getElem? (i := 40) rfl))) (mvT hZ (hw _ (List.mem_of_getElem? (i := 7) rfl))) (mvT hZ (hw _ (List.mem_of_getElem? (i := 41) rfl))) (by decide) (backOf (W := 1) (rm8 l Z a0 hw [] b115 (2 : Int32) ps hv k115 ([c0, c1, c2, c3, c4, c5, c6, c7, c8, c9, c10, c11, c12, c13] : List Int32) 2 pn hn T275.heap n0 f276 f281 rfl hp (by decide) (by decide) hps3 hpn hv4 hhn) hZ (hw _ (List.mem_of_getElem? (i := 41) rfl)) (hw _ (List.mem_of_getElem? (i := 7) rfl)) (by decide) (by decide)) (g := (mkF m 245 #[.val (.long q1), .second, .val (.long q2), .second, .val (.int p3), .val (.int p4), .val (.int kd), .val (.ref ta), .val (.int hv), .val (.int ps), .val (.ref b115), .val (.ref b263), .unset, .unset, .unset] [(.int hv), (.int ps), (.int (2 : Int32)), (.ref b115), (.int (t0 + t1))])) rfl (by rw [hml]; rfl) (argsL := [(.ref b115), (.int (2 : Int32)), (.int ps), (.int hv)]) (rest := [(.int (t0 + t1))]) (lenOf pd_3 rfl) rfl (by show 2 * 0 + _ ≤ _; exact Nat.le_of_eq rfl) (hb hby at_245) (fun _ _ => ⟨rfl, e288, (by decide : 3 + 0 ≤ _), (by decide : 32 + 0 ≤ _)⟩)
  dsimp only [Pt.U, Pt.locs, Pt.cells, Pt.slots] at X291 l291 y291 z291 st291 hQ291
  obtain rfl : k291 = 3 := y291
  obtain rfl : n291 = 32 := z291
  obtain ⟨t2, rfl, ht2, Nq291, e291⟩ := hQ291
  have N291 : Fr n0 L291 := by rw [l291]; exact Fr.app N288 Nq291
  have K292 : ∀ t, Steps p.tables e below (T291.setTop (mkF m 248 #[.val (.long q1), .second, .val (.long q2), .second, .val (.int p3), .val (.int p4), .val (.int kd), .val (.ref ta), .val (.int hv), .val (.int ps), .val (.ref b115), .val (.ref b263), .unset, .unset, .unset] [(.int t2), (.int (t0 + t1))])) t → Steps p.tables e below (s₁.setTop (entryFrame m #[(.long q1), (.long q2), (.int p3), (.int p4)] maxLocals)) t := fun t kt => K290 t (st291 t kt)
  have K293 : ∀ t, Steps p.tables e below (T291.setTop (mkF m 256 #[.val (.long q1), .second, .val (.long q2), .second, .val (.int p3), .val (.int p4), .val (.int kd), .val (.ref ta), .val (.int hv), .val (.int ps), .val (.ref b115), .val (.ref b263), .unset, .unset, .unset] [(.int hv), (.int ps), (.int (3 : Int32)), (.ref b115), (.int ((t0 + t1) + t2))])) t → Steps p.tables e below (s₁.setTop (entryFrame m #[(.long q1), (.long q2), (.int p3), (.int p4)] maxLocals)) t := by
    intro t kt
    refine K292 t ?_
    show Steps p.tables e below (T291.setTop (mkF m 248 #[.val (.long q1), .second, .val (.long q2), .second, .val (.int p3), .val (.int p4), .val (.int kd), .val (.ref ta), .val (.int hv), .val (.int ps), .val (.ref b115), .val (.ref b263), .unset, .unset, .unset] [(.int t2), (.int (t0 + t1))])) _
    refine XS.iadd X291.here hx rfl (hb hby at_248) rfl ?_
    show Steps p.tables e below (T291.setTop (mkF m 249 #[.val (.long q1), .second, .val (.long q2), .second, .val (.int p3), .val (.int p4), .val (.int kd), .val (.ref ta), .val (.int hv), .val (.int ps), .val (.ref b115), .val (.ref b263), .unset, .unset, .unset] [(.int ((t0 + t1) + t2))])) _
    refine XS.aload X291.here hx rfl (hb hby at_249) rfl rfl ?_
    show Steps p.tables e below (T291.setTop (mkF m 251 #[.val (.long q1), .second, .val (.long q2), .second, .val (.int p3), .val (.int p4), .val (.int kd), .val (.ref ta), .val (.int hv), .val (.int ps), .val (.ref b115), .val (.ref b263), .unset, .unset, .unset] [(.ref b115), (.int ((t0 + t1) + t2))])) _
    refine XS.iconst X291.here hx rfl (hb hby at_251) ?_
    show Steps p.tables e below (T291.setTop (mkF m 252 #[.val (.long q1), .second, .val (.long q2), .second, .val (.int p3), .val (.int p4), .val (.int kd), .val (.ref ta), .val (.int hv), .val (.int ps), .val (.ref b115), .val (.ref b263), .unset, .unset, .unset] [(.int (3 : Int32)), (.ref b115), (.int ((t0 + t1) + t2))])) _
    refine XS.iload X291.here hx rfl (hb hby at_252) rfl ?_
    show Steps p.tables e below (T291.setTop (mkF m 254 #[.val (.long q1), .second, .val (.long q2), .second, .val (.int p3), .val (.int p4), .val (.int kd), .val (.ref ta), .val (.int hv), .val (.int ps), .val (.ref b115), .val (.ref b263), .unset, .unset, .unset] [(.int ps), (.int (3 : Int32)), (.ref b115), (.int ((t0 + t1) + t2))])) _
    refine XS.iload X291.here hx rfl (hb hby at_254) rfl ?_
    exact kt
  obtain ⟨_, _, ⟨T294, L294, k294, n294⟩, -, X294, ⟨Lc294, hQ294, l294, y294, z294⟩, st294⟩ := Jvm.LawKit.callS X291 hx (y := (⟨"com/example/fiducia/fiducia/model/IdentificationTypeCheckDigitPinLaw", "term", "([CIII)I"⟩ : MethodName)) hown (mvT hZ (hw _ (List.mem_of_getElem? (i := 39) rfl))) (mvT hZ (hw _ (List.mem_of_getElem? (i := 40) rfl))) (mvT hZ (hw _ (List.mem_of_getElem? (i := 7) rfl))) (mvT hZ (hw _ (List.mem_of_getElem? (i := 41) rfl))) (by decide) (backOf (W := 1) (rm8 l Z a0 hw [] b115 (3 : Int32) ps hv k115 ([c0, c1, c2, c3, c4, c5, c6, c7, c8, c9, c10, c11, c12, c13] : List Int32) 3 pn hn T275.heap n0 f276 f281 rfl hp (by decide) (by decide) hps3 hpn hv4 hhn) hZ (hw _ (List.mem_of_getElem? (i := 41) rfl)) (hw _ (List.mem_of_getElem? (i := 7) rfl)) (by decide) (by decide)) (g := (mkF m 256 #[.val (.long q1), .second, .val (.long q2), .second, .val (.int p3), .val (.int p4), .val (.int kd), .val (.ref ta), .val (.int hv), .val (.int ps), .val (.ref b115), .val (.ref b263), .unset, .unset, .unset] [(.int hv), (.int ps), (.int (3 : Int32)), (.ref b115), (.int ((t0 + t1) + t2))])) rfl (by rw [hml]; rfl) (argsL := [(.ref b115), (.int (3 : Int32)), (.int ps), (.int hv)]) (rest := [(.int ((t0 + t1) + t2))]) (lenOf pd_3 rfl) rfl (by show 2 * 0 + _ ≤ _; exact Nat.le_of_eq rfl) (hb hby at_256) (fun _ _ => ⟨rfl, e291, (by decide : 3 + 0 ≤ _), (by decide : 32 + 0 ≤ _)⟩)
  dsimp only [Pt.U, Pt.locs, Pt.cells, Pt.slots] at X294 l294 y294 z294 st294 hQ294
  obtain rfl : k294 = 3 := y294
  obtain rfl : n294 = 32 := z294
  obtain ⟨t3, rfl, ht3, Nq294, e294⟩ := hQ294
  have N294 : Fr n0 L294 := by rw [l294]; exact Fr.app N291 Nq294
  have K295 : ∀ t, Steps p.tables e below (T294.setTop (mkF m 259 #[.val (.long q1), .second, .val (.long q2), .second, .val (.int p3), .val (.int p4), .val (.int kd), .val (.ref ta), .val (.int hv), .val (.int ps), .val (.ref b115), .val (.ref b263), .unset, .unset, .unset] [(.int t3), (.int ((t0 + t1) + t2))])) t → Steps p.tables e below (s₁.setTop (entryFrame m #[(.long q1), (.long q2), (.int p3), (.int p4)] maxLocals)) t := fun t kt => K293 t (st294 t kt)
  have K296 : ∀ t, Steps p.tables e below (T294.setTop (mkF m 267 #[.val (.long q1), .second, .val (.long q2), .second, .val (.int p3), .val (.int p4), .val (.int kd), .val (.ref ta), .val (.int hv), .val (.int ps), .val (.ref b115), .val (.ref b263), .unset, .unset, .unset] [(.int hv), (.int ps), (.int (4 : Int32)), (.ref b115), (.int (((t0 + t1) + t2) + t3))])) t → Steps p.tables e below (s₁.setTop (entryFrame m #[(.long q1), (.long q2), (.int p3), (.int p4)] maxLocals)) t := by
    intro t kt
    refine K295 t ?_
    show Steps p.tables e below (T294.setTop (mkF m 259 #[.val (.long q1), .second, .val (.long q2), .second, .val (.int p3), .val (.int p4), .val (.int kd), .val (.ref ta), .val (.int hv), .val (.int ps), .val (.ref b115), .val (.ref b263), .unset, .unset, .unset] [(.int t3), (.int ((t0 + t1) + t2))])) _
    refine XS.iadd X294.here hx rfl (hb hby at_259) rfl ?_
    show Steps p.tables e below (T294.setTop (mkF m 260 #[.val (.long q1), .second, .val (.long q2), .second, .val (.int p3), .val (.int p4), .val (.int kd), .val (.ref ta), .val (.int hv), .val (.int ps), .val (.ref b115), .val (.ref b263), .unset, .unset, .unset] [(.int (((t0 + t1) + t2) + t3))])) _
    refine XS.aload X294.here hx rfl (hb hby at_260) rfl rfl ?_
    show Steps p.tables e below (T294.setTop (mkF m 262 #[.val (.long q1), .second, .val (.long q2), .second, .val (.int p3), .val (.int p4), .val (.int kd), .val (.ref ta), .val (.int hv), .val (.int ps), .val (.ref b115), .val (.ref b263), .unset, .unset, .unset] [(.ref b115), (.int (((t0 + t1) + t2) + t3))])) _
    refine XS.iconst X294.here hx rfl (hb hby at_262) ?_
    show Steps p.tables e below (T294.setTop (mkF m 263 #[.val (.long q1), .second, .val (.long q2), .second, .val (.int p3), .val (.int p4), .val (.int kd), .val (.ref ta), .val (.int hv), .val (.int ps), .val (.ref b115), .val (.ref b263), .unset, .unset, .unset] [(.int (4 : Int32)), (.ref b115), (.int (((t0 + t1) + t2) + t3))])) _
    refine XS.iload X294.here hx rfl (hb hby at_263) rfl ?_
    show Steps p.tables e below (T294.setTop (mkF m 265 #[.val (.long q1), .second, .val (.long q2), .second, .val (.int p3), .val (.int p4), .val (.int kd), .val (.ref ta), .val (.int hv), .val (.int ps), .val (.ref b115), .val (.ref b263), .unset, .unset, .unset] [(.int ps), (.int (4 : Int32)), (.ref b115), (.int (((t0 + t1) + t2) + t3))])) _
    refine XS.iload X294.here hx rfl (hb hby at_265) rfl ?_
    exact kt
  obtain ⟨_, _, ⟨T297, L297, k297, n297⟩, -, X297, ⟨Lc297, hQ297, l297, y297, z297⟩, st297⟩ := Jvm.LawKit.callS X294 hx (y := (⟨"com/example/fiducia/fiducia/model/IdentificationTypeCheckDigitPinLaw", "term", "([CIII)I"⟩ : MethodName)) hown (mvT hZ (hw _ (List.mem_of_getElem? (i := 39) rfl))) (mvT hZ (hw _ (List.mem_of_getElem? (i := 40) rfl))) (mvT hZ (hw _ (List.mem_of_getElem? (i := 7) rfl))) (mvT hZ (hw _ (List.mem_of_getElem? (i := 41) rfl))) (by decide) (backOf (W := 1) (rm8 l Z a0 hw [] b115 (4 : Int32) ps hv k115 ([c0, c1, c2, c3, c4, c5, c6, c7, c8, c9, c10, c11, c12, c13] : List Int32) 4 pn hn T275.heap n0 f276 f281 rfl hp (by decide) (by decide) hps3 hpn hv4 hhn) hZ (hw _ (List.mem_of_getElem? (i := 41) rfl)) (hw _ (List.mem_of_getElem? (i := 7) rfl)) (by decide) (by decide)) (g := (mkF m 267 #[.val (.long q1), .second, .val (.long q2), .second, .val (.int p3), .val (.int p4), .val (.int kd), .val (.ref ta), .val (.int hv), .val (.int ps), .val (.ref b115), .val (.ref b263), .unset, .unset, .unset] [(.int hv), (.int ps), (.int (4 : Int32)), (.ref b115), (.int (((t0 + t1) + t2) + t3))])) rfl (by rw [hml]; rfl) (argsL := [(.ref b115), (.int (4 : Int32)), (.int ps), (.int hv)]) (rest := [(.int (((t0 + t1) + t2) + t3))]) (lenOf pd_3 rfl) rfl (by show 2 * 0 + _ ≤ _; exact Nat.le_of_eq rfl) (hb hby at_267) (fun _ _ => ⟨rfl, e294, (by decide : 3 + 0 ≤ _), (by decide : 32 + 0 ≤ _)⟩)
  dsimp only [Pt.U, Pt.locs, Pt.cells, Pt.slots] at X297 l297 y297 z297 st297 hQ297
  obtain rfl : k297 = 3 := y297
  obtain rfl : n297 = 32 := z297
  obtain ⟨t4, rfl, ht4, Nq297, e297⟩ := hQ297
  have N297 : Fr n0 L297 := by rw [l297]; exact Fr.app N294 Nq297
  have K298 : ∀ t, Steps p.tables e below (T297.setTop (mkF m 270 #[.val (.long q1), .second, .val (.long q2), .second, .val (.int p3), .val (.int p4), .val (.int kd), .val (.ref ta), .val (.int hv), .val (.int ps), .val (.ref b115), .val (.ref b263), .unset, .unset, .unset] [(.int t4), (.int (((t0 + t1) + t2) + t3))])) t → Steps p.tables e below (s₁.setTop (entryFrame m #[(.long q1), (.long q2), (.int p3), (.int p4)] maxLocals)) t := fun t kt => K296 t (st297 t kt)
  have K299 : ∀ t, Steps p.tables e below (T297.setTop (mkF m 278 #[.val (.long q1), .second, .val (.long q2), .second, .val (.int p3), .val (.int p4), .val (.int kd), .val (.ref ta), .val (.int hv), .val (.int ps), .val (.ref b115), .val (.ref b263), .unset, .unset, .unset] [(.int hv), (.int ps), (.int (5 : Int32)), (.ref b115), (.int ((((t0 + t1) + t2) + t3) + t4))])) t → Steps p.tables e below (s₁.setTop (entryFrame m #[(.long q1), (.long q2), (.int p3), (.int p4)] maxLocals)) t := by
    intro t kt
    refine K298 t ?_
    show Steps p.tables e below (T297.setTop (mkF m 270 #[.val (.long q1), .second, .val (.long q2), .second, .val (.int p3), .val (.int p4), .val (.int kd), .val (.ref ta), .val (.int hv), .val (.int ps), .val (.ref b115), .val (.ref b263), .unset, .unset, .unset] [(.int t4), (.int (((t0 + t1) + t2) + t3))])) _
    refine XS.iadd X297.here hx rfl (hb hby at_270) rfl ?_
    show Steps p.tables e below (T297.setTop (mkF m 271 #[.val (.long q1), .second, .val (.long q2), .second, .val (.int p3), .val (.int p4), .val (.int kd), .val (.ref ta), .val (.int hv), .val (.int ps), .val (.ref b115), .val (.ref b263), .unset, .unset, .unset] [(.int ((((t0 + t1) + t2) + t3) + t4))])) _
    refine XS.aload X297.here hx rfl (hb hby at_271) rfl rfl ?_
    show Steps p.tables e below (T297.setTop (mkF m 273 #[.val (.long q1), .second, .val (.long q2), .second, .val (.int p3), .val (.int p4), .val (.int kd), .val (.ref ta), .val (.int hv), .val (.int ps), .val (.ref b115), .val (.ref b263), .unset, .unset, .unset] [(.ref b115), (.int ((((t0 + t1) + t2) + t3) + t4))])) _
    refine XS.iconst X297.here hx rfl (hb hby at_273) ?_
    show Steps p.tables e below (T297.setTop (mkF m 274 #[.val (.long q1), .second, .val (.long q2), .second, .val (.int p3), .val (.int p4), .val (.int kd), .val (.ref ta), .val (.int hv), .val (.int ps), .val (.ref b115), .val (.ref b263), .unset, .unset, .unset] [(.int (5 : Int32)), (.ref b115), (.int ((((t0 + t1) + t2) + t3) + t4))])) _
    refine XS.iload X297.here hx rfl (hb hby at_274) rfl ?_
    show Steps p.tables e below (T297.setTop (mkF m 276 #[.val (.long q1), .second, .val (.long q2), .second, .val (.int p3), .val (.int p4), .val (.int kd), .val (.ref ta), .val (.int hv), .val (.int ps), .val (.ref b115), .val (.ref b263), .unset, .unset, .unset] [(.int ps), (.int (5 : Int32)), (.ref b115), (.int ((((t0 + t1) + t2) + t3) + t4))])) _
    refine XS.iload X297.here hx rfl (hb hby at_276) rfl ?_
    exact kt
  obtain ⟨_, _, ⟨T300, L300, k300, n300⟩, -, X300, ⟨Lc300, hQ300, l300, y300, z300⟩, st300⟩ := Jvm.LawKit.callS X297 hx (y := (⟨"com/example/fiducia/fiducia/model/IdentificationTypeCheckDigitPinLaw", "term", "([CIII)I"⟩ : MethodName)) hown (mvT hZ (hw _ (List.mem_of_getElem? (i := 39) rfl))) (mvT hZ (hw _ (List.mem_of_getElem? (i := 40) rfl))) (mvT hZ (hw _ (List.mem_of_getElem? (i := 7) rfl))) (mvT hZ (hw _ (List.mem_of_getElem? (i := 41) rfl))) (by decide) (backOf (W := 1) (rm8 l Z a0 hw [] b115 (5 : Int32) ps hv k115 ([c0, c1, c2, c3, c4, c5, c6, c7, c8, c9, c10, c11, c12, c13] : List Int32) 5 pn hn T275.heap n0 f276 f281 rfl hp (by decide) (by decide) hps3 hpn hv4 hhn) hZ (hw _ (List.mem_of_getElem? (i := 41) rfl)) (hw _ (List.mem_of_getElem? (i := 7) rfl)) (by decide) (by decide)) (g := (mkF m 278 #[.val (.long q1), .second, .val (.long q2), .second, .val (.int p3), .val (.int p4), .val (.int kd), .val (.ref ta), .val (.int hv), .val (.int ps), .val (.ref b115), .val (.ref b263), .unset, .unset, .unset] [(.int hv), (.int ps), (.int (5 : Int32)), (.ref b115), (.int ((((t0 + t1) + t2) + t3) + t4))])) rfl (by rw [hml]; rfl) (argsL := [(.ref b115), (.int (5 : Int32)), (.int ps), (.int hv)]) (rest := [(.int ((((t0 + t1) + t2) + t3) + t4))]) (lenOf pd_3 rfl) rfl (by show 2 * 0 + _ ≤ _; exact Nat.le_of_eq rfl) (hb hby at_278) (fun _ _ => ⟨rfl, e297, (by decide : 3 + 0 ≤ _), (by decide : 32 + 0 ≤ _)⟩)
  dsimp only [Pt.U, Pt.locs, Pt.cells, Pt.slots] at X300 l300 y300 z300 st300 hQ300
  obtain rfl : k300 = 3 := y300
  obtain rfl : n300 = 32 := z300
  obtain ⟨t5, rfl, ht5, Nq300, e300⟩ := hQ300
  have N300 : Fr n0 L300 := by rw [l300]; exact Fr.app N297 Nq300
  have K301 : ∀ t, Steps p.tables e below (T300.setTop (mkF m 281 #[.val (.long q1), .second, .val (.long q2), .second, .val (.int p3), .val (.int p4), .val (.int kd), .val (.ref ta), .val (.int hv), .val (.int ps), .val (.ref b115), .val (.ref b263), .unset, .unset, .unset] [(.int t5), (.int ((((t0 + t1) + t2) + t3) + t4))])) t → Steps p.tables e below (s₁.setTop (entryFrame m #[(.long q1), (.long q2), (.int p3), (.int p4)] maxLocals)) t := fun t kt => K299 t (st300 t kt)
  have K302 : ∀ t, Steps p.tables e below (T300.setTop (mkF m 290 #[.val (.long q1), .second, .val (.long q2), .second, .val (.int p3), .val (.int p4), .val (.int kd), .val (.ref ta), .val (.int hv), .val (.int ps), .val (.ref b115), .val (.ref b263), .unset, .unset, .unset] [(.int hv), (.int ps), (.int (6 : Int32)), (.ref b115), (.int (((((t0 + t1) + t2) + t3) + t4) + t5))])) t → Steps p.tables e below (s₁.setTop (entryFrame m #[(.long q1), (.long q2), (.int p3), (.int p4)] maxLocals)) t := by
    intro t kt
    refine K301 t ?_
    show Steps p.tables e below (T300.setTop (mkF m 281 #[.val (.long q1), .second, .val (.long q2), .second, .val (.int p3), .val (.int p4), .val (.int kd), .val (.ref ta), .val (.int hv), .val (.int ps), .val (.ref b115), .val (.ref b263), .unset, .unset, .unset] [(.int t5), (.int ((((t0 + t1) + t2) + t3) + t4))])) _
    refine XS.iadd X300.here hx rfl (hb hby at_281) rfl ?_
    show Steps p.tables e below (T300.setTop (mkF m 282 #[.val (.long q1), .second, .val (.long q2), .second, .val (.int p3), .val (.int p4), .val (.int kd), .val (.ref ta), .val (.int hv), .val (.int ps), .val (.ref b115), .val (.ref b263), .unset, .unset, .unset] [(.int (((((t0 + t1) + t2) + t3) + t4) + t5))])) _
    refine XS.aload X300.here hx rfl (hb hby at_282) rfl rfl ?_
    show Steps p.tables e below (T300.setTop (mkF m 284 #[.val (.long q1), .second, .val (.long q2), .second, .val (.int p3), .val (.int p4), .val (.int kd), .val (.ref ta), .val (.int hv), .val (.int ps), .val (.ref b115), .val (.ref b263), .unset, .unset, .unset] [(.ref b115), (.int (((((t0 + t1) + t2) + t3) + t4) + t5))])) _
    refine XS.bipush X300.here hx rfl (hb hby at_284) ?_
    show Steps p.tables e below (T300.setTop (mkF m 286 #[.val (.long q1), .second, .val (.long q2), .second, .val (.int p3), .val (.int p4), .val (.int kd), .val (.ref ta), .val (.int hv), .val (.int ps), .val (.ref b115), .val (.ref b263), .unset, .unset, .unset] [(.int (6 : Int32)), (.ref b115), (.int (((((t0 + t1) + t2) + t3) + t4) + t5))])) _
    refine XS.iload X300.here hx rfl (hb hby at_286) rfl ?_
    show Steps p.tables e below (T300.setTop (mkF m 288 #[.val (.long q1), .second, .val (.long q2), .second, .val (.int p3), .val (.int p4), .val (.int kd), .val (.ref ta), .val (.int hv), .val (.int ps), .val (.ref b115), .val (.ref b263), .unset, .unset, .unset] [(.int ps), (.int (6 : Int32)), (.ref b115), (.int (((((t0 + t1) + t2) + t3) + t4) + t5))])) _
    refine XS.iload X300.here hx rfl (hb hby at_288) rfl ?_
    exact kt
  obtain ⟨_, _, ⟨T303, L303, k303, n303⟩, -, X303, ⟨Lc303, hQ303, l303, y303, z303⟩, st303⟩ := Jvm.LawKit.callS X300 hx (y := (⟨"com/example/fiducia/fiducia/model/IdentificationTypeCheckDigitPinLaw", "term", "([CIII)I"⟩ : MethodName)) hown (mvT hZ (hw _ (List.mem_of_getElem? (i := 39) rfl))) (mvT hZ (hw _ (List.mem_of_getElem? (i := 40) rfl))) (mvT hZ (hw _ (List.mem_of_getElem? (i := 7) rfl))) (mvT hZ (hw _ (List.mem_of_getElem? (i := 41) rfl))) (by decide) (backOf (W := 1) (rm8 l Z a0 hw [] b115 (6 : Int32) ps hv k115 ([c0, c1, c2, c3, c4, c5, c6, c7, c8, c9, c10, c11, c12, c13] : List Int32) 6 pn hn T275.heap n0 f276 f281 rfl hp (by decide) (by decide) hps3 hpn hv4 hhn) hZ (hw _ (List.mem_of_getElem? (i := 41) rfl)) (hw _ (List.mem_of_getElem? (i := 7) rfl)) (by decide) (by decide)) (g := (mkF m 290 #[.val (.long q1), .second, .val (.long q2), .second, .val (.int p3), .val (.int p4), .val (.int kd), .val (.ref ta), .val (.int hv), .val (.int ps), .val (.ref b115), .val (.ref b263), .unset, .unset, .unset] [(.int hv), (.int ps), (.int (6 : Int32)), (.ref b115), (.int (((((t0 + t1) + t2) + t3) + t4) + t5))])) rfl (by rw [hml]; rfl) (argsL := [(.ref b115), (.int (6 : Int32)), (.int ps), (.int hv)]) (rest := [(.int (((((t0 + t1) + t2) + t3) + t4) + t5))]) (lenOf pd_3 rfl) rfl (by show 2 * 0 + _ ≤ _; exact Nat.le_of_eq rfl) (hb hby at_290) (fun _ _ => ⟨rfl, e300, (by decide : 3 + 0 ≤ _), (by decide : 32 + 0 ≤ _)⟩)
  dsimp only [Pt.U, Pt.locs, Pt.cells, Pt.slots] at X303 l303 y303 z303 st303 hQ303
  obtain rfl : k303 = 3 := y303
  obtain rfl : n303 = 32 := z303
  obtain ⟨t6, rfl, ht6, Nq303, e303⟩ := hQ303
  have N303 : Fr n0 L303 := by rw [l303]; exact Fr.app N300 Nq303
  have K304 : ∀ t, Steps p.tables e below (T303.setTop (mkF m 293 #[.val (.long q1), .second, .val (.long q2), .second, .val (.int p3), .val (.int p4), .val (.int kd), .val (.ref ta), .val (.int hv), .val (.int ps), .val (.ref b115), .val (.ref b263), .unset, .unset, .unset] [(.int t6), (.int (((((t0 + t1) + t2) + t3) + t4) + t5))])) t → Steps p.tables e below (s₁.setTop (entryFrame m #[(.long q1), (.long q2), (.int p3), (.int p4)] maxLocals)) t := fun t kt => K302 t (st303 t kt)
  have K305 : ∀ t, Steps p.tables e below (T303.setTop (mkF m 302 #[.val (.long q1), .second, .val (.long q2), .second, .val (.int p3), .val (.int p4), .val (.int kd), .val (.ref ta), .val (.int hv), .val (.int ps), .val (.ref b115), .val (.ref b263), .unset, .unset, .unset] [(.int hv), (.int ps), (.int (7 : Int32)), (.ref b115), (.int ((((((t0 + t1) + t2) + t3) + t4) + t5) + t6))])) t → Steps p.tables e below (s₁.setTop (entryFrame m #[(.long q1), (.long q2), (.int p3), (.int p4)] maxLocals)) t := by
    intro t kt
    refine K304 t ?_
    show Steps p.tables e below (T303.setTop (mkF m 293 #[.val (.long q1), .second, .val (.long q2), .second, .val (.int p3), .val (.int p4), .val (.int kd), .val (.ref ta), .val (.int hv), .val (.int ps), .val (.ref b115), .val (.ref b263), .unset, .unset, .unset] [(.int t6), (.int (((((t0 + t1) + t2) + t3) + t4) + t5))])) _
    refine XS.iadd X303.here hx rfl (hb hby at_293) rfl ?_
    show Steps p.tables e below (T303.setTop (mkF m 294 #[.val (.long q1), .second, .val (.long q2), .second, .val (.int p3), .val (.int p4), .val (.int kd), .val (.ref ta), .val (.int hv), .val (.int ps), .val (.ref b115), .val (.ref b263), .unset, .unset, .unset] [(.int ((((((t0 + t1) + t2) + t3) + t4) + t5) + t6))])) _
    refine XS.aload X303.here hx rfl (hb hby at_294) rfl rfl ?_
    show Steps p.tables e below (T303.setTop (mkF m 296 #[.val (.long q1), .second, .val (.long q2), .second, .val (.int p3), .val (.int p4), .val (.int kd), .val (.ref ta), .val (.int hv), .val (.int ps), .val (.ref b115), .val (.ref b263), .unset, .unset, .unset] [(.ref b115), (.int ((((((t0 + t1) + t2) + t3) + t4) + t5) + t6))])) _
    refine XS.bipush X303.here hx rfl (hb hby at_296) ?_
    show Steps p.tables e below (T303.setTop (mkF m 298 #[.val (.long q1), .second, .val (.long q2), .second, .val (.int p3), .val (.int p4), .val (.int kd), .val (.ref ta), .val (.int hv), .val (.int ps), .val (.ref b115), .val (.ref b263), .unset, .unset, .unset] [(.int (7 : Int32)), (.ref b115), (.int ((((((t0 + t1) + t2) + t3) + t4) + t5) + t6))])) _
    refine XS.iload X303.here hx rfl (hb hby at_298) rfl ?_
    show Steps p.tables e below (T303.setTop (mkF m 300 #[.val (.long q1), .second, .val (.long q2), .second, .val (.int p3), .val (.int p4), .val (.int kd), .val (.ref ta), .val (.int hv), .val (.int ps), .val (.ref b115), .val (.ref b263), .unset, .unset, .unset] [(.int ps), (.int (7 : Int32)), (.ref b115), (.int ((((((t0 + t1) + t2) + t3) + t4) + t5) + t6))])) _
    refine XS.iload X303.here hx rfl (hb hby at_300) rfl ?_
    exact kt
  obtain ⟨_, _, ⟨T306, L306, k306, n306⟩, -, X306, ⟨Lc306, hQ306, l306, y306, z306⟩, st306⟩ := Jvm.LawKit.callS X303 hx (y := (⟨"com/example/fiducia/fiducia/model/IdentificationTypeCheckDigitPinLaw", "term", "([CIII)I"⟩ : MethodName)) hown (mvT hZ (hw _ (List.mem_of_getElem? (i := 39) rfl))) (mvT hZ (hw _ (List.mem_of_getElem? (i := 40) rfl))) (mvT hZ (hw _ (List.mem_of_getElem? (i := 7) rfl))) (mvT hZ (hw _ (List.mem_of_getElem? (i := 41) rfl))) (by decide) (backOf (W := 1) (rm8 l Z a0 hw [] b115 (7 : Int32) ps hv k115 ([c0, c1, c2, c3, c4, c5, c6, c7, c8, c9, c10, c11, c12, c13] : List Int32) 7 pn hn T275.heap n0 f276 f281 rfl hp (by decide) (by decide) hps3 hpn hv4 hhn) hZ (hw _ (List.mem_of_getElem? (i := 41) rfl)) (hw _ (List.mem_of_getElem? (i := 7) rfl)) (by decide) (by decide)) (g := (mkF m 302 #[.val (.long q1), .second, .val (.long q2), .second, .val (.int p3), .val (.int p4), .val (.int kd), .val (.ref ta), .val (.int hv), .val (.int ps), .val (.ref b115), .val (.ref b263), .unset, .unset, .unset] [(.int hv), (.int ps), (.int (7 : Int32)), (.ref b115), (.int ((((((t0 + t1) + t2) + t3) + t4) + t5) + t6))])) rfl (by rw [hml]; rfl) (argsL := [(.ref b115), (.int (7 : Int32)), (.int ps), (.int hv)]) (rest := [(.int ((((((t0 + t1) + t2) + t3) + t4) + t5) + t6))]) (lenOf pd_3 rfl) rfl (by show 2 * 0 + _ ≤ _; exact Nat.le_of_eq rfl) (hb hby at_302) (fun _ _ => ⟨rfl, e303, (by decide : 3 + 0 ≤ _), (by decide : 32 + 0 ≤ _)⟩)
  dsimp only [Pt.U, Pt.locs, Pt.cells, Pt.slots] at X306 l306 y306 z306 st306 hQ306
  obtain rfl : k306 = 3 := y306
  obtain rfl : n306 = 32 := z306
  obtain ⟨t7, rfl, ht7, Nq306, e306⟩ := hQ306
  have N306 : Fr n0 L306 := by rw [l306]; exact Fr.app N303 Nq306
  have K307 : ∀ t, Steps p.tables e below (T306.setTop (mkF m 305 #[.val (.long q1), .second, .val (.long q2), .second, .val (.int p3), .val (.int p4), .val (.int kd), .val (.ref ta), .val (.int hv), .val (.int ps), .val (.ref b115), .val (.ref b263), .unset, .unset, .unset] [(.int t7), (.int ((((((t0 + t1) + t2) + t3) + t4) + t5) + t6))])) t → Steps p.tables e below (s₁.setTop (entryFrame m #[(.long q1), (.long q2), (.int p3), (.int p4)] maxLocals)) t := fun t kt => K305 t (st306 t kt)
  have K308 : ∀ t, Steps p.tables e below (T306.setTop (mkF m 314 #[.val (.long q1), .second, .val (.long q2), .second, .val (.int p3), .val (.int p4), .val (.int kd), .val (.ref ta), .val (.int hv), .val (.int ps), .val (.ref b115), .val (.ref b263), .unset, .unset, .unset] [(.int hv), (.int ps), (.int (8 : Int32)), (.ref b115), (.int (((((((t0 + t1) + t2) + t3) + t4) + t5) + t6) + t7))])) t → Steps p.tables e below (s₁.setTop (entryFrame m #[(.long q1), (.long q2), (.int p3), (.int p4)] maxLocals)) t := by
    intro t kt
    refine K307 t ?_
    show Steps p.tables e below (T306.setTop (mkF m 305 #[.val (.long q1), .second, .val (.long q2), .second, .val (.int p3), .val (.int p4), .val (.int kd), .val (.ref ta), .val (.int hv), .val (.int ps), .val (.ref b115), .val (.ref b263), .unset, .unset, .unset] [(.int t7), (.int ((((((t0 + t1) + t2) + t3) + t4) + t5) + t6))])) _
    refine XS.iadd X306.here hx rfl (hb hby at_305) rfl ?_
    show Steps p.tables e below (T306.setTop (mkF m 306 #[.val (.long q1), .second, .val (.long q2), .second, .val (.int p3), .val (.int p4), .val (.int kd), .val (.ref ta), .val (.int hv), .val (.int ps), .val (.ref b115), .val (.ref b263), .unset, .unset, .unset] [(.int (((((((t0 + t1) + t2) + t3) + t4) + t5) + t6) + t7))])) _
    refine XS.aload X306.here hx rfl (hb hby at_306) rfl rfl ?_
    show Steps p.tables e below (T306.setTop (mkF m 308 #[.val (.long q1), .second, .val (.long q2), .second, .val (.int p3), .val (.int p4), .val (.int kd), .val (.ref ta), .val (.int hv), .val (.int ps), .val (.ref b115), .val (.ref b263), .unset, .unset, .unset] [(.ref b115), (.int (((((((t0 + t1) + t2) + t3) + t4) + t5) + t6) + t7))])) _
    refine XS.bipush X306.here hx rfl (hb hby at_308) ?_
    show Steps p.tables e below (T306.setTop (mkF m 310 #[.val (.long q1), .second, .val (.long q2), .second, .val (.int p3), .val (.int p4), .val (.int kd), .val (.ref ta), .val (.int hv), .val (.int ps), .val (.ref b115), .val (.ref b263), .unset, .unset, .unset] [(.int (8 : Int32)), (.ref b115), (.int (((((((t0 + t1) + t2) + t3) + t4) + t5) + t6) + t7))])) _
    refine XS.iload X306.here hx rfl (hb hby at_310) rfl ?_
    show Steps p.tables e below (T306.setTop (mkF m 312 #[.val (.long q1), .second, .val (.long q2), .second, .val (.int p3), .val (.int p4), .val (.int kd), .val (.ref ta), .val (.int hv), .val (.int ps), .val (.ref b115), .val (.ref b263), .unset, .unset, .unset] [(.int ps), (.int (8 : Int32)), (.ref b115), (.int (((((((t0 + t1) + t2) + t3) + t4) + t5) + t6) + t7))])) _
    refine XS.iload X306.here hx rfl (hb hby at_312) rfl ?_
    exact kt
  obtain ⟨_, _, ⟨T309, L309, k309, n309⟩, -, X309, ⟨Lc309, hQ309, l309, y309, z309⟩, st309⟩ := Jvm.LawKit.callS X306 hx (y := (⟨"com/example/fiducia/fiducia/model/IdentificationTypeCheckDigitPinLaw", "term", "([CIII)I"⟩ : MethodName)) hown (mvT hZ (hw _ (List.mem_of_getElem? (i := 39) rfl))) (mvT hZ (hw _ (List.mem_of_getElem? (i := 40) rfl))) (mvT hZ (hw _ (List.mem_of_getElem? (i := 7) rfl))) (mvT hZ (hw _ (List.mem_of_getElem? (i := 41) rfl))) (by decide) (backOf (W := 1) (rm8 l Z a0 hw [] b115 (8 : Int32) ps hv k115 ([c0, c1, c2, c3, c4, c5, c6, c7, c8, c9, c10, c11, c12, c13] : List Int32) 8 pn hn T275.heap n0 f276 f281 rfl hp (by decide) (by decide) hps3 hpn hv4 hhn) hZ (hw _ (List.mem_of_getElem? (i := 41) rfl)) (hw _ (List.mem_of_getElem? (i := 7) rfl)) (by decide) (by decide)) (g := (mkF m 314 #[.val (.long q1), .second, .val (.long q2), .second, .val (.int p3), .val (.int p4), .val (.int kd), .val (.ref ta), .val (.int hv), .val (.int ps), .val (.ref b115), .val (.ref b263), .unset, .unset, .unset] [(.int hv), (.int ps), (.int (8 : Int32)), (.ref b115), (.int (((((((t0 + t1) + t2) + t3) + t4) + t5) + t6) + t7))])) rfl (by rw [hml]; rfl) (argsL := [(.ref b115), (.int (8 : Int32)), (.int ps), (.int hv)]) (rest := [(.int (((((((t0 + t1) + t2) + t3) + t4) + t5) + t6) + t7))]) (lenOf pd_3 rfl) rfl (by show 2 * 0 + _ ≤ _; exact Nat.le_of_eq rfl) (hb hby at_314) (fun _ _ => ⟨rfl, e306, (by decide : 3 + 0 ≤ _), (by decide : 32 + 0 ≤ _)⟩)
  dsimp only [Pt.U, Pt.locs, Pt.cells, Pt.slots] at X309 l309 y309 z309 st309 hQ309
  obtain rfl : k309 = 3 := y309
  obtain rfl : n309 = 32 := z309
  obtain ⟨t8, rfl, ht8, Nq309, e309⟩ := hQ309
  have N309 : Fr n0 L309 := by rw [l309]; exact Fr.app N306 Nq309
  have K310 : ∀ t, Steps p.tables e below (T309.setTop (mkF m 317 #[.val (.long q1), .second, .val (.long q2), .second, .val (.int p3), .val (.int p4), .val (.int kd), .val (.ref ta), .val (.int hv), .val (.int ps), .val (.ref b115), .val (.ref b263), .unset, .unset, .unset] [(.int t8), (.int (((((((t0 + t1) + t2) + t3) + t4) + t5) + t6) + t7))])) t → Steps p.tables e below (s₁.setTop (entryFrame m #[(.long q1), (.long q2), (.int p3), (.int p4)] maxLocals)) t := fun t kt => K308 t (st309 t kt)
  have K311 : ∀ t, Steps p.tables e below (T309.setTop (mkF m 326 #[.val (.long q1), .second, .val (.long q2), .second, .val (.int p3), .val (.int p4), .val (.int kd), .val (.ref ta), .val (.int hv), .val (.int ps), .val (.ref b115), .val (.ref b263), .unset, .unset, .unset] [(.int hv), (.int ps), (.int (9 : Int32)), (.ref b115), (.int ((((((((t0 + t1) + t2) + t3) + t4) + t5) + t6) + t7) + t8))])) t → Steps p.tables e below (s₁.setTop (entryFrame m #[(.long q1), (.long q2), (.int p3), (.int p4)] maxLocals)) t := by
    intro t kt
    refine K310 t ?_
    show Steps p.tables e below (T309.setTop (mkF m 317 #[.val (.long q1), .second, .val (.long q2), .second, .val (.int p3), .val (.int p4), .val (.int kd), .val (.ref ta), .val (.int hv), .val (.int ps), .val (.ref b115), .val (.ref b263), .unset, .unset, .unset] [(.int t8), (.int (((((((t0 + t1) + t2) + t3) + t4) + t5) + t6) + t7))])) _
    refine XS.iadd X309.here hx rfl (hb hby at_317) rfl ?_
    show Steps p.tables e below (T309.setTop (mkF m 318 #[.val (.long q1), .second, .val (.long q2), .second, .val (.int p3), .val (.int p4), .val (.int kd), .val (.ref ta), .val (.int hv), .val (.int ps), .val (.ref b115), .val (.ref b263), .unset, .unset, .unset] [(.int ((((((((t0 + t1) + t2) + t3) + t4) + t5) + t6) + t7) + t8))])) _
    refine XS.aload X309.here hx rfl (hb hby at_318) rfl rfl ?_
    show Steps p.tables e below (T309.setTop (mkF m 320 #[.val (.long q1), .second, .val (.long q2), .second, .val (.int p3), .val (.int p4), .val (.int kd), .val (.ref ta), .val (.int hv), .val (.int ps), .val (.ref b115), .val (.ref b263), .unset, .unset, .unset] [(.ref b115), (.int ((((((((t0 + t1) + t2) + t3) + t4) + t5) + t6) + t7) + t8))])) _
    refine XS.bipush X309.here hx rfl (hb hby at_320) ?_
    show Steps p.tables e below (T309.setTop (mkF m 322 #[.val (.long q1), .second, .val (.long q2), .second, .val (.int p3), .val (.int p4), .val (.int kd), .val (.ref ta), .val (.int hv), .val (.int ps), .val (.ref b115), .val (.ref b263), .unset, .unset, .unset] [(.int (9 : Int32)), (.ref b115), (.int ((((((((t0 + t1) + t2) + t3) + t4) + t5) + t6) + t7) + t8))])) _
    refine XS.iload X309.here hx rfl (hb hby at_322) rfl ?_
    show Steps p.tables e below (T309.setTop (mkF m 324 #[.val (.long q1), .second, .val (.long q2), .second, .val (.int p3), .val (.int p4), .val (.int kd), .val (.ref ta), .val (.int hv), .val (.int ps), .val (.ref b115), .val (.ref b263), .unset, .unset, .unset] [(.int ps), (.int (9 : Int32)), (.ref b115), (.int ((((((((t0 + t1) + t2) + t3) + t4) + t5) + t6) + t7) + t8))])) _
    refine XS.iload X309.here hx rfl (hb hby at_324) rfl ?_
    exact kt
  obtain ⟨_, _, ⟨T312, L312, k312, n312⟩, -, X312, ⟨Lc312, hQ312, l312, y312, z312⟩, st312⟩ := Jvm.LawKit.callS X309 hx (y := (⟨"com/example/fiducia/fiducia/model/IdentificationTypeCheckDigitPinLaw", "term", "([CIII)I"⟩ : MethodName)) hown (mvT hZ (hw _ (List.mem_of_getElem? (i := 39) rfl))) (mvT hZ (hw _ (List.mem_of_getElem? (i := 40) rfl))) (mvT hZ (hw _ (List.mem_of_getElem? (i := 7) rfl))) (mvT hZ (hw _ (List.mem_of_getElem? (i := 41) rfl))) (by decide) (backOf (W := 1) (rm8 l Z a0 hw [] b115 (9 : Int32) ps hv k115 ([c0, c1, c2, c3, c4, c5, c6, c7, c8, c9, c10, c11, c12, c13] : List Int32) 9 pn hn T275.heap n0 f276 f281 rfl hp (by decide) (by decide) hps3 hpn hv4 hhn) hZ (hw _ (List.mem_of_getElem? (i := 41) rfl)) (hw _ (List.mem_of_getElem? (i := 7) rfl)) (by decide) (by decide)) (g := (mkF m 326 #[.val (.long q1), .second, .val (.long q2), .second, .val (.int p3), .val (.int p4), .val (.int kd), .val (.ref ta), .val (.int hv), .val (.int ps), .val (.ref b115), .val (.ref b263), .unset, .unset, .unset] [(.int hv), (.int ps), (.int (9 : Int32)), (.ref b115), (.int ((((((((t0 + t1) + t2) + t3) + t4) + t5) + t6) + t7) + t8))])) rfl (by rw [hml]; rfl) (argsL := [(.ref b115), (.int (9 : Int32)), (.int ps), (.int hv)]) (rest := [(.int ((((((((t0 + t1) + t2) + t3) + t4) + t5) + t6) + t7) + t8))]) (lenOf pd_3 rfl) rfl (by show 2 * 0 + _ ≤ _; exact Nat.le_of_eq rfl) (hb hby at_326) (fun _ _ => ⟨rfl, e309, (by decide : 3 + 0 ≤ _), (by decide : 32 + 0 ≤ _)⟩)
  dsimp only [Pt.U, Pt.locs, Pt.cells, Pt.slots] at X312 l312 y312 z312 st312 hQ312
  obtain rfl : k312 = 3 := y312
  obtain rfl : n312 = 32 := z312
  obtain ⟨t9, rfl, ht9, Nq312, e312⟩ := hQ312
  have N312 : Fr n0 L312 := by rw [l312]; exact Fr.app N309 Nq312
  have K313 : ∀ t, Steps p.tables e below (T312.setTop (mkF m 329 #[.val (.long q1), .second, .val (.long q2), .second, .val (.int p3), .val (.int p4), .val (.int kd), .val (.ref ta), .val (.int hv), .val (.int ps), .val (.ref b115), .val (.ref b263), .unset, .unset, .unset] [(.int t9), (.int ((((((((t0 + t1) + t2) + t3) + t4) + t5) + t6) + t7) + t8))])) t → Steps p.tables e below (s₁.setTop (entryFrame m #[(.long q1), (.long q2), (.int p3), (.int p4)] maxLocals)) t := fun t kt => K311 t (st312 t kt)
  have K314 : ∀ t, Steps p.tables e below (T312.setTop (mkF m 338 #[.val (.long q1), .second, .val (.long q2), .second, .val (.int p3), .val (.int p4), .val (.int kd), .val (.ref ta), .val (.int hv), .val (.int ps), .val (.ref b115), .val (.ref b263), .unset, .unset, .unset] [(.int hv), (.int ps), (.int (10 : Int32)), (.ref b115), (.int (((((((((t0 + t1) + t2) + t3) + t4) + t5) + t6) + t7) + t8) + t9))])) t → Steps p.tables e below (s₁.setTop (entryFrame m #[(.long q1), (.long q2), (.int p3), (.int p4)] maxLocals)) t := by
    intro t kt
    refine K313 t ?_
    show Steps p.tables e below (T312.setTop (mkF m 329 #[.val (.long q1), .second, .val (.long q2), .second, .val (.int p3), .val (.int p4), .val (.int kd), .val (.ref ta), .val (.int hv), .val (.int ps), .val (.ref b115), .val (.ref b263), .unset, .unset, .unset] [(.int t9), (.int ((((((((t0 + t1) + t2) + t3) + t4) + t5) + t6) + t7) + t8))])) _
    refine XS.iadd X312.here hx rfl (hb hby at_329) rfl ?_
    show Steps p.tables e below (T312.setTop (mkF m 330 #[.val (.long q1), .second, .val (.long q2), .second, .val (.int p3), .val (.int p4), .val (.int kd), .val (.ref ta), .val (.int hv), .val (.int ps), .val (.ref b115), .val (.ref b263), .unset, .unset, .unset] [(.int (((((((((t0 + t1) + t2) + t3) + t4) + t5) + t6) + t7) + t8) + t9))])) _
    refine XS.aload X312.here hx rfl (hb hby at_330) rfl rfl ?_
    show Steps p.tables e below (T312.setTop (mkF m 332 #[.val (.long q1), .second, .val (.long q2), .second, .val (.int p3), .val (.int p4), .val (.int kd), .val (.ref ta), .val (.int hv), .val (.int ps), .val (.ref b115), .val (.ref b263), .unset, .unset, .unset] [(.ref b115), (.int (((((((((t0 + t1) + t2) + t3) + t4) + t5) + t6) + t7) + t8) + t9))])) _
    refine XS.bipush X312.here hx rfl (hb hby at_332) ?_
    show Steps p.tables e below (T312.setTop (mkF m 334 #[.val (.long q1), .second, .val (.long q2), .second, .val (.int p3), .val (.int p4), .val (.int kd), .val (.ref ta), .val (.int hv), .val (.int ps), .val (.ref b115), .val (.ref b263), .unset, .unset, .unset] [(.int (10 : Int32)), (.ref b115), (.int (((((((((t0 + t1) + t2) + t3) + t4) + t5) + t6) + t7) + t8) + t9))])) _
    refine XS.iload X312.here hx rfl (hb hby at_334) rfl ?_
    show Steps p.tables e below (T312.setTop (mkF m 336 #[.val (.long q1), .second, .val (.long q2), .second, .val (.int p3), .val (.int p4), .val (.int kd), .val (.ref ta), .val (.int hv), .val (.int ps), .val (.ref b115), .val (.ref b263), .unset, .unset, .unset] [(.int ps), (.int (10 : Int32)), (.ref b115), (.int (((((((((t0 + t1) + t2) + t3) + t4) + t5) + t6) + t7) + t8) + t9))])) _
    refine XS.iload X312.here hx rfl (hb hby at_336) rfl ?_
    exact kt
  obtain ⟨_, _, ⟨T315, L315, k315, n315⟩, -, X315, ⟨Lc315, hQ315, l315, y315, z315⟩, st315⟩ := Jvm.LawKit.callS X312 hx (y := (⟨"com/example/fiducia/fiducia/model/IdentificationTypeCheckDigitPinLaw", "term", "([CIII)I"⟩ : MethodName)) hown (mvT hZ (hw _ (List.mem_of_getElem? (i := 39) rfl))) (mvT hZ (hw _ (List.mem_of_getElem? (i := 40) rfl))) (mvT hZ (hw _ (List.mem_of_getElem? (i := 7) rfl))) (mvT hZ (hw _ (List.mem_of_getElem? (i := 41) rfl))) (by decide) (backOf (W := 1) (rm8 l Z a0 hw [] b115 (10 : Int32) ps hv k115 ([c0, c1, c2, c3, c4, c5, c6, c7, c8, c9, c10, c11, c12, c13] : List Int32) 10 pn hn T275.heap n0 f276 f281 rfl hp (by decide) (by decide) hps3 hpn hv4 hhn) hZ (hw _ (List.mem_of_getElem? (i := 41) rfl)) (hw _ (List.mem_of_getElem? (i := 7) rfl)) (by decide) (by decide)) (g := (mkF m 338 #[.val (.long q1), .second, .val (.long q2), .second, .val (.int p3), .val (.int p4), .val (.int kd), .val (.ref ta), .val (.int hv), .val (.int ps), .val (.ref b115), .val (.ref b263), .unset, .unset, .unset] [(.int hv), (.int ps), (.int (10 : Int32)), (.ref b115), (.int (((((((((t0 + t1) + t2) + t3) + t4) + t5) + t6) + t7) + t8) + t9))])) rfl (by rw [hml]; rfl) (argsL := [(.ref b115), (.int (10 : Int32)), (.int ps), (.int hv)]) (rest := [(.int (((((((((t0 + t1) + t2) + t3) + t4) + t5) + t6) + t7) + t8) + t9))]) (lenOf pd_3 rfl) rfl (by show 2 * 0 + _ ≤ _; exact Nat.le_of_eq rfl) (hb hby at_338) (fun _ _ => ⟨rfl, e312, (by decide : 3 + 0 ≤ _), (by decide : 32 + 0 ≤ _)⟩)
  dsimp only [Pt.U, Pt.locs, Pt.cells, Pt.slots] at X315 l315 y315 z315 st315 hQ315
  obtain rfl : k315 = 3 := y315
  obtain rfl : n315 = 32 := z315
  obtain ⟨t10, rfl, ht10, Nq315, e315⟩ := hQ315
  have N315 : Fr n0 L315 := by rw [l315]; exact Fr.app N312 Nq315
  have K316 : ∀ t, Steps p.tables e below (T315.setTop (mkF m 341 #[.val (.long q1), .second, .val (.long q2), .second, .val (.int p3), .val (.int p4), .val (.int kd), .val (.ref ta), .val (.int hv), .val (.int ps), .val (.ref b115), .val (.ref b263), .unset, .unset, .unset] [(.int t10), (.int (((((((((t0 + t1) + t2) + t3) + t4) + t5) + t6) + t7) + t8) + t9))])) t → Steps p.tables e below (s₁.setTop (entryFrame m #[(.long q1), (.long q2), (.int p3), (.int p4)] maxLocals)) t := fun t kt => K314 t (st315 t kt)
  have K317 : ∀ t, Steps p.tables e below (T315.setTop (mkF m 350 #[.val (.long q1), .second, .val (.long q2), .second, .val (.int p3), .val (.int p4), .val (.int kd), .val (.ref ta), .val (.int hv), .val (.int ps), .val (.ref b115), .val (.ref b263), .unset, .unset, .unset] [(.int hv), (.int ps), (.int (11 : Int32)), (.ref b115), (.int ((((((((((t0 + t1) + t2) + t3) + t4) + t5) + t6) + t7) + t8) + t9) + t10))])) t → Steps p.tables e below (s₁.setTop (entryFrame m #[(.long q1), (.long q2), (.int p3), (.int p4)] maxLocals)) t := by
    intro t kt
    refine K316 t ?_
    show Steps p.tables e below (T315.setTop (mkF m 341 #[.val (.long q1), .second, .val (.long q2), .second, .val (.int p3), .val (.int p4), .val (.int kd), .val (.ref ta), .val (.int hv), .val (.int ps), .val (.ref b115), .val (.ref b263), .unset, .unset, .unset] [(.int t10), (.int (((((((((t0 + t1) + t2) + t3) + t4) + t5) + t6) + t7) + t8) + t9))])) _
    refine XS.iadd X315.here hx rfl (hb hby at_341) rfl ?_
    show Steps p.tables e below (T315.setTop (mkF m 342 #[.val (.long q1), .second, .val (.long q2), .second, .val (.int p3), .val (.int p4), .val (.int kd), .val (.ref ta), .val (.int hv), .val (.int ps), .val (.ref b115), .val (.ref b263), .unset, .unset, .unset] [(.int ((((((((((t0 + t1) + t2) + t3) + t4) + t5) + t6) + t7) + t8) + t9) + t10))])) _
    refine XS.aload X315.here hx rfl (hb hby at_342) rfl rfl ?_
    show Steps p.tables e below (T315.setTop (mkF m 344 #[.val (.long q1), .second, .val (.long q2), .second, .val (.int p3), .val (.int p4), .val (.int kd), .val (.ref ta), .val (.int hv), .val (.int ps), .val (.ref b115), .val (.ref b263), .unset, .unset, .unset] [(.ref b115), (.int ((((((((((t0 + t1) + t2) + t3) + t4) + t5) + t6) + t7) + t8) + t9) + t10))])) _
    refine XS.bipush X315.here hx rfl (hb hby at_344) ?_
    show Steps p.tables e below (T315.setTop (mkF m 346 #[.val (.long q1), .second, .val (.long q2), .second, .val (.int p3), .val (.int p4), .val (.int kd), .val (.ref ta), .val (.int hv), .val (.int ps), .val (.ref b115), .val (.ref b263), .unset, .unset, .unset] [(.int (11 : Int32)), (.ref b115), (.int ((((((((((t0 + t1) + t2) + t3) + t4) + t5) + t6) + t7) + t8) + t9) + t10))])) _
    refine XS.iload X315.here hx rfl (hb hby at_346) rfl ?_
    show Steps p.tables e below (T315.setTop (mkF m 348 #[.val (.long q1), .second, .val (.long q2), .second, .val (.int p3), .val (.int p4), .val (.int kd), .val (.ref ta), .val (.int hv), .val (.int ps), .val (.ref b115), .val (.ref b263), .unset, .unset, .unset] [(.int ps), (.int (11 : Int32)), (.ref b115), (.int ((((((((((t0 + t1) + t2) + t3) + t4) + t5) + t6) + t7) + t8) + t9) + t10))])) _
    refine XS.iload X315.here hx rfl (hb hby at_348) rfl ?_
    exact kt
  obtain ⟨_, _, ⟨T318, L318, k318, n318⟩, -, X318, ⟨Lc318, hQ318, l318, y318, z318⟩, st318⟩ := Jvm.LawKit.callS X315 hx (y := (⟨"com/example/fiducia/fiducia/model/IdentificationTypeCheckDigitPinLaw", "term", "([CIII)I"⟩ : MethodName)) hown (mvT hZ (hw _ (List.mem_of_getElem? (i := 39) rfl))) (mvT hZ (hw _ (List.mem_of_getElem? (i := 40) rfl))) (mvT hZ (hw _ (List.mem_of_getElem? (i := 7) rfl))) (mvT hZ (hw _ (List.mem_of_getElem? (i := 41) rfl))) (by decide) (backOf (W := 1) (rm8 l Z a0 hw [] b115 (11 : Int32) ps hv k115 ([c0, c1, c2, c3, c4, c5, c6, c7, c8, c9, c10, c11, c12, c13] : List Int32) 11 pn hn T275.heap n0 f276 f281 rfl hp (by decide) (by decide) hps3 hpn hv4 hhn) hZ (hw _ (List.mem_of_getElem? (i := 41) rfl)) (hw _ (List.mem_of_getElem? (i := 7) rfl)) (by decide) (by decide)) (g := (mkF m 350 #[.val (.long q1), .second, .val (.long q2), .second, .val (.int p3), .val (.int p4), .val (.int kd), .val (.ref ta), .val (.int hv), .val (.int ps), .val (.ref b115), .val (.ref b263), .unset, .unset, .unset] [(.int hv), (.int ps), (.int (11 : Int32)), (.ref b115), (.int ((((((((((t0 + t1) + t2) + t3) + t4) + t5) + t6) + t7) + t8) + t9) + t10))])) rfl (by rw [hml]; rfl) (argsL := [(.ref b115), (.int (11 : Int32)), (.int ps), (.int hv)]) (rest := [(.int ((((((((((t0 + t1) + t2) + t3) + t4) + t5) + t6) + t7) + t8) + t9) + t10))]) (lenOf pd_3 rfl) rfl (by show 2 * 0 + _ ≤ _; exact Nat.le_of_eq rfl) (hb hby at_350) (fun _ _ => ⟨rfl, e315, (by decide : 3 + 0 ≤ _), (by decide : 32 + 0 ≤ _)⟩)
  dsimp only [Pt.U, Pt.locs, Pt.cells, Pt.slots] at X318 l318 y318 z318 st318 hQ318
  obtain rfl : k318 = 3 := y318
  obtain rfl : n318 = 32 := z318
  obtain ⟨t11, rfl, ht11, Nq318, e318⟩ := hQ318
  have N318 : Fr n0 L318 := by rw [l318]; exact Fr.app N315 Nq318
  have K319 : ∀ t, Steps p.tables e below (T318.setTop (mkF m 353 #[.val (.long q1), .second, .val (.long q2), .second, .val (.int p3), .val (.int p4), .val (.int kd), .val (.ref ta), .val (.int hv), .val (.int ps), .val (.ref b115), .val (.ref b263), .unset, .unset, .unset] [(.int t11), (.int ((((((((((t0 + t1) + t2) + t3) + t4) + t5) + t6) + t7) + t8) + t9) + t10))])) t → Steps p.tables e below (s₁.setTop (entryFrame m #[(.long q1), (.long q2), (.int p3), (.int p4)] maxLocals)) t := fun t kt => K317 t (st318 t kt)
  have K320 : ∀ t, Steps p.tables e below (T318.setTop (mkF m 362 #[.val (.long q1), .second, .val (.long q2), .second, .val (.int p3), .val (.int p4), .val (.int kd), .val (.ref ta), .val (.int hv), .val (.int ps), .val (.ref b115), .val (.ref b263), .unset, .unset, .unset] [(.int hv), (.int ps), (.int (12 : Int32)), (.ref b115), (.int (((((((((((t0 + t1) + t2) + t3) + t4) + t5) + t6) + t7) + t8) + t9) + t10) + t11))])) t → Steps p.tables e below (s₁.setTop (entryFrame m #[(.long q1), (.long q2), (.int p3), (.int p4)] maxLocals)) t := by
    intro t kt
    refine K319 t ?_
    show Steps p.tables e below (T318.setTop (mkF m 353 #[.val (.long q1), .second, .val (.long q2), .second, .val (.int p3), .val (.int p4), .val (.int kd), .val (.ref ta), .val (.int hv), .val (.int ps), .val (.ref b115), .val (.ref b263), .unset, .unset, .unset] [(.int t11), (.int ((((((((((t0 + t1) + t2) + t3) + t4) + t5) + t6) + t7) + t8) + t9) + t10))])) _
    refine XS.iadd X318.here hx rfl (hb hby at_353) rfl ?_
    show Steps p.tables e below (T318.setTop (mkF m 354 #[.val (.long q1), .second, .val (.long q2), .second, .val (.int p3), .val (.int p4), .val (.int kd), .val (.ref ta), .val (.int hv), .val (.int ps), .val (.ref b115), .val (.ref b263), .unset, .unset, .unset] [(.int (((((((((((t0 + t1) + t2) + t3) + t4) + t5) + t6) + t7) + t8) + t9) + t10) + t11))])) _
    refine XS.aload X318.here hx rfl (hb hby at_354) rfl rfl ?_
    show Steps p.tables e below (T318.setTop (mkF m 356 #[.val (.long q1), .second, .val (.long q2), .second, .val (.int p3), .val (.int p4), .val (.int kd), .val (.ref ta), .val (.int hv), .val (.int ps), .val (.ref b115), .val (.ref b263), .unset, .unset, .unset] [(.ref b115), (.int (((((((((((t0 + t1) + t2) + t3) + t4) + t5) + t6) + t7) + t8) + t9) + t10) + t11))])) _
    refine XS.bipush X318.here hx rfl (hb hby at_356) ?_
    show Steps p.tables e below (T318.setTop (mkF m 358 #[.val (.long q1), .second, .val (.long q2), .second, .val (.int p3), .val (.int p4), .val (.int kd), .val (.ref ta), .val (.int hv), .val (.int ps), .val (.ref b115), .val (.ref b263), .unset, .unset, .unset] [(.int (12 : Int32)), (.ref b115), (.int (((((((((((t0 + t1) + t2) + t3) + t4) + t5) + t6) + t7) + t8) + t9) + t10) + t11))])) _
    refine XS.iload X318.here hx rfl (hb hby at_358) rfl ?_
    show Steps p.tables e below (T318.setTop (mkF m 360 #[.val (.long q1), .second, .val (.long q2), .second, .val (.int p3), .val (.int p4), .val (.int kd), .val (.ref ta), .val (.int hv), .val (.int ps), .val (.ref b115), .val (.ref b263), .unset, .unset, .unset] [(.int ps), (.int (12 : Int32)), (.ref b115), (.int (((((((((((t0 + t1) + t2) + t3) + t4) + t5) + t6) + t7) + t8) + t9) + t10) + t11))])) _
    refine XS.iload X318.here hx rfl (hb hby at_360) rfl ?_
    exact kt
  obtain ⟨_, _, ⟨T321, L321, k321, n321⟩, -, X321, ⟨Lc321, hQ321, l321, y321, z321⟩, st321⟩ := Jvm.LawKit.callS X318 hx (y := (⟨"com/example/fiducia/fiducia/model/IdentificationTypeCheckDigitPinLaw", "term", "([CIII)I"⟩ : MethodName)) hown (mvT hZ (hw _ (List.mem_of_getElem? (i := 39) rfl))) (mvT hZ (hw _ (List.mem_of_getElem? (i := 40) rfl))) (mvT hZ (hw _ (List.mem_of_getElem? (i := 7) rfl))) (mvT hZ (hw _ (List.mem_of_getElem? (i := 41) rfl))) (by decide) (backOf (W := 1) (rm8 l Z a0 hw [] b115 (12 : Int32) ps hv k115 ([c0, c1, c2, c3, c4, c5, c6, c7, c8, c9, c10, c11, c12, c13] : List Int32) 12 pn hn T275.heap n0 f276 f281 rfl hp (by decide) (by decide) hps3 hpn hv4 hhn) hZ (hw _ (List.mem_of_getElem? (i := 41) rfl)) (hw _ (List.mem_of_getElem? (i := 7) rfl)) (by decide) (by decide)) (g := (mkF m 362 #[.val (.long q1), .second, .val (.long q2), .second, .val (.int p3), .val (.int p4), .val (.int kd), .val (.ref ta), .val (.int hv), .val (.int ps), .val (.ref b115), .val (.ref b263), .unset, .unset, .unset] [(.int hv), (.int ps), (.int (12 : Int32)), (.ref b115), (.int (((((((((((t0 + t1) + t2) + t3) + t4) + t5) + t6) + t7) + t8) + t9) + t10) + t11))])) rfl (by rw [hml]; rfl) (argsL := [(.ref b115), (.int (12 : Int32)), (.int ps), (.int hv)]) (rest := [(.int (((((((((((t0 + t1) + t2) + t3) + t4) + t5) + t6) + t7) + t8) + t9) + t10) + t11))]) (lenOf pd_3 rfl) rfl (by show 2 * 0 + _ ≤ _; exact Nat.le_of_eq rfl) (hb hby at_362) (fun _ _ => ⟨rfl, e318, (by decide : 3 + 0 ≤ _), (by decide : 32 + 0 ≤ _)⟩)
  dsimp only [Pt.U, Pt.locs, Pt.cells, Pt.slots] at X321 l321 y321 z321 st321 hQ321
  obtain rfl : k321 = 3 := y321
  obtain rfl : n321 = 32 := z321
  obtain ⟨t12, rfl, ht12, Nq321, e321⟩ := hQ321
  have N321 : Fr n0 L321 := by rw [l321]; exact Fr.app N318 Nq321
  have K322 : ∀ t, Steps p.tables e below (T321.setTop (mkF m 365 #[.val (.long q1), .second, .val (.long q2), .second, .val (.int p3), .val (.int p4), .val (.int kd), .val (.ref ta), .val (.int hv), .val (.int ps), .val (.ref b115), .val (.ref b263), .unset, .unset, .unset] [(.int t12), (.int (((((((((((t0 + t1) + t2) + t3) + t4) + t5) + t6) + t7) + t8) + t9) + t10) + t11))])) t → Steps p.tables e below (s₁.setTop (entryFrame m #[(.long q1), (.long q2), (.int p3), (.int p4)] maxLocals)) t := fun t kt => K320 t (st321 t kt)
  have K323 : ∀ t, Steps p.tables e below (T321.setTop (mkF m 374 #[.val (.long q1), .second, .val (.long q2), .second, .val (.int p3), .val (.int p4), .val (.int kd), .val (.ref ta), .val (.int hv), .val (.int ps), .val (.ref b115), .val (.ref b263), .unset, .unset, .unset] [(.int hv), (.int ps), (.int (13 : Int32)), (.ref b115), (.int ((((((((((((t0 + t1) + t2) + t3) + t4) + t5) + t6) + t7) + t8) + t9) + t10) + t11) + t12))])) t → Steps p.tables e below (s₁.setTop (entryFrame m #[(.long q1), (.long q2), (.int p3), (.int p4)] maxLocals)) t := by
    intro t kt
    refine K322 t ?_
    show Steps p.tables e below (T321.setTop (mkF m 365 #[.val (.long q1), .second, .val (.long q2), .second, .val (.int p3), .val (.int p4), .val (.int kd), .val (.ref ta), .val (.int hv), .val (.int ps), .val (.ref b115), .val (.ref b263), .unset, .unset, .unset] [(.int t12), (.int (((((((((((t0 + t1) + t2) + t3) + t4) + t5) + t6) + t7) + t8) + t9) + t10) + t11))])) _
    refine XS.iadd X321.here hx rfl (hb hby at_365) rfl ?_
    show Steps p.tables e below (T321.setTop (mkF m 366 #[.val (.long q1), .second, .val (.long q2), .second, .val (.int p3), .val (.int p4), .val (.int kd), .val (.ref ta), .val (.int hv), .val (.int ps), .val (.ref b115), .val (.ref b263), .unset, .unset, .unset] [(.int ((((((((((((t0 + t1) + t2) + t3) + t4) + t5) + t6) + t7) + t8) + t9) + t10) + t11) + t12))])) _
    refine XS.aload X321.here hx rfl (hb hby at_366) rfl rfl ?_
    show Steps p.tables e below (T321.setTop (mkF m 368 #[.val (.long q1), .second, .val (.long q2), .second, .val (.int p3), .val (.int p4), .val (.int kd), .val (.ref ta), .val (.int hv), .val (.int ps), .val (.ref b115), .val (.ref b263), .unset, .unset, .unset] [(.ref b115), (.int ((((((((((((t0 + t1) + t2) + t3) + t4) + t5) + t6) + t7) + t8) + t9) + t10) + t11) + t12))])) _
    refine XS.bipush X321.here hx rfl (hb hby at_368) ?_
    show Steps p.tables e below (T321.setTop (mkF m 370 #[.val (.long q1), .second, .val (.long q2), .second, .val (.int p3), .val (.int p4), .val (.int kd), .val (.ref ta), .val (.int hv), .val (.int ps), .val (.ref b115), .val (.ref b263), .unset, .unset, .unset] [(.int (13 : Int32)), (.ref b115), (.int ((((((((((((t0 + t1) + t2) + t3) + t4) + t5) + t6) + t7) + t8) + t9) + t10) + t11) + t12))])) _
    refine XS.iload X321.here hx rfl (hb hby at_370) rfl ?_
    show Steps p.tables e below (T321.setTop (mkF m 372 #[.val (.long q1), .second, .val (.long q2), .second, .val (.int p3), .val (.int p4), .val (.int kd), .val (.ref ta), .val (.int hv), .val (.int ps), .val (.ref b115), .val (.ref b263), .unset, .unset, .unset] [(.int ps), (.int (13 : Int32)), (.ref b115), (.int ((((((((((((t0 + t1) + t2) + t3) + t4) + t5) + t6) + t7) + t8) + t9) + t10) + t11) + t12))])) _
    refine XS.iload X321.here hx rfl (hb hby at_372) rfl ?_
    exact kt
  obtain ⟨_, _, ⟨T324, L324, k324, n324⟩, -, X324, ⟨Lc324, hQ324, l324, y324, z324⟩, st324⟩ := Jvm.LawKit.callS X321 hx (y := (⟨"com/example/fiducia/fiducia/model/IdentificationTypeCheckDigitPinLaw", "term", "([CIII)I"⟩ : MethodName)) hown (mvT hZ (hw _ (List.mem_of_getElem? (i := 39) rfl))) (mvT hZ (hw _ (List.mem_of_getElem? (i := 40) rfl))) (mvT hZ (hw _ (List.mem_of_getElem? (i := 7) rfl))) (mvT hZ (hw _ (List.mem_of_getElem? (i := 41) rfl))) (by decide) (backOf (W := 1) (rm8 l Z a0 hw [] b115 (13 : Int32) ps hv k115 ([c0, c1, c2, c3, c4, c5, c6, c7, c8, c9, c10, c11, c12, c13] : List Int32) 13 pn hn T275.heap n0 f276 f281 rfl hp (by decide) (by decide) hps3 hpn hv4 hhn) hZ (hw _ (List.mem_of_getElem? (i := 41) rfl)) (hw _ (List.mem_of_getElem? (i := 7) rfl)) (by decide) (by decide)) (g := (mkF m 374 #[.val (.long q1), .second, .val (.long q2), .second, .val (.int p3), .val (.int p4), .val (.int kd), .val (.ref ta), .val (.int hv), .val (.int ps), .val (.ref b115), .val (.ref b263), .unset, .unset, .unset] [(.int hv), (.int ps), (.int (13 : Int32)), (.ref b115), (.int ((((((((((((t0 + t1) + t2) + t3) + t4) + t5) + t6) + t7) + t8) + t9) + t10) + t11) + t12))])) rfl (by rw [hml]; rfl) (argsL := [(.ref b115), (.int (13 : Int32)), (.int ps), (.int hv)]) (rest := [(.int ((((((((((((t0 + t1) + t2) + t3) + t4) + t5) + t6) + t7) + t8) + t9) + t10) + t11) + t12))]) (lenOf pd_3 rfl) rfl (by show 2 * 0 + _ ≤ _; exact Nat.le_of_eq rfl) (hb hby at_374) (fun _ _ => ⟨rfl, e321, (by decide : 3 + 0 ≤ _), (by decide : 32 + 0 ≤ _)⟩)
  dsimp only [Pt.U, Pt.locs, Pt.cells, Pt.slots] at X324 l324 y324 z324 st324 hQ324
  obtain rfl : k324 = 3 := y324
  obtain rfl : n324 = 32 := z324
  obtain ⟨t13, rfl, ht13, Nq324, e324⟩ := hQ324
  have N324 : Fr n0 L324 := by rw [l324]; exact Fr.app N321 Nq324
  have K325 : ∀ t, Steps p.tables e below (T324.setTop (mkF m 377 #[.val (.long q1), .second, .val (.long q2), .second, .val (.int p3), .val (.int p4), .val (.int kd), .val (.ref ta), .val (.int hv), .val (.int ps), .val (.ref b115), .val (.ref b263), .unset, .unset, .unset] [(.int t13), (.int ((((((((((((t0 + t1) + t2) + t3) + t4) + t5) + t6) + t7) + t8) + t9) + t10) + t11) + t12))])) t → Steps p.tables e below (s₁.setTop (entryFrame m #[(.long q1), (.long q2), (.int p3), (.int p4)] maxLocals)) t := fun t kt => K323 t (st324 t kt)
  have K326 : ∀ t, Steps p.tables e below (T324.setTop (mkF m 378 #[.val (.long q1), .second, .val (.long q2), .second, .val (.int p3), .val (.int p4), .val (.int kd), .val (.ref ta), .val (.int hv), .val (.int ps), .val (.ref b115), .val (.ref b263), .unset, .unset, .unset] [(.int (((((((((((((t0 + t1) + t2) + t3) + t4) + t5) + t6) + t7) + t8) + t9) + t10) + t11) + t12) + t13))])) t → Steps p.tables e below (s₁.setTop (entryFrame m #[(.long q1), (.long q2), (.int p3), (.int p4)] maxLocals)) t := by
    intro t kt
    refine K325 t ?_
    show Steps p.tables e below (T324.setTop (mkF m 377 #[.val (.long q1), .second, .val (.long q2), .second, .val (.int p3), .val (.int p4), .val (.int kd), .val (.ref ta), .val (.int hv), .val (.int ps), .val (.ref b115), .val (.ref b263), .unset, .unset, .unset] [(.int t13), (.int ((((((((((((t0 + t1) + t2) + t3) + t4) + t5) + t6) + t7) + t8) + t9) + t10) + t11) + t12))])) _
    refine XS.iadd X324.here hx rfl (hb hby at_377) rfl ?_
    exact kt
  obtain ⟨sm, hsm⟩ : ∃ z : Int32, z = (((((((((((((t0 + t1) + t2) + t3) + t4) + t5) + t6) + t7) + t8) + t9) + t10) + t11) + t12) + t13) := ⟨_, rfl⟩
  have K327 : ∀ t, Steps p.tables e below (T324.setTop (mkF m 378 #[.val (.long q1), .second, .val (.long q2), .second, .val (.int p3), .val (.int p4), .val (.int kd), .val (.ref ta), .val (.int hv), .val (.int ps), .val (.ref b115), .val (.ref b263), .unset, .unset, .unset] [(.int sm)])) t → Steps p.tables e below (s₁.setTop (entryFrame m #[(.long q1), (.long q2), (.int p3), (.int p4)] maxLocals)) t := by
    rw [hsm]; exact K326
  have hsum := own_sum rfl hp hpn hhn hsm ht0 ht1 ht2 ht3 ht4 ht5 ht6 ht7 ht8 ht9 ht10 ht11 ht12 ht13
  have K328 : ∀ t, Steps p.tables e below (T324.setTop (mkF m 385 #[.val (.long q1), .second, .val (.long q2), .second, .val (.int p3), .val (.int p4), .val (.int kd), .val (.ref ta), .val (.int hv), .val (.int ps), .val (.ref b115), .val (.ref b263), .val (.int sm), .unset, .unset] [(.int (sm % (11 : Int32)))])) t → Steps p.tables e below (s₁.setTop (entryFrame m #[(.long q1), (.long q2), (.int p3), (.int p4)] maxLocals)) t := by
    intro t kt
    refine K327 t ?_
    show Steps p.tables e below (T324.setTop (mkF m 378 #[.val (.long q1), .second, .val (.long q2), .second, .val (.int p3), .val (.int p4), .val (.int kd), .val (.ref ta), .val (.int hv), .val (.int ps), .val (.ref b115), .val (.ref b263), .unset, .unset, .unset] [(.int sm)])) _
    refine XS.istore X324.here hx rfl (hb hby at_378) rfl (l' := #[.val (.long q1), .second, .val (.long q2), .second, .val (.int p3), .val (.int p4), .val (.int kd), .val (.ref ta), .val (.int hv), .val (.int ps), .val (.ref b115), .val (.ref b263), .val (.int sm), .unset, .unset]) rfl ?_
    show Steps p.tables e below (T324.setTop (mkF m 380 #[.val (.long q1), .second, .val (.long q2), .second, .val (.int p3), .val (.int p4), .val (.int kd), .val (.ref ta), .val (.int hv), .val (.int ps), .val (.ref b115), .val (.ref b263), .val (.int sm), .unset, .unset] [])) _
    refine XS.iload X324.here hx rfl (hb hby at_380) rfl ?_
    show Steps p.tables e below (T324.setTop (mkF m 382 #[.val (.long q1), .second, .val (.long q2), .second, .val (.int p3), .val (.int p4), .val (.int kd), .val (.ref ta), .val (.int hv), .val (.int ps), .val (.ref b115), .val (.ref b263), .val (.int sm), .unset, .unset] [(.int sm)])) _
    refine XS.bipush X324.here hx rfl (hb hby at_382) ?_
    show Steps p.tables e below (T324.setTop (mkF m 384 #[.val (.long q1), .second, .val (.long q2), .second, .val (.int p3), .val (.int p4), .val (.int kd), .val (.ref ta), .val (.int hv), .val (.int ps), .val (.ref b115), .val (.ref b263), .val (.int sm), .unset, .unset] [(.int (11 : Int32)), (.int sm)])) _
    refine iremM X324 hx rfl (hb hby at_384) rfl (by decide) ?_
    exact kt
  obtain ⟨r9, hr9⟩ : ∃ z : Int32, z = (sm % (11 : Int32)) := ⟨_, rfl⟩
  have K329 : ∀ t, Steps p.tables e below (T324.setTop (mkF m 385 #[.val (.long q1), .second, .val (.long q2), .second, .val (.int p3), .val (.int p4), .val (.int kd), .val (.ref ta), .val (.int hv), .val (.int ps), .val (.ref b115), .val (.ref b263), .val (.int sm), .unset, .unset] [(.int r9)])) t → Steps p.tables e below (s₁.setTop (entryFrame m #[(.long q1), (.long q2), (.int p3), (.int p4)] maxLocals)) t := by
    rw [hr9]; exact K328
  have K330 : ∀ t, Steps p.tables e below (T324.setTop (mkF m 390 #[.val (.long q1), .second, .val (.long q2), .second, .val (.int p3), .val (.int p4), .val (.int kd), .val (.ref ta), .val (.int hv), .val (.int ps), .val (.ref b115), .val (.ref b263), .val (.int sm), .val (.int r9), .unset] [(.int (2 : Int32)), (.int r9)])) t → Steps p.tables e below (s₁.setTop (entryFrame m #[(.long q1), (.long q2), (.int p3), (.int p4)] maxLocals)) t := by
    intro t kt
    refine K329 t ?_
    show Steps p.tables e below (T324.setTop (mkF m 385 #[.val (.long q1), .second, .val (.long q2), .second, .val (.int p3), .val (.int p4), .val (.int kd), .val (.ref ta), .val (.int hv), .val (.int ps), .val (.ref b115), .val (.ref b263), .val (.int sm), .unset, .unset] [(.int r9)])) _
    refine XS.istore X324.here hx rfl (hb hby at_385) rfl (l' := #[.val (.long q1), .second, .val (.long q2), .second, .val (.int p3), .val (.int p4), .val (.int kd), .val (.ref ta), .val (.int hv), .val (.int ps), .val (.ref b115), .val (.ref b263), .val (.int sm), .val (.int r9), .unset]) rfl ?_
    show Steps p.tables e below (T324.setTop (mkF m 387 #[.val (.long q1), .second, .val (.long q2), .second, .val (.int p3), .val (.int p4), .val (.int kd), .val (.ref ta), .val (.int hv), .val (.int ps), .val (.ref b115), .val (.ref b263), .val (.int sm), .val (.int r9), .unset] [])) _
    refine XS.iload X324.here hx rfl (hb hby at_387) rfl ?_
    show Steps p.tables e below (T324.setTop (mkF m 389 #[.val (.long q1), .second, .val (.long q2), .second, .val (.int p3), .val (.int p4), .val (.int kd), .val (.ref ta), .val (.int hv), .val (.int ps), .val (.ref b115), .val (.ref b263), .val (.int sm), .val (.int r9), .unset] [(.int r9)])) _
    refine XS.iconst X324.here hx rfl (hb hby at_389) ?_
    exact kt
  by_cases hc : r9 < (2 : Int32)
  · have K331 : ∀ t, Steps p.tables e below (T324.setTop (mkF m 410 #[.val (.long q1), .second, .val (.long q2), .second, .val (.int p3), .val (.int p4), .val (.int kd), .val (.ref ta), .val (.int hv), .val (.int ps), .val (.ref b115), .val (.ref b263), .val (.int sm), .val (.int r9), .val (.int (0 : Int32))] [(.int ps), (.ref b263), (.ref ta)])) t → Steps p.tables e below (s₁.setTop (entryFrame m #[(.long q1), (.long q2), (.int p3), (.int p4)] maxLocals)) t := by
      intro t kt
      refine K330 t ?_
      show Steps p.tables e below (T324.setTop (mkF m 390 #[.val (.long q1), .second, .val (.long q2), .second, .val (.int p3), .val (.int p4), .val (.int kd), .val (.ref ta), .val (.int hv), .val (.int ps), .val (.ref b115), .val (.ref b263), .val (.int sm), .val (.int r9), .unset] [(.int (2 : Int32)), (.int r9)])) _
      refine XS.icmpNo X324.here hx rfl (hb hby at_390) rfl (tlt (hc : r9 < (2 : Int32))).2.1 ?_
      show Steps p.tables e below (T324.setTop (mkF m 393 #[.val (.long q1), .second, .val (.long q2), .second, .val (.int p3), .val (.int p4), .val (.int kd), .val (.ref ta), .val (.int hv), .val (.int ps), .val (.ref b115), .val (.ref b263), .val (.int sm), .val (.int r9), .unset] [])) _
      refine XS.iconst X324.here hx rfl (hb hby at_393) ?_
      show Steps p.tables e below (T324.setTop (mkF m 394 #[.val (.long q1), .second, .val (.long q2), .second, .val (.int p3), .val (.int p4), .val (.int kd), .val (.ref ta), .val (.int hv), .val (.int ps), .val (.ref b115), .val (.ref b263), .val (.int sm), .val (.int r9), .unset] [(.int (0 : Int32))])) _
      refine XS.goto X324.here hx rfl (pc0 := 394) (pc' := 402) rfl (hb hby at_394) (by decide) (by decide) ?_
      show Steps p.tables e below (T324.setTop (mkF m 402 #[.val (.long q1), .second, .val (.long q2), .second, .val (.int p3), .val (.int p4), .val (.int kd), .val (.ref ta), .val (.int hv), .val (.int ps), .val (.ref b115), .val (.ref b263), .val (.int sm), .val (.int r9), .unset] [(.int (0 : Int32))])) _
      refine XS.istore X324.here hx rfl (hb hby at_402) rfl (l' := #[.val (.long q1), .second, .val (.long q2), .second, .val (.int p3), .val (.int p4), .val (.int kd), .val (.ref ta), .val (.int hv), .val (.int ps), .val (.ref b115), .val (.ref b263), .val (.int sm), .val (.int r9), .val (.int (0 : Int32))]) rfl ?_
      show Steps p.tables e below (T324.setTop (mkF m 404 #[.val (.long q1), .second, .val (.long q2), .second, .val (.int p3), .val (.int p4), .val (.int kd), .val (.ref ta), .val (.int hv), .val (.int ps), .val (.ref b115), .val (.ref b263), .val (.int sm), .val (.int r9), .val (.int (0 : Int32))] [])) _
      refine XS.aload X324.here hx rfl (hb hby at_404) rfl rfl ?_
      show Steps p.tables e below (T324.setTop (mkF m 406 #[.val (.long q1), .second, .val (.long q2), .second, .val (.int p3), .val (.int p4), .val (.int kd), .val (.ref ta), .val (.int hv), .val (.int ps), .val (.ref b115), .val (.ref b263), .val (.int sm), .val (.int r9), .val (.int (0 : Int32))] [(.ref ta)])) _
      refine XS.aload X324.here hx rfl (hb hby at_406) rfl rfl ?_
      show Steps p.tables e below (T324.setTop (mkF m 408 #[.val (.long q1), .second, .val (.long q2), .second, .val (.int p3), .val (.int p4), .val (.int kd), .val (.ref ta), .val (.int hv), .val (.int ps), .val (.ref b115), .val (.ref b263), .val (.int sm), .val (.int r9), .val (.int (0 : Int32))] [(.ref b263), (.ref ta)])) _
      refine XS.iload X324.here hx rfl (hb hby at_408) rfl ?_
      exact kt
    obtain ⟨cq332, kq332, q332a, q332b, q332c⟩ := isOf hZ e324 f279
    obtain ⟨_, _, ⟨T332, L332, k332, n332⟩, -, X332, ⟨Lc332, hQ332, l332, y332, z332⟩, st332⟩ := X324.virtualBack hx (y := (⟨"com/example/fiducia/fiducia/model/IdentificationType", "checkDigit", "(Ljava/lang/String;I)I"⟩ : MethodName)) (z := (⟨"com/example/fiducia/fiducia/model/IdentificationType", "checkDigit", "(Ljava/lang/String;I)I"⟩ : MethodName)) hown (mvT hZ (hw _ (List.mem_of_getElem? (i := 42) rfl))) (mvT hZ (hw _ (List.mem_of_getElem? (i := 43) rfl))) (notFace_of_selects (args := #[]) (mvT hZ (hw _ (List.mem_of_getElem? (i := 45) rfl)))) (mvT hZ (hw _ (List.mem_of_getElem? (i := 45) rfl))) (mvT hZ (hw _ (List.mem_of_getElem? (i := 44) rfl))) (by decide) (backOf (W := 0) (rm9 l Z a0 hw [] ta b263 ps hv G1 G3 t275 k275b ([c0, c1, c2, c3, c4, c5, c6, c7, c8, c9, c10, c11, c12, c13] : List Int32) pn hn T275.heap n0 f276 f280 f282 g275V g275C g275A rfl hp (O2.ext f278.2) P5 (O4.ext f278.2) rG3 hps3 hpn hv4 hhn) hZ (hw _ (List.mem_of_getElem? (i := 46) rfl)) (hw _ (List.mem_of_getElem? (i := 1) rfl)) (by decide) (by decide)) q332a q332c (g := (mkF m 410 #[.val (.long q1), .second, .val (.long q2), .second, .val (.int p3), .val (.int p4), .val (.int kd), .val (.ref ta), .val (.int hv), .val (.int ps), .val (.ref b115), .val (.ref b263), .val (.int sm), .val (.int r9), .val (.int (0 : Int32))] [(.int ps), (.ref b263), (.ref ta)])) rfl (by rw [hml]; rfl) (Steps.refl _) (argsL := [(.ref b263), (.int ps)]) (rest := []) (lenOf pd_4 rfl) rfl (by show 2 * 0 + _ ≤ _; exact Nat.le_of_eq rfl) (hb hby at_410) (fun _ _ => ⟨rfl, e324, (by decide : 3 + 0 ≤ _), (by decide : 32 + 0 ≤ _)⟩)
    dsimp only [Pt.U, Pt.locs, Pt.cells, Pt.slots] at X332 l332 y332 z332 st332 hQ332
    obtain rfl : k332 = 3 := y332
    obtain rfl : n332 = 32 := z332
    obtain ⟨S9, hS9, rfl, Nq332, e332⟩ := hQ332
    have N332 : Fr n0 L332 := by rw [l332]; exact Fr.app N324 Nq332
    have K333 : ∀ t, Steps p.tables e below (T332.setTop (mkF m 413 #[.val (.long q1), .second, .val (.long q2), .second, .val (.int p3), .val (.int p4), .val (.int kd), .val (.ref ta), .val (.int hv), .val (.int ps), .val (.ref b115), .val (.ref b263), .val (.int sm), .val (.int r9), .val (.int (0 : Int32))] [(.int (CD S9))])) t → Steps p.tables e below (s₁.setTop (entryFrame m #[(.long q1), (.long q2), (.int p3), (.int p4)] maxLocals)) t := fun t kt => K331 t (st332.trans kt)
    have K334 : ∀ t, Steps p.tables e below (T332.setTop (mkF m 423 #[.val (.long q1), .second, .val (.long q2), .second, .val (.int p3), .val (.int p4), .val (.int kd), .val (.ref ta), .val (.int hv), .val (.int ps), .val (.ref b115), .val (.ref b263), .val (.int sm), .val (.int r9), .val (.int (0 : Int32))] [(.int (1 : Int32))])) t → Steps p.tables e below (s₁.setTop (entryFrame m #[(.long q1), (.long q2), (.int p3), (.int p4)] maxLocals)) t := by
      intro t kt
      refine K333 t ?_
      show Steps p.tables e below (T332.setTop (mkF m 413 #[.val (.long q1), .second, .val (.long q2), .second, .val (.int p3), .val (.int p4), .val (.int kd), .val (.ref ta), .val (.int hv), .val (.int ps), .val (.ref b115), .val (.ref b263), .val (.int sm), .val (.int r9), .val (.int (0 : Int32))] [(.int (CD S9))])) _
      refine XS.iload X332.here hx rfl (hb hby at_413) rfl ?_
      show Steps p.tables e below (T332.setTop (mkF m 415 #[.val (.long q1), .second, .val (.long q2), .second, .val (.int p3), .val (.int p4), .val (.int kd), .val (.ref ta), .val (.int hv), .val (.int ps), .val (.ref b115), .val (.ref b263), .val (.int sm), .val (.int r9), .val (.int (0 : Int32))] [(.int (0 : Int32)), (.int (CD S9))])) _
      refine XS.icmpNo X332.here hx rfl (hb hby at_415) rfl (teq (own_fin1 hsum hS9 hr9 hc : (CD S9) = (0 : Int32))).2 ?_
      show Steps p.tables e below (T332.setTop (mkF m 418 #[.val (.long q1), .second, .val (.long q2), .second, .val (.int p3), .val (.int p4), .val (.int kd), .val (.ref ta), .val (.int hv), .val (.int ps), .val (.ref b115), .val (.ref b263), .val (.int sm), .val (.int r9), .val (.int (0 : Int32))] [])) _
      refine XS.iconst X332.here hx rfl (hb hby at_418) ?_
      show Steps p.tables e below (T332.setTop (mkF m 419 #[.val (.long q1), .second, .val (.long q2), .second, .val (.int p3), .val (.int p4), .val (.int kd), .val (.ref ta), .val (.int hv), .val (.int ps), .val (.ref b115), .val (.ref b263), .val (.int sm), .val (.int r9), .val (.int (0 : Int32))] [(.int (1 : Int32))])) _
      refine XS.goto X332.here hx rfl (pc0 := 419) (pc' := 423) rfl (hb hby at_419) (by decide) (by decide) ?_
      exact kt
    obtain ⟨fs, hr, hrun, hended, hW, hsame⟩ := X332.leave (v := some (.int (1 : Int32))) (fun h => by rw [Bd.returns] at h; cases h) (hlocks := hlk)
    refine ⟨_, _, K334 _ ?_, hrun, hended, _, _, rfl, ?_, ⟨_, rfl⟩, hW, hsame.mono (by decide) (by decide)⟩
    · exact retN X332 hx (t := .boolean) Bd.returns (by simp) (hb hby at_423) hr
    · show Qrm0 q1 q2 p3 p4 G1 G3 aN aF h0 n0 _ T332.heap _
      rw [e332]
      exact ⟨rfl, N332⟩
  · have K335 : ∀ t, Steps p.tables e below (T324.setTop (mkF m 410 #[.val (.long q1), .second, .val (.long q2), .second, .val (.int p3), .val (.int p4), .val (.int kd), .val (.ref ta), .val (.int hv), .val (.int ps), .val (.ref b115), .val (.ref b263), .val (.int sm), .val (.int r9), .val (.int ((11 : Int32) - r9))] [(.int ps), (.ref b263), (.ref ta)])) t → Steps p.tables e below (s₁.setTop (entryFrame m #[(.long q1), (.long q2), (.int p3), (.int p4)] maxLocals)) t := by
      intro t kt
      refine K330 t ?_
      show Steps p.tables e below (T324.setTop (mkF m 390 #[.val (.long q1), .second, .val (.long q2), .second, .val (.int p3), .val (.int p4), .val (.int kd), .val (.ref ta), .val (.int hv), .val (.int ps), .val (.ref b115), .val (.ref b263), .val (.int sm), .val (.int r9), .unset] [(.int (2 : Int32)), (.int r9)])) _
      refine XS.icmpYes X324.here hx rfl (pc0 := 390) (pc' := 397) rfl (hb hby at_390) rfl (flt (hc : ¬ (r9 < (2 : Int32)))).2.1 (by decide) (by decide) ?_
      show Steps p.tables e below (T324.setTop (mkF m 397 #[.val (.long q1), .second, .val (.long q2), .second, .val (.int p3), .val (.int p4), .val (.int kd), .val (.ref ta), .val (.int hv), .val (.int ps), .val (.ref b115), .val (.ref b263), .val (.int sm), .val (.int r9), .unset] [])) _
      refine XS.bipush X324.here hx rfl (hb hby at_397) ?_
      show Steps p.tables e below (T324.setTop (mkF m 399 #[.val (.long q1), .second, .val (.long q2), .second, .val (.int p3), .val (.int p4), .val (.int kd), .val (.ref ta), .val (.int hv), .val (.int ps), .val (.ref b115), .val (.ref b263), .val (.int sm), .val (.int r9), .unset] [(.int (11 : Int32))])) _
      refine XS.iload X324.here hx rfl (hb hby at_399) rfl ?_
      show Steps p.tables e below (T324.setTop (mkF m 401 #[.val (.long q1), .second, .val (.long q2), .second, .val (.int p3), .val (.int p4), .val (.int kd), .val (.ref ta), .val (.int hv), .val (.int ps), .val (.ref b115), .val (.ref b263), .val (.int sm), .val (.int r9), .unset] [(.int r9), (.int (11 : Int32))])) _
      refine XS.isub X324.here hx rfl (hb hby at_401) rfl ?_
      show Steps p.tables e below (T324.setTop (mkF m 402 #[.val (.long q1), .second, .val (.long q2), .second, .val (.int p3), .val (.int p4), .val (.int kd), .val (.ref ta), .val (.int hv), .val (.int ps), .val (.ref b115), .val (.ref b263), .val (.int sm), .val (.int r9), .unset] [(.int ((11 : Int32) - r9))])) _
      refine XS.istore X324.here hx rfl (hb hby at_402) rfl (l' := #[.val (.long q1), .second, .val (.long q2), .second, .val (.int p3), .val (.int p4), .val (.int kd), .val (.ref ta), .val (.int hv), .val (.int ps), .val (.ref b115), .val (.ref b263), .val (.int sm), .val (.int r9), .val (.int ((11 : Int32) - r9))]) rfl ?_
      show Steps p.tables e below (T324.setTop (mkF m 404 #[.val (.long q1), .second, .val (.long q2), .second, .val (.int p3), .val (.int p4), .val (.int kd), .val (.ref ta), .val (.int hv), .val (.int ps), .val (.ref b115), .val (.ref b263), .val (.int sm), .val (.int r9), .val (.int ((11 : Int32) - r9))] [])) _
      refine XS.aload X324.here hx rfl (hb hby at_404) rfl rfl ?_
      show Steps p.tables e below (T324.setTop (mkF m 406 #[.val (.long q1), .second, .val (.long q2), .second, .val (.int p3), .val (.int p4), .val (.int kd), .val (.ref ta), .val (.int hv), .val (.int ps), .val (.ref b115), .val (.ref b263), .val (.int sm), .val (.int r9), .val (.int ((11 : Int32) - r9))] [(.ref ta)])) _
      refine XS.aload X324.here hx rfl (hb hby at_406) rfl rfl ?_
      show Steps p.tables e below (T324.setTop (mkF m 408 #[.val (.long q1), .second, .val (.long q2), .second, .val (.int p3), .val (.int p4), .val (.int kd), .val (.ref ta), .val (.int hv), .val (.int ps), .val (.ref b115), .val (.ref b263), .val (.int sm), .val (.int r9), .val (.int ((11 : Int32) - r9))] [(.ref b263), (.ref ta)])) _
      refine XS.iload X324.here hx rfl (hb hby at_408) rfl ?_
      exact kt
    obtain ⟨cq336, kq336, q336a, q336b, q336c⟩ := isOf hZ e324 f279
    obtain ⟨_, _, ⟨T336, L336, k336, n336⟩, -, X336, ⟨Lc336, hQ336, l336, y336, z336⟩, st336⟩ := X324.virtualBack hx (y := (⟨"com/example/fiducia/fiducia/model/IdentificationType", "checkDigit", "(Ljava/lang/String;I)I"⟩ : MethodName)) (z := (⟨"com/example/fiducia/fiducia/model/IdentificationType", "checkDigit", "(Ljava/lang/String;I)I"⟩ : MethodName)) hown (mvT hZ (hw _ (List.mem_of_getElem? (i := 42) rfl))) (mvT hZ (hw _ (List.mem_of_getElem? (i := 43) rfl))) (notFace_of_selects (args := #[]) (mvT hZ (hw _ (List.mem_of_getElem? (i := 45) rfl)))) (mvT hZ (hw _ (List.mem_of_getElem? (i := 45) rfl))) (mvT hZ (hw _ (List.mem_of_getElem? (i := 44) rfl))) (by decide) (backOf (W := 0) (rm9 l Z a0 hw [] ta b263 ps hv G1 G3 t275 k275b ([c0, c1, c2, c3, c4, c5, c6, c7, c8, c9, c10, c11, c12, c13] : List Int32) pn hn T275.heap n0 f276 f280 f282 g275V g275C g275A rfl hp (O2.ext f278.2) P5 (O4.ext f278.2) rG3 hps3 hpn hv4 hhn) hZ (hw _ (List.mem_of_getElem? (i := 46) rfl)) (hw _ (List.mem_of_getElem? (i := 1) rfl)) (by decide) (by decide)) q336a q336c (g := (mkF m 410 #[.val (.long q1), .second, .val (.long q2), .second, .val (.int p3), .val (.int p4), .val (.int kd), .val (.ref ta), .val (.int hv), .val (.int ps), .val (.ref b115), .val (.ref b263), .val (.int sm), .val (.int r9), .val (.int ((11 : Int32) - r9))] [(.int ps), (.ref b263), (.ref ta)])) rfl (by rw [hml]; rfl) (Steps.refl _) (argsL := [(.ref b263), (.int ps)]) (rest := []) (lenOf pd_4 rfl) rfl (by show 2 * 0 + _ ≤ _; exact Nat.le_of_eq rfl) (hb hby at_410) (fun _ _ => ⟨rfl, e324, (by decide : 3 + 0 ≤ _), (by decide : 32 + 0 ≤ _)⟩)
    dsimp only [Pt.U, Pt.locs, Pt.cells, Pt.slots] at X336 l336 y336 z336 st336 hQ336
    obtain rfl : k336 = 3 := y336
    obtain rfl : n336 = 32 := z336
    obtain ⟨S9, hS9, rfl, Nq336, e336⟩ := hQ336
    have N336 : Fr n0 L336 := by rw [l336]; exact Fr.app N324 Nq336
    have K337 : ∀ t, Steps p.tables e below (T336.setTop (mkF m 413 #[.val (.long q1), .second, .val (.long q2), .second, .val (.int p3), .val (.int p4), .val (.int kd), .val (.ref ta), .val (.int hv), .val (.int ps), .val (.ref b115), .val (.ref b263), .val (.int sm), .val (.int r9), .val (.int ((11 : Int32) - r9))] [(.int (CD S9))])) t → Steps p.tables e below (s₁.setTop (entryFrame m #[(.long q1), (.long q2), (.int p3), (.int p4)] maxLocals)) t := fun t kt => K335 t (st336.trans kt)
    have K338 : ∀ t, Steps p.tables e below (T336.setTop (mkF m 423 #[.val (.long q1), .second, .val (.long q2), .second, .val (.int p3), .val (.int p4), .val (.int kd), .val (.ref ta), .val (.int hv), .val (.int ps), .val (.ref b115), .val (.ref b263), .val (.int sm), .val (.int r9), .val (.int ((11 : Int32) - r9))] [(.int (1 : Int32))])) t → Steps p.tables e below (s₁.setTop (entryFrame m #[(.long q1), (.long q2), (.int p3), (.int p4)] maxLocals)) t := by
      intro t kt
      refine K337 t ?_
      show Steps p.tables e below (T336.setTop (mkF m 413 #[.val (.long q1), .second, .val (.long q2), .second, .val (.int p3), .val (.int p4), .val (.int kd), .val (.ref ta), .val (.int hv), .val (.int ps), .val (.ref b115), .val (.ref b263), .val (.int sm), .val (.int r9), .val (.int ((11 : Int32) - r9))] [(.int (CD S9))])) _
      refine XS.iload X336.here hx rfl (hb hby at_413) rfl ?_
      show Steps p.tables e below (T336.setTop (mkF m 415 #[.val (.long q1), .second, .val (.long q2), .second, .val (.int p3), .val (.int p4), .val (.int kd), .val (.ref ta), .val (.int hv), .val (.int ps), .val (.ref b115), .val (.ref b263), .val (.int sm), .val (.int r9), .val (.int ((11 : Int32) - r9))] [(.int ((11 : Int32) - r9)), (.int (CD S9))])) _
      refine XS.icmpNo X336.here hx rfl (hb hby at_415) rfl (teq (own_fin2 hsum hS9 hr9 hc : (CD S9) = ((11 : Int32) - r9))).2 ?_
      show Steps p.tables e below (T336.setTop (mkF m 418 #[.val (.long q1), .second, .val (.long q2), .second, .val (.int p3), .val (.int p4), .val (.int kd), .val (.ref ta), .val (.int hv), .val (.int ps), .val (.ref b115), .val (.ref b263), .val (.int sm), .val (.int r9), .val (.int ((11 : Int32) - r9))] [])) _
      refine XS.iconst X336.here hx rfl (hb hby at_418) ?_
      show Steps p.tables e below (T336.setTop (mkF m 419 #[.val (.long q1), .second, .val (.long q2), .second, .val (.int p3), .val (.int p4), .val (.int kd), .val (.ref ta), .val (.int hv), .val (.int ps), .val (.ref b115), .val (.ref b263), .val (.int sm), .val (.int r9), .val (.int ((11 : Int32) - r9))] [(.int (1 : Int32))])) _
      refine XS.goto X336.here hx rfl (pc0 := 419) (pc' := 423) rfl (hb hby at_419) (by decide) (by decide) ?_
      exact kt
    obtain ⟨fs, hr, hrun, hended, hW, hsame⟩ := X336.leave (v := some (.int (1 : Int32))) (fun h => by rw [Bd.returns] at h; cases h) (hlocks := hlk)
    refine ⟨_, _, K338 _ ?_, hrun, hended, _, _, rfl, ?_, ⟨_, rfl⟩, hW, hsame.mono (by decide) (by decide)⟩
    · exact retN X336 hx (t := .boolean) Bd.returns (by simp) (hb hby at_423) hr
    · show Qrm0 q1 q2 p3 p4 G1 G3 aN aF h0 n0 _ T336.heap _
      rw [e336]
      exact ⟨rfl, N336⟩
set_option maxRecDepth 65536 in
set_option maxHeartbeats 40000000 in
theorem comes_1 {Post : Tables → Env → Array Value → State → Outcome → State → Prop} (hpost : ∀ tb e args s v u, (limb_1_1.after args s (.returned v) u = true ∧ limb_1_2.after args s (.returned v) u = true ∧ True) → FrameEnd s (.returned v) u (Jvm.fieldLocs frame_1_writes args s ++ Jvm.arrayLocs frame_1_arrays args s ++ Jvm.staticLocs frame_1_statics s) 16 128 → Post tb e args s (.returned v) u) :
    ArmFor flags0 classFile x code maxLocals ret World_1 tables_1 room_1 Calls_1 rest_1 Pre_1 Post := by
  intro l hfl _ _ p e ha hc hk s m args below hf hA hF happ hP
  obtain ⟨hcalls, hrest, hpre⟩ := hP
  obtain ⟨-, -, -, hnamed, -, -, -, hat⟩ := (Spec.applies_iff hf).mp happ
  obtain ⟨hg, hn⟩ := and_e (Cond.before_iff.mp (show (Jvm.Cond.and given_1 narrow_1).before args s = true from hpre))
  obtain ⟨g1, g2⟩ := and_e hg
  obtain ⟨g3, g4⟩ := and_e g2
  obtain ⟨g5, g6⟩ := and_e g4
  obtain ⟨g7, g8⟩ := and_e g6
  obtain ⟨w0, w1, w2, w3, rfl⟩ : ∃ w0 w1 w2 w3 : Value, args = #[w0, w1, w2, w3] := by
    have hs : args.size = 4 := by simpa [Cond.value, given_1] using g1
    obtain ⟨L⟩ := args
    match L, hs with
    | [w0, w1, w2, w3], _ => exact ⟨w0, w1, w2, w3, rfl⟩
  have hw := fun d (hd : d ∈ tables_1) => atoms_spec (ws := Jvm.Cond.code x code maxLocals ret :: tables_1) hat d (List.mem_cons_of_mem _ hd)
  obtain ⟨hsets, hown0⟩ := atoms_of _ (rest_1_c_eq ▸ (show rest_1_c.before _ s = true from hrest))
  obtain ⟨i0, ei0⟩ := isL_v g3
  obtain rfl : w0 = (.long i0) := Option.some.inj ei0
  obtain ⟨i1, ei1⟩ := isL_v g5
  obtain rfl : w1 = (.long i1) := Option.some.inj ei1
  obtain ⟨i2, ei2⟩ := is_v g7
  obtain rfl : w2 = (.int i2) := Option.some.inj ei2
  obtain ⟨i3, ei3⟩ := is_v g8
  obtain rfl : w3 = (.int i3) := Option.some.inj ei3
  obtain ⟨G1, eG1⟩ := is_v (Cond.before_iff.mp (hsets _ (List.mem_of_getElem? (i := 1) rfl)))
  have O2 : Sta s s.heap "java/lang/String" "COMPACT_STRINGS" "Z" (.int G1) := Sta.start eG1 (Or.inl (hsets _ (List.mem_of_getElem? (i := 0) rfl)))
  have P5 : ¬ (G1 = (0 : Int32)) := gotF (Cond.eq_ints eG1 (Term.int_eval (0))) (not_v (Cond.before_iff.mp (hsets _ (List.mem_of_getElem? (i := 2) rfl))))
  obtain ⟨G3, eG3, rG3⟩ := isR_v (Cond.before_iff.mp (hsets _ (List.mem_of_getElem? (i := 8) rfl)))
  have O4 : Sta s s.heap "jdk/internal/util/Preconditions" "SIOOBE_FORMATTER" "Ljava/util/function/BiFunction;" G3 := Sta.start eG3 (Or.inl (hsets _ (List.mem_of_getElem? (i := 7) rfl)))
  obtain ⟨n1, n2⟩ := and_e hn
  obtain ⟨n3, n4⟩ := and_e n2
  obtain ⟨n5, n6⟩ := and_e n4
  obtain ⟨aN, eaN⟩ := exa_v n1
  obtain ⟨aF, eaF⟩ := exa_v n3
  have EN : Exa s s.heap aN "com/example/fiducia/fiducia/model/IdentificationType" := Exa.start eaN n1
  have EF : Exa s s.heap aF "com/example/fiducia/fiducia/model/IdentificationType" := Exa.start eaF n3
  have SN : Sta s s.heap "com/example/fiducia/fiducia/model/IdentificationType" "CNPJ" "Lcom/example/fiducia/fiducia/model/IdentificationType;" (.ref aN) := Sta.start eaN (Or.inr ⟨hw _ (List.mem_of_getElem? (i := 1) rfl), hw _ (List.mem_of_getElem? (i := 2) rfl)⟩)
  have SF : Sta s s.heap "com/example/fiducia/fiducia/model/IdentificationType" "CPF" "Lcom/example/fiducia/fiducia/model/IdentificationType;" (.ref aF) := Sta.start eaF (Or.inr ⟨hw _ (List.mem_of_getElem? (i := 1) rfl), hw _ (List.mem_of_getElem? (i := 48) rfl)⟩)
  have FF : Fld s s.heap aF "com/example/fiducia/fiducia/model/IdentificationType" "highestWeight" "I" (.int 11) := Fld.start (own_fld n5 eaF)
  have FN : Fld s s.heap aN "com/example/fiducia/fiducia/model/IdentificationType" "highestWeight" "I" (.int 9) := Fld.start (own_fld n6 eaN)
  obtain ⟨n, o, h1, h2, h3, _, L, rfl, ⟨rfl, N⟩, hq⟩ := rm0 l s _ hw tables_1 i0 i1 i2 i3 G1 G3 aN aF s.heap s.heap.size (Nat.le_refl _) EN EF FN FF SN SF O2 P5 O4 rG3 (Old.start s) p e ha hc hk s m _ below hf ((Spec.applies_iff_loose hf).mp happ).1 ⟨rfl, State.Warmed39.refl s, rfl⟩ trivial
  refine ⟨n, _, h1, h2, h3, hpost _ _ _ _ _ _ ⟨Cond.after_iff.mpr rfl, Cond.after_iff.mpr (eq_i res_at (Term.int_eval (1)) rfl), trivial⟩ ⟨hq.1, hq.2.1, (hq.2.2.sift fun y hy => Or.inr (N y hy)).mono (by decide) (by decide)⟩⟩
theorem main_1_1 : Claimed_1_1 := comes_1 fun _ _ _ _ _ _ h hF => ⟨h.1, hF⟩
theorem main_1_2 : Claimed_1_2 := comes_1 fun _ _ _ _ _ _ h hF => ⟨h.2.1, hF⟩

end Jvm.Pilot.@@N@@
namespace Jvm.Pilot.@@N@@
open Jvm Jvm.ClassFile Sem Op Lib Jvm.Free Jvm.Stand Jvm.Pilot.@@N@@.Jvm.D
/-! MADE BY PROGRAM (witnessworld.py) out of the Statement's table words and the real class files: 21 classes; the members and pool entries that the words name. The judged class is class 1, her method 1. -/
namespace start1
open Jvm.ClassFile
def u (s : String) : CpInfo := .utf8 (stringToUtf16 s)
/-- a pool by its gaps: so many unusable entries, then the entry; so many at the end -/
def gap : Nat → List CpInfo → List CpInfo
  | 0, r => r
  | n + 1, r => .unusable :: gap n r
def poolList (es : List (Nat × CpInfo)) (last : Nat) : List CpInfo := es.foldr (fun e r => gap e.1 (e.2 :: r)) (gap last [])
def pool (es : List (Nat × CpInfo)) (last : Nat) : Array CpInfo := ⟨poolList es last⟩
def fileOf (pool : Array CpInfo) (this : Nat) (attrs : Array Attribute := #[]) (ms : Array MethodInfo := #[]) (fl : Nat := 33) (sup : Nat := 0) (ifs : Array Nat := #[]) (fds : Array FieldInfo := #[]) : ClassFile where
  minorVersion := 0
  majorVersion := 65
  constantPool := pool
  accessFlags := fl
  thisClass := this
  superClass := sup
  interfaces := ifs
  fields := fds
  methods := ms
  attributes := attrs
def plain (name : String) (sup : Option ClassId) : Class where
  name := name
  kind := .ordinary
  loader := none
  accessFlags := 33
  super := sup
  interfaces := #[]
  cf := none
  fields := #[]
  methods := #[]
  instanceTypes := #[]
  staticTypes := #[]
  resolved := #[]
  callSites := []
  init := .initialized
  statics := none
  mirror := none

def pool0 : Array CpInfo := pool [(5, u "<init>"), (0, u "()V"), (1, .class_ 10), (1, u "java/lang/Object")] 113

def k0c0 : Code := { maxStack := 0, maxLocals := 1, code := object_method_1_code, exceptionTable := #[], attributes := #[] }
def k0m0 : Method := { name := "<init>", desc := "()V", sig := { parameters := [], returnType := none }, accessFlags := 1, code := some k0c0 }
/-- java/lang/Object -/
def k0 : Class := { plain "java/lang/Object" none with
  accessFlags := 33
  interfaces := #[]
  cf := some (fileOf pool0 8 #[] #[{ accessFlags := 1, nameIndex := 5, descriptorIndex := 6, attributes := #[] }] 33 0 #[] #[])
  fields := #[]
  methods := #[k0m0]
  instanceTypes := #[]
  staticTypes := #[]
  resolved := Array.replicate 124 none
  statics := none }

def pool1 : Array CpInfo := pool [(2, .class_ 4), (1, u "java/lang/Object"), (0, u "<init>"), (0, u "()V"), (0, .fieldref 8 9), (0, .class_ 10), (0, .nameAndType 11 12), (0, u "com/example/fiducia/fiducia/model/IdentificationType"), (0, u "CNPJ"), (0, u "Lcom/example/fiducia/fiducia/model/IdentificationType;"), (0, .fieldref 8 14), (0, .nameAndType 15 12), (0, u "CPF"), (0, .integer 2147483647), (0, .methodref 18 19), (0, .class_ 20), (0, .nameAndType 21 22), (0, u "com/example/fiducia/fiducia/model/IdentificationTypeCheckDigitPinLaw"), (0, u "ch"), (0, u "(JI)C"), (0, .class_ 24), (0, u "java/lang/String"), (0, .methodref 23 26), (0, .nameAndType 5 27), (0, u "([C)V"), (0, .methodref 18 29), (0, .nameAndType 30 31), (0, u "term"), (0, u "([CIII)I"), (0, .methodref 8 33), (0, .nameAndType 34 35), (0, u "checkDigit"), (0, u "(Ljava/lang/String;I)I"), (0, .long 63), (3, u "law"), (0, u "(JJII)Z")] 5

def k1m0 : Method := { name := "<init>", desc := "()V", sig := { parameters := [], returnType := none }, accessFlags := 1, code := none }
def k1c1 : Code := { maxStack := 5, maxLocals := 15, code := code, exceptionTable := #[], attributes := #[] }
def k1m1 : Method := { name := "law", desc := "(JJII)Z", sig := { parameters := [.long, .long, .int, .int], returnType := some .boolean }, accessFlags := 9, code := some k1c1 }
def k1c2 : Code := { maxStack := 4, maxLocals := 4, code := method_3_code, exceptionTable := #[], attributes := #[] }
def k1m2 : Method := { name := "ch", desc := "(JI)C", sig := { parameters := [.long, .int], returnType := some .char }, accessFlags := 10, code := some k1c2 }
def k1c3 : Code := { maxStack := 5, maxLocals := 5, code := method_4_code, exceptionTable := #[], attributes := #[] }
def k1m3 : Method := { name := "term", desc := "([CIII)I", sig := { parameters := [(.array .char), .int, .int, .int], returnType := some .int }, accessFlags := 10, code := some k1c3 }
/-- com/example/fiducia/fiducia/model/IdentificationTypeCheckDigitPinLaw -/
def k1 : Class := { plain "com/example/fiducia/fiducia/model/IdentificationTypeCheckDigitPinLaw" (some 0) with
  accessFlags := 49
  interfaces := #[]
  cf := some (fileOf pool1 18 #[] #[{ accessFlags := 1, nameIndex := 5, descriptorIndex := 6, attributes := #[] }, { accessFlags := 9, nameIndex := 40, descriptorIndex := 41, attributes := #[] }, { accessFlags := 10, nameIndex := 21, descriptorIndex := 22, attributes := #[] }, { accessFlags := 10, nameIndex := 30, descriptorIndex := 31, attributes := #[] }] 49 2 #[] #[])
  fields := #[]
  methods := #[k1m0, k1m1, k1m2, k1m3]
  instanceTypes := #[]
  staticTypes := #[]
  resolved := Array.replicate 47 none
  statics := none }

def pool2 : Array CpInfo := pool [(1, .class_ 2), (0, u "java/lang/constant/Constable"), (0, .class_ 4), (0, u "java/lang/Object")] 6

/-- java/lang/constant/Constable -/
def k2 : Class := { plain "java/lang/constant/Constable" (some 0) with
  accessFlags := 1537
  interfaces := #[]
  cf := some (fileOf pool2 1 #[] #[] 1537 3 #[] #[])
  fields := #[]
  methods := #[]
  instanceTypes := #[]
  staticTypes := #[]
  resolved := Array.replicate 11 none
  statics := none }

def pool3 : Array CpInfo := pool [(1, .class_ 2), (0, u "java/lang/Comparable"), (0, .class_ 4), (0, u "java/lang/Object")] 7

/-- java/lang/Comparable -/
def k3 : Class := { plain "java/lang/Comparable" (some 0) with
  accessFlags := 1537
  interfaces := #[]
  cf := some (fileOf pool3 1 #[] #[] 1537 3 #[] #[])
  fields := #[]
  methods := #[]
  instanceTypes := #[]
  staticTypes := #[]
  resolved := Array.replicate 12 none
  statics := none }

def pool4 : Array CpInfo := pool [(1, .class_ 2), (0, u "java/io/Serializable"), (0, .class_ 4), (0, u "java/lang/Object")] 2

/-- java/io/Serializable -/
def k4 : Class := { plain "java/io/Serializable" (some 0) with
  accessFlags := 1537
  interfaces := #[]
  cf := some (fileOf pool4 1 #[] #[] 1537 3 #[] #[])
  fields := #[]
  methods := #[]
  instanceTypes := #[]
  staticTypes := #[]
  resolved := Array.replicate 7 none
  statics := none }

def pool5 : Array CpInfo := pool [(2, .class_ 4), (1, u "java/lang/Enum"), (0, u "name"), (0, u "Ljava/lang/String;"), (2, u "ordinal"), (0, u "I"), (1, .class_ 14), (1, u "java/lang/Object"), (4, u "hash"), (86, .class_ 108), (1, u "java/lang/Enum$EnumDesc"), (2, .class_ 112), (0, u "java/lang/constant/Constable"), (0, .class_ 114), (0, u "java/lang/Comparable"), (0, .class_ 116), (0, u "java/io/Serializable")] 87

/-- java/lang/Enum -/
def k5 : Class := { plain "java/lang/Enum" (some 0) with
  accessFlags := 1057
  interfaces := #[2, 3, 4]
  cf := some (fileOf pool5 2 #[.nestMembers #[106]] #[] 1057 12 #[111, 113, 115] #[{ accessFlags := 18, nameIndex := 5, descriptorIndex := 6, attributes := #[] }, { accessFlags := 18, nameIndex := 9, descriptorIndex := 10, attributes := #[] }, { accessFlags := 2, nameIndex := 19, descriptorIndex := 10, attributes := #[] }])
  fields := #[{ name := "name", type := (.object "java/lang/String"), accessFlags := 18, slot := 0, constantValue := 0 }, { name := "ordinal", type := .int, accessFlags := 18, slot := 1, constantValue := 0 }, { name := "hash", type := .int, accessFlags := 2, slot := 2, constantValue := 0 }]
  methods := #[]
  instanceTypes := #[(.object "java/lang/String"), .int, .int]
  staticTypes := #[]
  resolved := Array.replicate 204 none
  statics := none }

def pool6 : Array CpInfo := pool [(1, .class_ 2), (0, u "com/example/fiducia/fiducia/model/IdentificationType"), (2, u "CPF"), (0, u "Lcom/example/fiducia/fiducia/model/IdentificationType;"), (2, u "CNPJ"), (2, u "$VALUES"), (0, u "[Lcom/example/fiducia/fiducia/model/IdentificationType;"), (6, .class_ 22), (1, u "java/lang/Enum"), (8, u "length"), (0, u "I"), (2, u "letterPlaces"), (0, .fieldref 1 37), (0, .nameAndType 38 32), (0, u "highestWeight"), (2, u "maxTokenLifetime"), (0, u "Ljava/time/Duration;"), (0, .methodref 44 45), (0, .class_ 46), (0, .nameAndType 47 48), (0, u "java/lang/String"), (0, u "charAt"), (0, u "(I)C"), (31, u "checkDigit"), (0, u "(Ljava/lang/String;I)I")] 6

def k6c0 : Code := { maxStack := 3, maxLocals := 6, code := prog_16_method_7_code, exceptionTable := #[], attributes := #[] }
def k6m0 : Method := { name := "checkDigit", desc := "(Ljava/lang/String;I)I", sig := { parameters := [(.object "java/lang/String"), .int], returnType := some .int }, accessFlags := 0, code := some k6c0 }
/-- com/example/fiducia/fiducia/model/IdentificationType -/
def k6 : Class := { plain "com/example/fiducia/fiducia/model/IdentificationType" (some 5) with
  accessFlags := 16433
  interfaces := #[]
  cf := some (fileOf pool6 1 #[] #[{ accessFlags := 0, nameIndex := 80, descriptorIndex := 81, attributes := #[] }] 16433 20 #[] #[{ accessFlags := 16409, nameIndex := 5, descriptorIndex := 6, attributes := #[] }, { accessFlags := 16409, nameIndex := 9, descriptorIndex := 6, attributes := #[] }, { accessFlags := 18, nameIndex := 31, descriptorIndex := 32, attributes := #[] }, { accessFlags := 18, nameIndex := 35, descriptorIndex := 32, attributes := #[] }, { accessFlags := 18, nameIndex := 38, descriptorIndex := 32, attributes := #[] }, { accessFlags := 18, nameIndex := 41, descriptorIndex := 42, attributes := #[] }, { accessFlags := 4122, nameIndex := 12, descriptorIndex := 13, attributes := #[] }])
  fields := #[{ name := "CPF", type := (.object "com/example/fiducia/fiducia/model/IdentificationType"), accessFlags := 16409, slot := 0, constantValue := 0 }, { name := "CNPJ", type := (.object "com/example/fiducia/fiducia/model/IdentificationType"), accessFlags := 16409, slot := 1, constantValue := 0 }, { name := "length", type := .int, accessFlags := 18, slot := 3, constantValue := 0 }, { name := "letterPlaces", type := .int, accessFlags := 18, slot := 4, constantValue := 0 }, { name := "highestWeight", type := .int, accessFlags := 18, slot := 5, constantValue := 0 }, { name := "maxTokenLifetime", type := (.object "java/time/Duration"), accessFlags := 18, slot := 6, constantValue := 0 }, { name := "$VALUES", type := (.array (.object "com/example/fiducia/fiducia/model/IdentificationType")), accessFlags := 4122, slot := 2, constantValue := 0 }]
  methods := #[k6m0]
  instanceTypes := #[(.object "java/lang/String"), .int, .int, .int, .int, .int, (.object "java/time/Duration")]
  staticTypes := #[(.object "com/example/fiducia/fiducia/model/IdentificationType"), (.object "com/example/fiducia/fiducia/model/IdentificationType"), (.array (.object "com/example/fiducia/fiducia/model/IdentificationType"))]
  resolved := Array.replicate 88 none
  statics := some 0 }

def pool7 : Array CpInfo := pool [(2, .class_ 4), (1, u "java/lang/CharSequence"), (42, .class_ 48), (0, u "java/lang/CharSequence$1CodePointIterator"), (10, .class_ 60), (0, u "java/lang/CharSequence$1CharIterator"), (5, .class_ 67), (0, u "java/lang/Object")] 63

/-- java/lang/CharSequence -/
def k7 : Class := { plain "java/lang/CharSequence" (some 0) with
  accessFlags := 1537
  interfaces := #[]
  cf := some (fileOf pool7 2 #[.nestMembers #[47, 59]] #[] 1537 66 #[] #[])
  fields := #[]
  methods := #[]
  instanceTypes := #[]
  staticTypes := #[]
  resolved := Array.replicate 131 none
  statics := none }

def pool8 : Array CpInfo := pool [(1, .class_ 2), (0, u "java/lang/constant/ConstantDesc"), (0, .class_ 4), (0, u "java/lang/Object")] 32

/-- java/lang/constant/ConstantDesc -/
def k8 : Class := { plain "java/lang/constant/ConstantDesc" (some 0) with
  accessFlags := 1537
  interfaces := #[]
  cf := some (fileOf pool8 1 #[] #[] 1537 3 #[] #[])
  fields := #[]
  methods := #[]
  instanceTypes := #[]
  staticTypes := #[]
  resolved := Array.replicate 37 none
  statics := none }

def pool9 : Array CpInfo := pool [(1, .methodref 2 3), (0, .class_ 4), (0, .nameAndType 5 6), (0, u "java/lang/Object"), (0, u "<init>"), (0, u "()V"), (2, .fieldref 10 11), (0, .class_ 12), (0, .nameAndType 13 14), (0, u "java/lang/String"), (0, u "value"), (0, u "[B"), (0, .fieldref 10 16), (0, .nameAndType 17 18), (0, u "coder"), (0, u "B"), (2, u "hash"), (0, u "I"), (2, u "hashIsZero"), (0, u "Z"), (0, .methodref 10 28), (0, .nameAndType 5 29), (0, u "([CIILjava/lang/Void;)V"), (8, .fieldref 10 39), (0, .nameAndType 40 26), (0, u "COMPACT_STRINGS"), (1, .class_ 44), (1, u "java/lang/StringUTF16"), (0, u "compress"), (1, .methodref 42 48), (0, .nameAndType 49 50), (0, u "coderFromArrayLen"), (0, u "([BI)B"), (56, .class_ 109), (1, u "java/lang/StringLatin1"), (32, u "()Z"), (34, .methodref 42 178), (0, .nameAndType 45 179), (0, u "([CII)[B"), (183, u "([BI)C"), (27, u "(II)V"), (35, u "(I)C"), (64, .methodref 10 493), (0, .nameAndType 494 142), (0, u "isLatin1"), (0, .methodref 107 496), (0, .nameAndType 497 363), (0, u "charAt"), (3, u "checkIndex"), (73, .class_ 576), (0, u "java/lang/CharSequence"), (22, u "CASE_INSENSITIVE_ORDER"), (0, u "Ljava/util/Comparator;"), (409, u "([C)V"), (42, .fieldref 1054 1055), (0, .class_ 1056), (0, .nameAndType 1057 1058), (0, u "jdk/internal/util/Preconditions"), (0, u "SIOOBE_FORMATTER"), (0, u "Ljava/util/function/BiFunction;"), (0, .methodref 1054 1060), (0, .nameAndType 501 1061), (0, u "(IILjava/util/function/BiFunction;)I"), (39, u "serialPersistentFields"), (0, u "[Ljava/io/ObjectStreamField;"), (0, .class_ 1104), (0, u "java/lang/String$CaseInsensitiveComparator"), (1, .class_ 1107), (0, u "java/io/Serializable"), (0, .class_ 1109), (0, u "java/lang/Comparable"), (0, .class_ 1111), (0, u "java/lang/constant/Constable"), (0, .class_ 1113), (0, u "java/lang/constant/ConstantDesc"), (2, u "serialVersionUID"), (0, u "J"), (3, u "REPL"), (0, u "C"), (2, u "LATIN1"), (1, u "UTF16")] 323

def k9m0 : Method := { name := "<init>", desc := "()V", sig := { parameters := [], returnType := none }, accessFlags := 1, code := none }
def k9c1 : Code := { maxStack := 5, maxLocals := 2, code := jdk_42_method_3_code, exceptionTable := #[], attributes := #[] }
def k9m1 : Method := { name := "<init>", desc := "([C)V", sig := { parameters := [(.array .char)], returnType := none }, accessFlags := 1, code := some k9c1 }
def k9c2 : Code := { maxStack := 2, maxLocals := 2, code := jdk_42_method_56_code, exceptionTable := #[], attributes := #[] }
def k9m2 : Method := { name := "charAt", desc := "(I)C", sig := { parameters := [.int], returnType := some .char }, accessFlags := 1, code := some k9c2 }
def k9c3 : Code := { maxStack := 4, maxLocals := 6, code := jdk_42_method_149_code, exceptionTable := #[], attributes := #[] }
def k9m3 : Method := { name := "<init>", desc := "([CIILjava/lang/Void;)V", sig := { parameters := [(.array .char), .int, .int, (.object "java/lang/Void")], returnType := none }, accessFlags := 2, code := some k9c3 }
def k9c4 : Code := { maxStack := 1, maxLocals := 1, code := jdk_42_method_154_code, exceptionTable := #[], attributes := #[] }
def k9m4 : Method := { name := "isLatin1", desc := "()Z", sig := { parameters := [], returnType := some .boolean }, accessFlags := 0, code := some k9c4 }
def k9c5 : Code := { maxStack := 3, maxLocals := 2, code := jdk_42_method_155_code, exceptionTable := #[], attributes := #[] }
def k9m5 : Method := { name := "checkIndex", desc := "(II)V", sig := { parameters := [.int, .int], returnType := none }, accessFlags := 8, code := some k9c5 }
/-- java/lang/String -/
def k9 : Class := { plain "java/lang/String" (some 0) with
  accessFlags := 49
  interfaces := #[4, 3, 7, 2, 8]
  cf := some (fileOf pool9 10 #[.nestMembers #[1103]] #[{ accessFlags := 1, nameIndex := 5, descriptorIndex := 6, attributes := #[] }, { accessFlags := 1, nameIndex := 5, descriptorIndex := 1010, attributes := #[] }, { accessFlags := 1, nameIndex := 497, descriptorIndex := 427, attributes := #[] }, { accessFlags := 2, nameIndex := 5, descriptorIndex := 29, attributes := #[] }, { accessFlags := 0, nameIndex := 494, descriptorIndex := 142, attributes := #[] }, { accessFlags := 8, nameIndex := 501, descriptorIndex := 391, attributes := #[] }] 49 2 #[1106, 1108, 575, 1110, 1112] #[{ accessFlags := 18, nameIndex := 13, descriptorIndex := 14, attributes := #[] }, { accessFlags := 18, nameIndex := 17, descriptorIndex := 18, attributes := #[] }, { accessFlags := 2, nameIndex := 21, descriptorIndex := 22, attributes := #[] }, { accessFlags := 2, nameIndex := 25, descriptorIndex := 26, attributes := #[] }, { accessFlags := 26, nameIndex := 1116, descriptorIndex := 1117, attributes := #[] }, { accessFlags := 24, nameIndex := 40, descriptorIndex := 26, attributes := #[] }, { accessFlags := 26, nameIndex := 1101, descriptorIndex := 1102, attributes := #[] }, { accessFlags := 26, nameIndex := 1121, descriptorIndex := 1122, attributes := #[] }, { accessFlags := 25, nameIndex := 599, descriptorIndex := 600, attributes := #[] }, { accessFlags := 24, nameIndex := 1125, descriptorIndex := 18, attributes := #[] }, { accessFlags := 24, nameIndex := 1127, descriptorIndex := 18, attributes := #[] }])
  fields := #[{ name := "value", type := (.array .byte), accessFlags := 18, slot := 0, constantValue := 0 }, { name := "coder", type := .byte, accessFlags := 18, slot := 1, constantValue := 0 }, { name := "hash", type := .int, accessFlags := 2, slot := 2, constantValue := 0 }, { name := "hashIsZero", type := .boolean, accessFlags := 2, slot := 3, constantValue := 0 }, { name := "serialVersionUID", type := .long, accessFlags := 26, slot := 0, constantValue := 0 }, { name := "COMPACT_STRINGS", type := .boolean, accessFlags := 24, slot := 1, constantValue := 0 }, { name := "serialPersistentFields", type := (.array (.object "java/io/ObjectStreamField")), accessFlags := 26, slot := 2, constantValue := 0 }, { name := "REPL", type := .char, accessFlags := 26, slot := 3, constantValue := 0 }, { name := "CASE_INSENSITIVE_ORDER", type := (.object "java/util/Comparator"), accessFlags := 25, slot := 4, constantValue := 0 }, { name := "LATIN1", type := .byte, accessFlags := 24, slot := 5, constantValue := 0 }, { name := "UTF16", type := .byte, accessFlags := 24, slot := 6, constantValue := 0 }]
  methods := #[k9m0, k9m1, k9m2, k9m3, k9m4, k9m5]
  instanceTypes := #[(.array .byte), .byte, .int, .boolean]
  staticTypes := #[.long, .boolean, (.array (.object "java/io/ObjectStreamField")), .char, (.object "java/util/Comparator"), .byte, .byte]
  resolved := Array.replicate 1451 none
  statics := some 1 }

def pool10 : Array CpInfo := pool [(6, .class_ 8), (1, u "java/lang/Object"), (0, u "<init>"), (0, u "()V"), (1, .class_ 14), (1, u "java/lang/StringUTF16"), (31, u "$assertionsDisabled"), (0, u "Z"), (13, u "HI_BYTE_SHIFT"), (0, u "I"), (2, u "LO_BYTE_SHIFT"), (49, .methodref 12 116), (0, .nameAndType 117 118), (0, u "compress"), (0, u "([CI[BII)I"), (3, u "([CII)[B"), (138, u "coderFromArrayLen"), (0, u "([BI)B"), (106, .class_ 371), (1, u "java/lang/StringUTF16$LinesSpliterator"), (58, u "MAX_LENGTH"), (196, .class_ 628), (0, u "java/lang/StringUTF16$CodePointsSpliterator"), (0, .class_ 630), (0, u "java/lang/StringUTF16$CharsSpliterator")] 4

def k10m0 : Method := { name := "<init>", desc := "()V", sig := { parameters := [], returnType := none }, accessFlags := 0, code := none }
def k10c1 : Code := { maxStack := 2, maxLocals := 2, code := jdk_52_method_15_code, exceptionTable := #[], attributes := #[] }
def k10m1 : Method := { name := "coderFromArrayLen", desc := "([BI)B", sig := { parameters := [(.array .byte), .int], returnType := some .byte }, accessFlags := 8, code := some k10c1 }
def k10c2 : Code := { maxStack := 5, maxLocals := 6, code := jdk_52_method_16_code, exceptionTable := #[], attributes := #[] }
def k10m2 : Method := { name := "compress", desc := "([CII)[B", sig := { parameters := [(.array .char), .int, .int], returnType := some (.array .byte) }, accessFlags := 9, code := some k10c2 }
def k10c3 : Code := { maxStack := 3, maxLocals := 7, code := jdk_52_method_21_code, exceptionTable := #[], attributes := #[] }
def k10m3 : Method := { name := "compress", desc := "([CI[BII)I", sig := { parameters := [(.array .char), .int, (.array .byte), .int, .int], returnType := some .int }, accessFlags := 9, code := some k10c3 }
/-- java/lang/StringUTF16 -/
def k10 : Class := { plain "java/lang/StringUTF16" (some 0) with
  accessFlags := 48
  interfaces := #[]
  cf := some (fileOf pool10 12 #[.nestMembers #[627, 629, 369]] #[{ accessFlags := 0, nameIndex := 9, descriptorIndex := 10, attributes := #[] }, { accessFlags := 8, nameIndex := 261, descriptorIndex := 262, attributes := #[] }, { accessFlags := 9, nameIndex := 117, descriptorIndex := 122, attributes := #[] }, { accessFlags := 9, nameIndex := 117, descriptorIndex := 118, attributes := #[] }] 48 6 #[] #[{ accessFlags := 26, nameIndex := 61, descriptorIndex := 62, attributes := #[] }, { accessFlags := 26, nameIndex := 65, descriptorIndex := 62, attributes := #[] }, { accessFlags := 24, nameIndex := 430, descriptorIndex := 62, attributes := #[] }, { accessFlags := 4120, nameIndex := 46, descriptorIndex := 47, attributes := #[] }])
  fields := #[{ name := "HI_BYTE_SHIFT", type := .int, accessFlags := 26, slot := 0, constantValue := 0 }, { name := "LO_BYTE_SHIFT", type := .int, accessFlags := 26, slot := 1, constantValue := 0 }, { name := "MAX_LENGTH", type := .int, accessFlags := 24, slot := 2, constantValue := 0 }, { name := "$assertionsDisabled", type := .boolean, accessFlags := 4120, slot := 3, constantValue := 0 }]
  methods := #[k10m0, k10m1, k10m2, k10m3]
  instanceTypes := #[]
  staticTypes := #[.int, .int, .int, .boolean]
  resolved := Array.replicate 635 none
  statics := none }

def pool11 : Array CpInfo := pool [(1, .class_ 2), (0, u "java/lang/String"), (1, .class_ 6), (1, u "java/lang/Object"), (0, u "<init>"), (0, u "()V"), (0, .methodref 1 10), (0, .nameAndType 11 12), (0, u "checkIndex"), (0, u "(II)V"), (1, .class_ 16), (1, u "java/lang/StringLatin1"), (36, u "([BI)C"), (67, u "$assertionsDisabled"), (0, u "Z"), (98, .class_ 223), (1, u "java/lang/StringLatin1$LinesSpliterator"), (28, u "charAt"), (137, .class_ 391), (0, u "java/lang/StringLatin1$CharsSpliterator")] 3

def k11m0 : Method := { name := "<init>", desc := "()V", sig := { parameters := [], returnType := none }, accessFlags := 0, code := none }
def k11c1 : Code := { maxStack := 2, maxLocals := 2, code := jdk_43_method_2_code, exceptionTable := #[], attributes := #[] }
def k11m1 : Method := { name := "charAt", desc := "([BI)C", sig := { parameters := [(.array .byte), .int], returnType := some .char }, accessFlags := 9, code := some k11c1 }
/-- java/lang/StringLatin1 -/
def k11 : Class := { plain "java/lang/StringLatin1" (some 0) with
  accessFlags := 48
  interfaces := #[]
  cf := some (fileOf pool11 14 #[.nestMembers #[390, 221]] #[{ accessFlags := 0, nameIndex := 7, descriptorIndex := 8, attributes := #[] }, { accessFlags := 9, nameIndex := 252, descriptorIndex := 53, attributes := #[] }] 48 4 #[] #[{ accessFlags := 4120, nameIndex := 121, descriptorIndex := 122, attributes := #[] }])
  fields := #[{ name := "$assertionsDisabled", type := .boolean, accessFlags := 4120, slot := 0, constantValue := 0 }]
  methods := #[k11m0, k11m1]
  instanceTypes := #[]
  staticTypes := #[.boolean]
  resolved := Array.replicate 395 none
  statics := none }

def pool12 : Array CpInfo := pool [(2, .class_ 4), (1, u "java/lang/Object"), (0, u "<init>"), (0, u "()V"), (17, .class_ 26), (1, u "jdk/internal/util/Preconditions"), (6, u "checkIndex"), (21, .class_ 56), (0, u "jdk/internal/util/Preconditions$4"), (57, .class_ 115), (0, u "jdk/internal/util/Preconditions$1"), (7, u "SIOOBE_FORMATTER"), (0, u "Ljava/util/function/BiFunction;"), (0, .class_ 126), (0, u "jdk/internal/util/Preconditions$2"), (3, u "AIOOBE_FORMATTER"), (0, .class_ 132), (0, u "jdk/internal/util/Preconditions$3"), (3, u "IOOBE_FORMATTER"), (41, u "(IILjava/util/function/BiFunction;)I")] 15

def k12m0 : Method := { name := "<init>", desc := "()V", sig := { parameters := [], returnType := none }, accessFlags := 1, code := none }
def k12c1 : Code := { maxStack := 3, maxLocals := 3, code := jdk_41_method_11_code, exceptionTable := #[], attributes := #[] }
def k12m1 : Method := { name := "checkIndex", desc := "(IILjava/util/function/BiFunction;)I", sig := { parameters := [.int, .int, (.object "java/util/function/BiFunction")], returnType := some .int }, accessFlags := 9, code := some k12c1 }
/-- jdk/internal/util/Preconditions -/
def k12 : Class := { plain "jdk/internal/util/Preconditions" (some 0) with
  accessFlags := 33
  interfaces := #[]
  cf := some (fileOf pool12 24 #[.nestMembers #[55, 131, 125, 114]] #[{ accessFlags := 1, nameIndex := 5, descriptorIndex := 6, attributes := #[] }, { accessFlags := 9, nameIndex := 33, descriptorIndex := 178, attributes := #[] }] 33 2 #[] #[{ accessFlags := 25, nameIndex := 123, descriptorIndex := 124, attributes := #[] }, { accessFlags := 25, nameIndex := 130, descriptorIndex := 124, attributes := #[] }, { accessFlags := 25, nameIndex := 136, descriptorIndex := 124, attributes := #[] }])
  fields := #[{ name := "SIOOBE_FORMATTER", type := (.object "java/util/function/BiFunction"), accessFlags := 25, slot := 0, constantValue := 0 }, { name := "AIOOBE_FORMATTER", type := (.object "java/util/function/BiFunction"), accessFlags := 25, slot := 1, constantValue := 0 }, { name := "IOOBE_FORMATTER", type := (.object "java/util/function/BiFunction"), accessFlags := 25, slot := 2, constantValue := 0 }]
  methods := #[k12m0, k12m1]
  instanceTypes := #[]
  staticTypes := #[(.object "java/util/function/BiFunction"), (.object "java/util/function/BiFunction"), (.object "java/util/function/BiFunction")]
  resolved := Array.replicate 194 none
  statics := some 2 }

def pool13 : Array CpInfo := pool [(9, u "<init>"), (6, .class_ 18), (1, u "java/lang/Object"), (0, u "()V"), (1, .class_ 23), (1, u "jdk/internal/util/ArraysSupport"), (0, u "LOG2_ARRAY_LONG_INDEX_SCALE"), (0, u "I"), (2, u "U"), (0, u "Ljdk/internal/misc/Unsafe;"), (8, u "BIG_ENDIAN"), (0, u "Z"), (8, u "LOG2_BYTE_BIT_SIZE"), (4, u "LOG2_ARRAY_INT_INDEX_SCALE"), (54, u "JLA"), (0, u "Ljdk/internal/access/JavaLangAccess;"), (11, u "LOG2_ARRAY_BOOLEAN_INDEX_SCALE"), (9, u "LOG2_ARRAY_BYTE_INDEX_SCALE"), (5, u "LOG2_ARRAY_CHAR_INDEX_SCALE"), (5, u "LOG2_ARRAY_SHORT_INDEX_SCALE"), (18, u "LOG2_ARRAY_FLOAT_INDEX_SCALE"), (24, u "LOG2_ARRAY_DOUBLE_INDEX_SCALE"), (89, u "T_BOOLEAN"), (2, u "T_CHAR"), (1, u "T_FLOAT"), (1, u "T_DOUBLE"), (1, u "T_BYTE"), (1, u "T_SHORT"), (1, u "T_INT"), (1, u "T_LONG"), (1, u "SOFT_MAX_ARRAY_LENGTH")] 83

def k13m0 : Method := { name := "<init>", desc := "()V", sig := { parameters := [], returnType := none }, accessFlags := 2, code := none }
/-- jdk/internal/util/ArraysSupport -/
def k13 : Class := { plain "jdk/internal/util/ArraysSupport" (some 0) with
  accessFlags := 33
  interfaces := #[]
  cf := some (fileOf pool13 21 #[] #[{ accessFlags := 2, nameIndex := 9, descriptorIndex := 19, attributes := #[] }] 33 16 #[] #[{ accessFlags := 24, nameIndex := 28, descriptorIndex := 29, attributes := #[] }, { accessFlags := 26, nameIndex := 38, descriptorIndex := 39, attributes := #[] }, { accessFlags := 25, nameIndex := 121, descriptorIndex := 25, attributes := #[] }, { accessFlags := 25, nameIndex := 131, descriptorIndex := 25, attributes := #[] }, { accessFlags := 25, nameIndex := 137, descriptorIndex := 25, attributes := #[] }, { accessFlags := 25, nameIndex := 143, descriptorIndex := 25, attributes := #[] }, { accessFlags := 25, nameIndex := 53, descriptorIndex := 25, attributes := #[] }, { accessFlags := 25, nameIndex := 24, descriptorIndex := 25, attributes := #[] }, { accessFlags := 25, nameIndex := 162, descriptorIndex := 25, attributes := #[] }, { accessFlags := 25, nameIndex := 187, descriptorIndex := 25, attributes := #[] }, { accessFlags := 26, nameIndex := 48, descriptorIndex := 25, attributes := #[] }, { accessFlags := 25, nameIndex := 277, descriptorIndex := 25, attributes := #[] }, { accessFlags := 25, nameIndex := 280, descriptorIndex := 25, attributes := #[] }, { accessFlags := 25, nameIndex := 282, descriptorIndex := 25, attributes := #[] }, { accessFlags := 25, nameIndex := 284, descriptorIndex := 25, attributes := #[] }, { accessFlags := 25, nameIndex := 286, descriptorIndex := 25, attributes := #[] }, { accessFlags := 25, nameIndex := 288, descriptorIndex := 25, attributes := #[] }, { accessFlags := 25, nameIndex := 290, descriptorIndex := 25, attributes := #[] }, { accessFlags := 25, nameIndex := 292, descriptorIndex := 25, attributes := #[] }, { accessFlags := 26, nameIndex := 108, descriptorIndex := 109, attributes := #[] }, { accessFlags := 25, nameIndex := 294, descriptorIndex := 25, attributes := #[] }])
  fields := #[{ name := "U", type := (.object "jdk/internal/misc/Unsafe"), accessFlags := 24, slot := 0, constantValue := 0 }, { name := "BIG_ENDIAN", type := .boolean, accessFlags := 26, slot := 1, constantValue := 0 }, { name := "LOG2_ARRAY_BOOLEAN_INDEX_SCALE", type := .int, accessFlags := 25, slot := 2, constantValue := 0 }, { name := "LOG2_ARRAY_BYTE_INDEX_SCALE", type := .int, accessFlags := 25, slot := 3, constantValue := 0 }, { name := "LOG2_ARRAY_CHAR_INDEX_SCALE", type := .int, accessFlags := 25, slot := 4, constantValue := 0 }, { name := "LOG2_ARRAY_SHORT_INDEX_SCALE", type := .int, accessFlags := 25, slot := 5, constantValue := 0 }, { name := "LOG2_ARRAY_INT_INDEX_SCALE", type := .int, accessFlags := 25, slot := 6, constantValue := 0 }, { name := "LOG2_ARRAY_LONG_INDEX_SCALE", type := .int, accessFlags := 25, slot := 7, constantValue := 0 }, { name := "LOG2_ARRAY_FLOAT_INDEX_SCALE", type := .int, accessFlags := 25, slot := 8, constantValue := 0 }, { name := "LOG2_ARRAY_DOUBLE_INDEX_SCALE", type := .int, accessFlags := 25, slot := 9, constantValue := 0 }, { name := "LOG2_BYTE_BIT_SIZE", type := .int, accessFlags := 26, slot := 10, constantValue := 0 }, { name := "T_BOOLEAN", type := .int, accessFlags := 25, slot := 11, constantValue := 0 }, { name := "T_CHAR", type := .int, accessFlags := 25, slot := 12, constantValue := 0 }, { name := "T_FLOAT", type := .int, accessFlags := 25, slot := 13, constantValue := 0 }, { name := "T_DOUBLE", type := .int, accessFlags := 25, slot := 14, constantValue := 0 }, { name := "T_BYTE", type := .int, accessFlags := 25, slot := 15, constantValue := 0 }, { name := "T_SHORT", type := .int, accessFlags := 25, slot := 16, constantValue := 0 }, { name := "T_INT", type := .int, accessFlags := 25, slot := 17, constantValue := 0 }, { name := "T_LONG", type := .int, accessFlags := 25, slot := 18, constantValue := 0 }, { name := "JLA", type := (.object "jdk/internal/access/JavaLangAccess"), accessFlags := 26, slot := 19, constantValue := 0 }, { name := "SOFT_MAX_ARRAY_LENGTH", type := .int, accessFlags := 25, slot := 20, constantValue := 0 }]
  methods := #[k13m0]
  instanceTypes := #[]
  staticTypes := #[(.object "jdk/internal/misc/Unsafe"), .boolean, .int, .int, .int, .int, .int, .int, .int, .int, .int, .int, .int, .int, .int, .int, .int, .int, .int, (.object "jdk/internal/access/JavaLangAccess"), .int]
  resolved := Array.replicate 378 none
  statics := none }

def pool14 : Array CpInfo := pool [(1, u "java/lang/Cloneable"), (0, .class_ 1), (0, u "java/lang/Object"), (0, .class_ 3)] 3

/-- java/lang/Cloneable -/
def k14 : Class := { plain "java/lang/Cloneable" (some 0) with
  accessFlags := 1537
  interfaces := #[]
  cf := some (fileOf pool14 2 #[] #[] 1537 4 #[] #[])
  fields := #[]
  methods := #[]
  instanceTypes := #[]
  staticTypes := #[]
  resolved := Array.replicate 8 none
  statics := none }

/-- the primitive byte -/
def k15 : Class := { plain "byte" none with kind := .primitive 'B', accessFlags := 0x411 }
/-- [B -/
def k16 : Class := { plain "[B" (some 0) with kind := .array 15 .byte, interfaces := #[14, 4], accessFlags := 1041 }

/-- the primitive char -/
def k17 : Class := { plain "char" none with kind := .primitive 'C', accessFlags := 0x411 }
/-- [C -/
def k18 : Class := { plain "[C" (some 0) with kind := .array 17 .char, interfaces := #[14, 4], accessFlags := 1041 }

/-- the primitive int -/
def k19 : Class := { plain "int" none with kind := .primitive 'I', accessFlags := 0x411 }
/-- [I -/
def k20 : Class := { plain "[I" (some 0) with kind := .array 19 .int, interfaces := #[14, 4], accessFlags := 1041 }

def heap : Heap := #[{ cls := 6, slots := #[.ref 4, .ref 3, .null], vm := .statics 6 },
  { cls := 9, slots := #[.long 0, .int 1, .null, .int 0, .null, .int 0, .int 0], vm := .statics 9 },
  { cls := 12, slots := #[.null, .null, .null], vm := .statics 12 },
  { cls := 6, slots := #[.null, .int 0, .int 0, .int 14, .int 0, .int 9, .null], vm := .none },
  { cls := 6, slots := #[.null, .int 1, .int 0, .int 11, .int 0, .int 11, .null], vm := .none }]
def classes : Array Class := #[k0, k1, k2, k3, k4, k5, k6, k7, k8, k9, k10, k11, k12, k13, k14, k15, k16, k17, k18, k19, k20]
def interned : List (Array UInt16 × Addr) := []
def slotsUsed : Nat := 27
def theMethod : MethodId := ⟨1, 1⟩
def args0 : Array Value := #[.long 5, .long 7, .int 1, .int 2]
def aboutOver (below : List Frame) : State where
  vm := { classes := classes, interned := interned.toArray }
  heap := heap
  slotsUsed := slotsUsed
  threads := #[{ frames := .invoking theMethod args0 :: below }]
def below0 : List Frame := [.native { method := ⟨0, 0⟩, args := #[] }]
def about1 : State := aboutOver below0
def p0 : Program := .bare "" "" ""
def e0 : Env := launch0.env 0 0 0
theorem w_frames : about1.frames = Frame.invoking theMethod args0 :: below0 := rfl
set_option maxRecDepth 65536 in
theorem w_args : argsFit about1.vm theMethod args0 = true := by decide +kernel
set_option maxRecDepth 65536 in
theorem w_heap : heapFits about1 = true := by decide +kernel
set_option maxRecDepth 65536 in
theorem w_runnable : about1.curStatus? = some .runnable := by decide +kernel
set_option maxRecDepth 65536 in
theorem w_alone : about1.alone = true := by decide +kernel
set_option maxRecDepth 65536 in
theorem w_named : about1.methodNamed? x = some theMethod := by decide +kernel
set_option maxRecDepth 65536 in
theorem w_hears : about1.hears theMethod below0 = true := by decide +kernel
set_option maxRecDepth 65536 in
theorem w_ripe : about1.ripe theMethod args0 below0 = true := by decide +kernel
theorem w_running : about1.status = .running := rfl
set_option maxRecDepth 65536 in
theorem w_room : about1.hasRoom e0.platform room_1 = true :=
  launch0.hasRoom_least _ room_1 (by decide +kernel) (by decide +kernel) (by decide +kernel) (by decide +kernel) (by decide +kernel) (by decide +kernel)
theorem allAtoms_all (ts : List Jvm.Cond) (a : Array Jvm.Value) (st : Jvm.State) : (allAtoms ts).before a st = ts.all (fun c => c.before a st) := by
  induction ts with
  | nil => rfl
  | cons c t ih =>
    show (Jvm.Cond.and c (allAtoms t)).before a st = _
    rw [Jvm.Cond.before_and, ih, List.all_cons]
def words1 : List Jvm.Cond := Jvm.Cond.code x code maxLocals ret :: tables_1
/-- a 'code' word, met by the world's own term for the bytes: nothing is compared byte by byte -/
theorem code_word {y : MethodName} {bytes : ByteArray} {mx : Nat} {rt : Option FieldType} {a : Array Value} {s : State} {m : MethodId} {meth : Method} {c : Code} (h1 : s.methodNamed? y = some m) (h2 : s.vm.method? m = some meth) (h3 : meth.code = some c) (h4 : c.code = bytes)
    (h5 : (c.maxLocals == mx && c.exceptionTable.isEmpty && decide (c.maxStack ≤ mostOperands) && decide (meth.sig.returnType = rt) && !meth.locks && decide (parseMethodDescriptor y.desc = some meth.sig)) = true) : (Jvm.Cond.code y bytes mx rt).before a s = true := by
  simp only [Bool.and_eq_true, beq_iff_eq, Bool.not_eq_true', decide_eq_true_eq] at h5
  obtain ⟨⟨⟨⟨⟨g1, g2⟩, g3⟩, g4⟩, g5⟩, g6⟩ := h5
  simp [Cond.before, Cond.holds, Cond.value, h1, h2, h3, h4, g1, g2, g3, g4, g5, g6]
def isCode : Jvm.Cond → Bool
  | .code _ _ _ _ => true
  | _ => false
theorem all_split {L : List Jvm.Cond} {P : Jvm.Cond → Bool} (h1 : L.all (fun c => isCode c || P c) = true) (h2 : ∀ c ∈ L.filter isCode, P c = true) : L.all P = true := by
  refine List.all_eq_true.mpr fun c hc => ?_
  have h := List.all_eq_true.mp h1 c hc
  rcases Bool.eq_false_or_eq_true (isCode c) with hi | hi
  · exact h2 c (List.mem_filter.mpr ⟨hc, hi⟩)
  · simpa [hi] using h
set_option maxRecDepth 65536 in
theorem w_c0 : (Jvm.Cond.code x code maxLocals ret).before args0 about1 = true := code_word (m := ⟨1, 1⟩) (meth := k1m1) (c := k1c1) (by decide +kernel) rfl rfl rfl (by decide +kernel)
set_option maxRecDepth 65536 in
theorem w_c1 : (Jvm.Cond.code ({ cls := "com/example/fiducia/fiducia/model/IdentificationTypeCheckDigitPinLaw", name := "ch", desc := "(JI)C" } : Jvm.MethodName) method_3_code (4 : Nat) (Option.some Jvm.ClassFile.FieldType.char)).before args0 about1 = true := code_word (m := ⟨1, 2⟩) (meth := k1m2) (c := k1c2) (by decide +kernel) rfl rfl rfl (by decide +kernel)
set_option maxRecDepth 65536 in
theorem w_c2 : (Jvm.Cond.code ({ cls := "java/lang/String", name := "<init>", desc := "([C)V" } : Jvm.MethodName) jdk_42_method_3_code (2 : Nat) (Option.none : Option Jvm.ClassFile.FieldType)).before args0 about1 = true := code_word (m := ⟨9, 1⟩) (meth := k9m1) (c := k9c1) (by decide +kernel) rfl rfl rfl (by decide +kernel)
set_option maxRecDepth 65536 in
theorem w_c3 : (Jvm.Cond.code ({ cls := "java/lang/String", name := "<init>", desc := "([CIILjava/lang/Void;)V" } : Jvm.MethodName) jdk_42_method_149_code (6 : Nat) (Option.none : Option Jvm.ClassFile.FieldType)).before args0 about1 = true := code_word (m := ⟨9, 3⟩) (meth := k9m3) (c := k9c3) (by decide +kernel) rfl rfl rfl (by decide +kernel)
set_option maxRecDepth 65536 in
theorem w_c4 : (Jvm.Cond.code ({ cls := "java/lang/Object", name := "<init>", desc := "()V" } : Jvm.MethodName) object_method_1_code (1 : Nat) (Option.none : Option Jvm.ClassFile.FieldType)).before args0 about1 = true := code_word (m := ⟨0, 0⟩) (meth := k0m0) (c := k0c0) (by decide +kernel) rfl rfl rfl (by decide +kernel)
set_option maxRecDepth 65536 in
theorem w_c5 : (Jvm.Cond.code ({ cls := "java/lang/StringUTF16", name := "compress", desc := "([CII)[B" } : Jvm.MethodName) jdk_52_method_16_code (6 : Nat) (Option.some (Jvm.ClassFile.FieldType.array Jvm.ClassFile.FieldType.byte))).before args0 about1 = true := code_word (m := ⟨10, 2⟩) (meth := k10m2) (c := k10c2) (by decide +kernel) rfl rfl rfl (by decide +kernel)
set_option maxRecDepth 65536 in
theorem w_c6 : (Jvm.Cond.code ({ cls := "java/lang/StringUTF16", name := "compress", desc := "([CI[BII)I" } : Jvm.MethodName) jdk_52_method_21_code (7 : Nat) (Option.some Jvm.ClassFile.FieldType.int)).before args0 about1 = true := code_word (m := ⟨10, 3⟩) (meth := k10m3) (c := k10c3) (by decide +kernel) rfl rfl rfl (by decide +kernel)
set_option maxRecDepth 65536 in
theorem w_c7 : (Jvm.Cond.code ({ cls := "java/lang/StringUTF16", name := "coderFromArrayLen", desc := "([BI)B" } : Jvm.MethodName) jdk_52_method_15_code (2 : Nat) (Option.some Jvm.ClassFile.FieldType.byte)).before args0 about1 = true := code_word (m := ⟨10, 1⟩) (meth := k10m1) (c := k10c1) (by decide +kernel) rfl rfl rfl (by decide +kernel)
set_option maxRecDepth 65536 in
theorem w_c8 : (Jvm.Cond.code ({ cls := "com/example/fiducia/fiducia/model/IdentificationTypeCheckDigitPinLaw", name := "term", desc := "([CIII)I" } : Jvm.MethodName) method_4_code (5 : Nat) (Option.some Jvm.ClassFile.FieldType.int)).before args0 about1 = true := code_word (m := ⟨1, 3⟩) (meth := k1m3) (c := k1c3) (by decide +kernel) rfl rfl rfl (by decide +kernel)
set_option maxRecDepth 65536 in
theorem w_c9 : (Jvm.Cond.code ({ cls := "com/example/fiducia/fiducia/model/IdentificationType", name := "checkDigit", desc := "(Ljava/lang/String;I)I" } : Jvm.MethodName) prog_16_method_7_code (6 : Nat) (Option.some Jvm.ClassFile.FieldType.int)).before args0 about1 = true := code_word (m := ⟨6, 0⟩) (meth := k6m0) (c := k6c0) (by decide +kernel) rfl rfl rfl (by decide +kernel)
set_option maxRecDepth 65536 in
theorem w_c10 : (Jvm.Cond.code ({ cls := "java/lang/String", name := "charAt", desc := "(I)C" } : Jvm.MethodName) jdk_42_method_56_code (2 : Nat) (Option.some Jvm.ClassFile.FieldType.char)).before args0 about1 = true := code_word (m := ⟨9, 2⟩) (meth := k9m2) (c := k9c2) (by decide +kernel) rfl rfl rfl (by decide +kernel)
set_option maxRecDepth 65536 in
theorem w_c11 : (Jvm.Cond.code ({ cls := "java/lang/String", name := "isLatin1", desc := "()Z" } : Jvm.MethodName) jdk_42_method_154_code (1 : Nat) (Option.some Jvm.ClassFile.FieldType.boolean)).before args0 about1 = true := code_word (m := ⟨9, 4⟩) (meth := k9m4) (c := k9c4) (by decide +kernel) rfl rfl rfl (by decide +kernel)
set_option maxRecDepth 65536 in
theorem w_c12 : (Jvm.Cond.code ({ cls := "java/lang/StringLatin1", name := "charAt", desc := "([BI)C" } : Jvm.MethodName) jdk_43_method_2_code (2 : Nat) (Option.some Jvm.ClassFile.FieldType.char)).before args0 about1 = true := code_word (m := ⟨11, 1⟩) (meth := k11m1) (c := k11c1) (by decide +kernel) rfl rfl rfl (by decide +kernel)
set_option maxRecDepth 65536 in
theorem w_c13 : (Jvm.Cond.code ({ cls := "java/lang/String", name := "checkIndex", desc := "(II)V" } : Jvm.MethodName) jdk_42_method_155_code (2 : Nat) (Option.none : Option Jvm.ClassFile.FieldType)).before args0 about1 = true := code_word (m := ⟨9, 5⟩) (meth := k9m5) (c := k9c5) (by decide +kernel) rfl rfl rfl (by decide +kernel)
set_option maxRecDepth 65536 in
theorem w_c14 : (Jvm.Cond.code ({ cls := "jdk/internal/util/Preconditions", name := "checkIndex", desc := "(IILjava/util/function/BiFunction;)I" } : Jvm.MethodName) jdk_41_method_11_code (3 : Nat) (Option.some Jvm.ClassFile.FieldType.int)).before args0 about1 = true := code_word (m := ⟨12, 1⟩) (meth := k12m1) (c := k12c1) (by decide +kernel) rfl rfl rfl (by decide +kernel)
def codes1 : List Jvm.Cond := [Jvm.Cond.code x code maxLocals ret, Jvm.Cond.code ({ cls := "com/example/fiducia/fiducia/model/IdentificationTypeCheckDigitPinLaw", name := "ch", desc := "(JI)C" } : Jvm.MethodName) method_3_code (4 : Nat) (Option.some Jvm.ClassFile.FieldType.char), Jvm.Cond.code ({ cls := "java/lang/String", name := "<init>", desc := "([C)V" } : Jvm.MethodName) jdk_42_method_3_code (2 : Nat) (Option.none : Option Jvm.ClassFile.FieldType), Jvm.Cond.code ({ cls := "java/lang/String", name := "<init>", desc := "([CIILjava/lang/Void;)V" } : Jvm.MethodName) jdk_42_method_149_code (6 : Nat) (Option.none : Option Jvm.ClassFile.FieldType), Jvm.Cond.code ({ cls := "java/lang/Object", name := "<init>", desc := "()V" } : Jvm.MethodName) object_method_1_code (1 : Nat) (Option.none : Option Jvm.ClassFile.FieldType), Jvm.Cond.code ({ cls := "java/lang/StringUTF16", name := "compress", desc := "([CII)[B" } : Jvm.MethodName) jdk_52_method_16_code (6 : Nat) (Option.some (Jvm.ClassFile.FieldType.array Jvm.ClassFile.FieldType.byte)), Jvm.Cond.code ({ cls := "java/lang/StringUTF16", name := "compress", desc := "([CI[BII)I" } : Jvm.MethodName) jdk_52_method_21_code (7 : Nat) (Option.some Jvm.ClassFile.FieldType.int), Jvm.Cond.code ({ cls := "java/lang/StringUTF16", name := "coderFromArrayLen", desc := "([BI)B" } : Jvm.MethodName) jdk_52_method_15_code (2 : Nat) (Option.some Jvm.ClassFile.FieldType.byte), Jvm.Cond.code ({ cls := "com/example/fiducia/fiducia/model/IdentificationTypeCheckDigitPinLaw", name := "term", desc := "([CIII)I" } : Jvm.MethodName) method_4_code (5 : Nat) (Option.some Jvm.ClassFile.FieldType.int), Jvm.Cond.code ({ cls := "com/example/fiducia/fiducia/model/IdentificationType", name := "checkDigit", desc := "(Ljava/lang/String;I)I" } : Jvm.MethodName) prog_16_method_7_code (6 : Nat) (Option.some Jvm.ClassFile.FieldType.int), Jvm.Cond.code ({ cls := "java/lang/String", name := "charAt", desc := "(I)C" } : Jvm.MethodName) jdk_42_method_56_code (2 : Nat) (Option.some Jvm.ClassFile.FieldType.char), Jvm.Cond.code ({ cls := "java/lang/String", name := "isLatin1", desc := "()Z" } : Jvm.MethodName) jdk_42_method_154_code (1 : Nat) (Option.some Jvm.ClassFile.FieldType.boolean), Jvm.Cond.code ({ cls := "java/lang/StringLatin1", name := "charAt", desc := "([BI)C" } : Jvm.MethodName) jdk_43_method_2_code (2 : Nat) (Option.some Jvm.ClassFile.FieldType.char), Jvm.Cond.code ({ cls := "java/lang/String", name := "checkIndex", desc := "(II)V" } : Jvm.MethodName) jdk_42_method_155_code (2 : Nat) (Option.none : Option Jvm.ClassFile.FieldType), Jvm.Cond.code ({ cls := "jdk/internal/util/Preconditions", name := "checkIndex", desc := "(IILjava/util/function/BiFunction;)I" } : Jvm.MethodName) jdk_41_method_11_code (3 : Nat) (Option.some Jvm.ClassFile.FieldType.int)]
set_option maxRecDepth 65536 in
theorem codes_eq : words1.filter isCode = codes1 := rfl
theorem w_codes : ∀ c ∈ words1.filter isCode, c.before args0 about1 = true := by
  rw [codes_eq]
  intro c hc
  simp only [codes1, List.mem_cons, List.not_mem_nil, or_false] at hc
  rcases hc with rfl | rfl | rfl | rfl | rfl | rfl | rfl | rfl | rfl | rfl | rfl | rfl | rfl | rfl | rfl
  · exact w_c0
  · exact w_c1
  · exact w_c2
  · exact w_c3
  · exact w_c4
  · exact w_c5
  · exact w_c6
  · exact w_c7
  · exact w_c8
  · exact w_c9
  · exact w_c10
  · exact w_c11
  · exact w_c12
  · exact w_c13
  · exact w_c14
set_option maxRecDepth 65536 in
theorem w_t1 : (words1.take 24).all (fun c => isCode c || c.before args0 about1) = true := by decide +kernel
set_option maxRecDepth 65536 in
theorem w_t2 : ((words1.drop 24).take 24).all (fun c => isCode c || c.before args0 about1) = true := by decide +kernel
set_option maxRecDepth 65536 in
theorem w_t3 : (((words1.drop 24).drop 24).take 24).all (fun c => isCode c || c.before args0 about1) = true := by decide +kernel
set_option maxRecDepth 65536 in
theorem w_t4 : (((words1.drop 24).drop 24).drop 24).all (fun c => isCode c || c.before args0 about1) = true := by decide +kernel
theorem w_tables : (allAtoms (Jvm.Cond.code x code maxLocals ret :: tables_1)).before args0 about1 = true := by
  rw [allAtoms_all]
  show words1.all (fun c => c.before args0 about1) = true
  refine all_split ?_ w_codes
  rw [← List.take_append_drop 24 words1, List.all_append, w_t1, ← List.take_append_drop 24 (words1.drop 24), List.all_append, w_t2, ← List.take_append_drop 24 ((words1.drop 24).drop 24), List.all_append, w_t3, w_t4]
  rfl
set_option maxRecDepth 65536 in
theorem w_rest : rest_1_c.before args0 about1 = true := by decide +kernel
set_option maxRecDepth 65536 in
theorem w_case : (Jvm.Cond.and given_1 narrow_1).before args0 about1 = true := by decide +kernel
theorem w_applies : (headSpec (Jvm.Cond.code x code maxLocals ret :: tables_1) room_1).applies x e0.platform about1 = true :=
  (Spec.applies_iff w_frames).mpr ⟨w_running, w_runnable, w_alone, w_named, w_hears, w_ripe, w_room, w_tables⟩
theorem atStart : AtStart classFile x code maxLocals ret World_1 tables_1 room_1 Calls_1 rest_1 Pre_1 launch0 p0 e0 about1 theMethod args0 below0 :=
  ⟨lists_1, trivial, launch0.admits_env _ _ _, launch0.least_env, fairChoices_fair.cas, fairChoices_fair.clock, w_frames, w_args, w_heap, w_applies, trivial, w_rest, w_case⟩
end start1
theorem witness_1 : WitnessClaimed_1 := ⟨start1.p0, start1.e0, start1.about1, start1.theMethod, start1.args0, start1.below0, start1.atStart⟩
end Jvm.Pilot.@@N@@
