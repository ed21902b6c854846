import JvmDerived
import JvmDerived.Pilot.@@N@@Statement
import JvmDerived.Pilot.@@N@@Code
set_option linter.unusedVariables false
set_option linter.unusedSimpArgs false
namespace Jvm.RoadKit
open Sem ClassFile Op Lib Jvm.Stand Jvm.Free Jvm.LawKit
section New
variable {p : Program} {l : Launch} {e : Env} {R : Room} {s : State} {m : MethodId} {args : Array Value} {below : List Frame} {meth : Method} {c : Code} {T : State} {locs : List Loc} {cells slots : Nat}
theorem retI (X : Stand p l e R s m args below meth c T locs cells slots) (hx : p.tables.exec = Jvm.exec) {pc : Nat} {Ls : Array Slot} {z : Int32} {rest : List Value} (hret : meth.sig.returnType = some .int) (hd : decode c.code pc = .ok (.ireturn, 1)) {fs : List Frame}
    (hl : ∀ (f : JFrame) (acts : List Action), f.method = m → f.locked = none → f.entered = [] → (doReturn e (T.setTop f) acts (some (.int z))).1 = T.setFrames fs) : Steps p.tables e below (T.setTop (mkF m pc Ls (.int z :: rest))) (T.setFrames fs) := by
  have hm' : T.vm.method? m = some meth := X.method'
  have hn : narrow .int (.int z) = .int z := rfl
  show Steps p.tables e below (T.setTop { method := m, pc := pc, locals := Ls, stack := _ :: rest, locked := none }) _
  jvm_step X.here [X.here.top, hx, hd, hm', hret, hn]
  first | (intro acts; rw [hl _ acts rfl rfl rfl]) | rw [hl _ _ rfl rfl rfl]
  exact Steps.refl _
end New
end Jvm.RoadKit
/- laws to paste: Road.backV (cut by pick.py; bodies as the Statement names them) -/
namespace Jvm.Pilot.@@N@@
namespace StrChars
open Jvm Sem ClassFile Op Lib Jvm.Stand Jvm.Free.XT Jvm.Free.ALB Jvm.Free.JM Jvm.Free
open Jvm.Lib.Cold (StaticIs)
/-- a char array whose places are chars -/
def Ch (a : Addr) (A : Cell) (U : State) : Prop := Arr .char a A U ∧ Typed .char A
theorem Ch.mv {a : Addr} {A : Cell} {U U' : State} (h : Ch a A U) (hal : U.vm.Alike U'.vm) (hh : U'.heap = U.heap) : Ch a A U' := ⟨h.1.mv hal hh, h.2⟩
theorem Ch.keep {a : Addr} {A : Cell} {U U' : State} (h : Ch a A U) (hal : U.vm.Alike U'.vm) (hk : U'.heap[a]? = some A) : Ch a A U' := ⟨h.1.keep hal hk, h.2⟩
/-- what place i of a char[]'s cell holds -/
def cv (A : Cell) (i : Nat) : Int32 := match A.slots[i]? with | some (.int x) => x | _ => 0
theorem Ch.get {a : Addr} {A : Cell} {U : State} (h : Ch a A U) {i : Nat} (hi : i < A.slots.size) : A.slots[i]? = some (.int (cv A i)) := by
  have e := Array.getElem?_eq_getElem hi
  have f := h.2 i _ e
  unfold cv; rw [e]
  generalize A.slots[i] = v at f
  cases v <;> simp [fits] at f ⊢
/-- the byte that i2b leaves of a char -/
def lo8 (x : Int32) : Int32 := x.toInt8.toInt32
theorem fits_lo8 (y : Int32) : fits .byte (.int (lo8 y)) = true := by
  have h1 := y.toInt8.le_toInt
  have h2 := y.toInt8.toInt_lt
  simp only [lo8, fits, Bool.and_eq_true, decide_eq_true_eq, Int32.le_iff_toInt_le, Int8.toInt_toInt32, show (-128 : Int32).toInt = -128 from by decide, show (127 : Int32).toInt = 127 from by decide]
  omega
/-- A' is A but that each place j of lo .. hi - 1 holds f j -/
def Laid (A A' : Cell) (lo hi : Nat) (f : Nat → Value) : Prop := A'.cls = A.cls ∧ A'.vm = A.vm ∧ A'.slots.size = A.slots.size ∧ ∀ i, A'.slots[i]? = if lo ≤ i ∧ i < hi then some (f i) else A.slots[i]?
theorem Laid.zero (A : Cell) (lo : Nat) (f : Nat → Value) : Laid A A lo (lo + 0) f := ⟨rfl, rfl, rfl, fun i => by rw [if_neg (by omega)]⟩
theorem Laid.step {A Ak : Cell} {lo k : Nat} {f : Nat → Value} {v : Value} (h : Laid A Ak lo k f) (hlo : lo ≤ k) (hk : k < Ak.slots.size) (hv : v = f k) : Laid A (Ak.setSlot k v) lo (k + 1) f := by
  refine ⟨h.1, h.2.1, by simpa [Cell.setSlot] using h.2.2.1, fun i => ?_⟩
  by_cases e : k = i
  · subst e; rw [Cell.slots_setSlot_self v hk, if_pos (by omega), hv]
  · rw [Cell.slots_setSlot_ne v e, h.2.2.2 i]
    by_cases q : lo ≤ i ∧ i < k
    · rw [if_pos q, if_pos (by omega)]
    · rw [if_neg q, if_neg (by omega)]
def U16 : String := "java/lang/StringUTF16"
namespace Cmp5
def yN : MethodName := ⟨"java/lang/StringUTF16", "compress", "([CI[BII)I"⟩
abbrev yB : ByteArray := jdk_52_method_21_code
theorem d0 : decode yB 0 = .ok (.iconst 0, 1) := by decide +kernel
theorem d1 : decode yB 1 = .ok (.istore 5, 2) := by decide +kernel
theorem d3 : decode yB 3 = .ok (.iload 5, 2) := by decide +kernel
theorem d5 : decode yB 5 = .ok (.iload 4, 2) := by decide +kernel
theorem d7 : decode yB 7 = .ok (.if_icmp (.ge) 37, 3) := by decide +kernel
theorem d10 : decode yB 10 = .ok (.aload_n 0, 1) := by decide +kernel
theorem d11 : decode yB 11 = .ok (.iload_n 1, 1) := by decide +kernel
theorem d12 : decode yB 12 = .ok (.caload, 1) := by decide +kernel
theorem d13 : decode yB 13 = .ok (.istore 6, 2) := by decide +kernel
theorem d15 : decode yB 15 = .ok (.iload 6, 2) := by decide +kernel
theorem d17 : decode yB 17 = .ok (.sipush 255, 3) := by decide +kernel
theorem d20 : decode yB 20 = .ok (.if_icmp (.le) 6, 3) := by decide +kernel
theorem d26 : decode yB 26 = .ok (.aload_n 2, 1) := by decide +kernel
theorem d27 : decode yB 27 = .ok (.iload_n 3, 1) := by decide +kernel
theorem d28 : decode yB 28 = .ok (.iload 6, 2) := by decide +kernel
theorem d30 : decode yB 30 = .ok (.i2b, 1) := by decide +kernel
theorem d31 : decode yB 31 = .ok (.bastore, 1) := by decide +kernel
theorem d32 : decode yB 32 = .ok (.iinc 1 1, 3) := by decide +kernel
theorem d35 : decode yB 35 = .ok (.iinc 3 1, 3) := by decide +kernel
theorem d38 : decode yB 38 = .ok (.iinc 5 1, 3) := by decide +kernel
theorem d41 : decode yB 41 = .ok (.goto (-38), 3) := by decide +kernel
theorem d44 : decode yB 44 = .ok (.iload 4, 2) := by decide +kernel
theorem d46 : decode yB 46 = .ok (.ireturn, 1) := by decide +kernel
def site : List Cond := []
def tab : Cond := tabOf yN yB 7 (some .int) site
def P (b : Addr) (A : Cell) (d : Addr) (B : Cell) (o q len : Nat) (args : Array Value) (s : State) : Prop := args = #[.ref b, .int (Int32.ofNat o), .ref d, .int (Int32.ofNat q), .int (Int32.ofNat len)] ∧ Ch b A s ∧ Arr .byte d B s ∧ b ≠ d ∧ o + len ≤ A.slots.size ∧ q + len ≤ B.slots.size ∧ ∀ i, i < len → ¬ 255 < cv A (o + i)
def E (b : Addr) (A : Cell) (d : Addr) (B : Cell) (o q len : Nat) (r : Option Value) (s u : State) : Prop := r = some (.int (Int32.ofNat len)) ∧ ∃ B', Put d B' s u ∧ Laid B B' q (q + len) (fun j => Value.int (lo8 (cv A (o + (j - q)))))
/-- no char of the range above 255: len; the places written hold each char's low byte -/
theorem law (l : Launch) (b : Addr) (A : Cell) (d : Addr) (B : Cell) (o q len : Nat) : Law l yN 5 5 0 0 yB 7 (some .int) site (P b A d B o q len) (E b A d B o q len) (copyLocs d q len) 0 0 := by
  refine Law.of_walk (plainFor_of_name (by decide +kernel)) (by decide +kernel) (by decide +kernel) (by decide) (fun _ _ h => by rw [h.1]; rfl) (fun _ U U' hal hh h => ⟨h.1, h.2.1.mv hal hh, h.2.2.1.mv hal hh, h.2.2.2⟩) (fun r U U' V V' h1 hal h2 h => ⟨h.1, h.2.elim fun B' q => ⟨B', q.1.mv h1 h2, q.2⟩⟩) ?_
  intro p e s m args below meth c s₁ X0 hexec hbytes hml hret hlk hnm hown hh0 W hP
  obtain ⟨rfl, hA, hB, hne, l1, l2, hp⟩ := hP
  have c1 : Steps p.tables e below (s₁.setTop (entryFrame m #[.ref b, .int (Int32.ofNat o), .ref d, .int (Int32.ofNat q), .int (Int32.ofNat len)] 7)) (s₁.setTop (mkF m 0 #[.val (.ref b), .val (.int (Int32.ofNat o)), .val (.ref d), .val (.int (Int32.ofNat q)), .val (.int (Int32.ofNat len)), .unset, .unset] [])) := entry rfl
  have hA0 := hA.1.mv X0.warmed.alike hh0
  have hB0 := hB.mv X0.warmed.alike hh0
  have a31 := hA.1.2.2.2
  have c2 : Steps p.tables e below (s₁.setTop (entryFrame m #[.ref b, .int (Int32.ofNat o), .ref d, .int (Int32.ofNat q), .int (Int32.ofNat len)] 7)) (s₁.setTop (mkF m 3 #[.val (.ref b), .val (.int (Int32.ofNat o)), .val (.ref d), .val (.int (Int32.ofNat q)), .val (.int (Int32.ofNat len)), .val (.int 0), .unset] [])) := c1.trans (by
    refine iconstV X0.here hexec rfl 0 (hb hbytes d0) (by decide) ?_
    refine XS.istore X0.here hexec rfl (hb hbytes d1) rfl rfl ?_
    exact Steps.refl _)
  have loop : ∀ (r i : Nat), i + r = len → ∀ (z : Slot), (z = .unset ∨ ∃ w, z = .val w ∧ w.category = 1) → ∀ (Tl : State) (Bk : Cell), Stand p l e { frames := 0, locals := 0, cells := 0, slots := 0 } s m #[.ref b, .int (Int32.ofNat o), .ref d, .int (Int32.ofNat q), .int (Int32.ofNat len)] below meth c Tl ([] ++ copyLocs d q i) 0 0 → Put d Bk s₁ Tl → Laid B Bk q (q + i) (fun j => Value.int (lo8 (cv A (o + (j - q))))) →
      Steps p.tables e below (s₁.setTop (entryFrame m #[.ref b, .int (Int32.ofNat o), .ref d, .int (Int32.ofNat q), .int (Int32.ofNat len)] 7)) (Tl.setTop (mkF m 3 #[.val (.ref b), .val (.int (Int32.ofNat (o + i))), .val (.ref d), .val (.int (Int32.ofNat (q + i))), .val (.int (Int32.ofNat len)), .val (.int (Int32.ofNat i)), z] [])) → ∃ (T' : State) (B' : Cell) (z' : Slot), Stand p l e { frames := 0, locals := 0, cells := 0, slots := 0 } s m #[.ref b, .int (Int32.ofNat o), .ref d, .int (Int32.ofNat q), .int (Int32.ofNat len)] below meth c T' ([] ++ copyLocs d q len) 0 0 ∧ Put d B' s₁ T' ∧ Laid B B' q (q + len) (fun j => Value.int (lo8 (cv A (o + (j - q))))) ∧
      Steps p.tables e below (s₁.setTop (entryFrame m #[.ref b, .int (Int32.ofNat o), .ref d, .int (Int32.ofNat q), .int (Int32.ofNat len)] 7)) (T'.setTop (mkF m 3 #[.val (.ref b), .val (.int (Int32.ofNat (o + len))), .val (.ref d), .val (.int (Int32.ofNat (q + len))), .val (.int (Int32.ofNat len)), .val (.int (Int32.ofNat len)), z'] [])) := by
    intro r
    induction r with
    | zero =>
      intro i hi z hz Tl Bk Xl pl fl cl
      have hil : i = len := by omega
      rw [hil] at Xl fl cl
      exact ⟨Tl, Bk, z, Xl, pl, fl, cl⟩
    | succ r ih =>
      intro i hi z hz Tl Bk Xl pl fl cl
      have all := X0.warmed.alike.symm.trans Xl.warmed.alike
      have hAl := hA0.keep all (pl.other hne hA0.1)
      have hBk := hB0.like all pl.1 fl.1 fl.2.1 fl.2.2.1
      have hlt : q + i < Bk.slots.size := by rw [fl.2.2.1]; omega
      have c3 : Steps p.tables e below (s₁.setTop (entryFrame m #[.ref b, .int (Int32.ofNat o), .ref d, .int (Int32.ofNat q), .int (Int32.ofNat len)] 7)) (Tl.setTop (mkF m 12 #[.val (.ref b), .val (.int (Int32.ofNat (o + i))), .val (.ref d), .val (.int (Int32.ofNat (q + i))), .val (.int (Int32.ofNat len)), .val (.int (Int32.ofNat i)), z] [.int (Int32.ofNat (o + i)), .ref b])) := cl.trans (by
        refine XS.iload Xl.here hexec rfl (hb hbytes d3) rfl ?_
        refine XS.iload Xl.here hexec rfl (hb hbytes d5) rfl ?_
        refine XS.icmpNo Xl.here hexec rfl (hb hbytes d7) rfl (ii_ge_f (lt32 (by omega) (by omega))) ?_
        refine XS.aloadN Xl.here hexec rfl (hb hbytes d10) rfl rfl ?_
        refine XS.iloadN Xl.here hexec rfl (hb hbytes d11) rfl ?_
        exact Steps.refl _)
      have c4 : Steps p.tables e below (s₁.setTop (entryFrame m #[.ref b, .int (Int32.ofNat o), .ref d, .int (Int32.ofNat q), .int (Int32.ofNat len)] 7)) (Tl.setTop (mkF m 13 #[.val (.ref b), .val (.int (Int32.ofNat (o + i))), .val (.ref d), .val (.int (Int32.ofNat (q + i))), .val (.int (Int32.ofNat len)), .val (.int (Int32.ofNat i)), z] [.int (cv A (o + i))])) := c3.trans (by
        refine Xl.aget hexec hAl rfl (hA.get (i := o + i) (by omega)) rfl rfl (hb hbytes d12) ?_
        exact Steps.refl _)
      have c5 : Steps p.tables e below (s₁.setTop (entryFrame m #[.ref b, .int (Int32.ofNat o), .ref d, .int (Int32.ofNat q), .int (Int32.ofNat len)] 7)) (Tl.setTop (mkF m 15 #[.val (.ref b), .val (.int (Int32.ofNat (o + i))), .val (.ref d), .val (.int (Int32.ofNat (q + i))), .val (.int (Int32.ofNat len)), .val (.int (Int32.ofNat i)), .val (.int (cv A (o + i)))] [])) := c4.trans (by
        refine XS.istoreS Xl.here hexec rfl (hb hbytes d13) rfl rfl hz ?_
        exact Steps.refl _)
      have c6 : Steps p.tables e below (s₁.setTop (entryFrame m #[.ref b, .int (Int32.ofNat o), .ref d, .int (Int32.ofNat q), .int (Int32.ofNat len)] 7)) (Tl.setTop (mkF m 31 #[.val (.ref b), .val (.int (Int32.ofNat (o + i))), .val (.ref d), .val (.int (Int32.ofNat (q + i))), .val (.int (Int32.ofNat len)), .val (.int (Int32.ofNat i)), .val (.int (cv A (o + i)))] [.int (lo8 (cv A (o + i))), .int (Int32.ofNat (q + i)), .ref d])) := c5.trans (by
        refine XS.iload Xl.here hexec rfl (hb hbytes d15) rfl ?_
        refine sipushV Xl.here hexec rfl 255 (hb hbytes d17) (by decide) ?_
        refine XS.icmpYes Xl.here hexec rfl (pc0 := 20) rfl (hb hbytes d20) rfl (ii_le_t (hp i (by omega))) (by decide) rfl ?_
        refine XS.aloadN Xl.here hexec rfl (hb hbytes d26) rfl rfl ?_
        refine XS.iloadN Xl.here hexec rfl (hb hbytes d27) rfl ?_
        refine XS.iload Xl.here hexec rfl (hb hbytes d28) rfl ?_
        refine i2b Xl.here hexec rfl (hb hbytes d30) rfl ?_
        exact Steps.refl _)
      obtain ⟨T7, X7, p7, st7⟩ := Xl.aput hexec hBk rfl hlt rfl (fits_lo8 (cv A (o + i))) (g := (mkF m 31 #[.val (.ref b), .val (.int (Int32.ofNat (o + i))), .val (.ref d), .val (.int (Int32.ofNat (q + i))), .val (.int (Int32.ofNat len)), .val (.int (Int32.ofNat i)), .val (.int (cv A (o + i)))] [.int (lo8 (cv A (o + i))), .int (Int32.ofNat (q + i)), .ref d])) rfl (rest := []) rfl (hb hbytes d31)
      have c8 : Steps p.tables e below (s₁.setTop (entryFrame m #[.ref b, .int (Int32.ofNat o), .ref d, .int (Int32.ofNat q), .int (Int32.ofNat len)] 7)) (T7.setTop (mkF m 32 #[.val (.ref b), .val (.int (Int32.ofNat (o + i))), .val (.ref d), .val (.int (Int32.ofNat (q + i))), .val (.int (Int32.ofNat len)), .val (.int (Int32.ofNat i)), .val (.int (cv A (o + i)))] [])) := c6.trans (st7 _ (Steps.refl _))
      have c9 : Steps p.tables e below (s₁.setTop (entryFrame m #[.ref b, .int (Int32.ofNat o), .ref d, .int (Int32.ofNat q), .int (Int32.ofNat len)] 7)) (T7.setTop (mkF m 3 #[.val (.ref b), .val (.int (Int32.ofNat (o + i) + 1)), .val (.ref d), .val (.int (Int32.ofNat (q + i) + 1)), .val (.int (Int32.ofNat len)), .val (.int (Int32.ofNat i + 1)), .val (.int (cv A (o + i)))] [])) := c8.trans (by
        refine iincV X7.here hexec rfl 1 (hb hbytes d32) (by decide) rfl rfl ?_
        refine iincV X7.here hexec rfl 1 (hb hbytes d35) (by decide) rfl rfl ?_
        refine iincV X7.here hexec rfl 1 (hb hbytes d38) (by decide) rfl rfl ?_
        refine XS.goto X7.here hexec rfl (pc0 := 41) rfl (hb hbytes d41) (by decide) rfl ?_
        exact Steps.refl _)
      have c10 : Steps p.tables e below (s₁.setTop (entryFrame m #[.ref b, .int (Int32.ofNat o), .ref d, .int (Int32.ofNat q), .int (Int32.ofNat len)] 7)) (T7.setTop (mkF m 3 #[.val (.ref b), .val (.int (Int32.ofNat (o + (i + 1)))), .val (.ref d), .val (.int (Int32.ofNat (q + (i + 1)))), .val (.int (Int32.ofNat len)), .val (.int (Int32.ofNat (i + 1))), .val (.int (cv A (o + i)))] [])) := by
        have := c9
        rw [succ32, succ32, succ32] at this
        exact this
      exact ih (i + 1) (by omega) _ (Or.inr ⟨_, rfl, rfl⟩) T7 _ (by rw [copyLocs_step, ← List.append_assoc]; exact X7) (pl.trans p7) (fl.step (by omega) hlt (by simp)) c10
  obtain ⟨T9, B9, z9, X9, p9, f9, g9⟩ := loop len 0 (by omega) .unset (Or.inl rfl) s₁ B (by simpa [copyLocs] using X0) ⟨hB0.1, fun _ _ => rfl, rfl⟩ (Laid.zero _ _ _) c2
  have c11 : Steps p.tables e below (s₁.setTop (entryFrame m #[.ref b, .int (Int32.ofNat o), .ref d, .int (Int32.ofNat q), .int (Int32.ofNat len)] 7)) (T9.setTop (mkF m 46 #[.val (.ref b), .val (.int (Int32.ofNat (o + len))), .val (.ref d), .val (.int (Int32.ofNat (q + len))), .val (.int (Int32.ofNat len)), .val (.int (Int32.ofNat len)), z9] [.int (Int32.ofNat len)])) := g9.trans (by
    refine XS.iload X9.here hexec rfl (hb hbytes d3) rfl ?_
    refine XS.iload X9.here hexec rfl (hb hbytes d5) rfl ?_
    refine XS.icmpYes X9.here hexec rfl (pc0 := 7) rfl (hb hbytes d7) rfl (ii_ge_t (nlt32 (by omega) (Nat.le_refl _))) (by decide) rfl ?_
    refine XS.iload X9.here hexec rfl (hb hbytes d44) rfl ?_
    exact Steps.refl _)
  exact ⟨T9, some (.int (Int32.ofNat len)), _, _, _, X9, by simp, rfl, rfl, (fun h => by cases h), ⟨rfl, B9, p9.from hh0, f9⟩, fun fs hl => c11.trans (X9.ireturnOut hexec hret rfl (Or.inl rfl) (hb hbytes d46) hl)⟩
end Cmp5
namespace Cmp3
def yN : MethodName := ⟨"java/lang/StringUTF16", "compress", "([CII)[B"⟩
abbrev yB : ByteArray := jdk_52_method_16_code
theorem d0 : decode yB 0 = .ok (.iload_n 2, 1) := by decide +kernel
theorem d1 : decode yB 1 = .ok (.newarray .byte, 2) := by decide +kernel
theorem d3 : decode yB 3 = .ok (.astore_n 3, 1) := by decide +kernel
theorem d4 : decode yB 4 = .ok (.aload_n 0, 1) := by decide +kernel
theorem d5 : decode yB 5 = .ok (.iload_n 1, 1) := by decide +kernel
theorem d6 : decode yB 6 = .ok (.aload_n 3, 1) := by decide +kernel
theorem d7 : decode yB 7 = .ok (.iconst 0, 1) := by decide +kernel
theorem d8 : decode yB 8 = .ok (.iload_n 2, 1) := by decide +kernel
theorem d9 : decode yB 9 = .ok (.invokestatic 115, 3) := by decide +kernel
theorem d12 : decode yB 12 = .ok (.istore 4, 2) := by decide +kernel
theorem d14 : decode yB 14 = .ok (.iload 4, 2) := by decide +kernel
theorem d16 : decode yB 16 = .ok (.iload_n 2, 1) := by decide +kernel
theorem d17 : decode yB 17 = .ok (.if_icmp (.eq) 40, 3) := by decide +kernel
theorem d57 : decode yB 57 = .ok (.aload_n 3, 1) := by decide +kernel
theorem d58 : decode yB 58 = .ok (.areturn, 1) := by decide +kernel
def site : List Cond := [.arrayClass .byte, Cmp5.tab] ++ staticW U16 115 Cmp5.yN
def tab : Cond := tabOf yN yB 6 (some (.array .byte)) site
def P (b : Addr) (A : Cell) (o len : Nat) (args : Array Value) (s : State) : Prop := args = #[.ref b, .int (Int32.ofNat o), .int (Int32.ofNat len)] ∧ Ch b A s ∧ o + len ≤ A.slots.size ∧ len ≤ 536870912 ∧ ∀ i, i < len → ¬ 255 < cv A (o + i)
def E (b : Addr) (A : Cell) (o len : Nat) (r : Option Value) (s u : State) : Prop := NewArr .byte "[B" len (fun j => .int (lo8 (cv A (o + j)))) r s u ∧ u.heap.size = s.heap.size + 1
/-- no char of the range above 255: a new byte[] of their low bytes -/
theorem law (l : Launch) (b : Addr) (A : Cell) (o len : Nat) : Law l yN 3 3 1 18 yB 6 (some (.array .byte)) site (P b A o len) (E b A o len) [] 1 len := by
  refine Law.of_walk (plainFor_of_name (by decide +kernel)) (by decide +kernel) (by decide +kernel) (by decide) (fun _ _ h => by rw [h.1]; rfl) (fun _ U U' hal hh h => ⟨h.1, h.2.1.mv hal hh, h.2.2⟩) (fun r U U' V V' h1 hal h2 h => ⟨NewArr.mv r U U' V V' h1 hal h2 h.1, by rw [h1, h2]; exact h.2⟩) ?_
  intro p e s m args below meth c s₁ X0 hexec hbytes hml hret hlk hnm hown hh0 W hP
  obtain ⟨rfl, hA, l1, l2, hp⟩ := hP
  have a31 := hA.1.2.2.2
  have c1 : Steps p.tables e below (s₁.setTop (entryFrame m #[.ref b, .int (Int32.ofNat o), .int (Int32.ofNat len)] 6)) (s₁.setTop (mkF m 0 #[.val (.ref b), .val (.int (Int32.ofNat o)), .val (.int (Int32.ofNat len)), .unset, .unset, .unset] [])) := entry rfl
  have c2 : Steps p.tables e below (s₁.setTop (entryFrame m #[.ref b, .int (Int32.ofNat o), .int (Int32.ofNat len)] 6)) (s₁.setTop (mkF m 1 #[.val (.ref b), .val (.int (Int32.ofNat o)), .val (.int (Int32.ofNat len)), .unset, .unset, .unset] [.int (Int32.ofNat len)])) := c1.trans (by
    refine XS.iloadN X0.here hexec rfl (hb hbytes d0) rfl ?_
    exact Steps.refl _)
  obtain ⟨T3, B3, X3, ba3, bs3, bv3, bh3, bf3, st3⟩ := X0.anew hexec (atype := .byte) (wk W (.arrayClass .byte)) rfl (by show len * 1 ≤ _; omega) (by omega) (g := (mkF m 1 #[.val (.ref b), .val (.int (Int32.ofNat o)), .val (.int (Int32.ofNat len)), .unset, .unset, .unset] [.int (Int32.ofNat len)])) rfl (hb hbytes d1) (rest := []) rfl (Nat.le_refl _) (by show 0 + len ≤ len; omega)
  rw [hh0] at ba3 st3
  have kp3 : XT.Kept s T3 := (XT.Kept.of_eq hh0).push bh3
  have hA3 := hA.keep X3.warmed.alike (kp3 _ _ hA.1.1)
  have hne : b ≠ s.heap.size := hA.1.ne
  have c4 : Steps p.tables e below (s₁.setTop (entryFrame m #[.ref b, .int (Int32.ofNat o), .int (Int32.ofNat len)] 6)) (T3.setTop (mkF m 3 #[.val (.ref b), .val (.int (Int32.ofNat o)), .val (.int (Int32.ofNat len)), .unset, .unset, .unset] [.ref s.heap.size])) := c2.trans (st3 _ (Steps.refl _))
  have c5 : Steps p.tables e below (s₁.setTop (entryFrame m #[.ref b, .int (Int32.ofNat o), .int (Int32.ofNat len)] 6)) (T3.setTop (mkF m 9 #[.val (.ref b), .val (.int (Int32.ofNat o)), .val (.int (Int32.ofNat len)), .val (.ref s.heap.size), .unset, .unset] [.int (Int32.ofNat len), .int 0, .ref s.heap.size, .int (Int32.ofNat o), .ref b])) := c4.trans (by
    refine XS.astoreN X3.here hexec rfl (hb hbytes d3) rfl rfl rfl ?_
    refine XS.aloadN X3.here hexec rfl (hb hbytes d4) rfl rfl ?_
    refine XS.iloadN X3.here hexec rfl (hb hbytes d5) rfl ?_
    refine XS.aloadN X3.here hexec rfl (hb hbytes d6) rfl rfl ?_
    refine iconstV X3.here hexec rfl 0 (hb hbytes d7) (by decide) ?_
    refine XS.iloadN X3.here hexec rfl (hb hbytes d8) rfl ?_
    exact Steps.refl _)
  obtain ⟨v6, T6, X6, E6, g6⟩ := X3.callS hexec (Cmp5.law l b A s.heap.size B3 o 0 len) hown (wks W (staticW U16 115 Cmp5.yN)) (wk W Cmp5.tab) (W := 0) (Nat.le_of_ble_eq_true rfl) (Nat.le_of_ble_eq_true rfl) (Nat.le_refl _) (by show 0 + len + 0 ≤ len; omega) (g := (mkF m 9 #[.val (.ref b), .val (.int (Int32.ofNat o)), .val (.int (Int32.ofNat len)), .val (.ref s.heap.size), .unset, .unset] [.int (Int32.ofNat len), .int (Int32.ofNat 0), .ref s.heap.size, .int (Int32.ofNat o), .ref b])) rfl (by rw [hml]; rfl) c5 (argsL := [.ref b, .int (Int32.ofNat o), .ref s.heap.size, .int (Int32.ofNat 0), .int (Int32.ofNat len)]) (rest := []) rfl rfl (by show 2 * 0 + 0 ≤ _; decide) (hb hbytes d9) (⟨rfl, hA3, ba3, hne, l1, by rw [bs3]; simp, hp⟩)
  obtain ⟨rfl, B6, p6, f6⟩ := E6
  have c7 : Steps p.tables e below (s₁.setTop (entryFrame m #[.ref b, .int (Int32.ofNat o), .int (Int32.ofNat len)] 6)) (T6.setTop (mkF m 12 #[.val (.ref b), .val (.int (Int32.ofNat o)), .val (.int (Int32.ofNat len)), .val (.ref s.heap.size), .unset, .unset] [.int (Int32.ofNat len)])) := g6
  have c8 : Steps p.tables e below (s₁.setTop (entryFrame m #[.ref b, .int (Int32.ofNat o), .int (Int32.ofNat len)] 6)) (T6.setTop (mkF m 58 #[.val (.ref b), .val (.int (Int32.ofNat o)), .val (.int (Int32.ofNat len)), .val (.ref s.heap.size), .val (.int (Int32.ofNat len)), .unset] [.ref s.heap.size])) := c7.trans (by
    refine XS.istore X6.here hexec rfl (hb hbytes d12) rfl rfl ?_
    refine XS.iload X6.here hexec rfl (hb hbytes d14) rfl ?_
    refine XS.iloadN X6.here hexec rfl (hb hbytes d16) rfl ?_
    refine XS.icmpYes X6.here hexec rfl (pc0 := 17) rfl (hb hbytes d17) rfl (ii_eq_t rfl) (by decide) rfl ?_
    refine XS.aloadN X6.here hexec rfl (hb hbytes d57) rfl rfl ?_
    exact Steps.refl _)
  have X8 := X6.wide (L' := []) (cells' := 1) (slots' := len) (fun x hx hlt => by
    simp only [List.nil_append, copyLocs, List.mem_map, List.mem_range] at hx
    obtain ⟨i, -, rfl⟩ := hx
    exact absurd hlt (Nat.lt_irrefl _)) (Nat.le_refl _) (by omega)
  exact ⟨T6, some (.ref s.heap.size), _, _, _, X8, rfl, rfl, rfl, (fun h => by cases h), ⟨⟨rfl, B6, ba3.like (X3.warmed.alike.symm.trans X6.warmed.alike) p6.1 f6.1 f6.2.1 f6.2.2.1, f6.2.1.trans bv3, by rw [X6.warmed.alike.findClass, f6.1]; exact bf3, by rw [f6.2.2.1, bs3]; simp, fun j hj => by rw [f6.2.2.2 j, if_pos (by omega)]; rfl, kp3.put p6 (Nat.le_refl _)⟩, by rw [p6.2.2, bh3, hh0]; simp⟩, fun fs hl => c8.trans (X8.areturnOut hexec rfl hret rfl (hb hbytes d58) hl)⟩
end Cmp3
namespace CodL
def yN : MethodName := ⟨"java/lang/StringUTF16", "coderFromArrayLen", "([BI)B"⟩
abbrev yB : ByteArray := jdk_52_method_15_code
theorem d0 : decode yB 0 = .ok (.iload_n 1, 1) := by decide +kernel
theorem d1 : decode yB 1 = .ok (.aload_n 0, 1) := by decide +kernel
theorem d2 : decode yB 2 = .ok (.arraylength, 1) := by decide +kernel
theorem d3 : decode yB 3 = .ok (.isub, 1) := by decide +kernel
theorem d4 : decode yB 4 = .ok (.bipush 31, 2) := by decide +kernel
theorem d6 : decode yB 6 = .ok (.iushr, 1) := by decide +kernel
theorem d7 : decode yB 7 = .ok (.i2b, 1) := by decide +kernel
theorem d8 : decode yB 8 = .ok (.ireturn, 1) := by decide +kernel
def site : List Cond := []
def tab : Cond := tabOf yN yB 2 (some .byte) site
def P (d : Addr) (B : Cell) (args : Array Value) (s : State) : Prop := args = #[.ref d, .int (Int32.ofNat B.slots.size)] ∧ Arr .byte d B s
def E (r : Option Value) (s u : State) : Prop := XT.PureE (some (.int 0)) r s u
/-- an array as long as the number of chars: LATIN1 -/
theorem law (l : Launch) (d : Addr) (B : Cell) : Law l yN 2 2 0 0 yB 2 (some .byte) site (P d B) E [] 0 0 := by
  refine Law.of_walk (plainFor_of_name (by decide +kernel)) (by decide +kernel) (by decide +kernel) (by decide) (fun _ _ h => by rw [h.1]; rfl) (fun _ U U' hal hh h => ⟨h.1, h.2.mv hal hh⟩) (fun r U U' V V' h1 hal h2 h => XT.PureE.mv r U U' V V' h1 hal h2 h) ?_
  intro p e s m args below meth c s₁ X0 hexec hbytes hml hret hlk hnm hown hh0 W hP
  obtain ⟨rfl, hB⟩ := hP
  have hB0 := hB.mv X0.warmed.alike hh0
  have c1 : Steps p.tables e below (s₁.setTop (entryFrame m #[.ref d, .int (Int32.ofNat B.slots.size)] 2)) (s₁.setTop (mkF m 0 #[.val (.ref d), .val (.int (Int32.ofNat B.slots.size))] [])) := entry rfl
  have c2 : Steps p.tables e below (s₁.setTop (entryFrame m #[.ref d, .int (Int32.ofNat B.slots.size)] 2)) (s₁.setTop (mkF m 2 #[.val (.ref d), .val (.int (Int32.ofNat B.slots.size))] [.ref d, .int (Int32.ofNat B.slots.size)])) := c1.trans (by
    refine XS.iloadN X0.here hexec rfl (hb hbytes d0) rfl ?_
    refine XS.aloadN X0.here hexec rfl (hb hbytes d1) rfl rfl ?_
    exact Steps.refl _)
  have c3 : Steps p.tables e below (s₁.setTop (entryFrame m #[.ref d, .int (Int32.ofNat B.slots.size)] 2)) (s₁.setTop (mkF m 8 #[.val (.ref d), .val (.int (Int32.ofNat B.slots.size))] [.int (lo8 (ushr (Int32.ofNat B.slots.size - Int32.ofNat B.slots.size) 31))])) := c2.trans (by
    refine X0.alen hexec hB0 rfl rfl (hb hbytes d2) ?_
    refine XS.isub X0.here hexec rfl (hb hbytes d3) rfl ?_
    refine bipushV X0.here hexec rfl 31 (hb hbytes d4) (by decide) ?_
    refine iushr X0.here hexec rfl (hb hbytes d6) rfl ?_
    refine i2b X0.here hexec rfl (hb hbytes d7) rfl ?_
    exact Steps.refl _)
  have e0 : lo8 (ushr (Int32.ofNat B.slots.size - Int32.ofNat B.slots.size) 31) = 0 := by rw [Int32.sub_self]; decide
  rw [e0] at c3
  exact ⟨s₁, some (.int 0), _, _, _, X0, rfl, rfl, rfl, (fun h => by cases h), ⟨rfl, hh0⟩, fun fs hl => c3.trans (X0.ireturnOut hexec hret rfl (Or.inr (Or.inr (Or.inl rfl))) (hb hbytes d8) hl)⟩
end CodL
/-- the String at a is Latin-1 over a new byte[] (the heap's one new cell): the low bytes of the len chars of A from o on; every cell but a is kept -/
def Got (a : Addr) (D : Cell) (fV fC : Field) (A : Cell) (o len : Nat) (r : Option Value) (s u : State) : Prop := r = none ∧ ∃ D' V : Cell, Blank "java/lang/String" a D' u ∧ Same D D' [fV.slot, fC.slot] ∧ D'.slots[fV.slot]? = some (.ref s.heap.size) ∧ D'.slots[fC.slot]? = some (.int 0) ∧ Arr .byte s.heap.size V u ∧ V.vm = .none ∧ u.vm.findClass "[B" = some V.cls ∧ V.slots.size = len ∧ (∀ j, j < len → V.slots[j]? = some (.int (lo8 (cv A (o + j))))) ∧ (∀ (y : Addr) (c : Cell), y ≠ a → s.heap[y]? = some c → u.heap[y]? = some c) ∧ u.heap.size = s.heap.size + 1
theorem Got.mv {a : Addr} {D A : Cell} {fV fC : Field} {o len : Nat} : ∀ r (U U' V V' : State), U'.heap = U.heap → V.vm.Alike V'.vm → V'.heap = V.heap → Got a D fV fC A o len r U V → Got a D fV fC A o len r U' V' :=
  fun r U U' V V' h1 hal h2 ⟨e0, D', X, a1, a2, a3, a4, a5, a6, a7, a8, a9, a10, a11⟩ => ⟨e0, D', X, a1.mv hal h2, a2, by rw [h1]; exact a3, a4, by rw [h1]; exact a5.mv hal h2, a6, by rw [hal.findClass]; exact a7, a8, a9, by rw [h1, h2]; exact a10, by rw [h1, h2]; exact a11⟩
namespace New4
def yN : MethodName := ⟨"java/lang/String", "<init>", "([CIILjava/lang/Void;)V"⟩
abbrev yB : ByteArray := jdk_42_method_149_code
theorem d0 : decode yB 0 = .ok (.aload_n 0, 1) := by decide +kernel
theorem d1 : decode yB 1 = .ok (.invokespecial 1, 3) := by decide +kernel
theorem d4 : decode yB 4 = .ok (.iload_n 3, 1) := by decide +kernel
theorem d5 : decode yB 5 = .ok (.ifCond (.ne) 22, 3) := by decide +kernel
theorem d27 : decode yB 27 = .ok (.getstatic 38, 3) := by decide +kernel
theorem d30 : decode yB 30 = .ok (.ifCond (.eq) 28, 3) := by decide +kernel
theorem d33 : decode yB 33 = .ok (.aload_n 1, 1) := by decide +kernel
theorem d34 : decode yB 34 = .ok (.iload_n 2, 1) := by decide +kernel
theorem d35 : decode yB 35 = .ok (.iload_n 3, 1) := by decide +kernel
theorem d36 : decode yB 36 = .ok (.invokestatic 177, 3) := by decide +kernel
theorem d39 : decode yB 39 = .ok (.astore 5, 2) := by decide +kernel
theorem d41 : decode yB 41 = .ok (.aload_n 0, 1) := by decide +kernel
theorem d42 : decode yB 42 = .ok (.aload 5, 2) := by decide +kernel
theorem d44 : decode yB 44 = .ok (.iload_n 3, 1) := by decide +kernel
theorem d45 : decode yB 45 = .ok (.invokestatic 47, 3) := by decide +kernel
theorem d48 : decode yB 48 = .ok (.putfield 15, 3) := by decide +kernel
theorem d51 : decode yB 51 = .ok (.aload_n 0, 1) := by decide +kernel
theorem d52 : decode yB 52 = .ok (.aload 5, 2) := by decide +kernel
theorem d54 : decode yB 54 = .ok (.putfield 9, 3) := by decide +kernel
theorem d57 : decode yB 57 = .ok (.return_, 1) := by decide +kernel
def site : List Cond := [.fieldLink "java/lang/String" 38 "java/lang/String" "COMPACT_STRINGS" "Z", Cmp3.tab, CodL.tab, .laysFinal "java/lang/String" "java/lang/String" "value" "[B", .fieldLink "java/lang/String" 9 "java/lang/String" "value" "[B", .laysFinal "java/lang/String" "java/lang/String" "coder" "B", .fieldLink "java/lang/String" 15 "java/lang/String" "coder" "B"] ++ objW "java/lang/String" 1 ++ staticW "java/lang/String" 177 Cmp3.yN ++ staticW "java/lang/String" 47 CodL.yN
def tab : Cond := tabOf yN yB 6 none site
def P (a : Addr) (D : Cell) (fV fC : Field) (b : Addr) (A : Cell) (z : Int32) (o len : Nat) (args : Array Value) (s : State) : Prop := args = #[.ref a, .ref b, .int (Int32.ofNat o), .int (Int32.ofNat len), .null] ∧ Blank "java/lang/String" a D s ∧ Found "java/lang/String" "value" "[B" fV s ∧ Found "java/lang/String" "coder" "B" fC s ∧ Ch b A s ∧ StaticIs s "java/lang/String" "COMPACT_STRINGS" "Z" (.int z) ∧ ¬ z = 0 ∧ 0 < len ∧ o + len ≤ A.slots.size ∧ len ≤ 536870912 ∧ ∀ i, i < len → ¬ 255 < cv A (o + i)
def E (a : Addr) (D : Cell) (fV fC : Field) (A : Cell) (o len : Nat) (r : Option Value) (s u : State) : Prop := Got a D fV fC A o len r s u
/-- len > 0, no char of the range above 255: a Latin-1 String of their low bytes -/
theorem law (l : Launch) (a : Addr) (D : Cell) (fV fC : Field) (b : Addr) (A : Cell) (z : Int32) (o len : Nat) : Law l yN 5 4 2 35 yB 6 none site (P a D fV fC b A z o len) (E a D fV fC A o len) [⟨a, fC.slot⟩, ⟨a, fV.slot⟩] 1 len := by
  refine Law.of_walk (plainFor_of_name (by decide +kernel)) (by decide +kernel) (by decide +kernel) (by decide) (fun _ _ h => by rw [h.1]; rfl) (fun _ U U' hal hh h => ⟨h.1, h.2.1.mv hal hh, h.2.2.1.al hal, h.2.2.2.1.al hal, h.2.2.2.2.1.mv hal hh, h.2.2.2.2.2.1.there hal hh, h.2.2.2.2.2.2⟩) (fun r U U' V V' h1 hal h2 h => Got.mv r U U' V V' h1 hal h2 h) ?_
  intro p e s m args below meth c s₁ X0 hexec hbytes hml hret hlk hnm hown hh0 W hP
  obtain ⟨rfl, hB, f1, f2, hA, s1, hz, l0, l1, l2, hp⟩ := hP
  have a31 := hA.1.2.2.2
  have c1 : Steps p.tables e below (s₁.setTop (entryFrame m #[.ref a, .ref b, .int (Int32.ofNat o), .int (Int32.ofNat len), .null] 6)) (s₁.setTop (mkF m 0 #[.val (.ref a), .val (.ref b), .val (.int (Int32.ofNat o)), .val (.int (Int32.ofNat len)), .val .null, .unset] [])) := entry rfl
  have c2 : Steps p.tables e below (s₁.setTop (entryFrame m #[.ref a, .ref b, .int (Int32.ofNat o), .int (Int32.ofNat len), .null] 6)) (s₁.setTop (mkF m 1 #[.val (.ref a), .val (.ref b), .val (.int (Int32.ofNat o)), .val (.int (Int32.ofNat len)), .val .null, .unset] [.ref a])) := c1.trans (by
    refine XS.aloadN X0.here hexec rfl (hb hbytes d0) rfl rfl ?_
    exact Steps.refl _)
  obtain ⟨T3, X3, q3, st3⟩ := X0.oinit hexec hown (wks W (objW "java/lang/String" 1)) (g := (mkF m 1 #[.val (.ref a), .val (.ref b), .val (.int (Int32.ofNat o)), .val (.int (Int32.ofNat len)), .val .null, .unset] [.ref a])) rfl (by rw [hml]; rfl) (rest := []) rfl (hb hbytes d1) (W := 0) (by show 2 * 0 + 0 ≤ _; decide) (Nat.le_of_ble_eq_true rfl) (Nat.le_of_ble_eq_true rfl)
  have hh3 := q3.trans hh0
  have c4 : Steps p.tables e below (s₁.setTop (entryFrame m #[.ref a, .ref b, .int (Int32.ofNat o), .int (Int32.ofNat len), .null] 6)) (T3.setTop (mkF m 27 #[.val (.ref a), .val (.ref b), .val (.int (Int32.ofNat o)), .val (.int (Int32.ofNat len)), .val .null, .unset] [])) := (c2.trans (st3 _ (Steps.refl _))).trans (by
    refine XS.iloadN X3.here hexec rfl (hb hbytes d4) rfl ?_
    refine XS.ifYes X3.here hexec rfl (pc0 := 5) rfl (hb hbytes d5) rfl (i0_ne_t (nz32 (by omega) l0)) (by decide) rfl ?_
    exact Steps.refl _)
  obtain ⟨T5, X5, q5, st5⟩ := X3.sget hexec hown (wk W (.fieldLink "java/lang/String" 38 "java/lang/String" "COMPACT_STRINGS" "Z")) s1 (fun _ _ h => by rw [hh3]; exact h) (g := (mkF m 27 #[.val (.ref a), .val (.ref b), .val (.int (Int32.ofNat o)), .val (.int (Int32.ofNat len)), .val .null, .unset] [])) rfl (hb hbytes d27)
  have hh5 := q5.trans hh3
  have c6 : Steps p.tables e below (s₁.setTop (entryFrame m #[.ref a, .ref b, .int (Int32.ofNat o), .int (Int32.ofNat len), .null] 6)) (T5.setTop (mkF m 30 #[.val (.ref a), .val (.ref b), .val (.int (Int32.ofNat o)), .val (.int (Int32.ofNat len)), .val .null, .unset] [.int z])) := c4.trans (st5 _ (Steps.refl _))
  have c7 : Steps p.tables e below (s₁.setTop (entryFrame m #[.ref a, .ref b, .int (Int32.ofNat o), .int (Int32.ofNat len), .null] 6)) (T5.setTop (mkF m 36 #[.val (.ref a), .val (.ref b), .val (.int (Int32.ofNat o)), .val (.int (Int32.ofNat len)), .val .null, .unset] [.int (Int32.ofNat len), .int (Int32.ofNat o), .ref b])) := c6.trans (by
    refine XS.ifNo X5.here hexec rfl (hb hbytes d30) rfl (i0_eq_f hz) ?_
    refine XS.aloadN X5.here hexec rfl (hb hbytes d33) rfl rfl ?_
    refine XS.iloadN X5.here hexec rfl (hb hbytes d34) rfl ?_
    refine XS.iloadN X5.here hexec rfl (hb hbytes d35) rfl ?_
    exact Steps.refl _)
  obtain ⟨v8, T8, X8, E8, g8⟩ := X5.callS hexec (Cmp3.law l b A o len) hown (wks W (staticW "java/lang/String" 177 Cmp3.yN)) (wk W Cmp3.tab) (W := 0) (Nat.le_of_ble_eq_true rfl) (Nat.le_of_ble_eq_true rfl) (Nat.le_refl _) (by show 0 + len ≤ len; omega) (g := (mkF m 36 #[.val (.ref a), .val (.ref b), .val (.int (Int32.ofNat o)), .val (.int (Int32.ofNat len)), .val .null, .unset] [.int (Int32.ofNat len), .int (Int32.ofNat o), .ref b])) rfl (by rw [hml]; rfl) c7 (argsL := [.ref b, .int (Int32.ofNat o), .int (Int32.ofNat len)]) (rest := []) rfl rfl (by show 2 * 0 + 0 ≤ _; decide) (hb hbytes d36) (⟨rfl, hA.mv X5.warmed.alike hh5, l1, l2, hp⟩)
  obtain ⟨e8, z8⟩ := E8
  obtain ⟨rfl, N, n1, n2, n3, n4, n5, n6⟩ := NewArr.mv _ T5 s _ _ hh5.symm (Vm.Alike.refl _) rfl e8
  rw [hh5] at z8
  have hB1 := hB.keep X8.warmed.alike (n6 _ _ hB.1)
  have hne : s.heap.size ≠ a := (Nat.ne_of_lt (Array.getElem?_eq_some_iff.mp hB.1).1).symm
  have c9 : Steps p.tables e below (s₁.setTop (entryFrame m #[.ref a, .ref b, .int (Int32.ofNat o), .int (Int32.ofNat len), .null] 6)) (T8.setTop (mkF m 39 #[.val (.ref a), .val (.ref b), .val (.int (Int32.ofNat o)), .val (.int (Int32.ofNat len)), .val .null, .unset] [.ref s.heap.size])) := g8
  have c10 : Steps p.tables e below (s₁.setTop (entryFrame m #[.ref a, .ref b, .int (Int32.ofNat o), .int (Int32.ofNat len), .null] 6)) (T8.setTop (mkF m 45 #[.val (.ref a), .val (.ref b), .val (.int (Int32.ofNat o)), .val (.int (Int32.ofNat len)), .val .null, .val (.ref s.heap.size)] [.int (Int32.ofNat N.slots.size), .ref s.heap.size, .ref a])) := by
    have hc : Steps p.tables e below (s₁.setTop (entryFrame m #[.ref a, .ref b, .int (Int32.ofNat o), .int (Int32.ofNat len), .null] 6)) (T8.setTop (mkF m 45 #[.val (.ref a), .val (.ref b), .val (.int (Int32.ofNat o)), .val (.int (Int32.ofNat len)), .val .null, .val (.ref s.heap.size)] [.int (Int32.ofNat len), .ref s.heap.size, .ref a])) := c9.trans (by
      refine XS.astore X8.here hexec rfl (hb hbytes d39) rfl rfl rfl ?_
      refine XS.aloadN X8.here hexec rfl (hb hbytes d41) rfl rfl ?_
      refine XS.aload X8.here hexec rfl (hb hbytes d42) rfl rfl ?_
      refine XS.iloadN X8.here hexec rfl (hb hbytes d44) rfl ?_
      exact Steps.refl _)
    rw [n4]; exact hc
  obtain ⟨v11, T11, X11, E11, g11⟩ := X8.callS hexec (CodL.law l s.heap.size N) hown (wks W (staticW "java/lang/String" 47 CodL.yN)) (wk W CodL.tab) (W := 1) (Nat.le_of_ble_eq_true rfl) (Nat.le_of_ble_eq_true rfl) (Nat.le_refl _) (by show 0 + len + 0 ≤ len; omega) (g := (mkF m 45 #[.val (.ref a), .val (.ref b), .val (.int (Int32.ofNat o)), .val (.int (Int32.ofNat len)), .val .null, .val (.ref s.heap.size)] [.int (Int32.ofNat N.slots.size), .ref s.heap.size, .ref a])) rfl (by rw [hml]; rfl) c10 (argsL := [.ref s.heap.size, .int (Int32.ofNat N.slots.size)]) (rest := [.ref a]) rfl rfl (by show 2 * 0 + (1 + 0) ≤ _; decide) (hb hbytes d45) (⟨rfl, n1⟩)
  obtain ⟨rfl, q11⟩ := E11
  have hB11 := hB1.mv (X8.warmed.alike.symm.trans X11.warmed.alike) q11
  have c12 : Steps p.tables e below (s₁.setTop (entryFrame m #[.ref a, .ref b, .int (Int32.ofNat o), .int (Int32.ofNat len), .null] 6)) (T11.setTop (mkF m 48 #[.val (.ref a), .val (.ref b), .val (.int (Int32.ofNat o)), .val (.int (Int32.ofNat len)), .val .null, .val (.ref s.heap.size)] [.int 0, .ref a])) := g11
  obtain ⟨T13, X13, p13, bl13, sl13, st13⟩ := X11.finit hexec hown (wk W (.fieldLink "java/lang/String" 15 "java/lang/String" "coder" "B")) (Or.inr ⟨_, (wk W (.laysFinal "java/lang/String" "java/lang/String" "coder" "B"))⟩) (Or.inl ⟨rfl, hnm⟩) f2 (Or.inl rfl) hB11 (t := .byte) (by decide +kernel) rfl (g := (mkF m 48 #[.val (.ref a), .val (.ref b), .val (.int (Int32.ofNat o)), .val (.int (Int32.ofNat len)), .val .null, .val (.ref s.heap.size)] [.int 0, .ref a])) rfl (rest := []) rfl (hb hbytes d48)
  have c14 : Steps p.tables e below (s₁.setTop (entryFrame m #[.ref a, .ref b, .int (Int32.ofNat o), .int (Int32.ofNat len), .null] 6)) (T13.setTop (mkF m 54 #[.val (.ref a), .val (.ref b), .val (.int (Int32.ofNat o)), .val (.int (Int32.ofNat len)), .val .null, .val (.ref s.heap.size)] [.ref s.heap.size, .ref a])) := (c12.trans (st13 _ (Steps.refl _))).trans (by
    refine XS.aloadN X13.here hexec rfl (hb hbytes d51) rfl rfl ?_
    refine XS.aload X13.here hexec rfl (hb hbytes d52) rfl rfl ?_
    exact Steps.refl _)
  obtain ⟨T15, X15, p15, bl15, sl15, st15⟩ := X13.finit hexec hown (wk W (.fieldLink "java/lang/String" 9 "java/lang/String" "value" "[B")) (Or.inr ⟨_, (wk W (.laysFinal "java/lang/String" "java/lang/String" "value" "[B"))⟩) (Or.inl ⟨rfl, hnm⟩) f1 (Or.inl rfl) bl13 (t := (.array .byte)) (by decide +kernel) rfl (g := (mkF m 54 #[.val (.ref a), .val (.ref b), .val (.int (Int32.ofNat o)), .val (.int (Int32.ofNat len)), .val .null, .val (.ref s.heap.size)] [.ref s.heap.size, .ref a])) rfl (rest := []) rfl (hb hbytes d54)
  have c16 : Steps p.tables e below (s₁.setTop (entryFrame m #[.ref a, .ref b, .int (Int32.ofNat o), .int (Int32.ofNat len), .null] 6)) (T15.setTop (mkF m 57 #[.val (.ref a), .val (.ref b), .val (.int (Int32.ofNat o)), .val (.int (Int32.ofNat len)), .val .null, .val (.ref s.heap.size)] [])) := c14.trans (st15 _ (Steps.refl _))
  have ap := apart (Or.inr ⟨_, (wk W (.laysFinal "java/lang/String" "java/lang/String" "value" "[B"))⟩) (Or.inr ⟨_, (wk W (.laysFinal "java/lang/String" "java/lang/String" "coder" "B"))⟩) f1 f2 (t₁ := .array .byte) (t₂ := .byte) (by decide +kernel) (by decide +kernel) (by decide)
  have al := X8.warmed.alike.symm.trans X15.warmed.alike
  have n7 : T11.heap[s.heap.size]? = some N := by rw [q11]; exact n1.1
  exact ⟨T15, none, _, _, _, X15, by simp, rfl, by omega, (fun _ => rfl), ⟨rfl, _, N, bl15, ((Same.refl D _).set _ (by simp)).set _ (by simp), sl15, (Cell.slots_setSlot_ne _ ap).trans sl13, n1.keep al (p15.other hne (p13.other hne n7)), n2, by rw [al.findClass]; exact n3, n4, n5, fun y c h1 h2 => p15.other h1 (p13.other h1 (by rw [q11]; exact n6 y c h2)), by rw [p15.2.2, p13.2.2, q11]; exact z8⟩, fun fs hl => c16.trans (X15.returnOut hexec hret (hb hbytes d57) hl)⟩
end New4
namespace New1
def yN : MethodName := ⟨"java/lang/String", "<init>", "([C)V"⟩
abbrev yB : ByteArray := jdk_42_method_3_code
theorem d0 : decode yB 0 = .ok (.aload_n 0, 1) := by decide +kernel
theorem d1 : decode yB 1 = .ok (.aload_n 1, 1) := by decide +kernel
theorem d2 : decode yB 2 = .ok (.iconst 0, 1) := by decide +kernel
theorem d3 : decode yB 3 = .ok (.aload_n 1, 1) := by decide +kernel
theorem d4 : decode yB 4 = .ok (.arraylength, 1) := by decide +kernel
theorem d5 : decode yB 5 = .ok (.aconst_null, 1) := by decide +kernel
theorem d6 : decode yB 6 = .ok (.invokespecial 27, 3) := by decide +kernel
theorem d9 : decode yB 9 = .ok (.return_, 1) := by decide +kernel
def site : List Cond := [New4.tab] ++ initW "java/lang/String" 27 New4.yN
def tab : Cond := tabOf yN yB 2 none site
def P (a : Addr) (D : Cell) (fV fC : Field) (b : Addr) (A : Cell) (z : Int32) (args : Array Value) (s : State) : Prop := args = #[.ref a, .ref b] ∧ Blank "java/lang/String" a D s ∧ Found "java/lang/String" "value" "[B" fV s ∧ Found "java/lang/String" "coder" "B" fC s ∧ Ch b A s ∧ StaticIs s "java/lang/String" "COMPACT_STRINGS" "Z" (.int z) ∧ ¬ z = 0 ∧ 0 < A.slots.size ∧ A.slots.size ≤ 536870912 ∧ ∀ i, i < A.slots.size → ¬ 255 < cv A i
def E (a : Addr) (D : Cell) (fV fC : Field) (A : Cell) (r : Option Value) (s u : State) : Prop := Got a D fV fC A 0 A.slots.size r s u
/-- new String(chars), not empty, no char above 255: a Latin-1 String of their low bytes -/
theorem law (l : Launch) (a : Addr) (D : Cell) (fV fC : Field) (b : Addr) (A : Cell) (z : Int32) : Law l yN 2 1 3 52 yB 2 none site (P a D fV fC b A z) (E a D fV fC A) [⟨a, fC.slot⟩, ⟨a, fV.slot⟩] 1 A.slots.size := by
  refine Law.of_walk (plainFor_of_name (by decide +kernel)) (by decide +kernel) (by decide +kernel) (by decide) (fun _ _ h => by rw [h.1]; rfl) (fun _ U U' hal hh h => ⟨h.1, h.2.1.mv hal hh, h.2.2.1.al hal, h.2.2.2.1.al hal, h.2.2.2.2.1.mv hal hh, h.2.2.2.2.2.1.there hal hh, h.2.2.2.2.2.2⟩) (fun r U U' V V' h1 hal h2 h => Got.mv r U U' V V' h1 hal h2 h) ?_
  intro p e s m args below meth c s₁ X0 hexec hbytes hml hret hlk hnm hown hh0 W hP
  obtain ⟨rfl, hB, f1, f2, hA, s1, hz, l0, l2, hp⟩ := hP
  have c1 : Steps p.tables e below (s₁.setTop (entryFrame m #[.ref a, .ref b] 2)) (s₁.setTop (mkF m 0 #[.val (.ref a), .val (.ref b)] [])) := entry rfl
  have c2 : Steps p.tables e below (s₁.setTop (entryFrame m #[.ref a, .ref b] 2)) (s₁.setTop (mkF m 6 #[.val (.ref a), .val (.ref b)] [.null, .int (Int32.ofNat A.slots.size), .int 0, .ref b, .ref a])) := c1.trans (by
    refine XS.aloadN X0.here hexec rfl (hb hbytes d0) rfl rfl ?_
    refine XS.aloadN X0.here hexec rfl (hb hbytes d1) rfl rfl ?_
    refine iconstV X0.here hexec rfl 0 (hb hbytes d2) (by decide) ?_
    refine XS.aloadN X0.here hexec rfl (hb hbytes d3) rfl rfl ?_
    refine X0.alen hexec (hA.1.mv X0.warmed.alike hh0) rfl rfl (hb hbytes d4) ?_
    refine XS.aconstNull X0.here hexec rfl (hb hbytes d5) ?_
    exact Steps.refl _)
  obtain ⟨v3, T3, X3, E3, g3⟩ := X0.callN hexec (New4.law l a D fV fC b A z 0 A.slots.size) rfl hown (wks W (initW "java/lang/String" 27 New4.yN)) (W New4.tab (by simp only [site, List.mem_cons, List.mem_append, true_or, or_true])) (W := 0) (Nat.le_of_ble_eq_true rfl) (Nat.le_of_ble_eq_true rfl) (Nat.le_refl _) (by show 0 + A.slots.size ≤ A.slots.size; omega) (g := (mkF m 6 #[.val (.ref a), .val (.ref b)] [.null, .int (Int32.ofNat A.slots.size), .int (Int32.ofNat 0), .ref b, .ref a])) rfl (by rw [hml]; rfl) c2 (argsL := [.ref b, .int (Int32.ofNat 0), .int (Int32.ofNat A.slots.size), .null]) (rest := []) rfl rfl (by show 2 * 0 + 0 ≤ _; decide) (hb hbytes d6) (⟨rfl, hB.mv X0.warmed.alike hh0, f1.al X0.warmed.alike, f2.al X0.warmed.alike, hA.mv X0.warmed.alike hh0, s1.there X0.warmed.alike hh0, hz, l0, by omega, l2, fun i hi => by rw [Nat.zero_add]; exact hp i hi⟩)
  have e0 := Got.mv _ s₁ s _ _ hh0.symm (Vm.Alike.refl _) rfl E3
  obtain rfl := e0.1
  have c4 : Steps p.tables e below (s₁.setTop (entryFrame m #[.ref a, .ref b] 2)) (T3.setTop (mkF m 9 #[.val (.ref a), .val (.ref b)] [])) := g3
  exact ⟨T3, none, _, _, _, X3, by simp, rfl, by omega, (fun _ => rfl), e0, fun fs hl => c4.trans (X3.returnOut hexec hret (hb hbytes d9) hl)⟩
theorem pays {l : Launch} {R : Room} {p : Program} {e : Env} {below : List Frame} {s : State} {sargs : Array Value} {len W : Nat} (a : Addr) (D : Cell) (fV fC : Field) (b : Addr) (A : Cell) (z : Int32) (htab : tab.before sargs s = true) (hfr : 4 ≤ R.frames) (hlo : W + 65 ≤ R.locals) :
    Back l R p e below s sargs yN len W (fun A₁ a₁ => A₁.cells + 1 ≤ R.cells ∧ A₁.slots + A.slots.size ≤ R.slots ∧ P a D fV fC b A z a₁ A₁.U) (fun A₁ _ v₁ B₁ => E a D fV fC A v₁ A₁.U B₁.U ∧ B₁.locs = A₁.locs ++ [⟨a, fC.slot⟩, ⟨a, fV.slot⟩] ∧ B₁.cells = A₁.cells + 1 ∧ B₁.slots = A₁.slots + A.slots.size) :=
  (law l a D fV fC b A z).pays htab hfr (by omega)
end New1
end StrChars
namespace StrChars.Road
open Jvm Sem ClassFile Op Lib Jvm.Stand Jvm.Free Jvm.Free.XT
open Jvm.Lib.Cold (StaticIs)
abbrev ST : String := "java/lang/String"
/-- every table word that New1's law asks, flat -/
abbrev words : List Jvm.Cond := [.code New1.yN New1.yB 2 none, .initialized ST, .methodLink ST 27 New4.yN, .instanceMethod New4.yN,
  .code New4.yN New4.yB 6 none, .fieldLink ST 38 ST "COMPACT_STRINGS" "Z", .laysFinal ST ST "value" "[B", .fieldLink ST 9 ST "value" "[B", .laysFinal ST ST "coder" "B", .fieldLink ST 15 ST "coder" "B",
  .methodLink ST 1 Lib.objectInit, .instanceMethod Lib.objectInit, .code Lib.objectInit ⟨#[0xb1]⟩ 1 none, .methodLink ST 177 Cmp3.yN, .static Cmp3.yN, .methodLink ST 47 CodL.yN, .static CodL.yN,
  .code Cmp3.yN Cmp3.yB 6 (some (.array .byte)), .initialized U16, .arrayClass .byte, .methodLink U16 115 Cmp5.yN, .static Cmp5.yN, .code Cmp5.yN Cmp5.yB 7 (some .int), .code CodL.yN CodL.yB 2 (some .byte)]
theorem tab_of {a : Array Value} {s : State} (h : ∀ w ∈ words, w.before a s = true) : New1.tab.before a s = true := by
  have h5 : Cmp5.tab.before a s = true := unparts (wk h (.code Cmp5.yN Cmp5.yB 7 (some .int))) (wks h (.initialized Cmp5.yN.cls :: Cmp5.site))
  have hc : CodL.tab.before a s = true := unparts (wk h (.code CodL.yN CodL.yB 2 (some .byte))) (wks h (.initialized CodL.yN.cls :: CodL.site))
  have q5 : ∀ w ∈ Cmp5.tab :: words, w.before a s = true := fun w hw => (List.mem_cons.mp hw).elim (fun e => e ▸ h5) (h w)
  have h3 : Cmp3.tab.before a s = true := unparts (wk q5 (.code Cmp3.yN Cmp3.yB 6 (some (.array .byte)))) (wks q5 (.initialized Cmp3.yN.cls :: Cmp3.site))
  have q3 : ∀ w ∈ Cmp3.tab :: CodL.tab :: words, w.before a s = true := fun w hw => (List.mem_cons.mp hw).elim (fun e => e ▸ h3) fun hw => (List.mem_cons.mp hw).elim (fun e => e ▸ hc) (h w)
  have h4 : New4.tab.before a s = true := unparts (wk q3 (.code New4.yN New4.yB 6 none)) (wks q3 (.initialized New4.yN.cls :: New4.site))
  have q4 : ∀ w ∈ New4.tab :: words, w.before a s = true := fun w hw => (List.mem_cons.mp hw).elim (fun e => e ▸ h4) (h w)
  exact unparts (wk q4 (.code New1.yN New1.yB 2 none)) (wks q4 (.initialized New1.yN.cls :: New1.site))
/-- the words ride from the start Z to the walk's own state -/
theorem moved {Z s : State} {a0 args : Array Value} (hZ : Z.Warmed39 s.vm) (hw : ∀ d ∈ words, d.before a0 Z = true) : ∀ d ∈ words, d.before args s = true := fun d hd => by
  have q := hw d hd
  have t : ∀ d ∈ words, d = .arrayClass .byte ∨ (d.onTables && d.keepsFace) = true := by decide +kernel
  rcases t d hd with rfl | t
  · exact RoadKit.mvA hZ q
  · exact RoadKit.mv hZ q t
/-- WHAT COMES BACK, over the tables of the start Z: h the heap at the call, h' behind it -/
def Q (Z : State) (x : Addr) (A : Cell) (h : Heap) (v : Option Value) (h' : Heap) (L : List Loc) : Prop := v = none ∧ (∀ y ∈ L, y.base = x) ∧ RoadKit.Keep h h' [x] ∧ h'.size = h.size + 1 ∧ RoadKit.Exa Z h' x ST ∧ RoadKit.Fld Z h' x ST "value" "[B" (.ref h.size) ∧ RoadKit.Fld Z h' x ST "coder" "B" (.int 0) ∧
  (∃ V : Cell, RoadKit.Arr Z h' h.size V .byte ∧ V.vm = .none ∧ Z.vm.findClass "[B" = some V.cls ∧ V.slots.size = A.slots.size ∧ ∀ j, j < A.slots.size → V.slots[j]? = some (.int (lo8 (cv A j)))) ∧
  ∀ (O n d : String) (w : Value), RoadKit.Fld Z h x O n d w → RoadKit.slotOf Z O n d ≠ RoadKit.slotOf Z ST "value" "[B" → RoadKit.slotOf Z O n d ≠ RoadKit.slotOf Z ST "coder" "B" → RoadKit.Fld Z h' x O n d w
/-- **new String(chars) AT A CALL, IN THE ROAD'S FORM**: for specialBack behind newO: x the fresh String, b the char[] with the cell A -/
theorem back {p : Program} {l : Launch} {e : Env} {R : Room} {s : State} {args : Array Value} {below : List Frame} {len W : Nat} {Z : State} {a0 : Array Value} {h : Heap} (hZ : Z.Warmed39 s.vm) (hw : ∀ d ∈ words, d.before a0 Z = true) {kI : Nat} (wi : (Jvm.Cond.instantiable ST kI).before a0 Z = true)
    {x b : Addr} {A : Cell} {z : Int32} {v0 c0 : Value} (E : RoadKit.Exa Z h x ST) (V : RoadKit.Fld Z h x ST "value" "[B" v0) (C : RoadKit.Fld Z h x ST "coder" "B" c0) (K : RoadKit.Arr Z h b A .char) (hty : Typed .char A) (S : RoadKit.Sta Z h ST "COMPACT_STRINGS" "Z" (.int z)) (hz : ¬ z = 0)
    (l0 : 0 < A.slots.size) (l2 : A.slots.size ≤ 536870912) (hp : ∀ i, i < A.slots.size → ¬ 255 < cv A i) (hfr : 4 ≤ R.frames) (hlo : W + 65 ≤ R.locals) :
    Back l R p e below s args New1.yN len W (fun P a => a = #[.ref x, .ref b] ∧ P.U.heap = h ∧ P.cells + 1 ≤ R.cells ∧ P.slots + A.slots.size ≤ R.slots)
      (fun P _ v B => ∃ L, Q Z x A h v B.U.heap L ∧ B.locs = P.locs ++ L ∧ B.cells = P.cells + 1 ∧ B.slots = P.slots + A.slots.size) := by
  intro m meth c P g ig mk a X hg hsize hdg hW hn hp'
  obtain ⟨rfl, rfl, r1, r2⟩ := hp'
  have al : Z.vm.Alike P.U.vm := hZ.alike.trans X.warmed.alike
  obtain ⟨D, cfV, kV, iV, fV, hD, gV, stV, knV, obV, asV, slV⟩ := id V
  obtain ⟨D', cfC, kC, iC, fC, hD', gC, stC, -, -, asC, slC⟩ := id C
  cases hD.symm.trans hD'
  obtain ⟨D2, kD, e1, e2, e3, e4, e5⟩ := id E
  cases hD.symm.trans e1
  obtain ⟨c2, k2, i1, i2, i3, -⟩ := Cond.instantiable_spec wi
  cases e2.symm.trans i1
  cases e3.symm.trans i2
  obtain ⟨kU, u1, u2⟩ := al.2.2 _ _ e3
  have hB : Blank ST x D P.U := ⟨hD, ⟨knV, fun q hq => by rw [hq] at obV; cases obV⟩, by rw [al.findClass]; exact e2, kU, u1, by rw [u2]; exact i3, by rw [u2]; exact e5 i3⟩
  have F1 : Found ST "value" "[B" fV P.U := ⟨SBG.found_only al ⟨cfV, kV, iV, gV⟩, stV⟩
  have F2 : Found ST "coder" "B" fC P.U := ⟨SBG.found_only al ⟨cfC, kC, iC, gC⟩, stC⟩
  have hA : Ch b A P.U := ⟨⟨K.1, State.isArrayOf_alike al K.2.1, K.2.2, by omega⟩, hty⟩
  have hS : StaticIs P.U ST "COMPACT_STRINGS" "Z" (.int z) := by
    obtain ⟨cfS, iS, kS, fS, st, cS, t1, t2, t3, t4, t5, t6, t7⟩ := S
    exact StaticIs.there (s := { Z with heap := P.U.heap }) ⟨cfS, iS, kS, fS, st, cS, t1, t2, t3, t4, t5, (fun q => by rw [q] at t6; cases t6), t7⟩ al rfl
  obtain ⟨v, B, X', ⟨⟨hv, E', V', q1, q2, q3, q4, q5, q6, q7, q8, q9, q10, q11⟩, hl, hc, hs⟩, st⟩ := New1.pays x D fV fC b A z (tab_of (moved hZ hw)) hfr hlo m meth c P g ig mk _ X hg hsize hdg hW hn ⟨r1, r2, rfl, hB, F1, F2, hA, hS, hz, l0, l2, hp⟩
  have al' : Z.vm.Alike B.U.vm := hZ.alike.trans X'.warmed.alike
  have hsz : E'.slots.size = D.slots.size := by
    obtain ⟨-, -, -, kB, w1, w2, w3⟩ := q1
    obtain ⟨kB', y1, y2⟩ := al'.2.2 _ _ e3
    rw [q2.2.1] at w1
    cases w1.symm.trans y1
    rw [w3, e5 i3, y2]
  refine ⟨v, B, X', ⟨_, ⟨hv, ?_, ⟨by omega, fun y cy hy hn' => q10 y cy (by simpa using hn') hy, fun y cy hy => ?_⟩, q11, ⟨E', _, q1.1, by rw [q2.2.1]; exact e2, by rw [q2.2.1]; exact e3, by rw [q2.1]; exact obV, fun _ => by rw [hsz]; exact e5 i3⟩,
    ⟨E', cfV, kV, iV, fV, q1.1, gV, stV, by rw [q2.1]; exact knV, by rw [q2.1]; exact obV, by rw [q2.2.1]; exact asV, q3⟩, ⟨E', cfC, kC, iC, fC, q1.1, gC, stC, by rw [q2.1]; exact knV, by rw [q2.1]; exact obV, by rw [q2.2.1]; exact asC, q4⟩,
    ⟨V', ⟨q5.1, State.isArrayOf_alike al'.symm q5.2.1, q5.2.2.1⟩, q6, by rw [← al'.findClass]; exact q7, q8, fun j hj => by have := q9 j hj; rwa [Nat.zero_add] at this⟩, fun O n d w F n1 n2 => ?_⟩, hl, hc, hs⟩, st⟩
  · intro y hy
    simp only [List.mem_cons, List.not_mem_nil, or_false] at hy
    rcases hy with rfl | rfl <;> rfl
  · by_cases q : y = x
    · subst q
      cases hD.symm.trans hy
      exact ⟨E', q1.1, q2.2.1, q2.1, hsz⟩
    · exact ⟨cy, q10 y cy q hy, rfl, rfl, rfl⟩
  · obtain ⟨D3, cf, k, i, f, g1, g2, g3, g4, g5, g6, g7⟩ := F
    cases hD.symm.trans g1
    simp only [RoadKit.slotOf, g2, gV, gC, Option.map_some, Option.getD_some] at n1 n2
    exact ⟨E', cf, k, i, f, q1.1, g2, g3, by rw [q2.1]; exact g4, by rw [q2.1]; exact g5, by rw [q2.2.1]; exact g6, by rw [q2.2.2 f.slot (by simp [n1, n2])]; exact g7⟩
end StrChars.Road
namespace StrChars.Road
open Jvm Sem ClassFile Op Lib Jvm.Stand Jvm.Free Jvm.Free.XT
/-- WHAT COMES BACK, the byte[] as a list of values -/
def QA (Z : State) (x : Addr) (zn : Int32) (cs : List Int32) (h : Heap) (v : Option Value) (h' : Heap) (L : List Loc) : Prop := v = none ∧ (∀ y ∈ L, y.base = x) ∧ RoadKit.Keep h h' [x] ∧ h'.size = h.size + 1 ∧ RoadKit.Exa Z h' x ST ∧ RoadKit.Fld Z h' x ST "value" "[B" (.ref h.size) ∧ RoadKit.Fld Z h' x ST "coder" "B" (.int 0) ∧
  (∃ kb, Z.vm.findClass "[B" = some kb ∧ RoadKit.Arv Z h' h.size kb .byte zn (cs.map fun c => .int (lo8 c)) (.int 0)) ∧
  ∀ (O n d : String) (w : Value), RoadKit.Fld Z h x O n d w → RoadKit.slotOf Z O n d ≠ RoadKit.slotOf Z ST "value" "[B" → RoadKit.slotOf Z O n d ≠ RoadKit.slotOf Z ST "coder" "B" → RoadKit.Fld Z h' x O n d w
/-- **new String(chars) AT A CALL, THE ARRAYS AS LISTS**: the char[] at b holds cs, not empty, no char above 255 -/
theorem backArv {p : Program} {l : Launch} {e : Env} {R : Room} {s : State} {args : Array Value} {below : List Frame} {len W : Nat} {Z : State} {a0 : Array Value} {h : Heap} (hZ : Z.Warmed39 s.vm) (hw : ∀ d ∈ words, d.before a0 Z = true) {kI : Nat} (wi : (Jvm.Cond.instantiable ST kI).before a0 Z = true)
    {x b : Addr} {k : ClassId} {zn z : Int32} {cs : List Int32} {dv v0 c0 : Value} (E : RoadKit.Exa Z h x ST) (V : RoadKit.Fld Z h x ST "value" "[B" v0) (C : RoadKit.Fld Z h x ST "coder" "B" c0) (K : RoadKit.Arv Z h b k .char zn (cs.map Value.int) dv) (S : RoadKit.Sta Z h ST "COMPACT_STRINGS" "Z" (.int z)) (hz : ¬ z = 0)
    (hlen : zn.toNatClampNeg = cs.length) (h0 : 0 < cs.length) (hbig : cs.length ≤ 536870912) (hall : ∀ c ∈ cs, ¬ 255 < c) (hfr : 4 ≤ R.frames) (hlo : W + 65 ≤ R.locals) :
    Back l R p e below s args New1.yN len W (fun P a => a = #[.ref x, .ref b] ∧ P.U.heap = h ∧ P.cells + 1 ≤ R.cells ∧ P.slots + cs.length ≤ R.slots)
      (fun P _ v B => ∃ L, QA Z x zn cs h v B.U.heap L ∧ B.locs = P.locs ++ L ∧ B.cells = P.cells + 1 ∧ B.slots = P.slots + cs.length) := by
  obtain ⟨A, K1, K2, K3, K4, K5, K6⟩ := K
  have e : A.slots.size = cs.length := K3.trans hlen
  have hat : ∀ (i : Nat) (hi : i < cs.length), A.slots[i]? = some (.int cs[i]) := fun i hi => by rw [K5 i (by omega)]; simp [List.getD_eq_getElem?_getD, hi]
  have hcv : ∀ (i : Nat) (hi : i < cs.length), cv A i = cs[i] := fun i hi => by unfold cv; rw [hat i hi]
  have hty : Typed .char A := fun i v hv => by
    have hi : i < A.slots.size := (Array.getElem?_eq_some_iff.mp hv).1
    have q := K5 i hi
    rw [hv] at q
    rw [Option.some.inj q]
    exact K6 i hi
  refine Back.mono (back hZ hw wi E V C K1 hty S hz (by omega) (by omega) (fun i hi => by rw [hcv i (by omega)]; exact hall _ (List.getElem_mem _)) hfr hlo) (fun P a hp => ⟨hp.1, hp.2.1, hp.2.2.1, by rw [e]; exact hp.2.2.2⟩) (fun P a v B hp hq => ?_)
  obtain ⟨L, ⟨q1, q2, q3, q4, q5, q6, q7, ⟨V', v1, v2, v3, v4, v5⟩, q9⟩, hl, hc, hs⟩ := hq
  refine ⟨L, ⟨q1, q2, q3, q4, q5, q6, q7, ⟨V'.cls, v3, V', v1, rfl, by rw [v4, e, hlen], K4, fun i hi => ?_, fun i hi => ?_⟩, q9⟩, hl, hc, by rw [hs, e]⟩
  · have hi' : i < cs.length := by omega
    rw [v5 i (by omega), hcv i hi']; simp [List.getD_eq_getElem?_getD, hi']
  · have hi' : i < cs.length := by omega
    simp only [List.getD_eq_getElem?_getD, List.getElem?_map, List.getElem?_eq_getElem hi', Option.map_some, Option.getD_some]
    exact fits_lo8 _
end StrChars.Road
namespace StrChars.Road
open Jvm Sem ClassFile Op Lib Jvm.Stand Jvm.Free Jvm.Free.XT
/-- WHAT COMES BACK, in the writer's own shape -/
def QV (Z : State) (x : Addr) (N : Int32) (bs : List Int32) (h : Heap) (n0 : Nat) (v : Option Value) (h' : Heap) (L : List Loc) : Prop := v = none ∧ RoadKit.Fr n0 L ∧ RoadKit.Keep h h' [x] ∧ RoadKit.Exa Z h' x ST ∧ RoadKit.Fld Z h' x ST "coder" "B" (.int 0) ∧
  ∃ (t : Addr) (kb : ClassId), n0 ≤ t ∧ h.size ≤ t ∧ ¬ t = x ∧ RoadKit.Fld Z h' x ST "value" "[B" (.ref t) ∧ RoadKit.Arv Z h' t kb .byte N (bs.map Value.int) (.int 0)
/-- **new String(chars) AT A CALL, FOR THE WRITER**: a char[] of n known ints, each 0 to 255 -/
theorem backV {p : Program} {l : Launch} {e : Env} {R : Room} {s : State} {args : Array Value} {below : List Frame} {len W : Nat} {Z : State} {a0 : Array Value} {h : Heap} (hZ : Z.Warmed39 s.vm) (hw : ∀ d ∈ words, d.before a0 Z = true) {kI : Nat} (wi : (Jvm.Cond.instantiable ST kI).before a0 Z = true)
    {x b : Addr} {kC : ClassId} {cs bs : List Int32} {d v0 c0 : Value} {z N : Int32} {n n0 : Nat} (hx0 : n0 ≤ x) (hh0 : n0 ≤ h.size) (E : RoadKit.Exa Z h x ST) (V : RoadKit.Fld Z h x ST "value" "[B" v0) (C : RoadKit.Fld Z h x ST "coder" "B" c0) (K : RoadKit.Arv Z h b kC .char N (cs.map Value.int) d) (S : RoadKit.Sta Z h ST "COMPACT_STRINGS" "Z" (.int z)) (hz : ¬ z = 0)
    (hn : cs.length = n) (hN : N = Int32.ofNat n) (l0 : 0 < n) (l2 : n ≤ 4000) (hp : ∀ c ∈ cs, ¬ c < 0 ∧ ¬ (255 : Int32) < c) (hb : bs = cs.map (fun c => c.toInt8.toInt32)) (hfr : 4 ≤ R.frames) (hlo : W + 65 ≤ R.locals) :
    Back l R p e below s args (⟨"java/lang/String", "<init>", "([C)V"⟩ : MethodName) len W (fun P a => a = #[.ref x, .ref b] ∧ P.U.heap = h ∧ P.cells + 1 ≤ R.cells ∧ P.slots + n ≤ R.slots)
      (fun P _ v B => ∃ L, QV Z x N bs h n0 v B.U.heap L ∧ B.locs = P.locs ++ L ∧ B.cells = P.cells + 1 ∧ B.slots = P.slots + n) := by
  subst hn hN hb
  refine Back.mono (backArv hZ hw wi E V C K S hz (n32 (by omega)) l0 (by omega) (fun c hc => (hp c hc).2) hfr hlo) (fun P a hp => hp) (fun P a v B hp hq => ?_)
  obtain ⟨L, ⟨q1, q2, q3, q4, q5, q6, q7, ⟨kb, v1, v2⟩, q9⟩, hl, hc, hs⟩ := hq
  exact ⟨L, ⟨q1, fun y hy => by rw [q2 y hy]; exact hx0, q3, q5, q7, h.size, kb, hh0, Nat.le_refl _, Nat.ne_of_gt E.lt, q6, by rw [List.map_map]; exact v2⟩, hl, hc, hs⟩
end StrChars.Road
end Jvm.Pilot.@@N@@

namespace Jvm.Pilot.@@N@@
open Jvm Jvm.ClassFile Sem Op Lib Jvm.Free Jvm.Stand Jvm.LawKit Jvm.RoadKit Bundle Jvm.Pilot.@@N@@.Jvm.D
theorem pd_0 : parseMethodDescriptor "([C)V" = some ⟨[(.array .char)], none⟩ := by decide +kernel
theorem pn_0 : plainName "com/example/ageline/ageline/policy/RetentionTagIsDefaultPinLaw" = true := by first | (simp [plainName, overriddenIn]; done) | decide +kernel
theorem pn_1 : plainName "com/example/ageline/ageline/policy/RetentionTag" = true := by first | (simp [plainName, overriddenIn]; done) | decide +kernel
theorem pn_2 : plainName "com/example/ageline/ageline/Age" = true := by first | (simp [plainName, overriddenIn]; done) | decide +kernel
theorem pd_1 : parseMethodDescriptor "(III)Ljava/lang/String;" = some ⟨[.int, .int, .int], some (.object "java/lang/String")⟩ := by decide +kernel
theorem pd_2 : parseMethodDescriptor "(II)I" = some ⟨[.int, .int], some .int⟩ := by decide +kernel
theorem pd_3 : parseMethodDescriptor "(I)V" = some ⟨[.int], none⟩ := by decide +kernel
theorem pd_4 : parseMethodDescriptor "(I)Lcom/example/ageline/ageline/policy/RetentionAction;" = some ⟨[.int], some (.object "com/example/ageline/ageline/policy/RetentionAction")⟩ := by decide +kernel
theorem pd_5 : parseMethodDescriptor "(Ljava/lang/String;Lcom/example/ageline/ageline/Age;Lcom/example/ageline/ageline/policy/RetentionAction;Ljava/lang/String;)V" = some ⟨[(.object "java/lang/String"), (.object "com/example/ageline/ageline/Age"), (.object "com/example/ageline/ageline/policy/RetentionAction"), (.object "java/lang/String")], none⟩ := by decide +kernel
theorem pd_6 : parseMethodDescriptor "()Z" = some ⟨[], some .boolean⟩ := by decide +kernel
theorem d1_0 : decode method_2_code 0 = .ok (.iload_n 0, 1) := by decide +kernel
theorem d1_1 : decode method_2_code 1 = .ok (.iconst 3, 1) := by decide +kernel
theorem d1_2 : decode method_2_code 2 = .ok (.iand, 1) := by decide +kernel
theorem d1_3 : decode method_2_code 3 = .ok (.istore_n 3, 1) := by decide +kernel
theorem d1_4 : decode method_2_code 4 = .ok (.iload_n 3, 1) := by decide +kernel
theorem d1_5 : decode method_2_code 5 = .ok (.ifCond .ne 5, 3) := by decide +kernel
theorem d1_8 : decode method_2_code 8 = .ok (.aconst_null, 1) := by decide +kernel
theorem d1_9 : decode method_2_code 9 = .ok (.areturn, 1) := by decide +kernel
theorem d1_10 : decode method_2_code 10 = .ok (.iload_n 3, 1) := by decide +kernel
theorem d1_11 : decode method_2_code 11 = .ok (.iconst 1, 1) := by decide +kernel
theorem d1_12 : decode method_2_code 12 = .ok (.if_icmp .ne 6, 3) := by decide +kernel
theorem d1_15 : decode method_2_code 15 = .ok (.ldc 7, 2) := by decide +kernel
theorem d1_17 : decode method_2_code 17 = .ok (.areturn, 1) := by decide +kernel
theorem d1_18 : decode method_2_code 18 = .ok (.iload_n 3, 1) := by decide +kernel
theorem d1_19 : decode method_2_code 19 = .ok (.iconst 2, 1) := by decide +kernel
theorem d1_20 : decode method_2_code 20 = .ok (.if_icmp .ne 28, 3) := by decide +kernel
theorem d1_23 : decode method_2_code 23 = .ok (.iconst 1, 1) := by decide +kernel
theorem d1_24 : decode method_2_code 24 = .ok (.newarray .char, 2) := by decide +kernel
theorem d1_26 : decode method_2_code 26 = .ok (.astore 4, 2) := by decide +kernel
theorem d1_28 : decode method_2_code 28 = .ok (.aload 4, 2) := by decide +kernel
theorem d1_30 : decode method_2_code 30 = .ok (.iconst 0, 1) := by decide +kernel
theorem d1_31 : decode method_2_code 31 = .ok (.iload_n 1, 1) := by decide +kernel
theorem d1_32 : decode method_2_code 32 = .ok (.sipush 255, 3) := by decide +kernel
theorem d1_35 : decode method_2_code 35 = .ok (.iand, 1) := by decide +kernel
theorem d1_36 : decode method_2_code 36 = .ok (.i2c, 1) := by decide +kernel
theorem d1_37 : decode method_2_code 37 = .ok (.castore, 1) := by decide +kernel
theorem d1_38 : decode method_2_code 38 = .ok (.new 9, 3) := by decide +kernel
theorem d1_41 : decode method_2_code 41 = .ok (.dup, 1) := by decide +kernel
theorem d1_42 : decode method_2_code 42 = .ok (.aload 4, 2) := by decide +kernel
theorem d1_44 : decode method_2_code 44 = .ok (.invokespecial 11, 3) := by decide +kernel
theorem d1_47 : decode method_2_code 47 = .ok (.areturn, 1) := by decide +kernel
theorem d1_48 : decode method_2_code 48 = .ok (.iconst 2, 1) := by decide +kernel
theorem d1_49 : decode method_2_code 49 = .ok (.newarray .char, 2) := by decide +kernel
theorem d1_51 : decode method_2_code 51 = .ok (.astore 4, 2) := by decide +kernel
theorem d1_53 : decode method_2_code 53 = .ok (.aload 4, 2) := by decide +kernel
theorem d1_55 : decode method_2_code 55 = .ok (.iconst 0, 1) := by decide +kernel
theorem d1_56 : decode method_2_code 56 = .ok (.iload_n 1, 1) := by decide +kernel
theorem d1_57 : decode method_2_code 57 = .ok (.sipush 255, 3) := by decide +kernel
theorem d1_60 : decode method_2_code 60 = .ok (.iand, 1) := by decide +kernel
theorem d1_61 : decode method_2_code 61 = .ok (.i2c, 1) := by decide +kernel
theorem d1_62 : decode method_2_code 62 = .ok (.castore, 1) := by decide +kernel
theorem d1_63 : decode method_2_code 63 = .ok (.aload 4, 2) := by decide +kernel
theorem d1_65 : decode method_2_code 65 = .ok (.iconst 1, 1) := by decide +kernel
theorem d1_66 : decode method_2_code 66 = .ok (.iload_n 2, 1) := by decide +kernel
theorem d1_67 : decode method_2_code 67 = .ok (.sipush 255, 3) := by decide +kernel
theorem d1_70 : decode method_2_code 70 = .ok (.iand, 1) := by decide +kernel
theorem d1_71 : decode method_2_code 71 = .ok (.i2c, 1) := by decide +kernel
theorem d1_72 : decode method_2_code 72 = .ok (.castore, 1) := by decide +kernel
theorem d1_73 : decode method_2_code 73 = .ok (.new 9, 3) := by decide +kernel
theorem d1_76 : decode method_2_code 76 = .ok (.dup, 1) := by decide +kernel
theorem d1_77 : decode method_2_code 77 = .ok (.aload 4, 2) := by decide +kernel
theorem d1_79 : decode method_2_code 79 = .ok (.invokespecial 11, 3) := by decide +kernel
theorem d1_82 : decode method_2_code 82 = .ok (.areturn, 1) := by decide +kernel
theorem d8_0 : decode method_3_code 0 = .ok (.iload_n 0, 1) := by decide +kernel
theorem d8_1 : decode method_3_code 1 = .ok (.bipush 7, 2) := by decide +kernel
theorem d8_3 : decode method_3_code 3 = .ok (.iand, 1) := by decide +kernel
theorem d8_4 : decode method_3_code 4 = .ok (.istore_n 1, 1) := by decide +kernel
theorem d8_5 : decode method_3_code 5 = .ok (.iload_n 1, 1) := by decide +kernel
theorem d8_6 : decode method_3_code 6 = .ok (.ifCond .ne 7, 3) := by decide +kernel
theorem d8_9 : decode method_3_code 9 = .ok (.getstatic 14, 3) := by decide +kernel
theorem d8_12 : decode method_3_code 12 = .ok (.areturn, 1) := by decide +kernel
theorem d8_13 : decode method_3_code 13 = .ok (.iload_n 1, 1) := by decide +kernel
theorem d8_14 : decode method_3_code 14 = .ok (.iconst 1, 1) := by decide +kernel
theorem d8_15 : decode method_3_code 15 = .ok (.if_icmp .ne 7, 3) := by decide +kernel
theorem d8_18 : decode method_3_code 18 = .ok (.getstatic 20, 3) := by decide +kernel
theorem d8_21 : decode method_3_code 21 = .ok (.areturn, 1) := by decide +kernel
theorem d8_22 : decode method_3_code 22 = .ok (.iload_n 1, 1) := by decide +kernel
theorem d8_23 : decode method_3_code 23 = .ok (.iconst 2, 1) := by decide +kernel
theorem d8_24 : decode method_3_code 24 = .ok (.if_icmp .ne 7, 3) := by decide +kernel
theorem d8_27 : decode method_3_code 27 = .ok (.getstatic 23, 3) := by decide +kernel
theorem d8_30 : decode method_3_code 30 = .ok (.areturn, 1) := by decide +kernel
theorem d8_31 : decode method_3_code 31 = .ok (.iload_n 1, 1) := by decide +kernel
theorem d8_32 : decode method_3_code 32 = .ok (.iconst 3, 1) := by decide +kernel
theorem d8_33 : decode method_3_code 33 = .ok (.if_icmp .ne 7, 3) := by decide +kernel
theorem d8_36 : decode method_3_code 36 = .ok (.getstatic 26, 3) := by decide +kernel
theorem d8_39 : decode method_3_code 39 = .ok (.areturn, 1) := by decide +kernel
theorem d8_40 : decode method_3_code 40 = .ok (.aconst_null, 1) := by decide +kernel
theorem d8_41 : decode method_3_code 41 = .ok (.areturn, 1) := by decide +kernel
theorem d9_0 : decode prog_46_method_1_code 0 = .ok (.aload_n 0, 1) := by decide +kernel
theorem d9_1 : decode prog_46_method_1_code 1 = .ok (.invokespecial 1, 3) := by decide +kernel
theorem d9_4 : decode prog_46_method_1_code 4 = .ok (.aload_n 0, 1) := by decide +kernel
theorem d9_5 : decode prog_46_method_1_code 5 = .ok (.aload_n 1, 1) := by decide +kernel
theorem d9_6 : decode prog_46_method_1_code 6 = .ok (.putfield 7, 3) := by decide +kernel
theorem d9_9 : decode prog_46_method_1_code 9 = .ok (.aload_n 0, 1) := by decide +kernel
theorem d9_10 : decode prog_46_method_1_code 10 = .ok (.aload_n 2, 1) := by decide +kernel
theorem d9_11 : decode prog_46_method_1_code 11 = .ok (.putfield 13, 3) := by decide +kernel
theorem d9_14 : decode prog_46_method_1_code 14 = .ok (.aload_n 0, 1) := by decide +kernel
theorem d9_15 : decode prog_46_method_1_code 15 = .ok (.aload_n 3, 1) := by decide +kernel
theorem d9_16 : decode prog_46_method_1_code 16 = .ok (.putfield 17, 3) := by decide +kernel
theorem d9_19 : decode prog_46_method_1_code 19 = .ok (.aload_n 0, 1) := by decide +kernel
theorem d9_20 : decode prog_46_method_1_code 20 = .ok (.aload 4, 2) := by decide +kernel
theorem d9_22 : decode prog_46_method_1_code 22 = .ok (.putfield 21, 3) := by decide +kernel
theorem d9_25 : decode prog_46_method_1_code 25 = .ok (.return_, 1) := by decide +kernel
theorem d10_0 : decode prog_46_method_6_code 0 = .ok (.aload_n 0, 1) := by decide +kernel
theorem d10_1 : decode prog_46_method_6_code 1 = .ok (.getfield 21, 3) := by decide +kernel
theorem d10_4 : decode prog_46_method_6_code 4 = .ok (.ifnonnull 7, 3) := by decide +kernel
theorem d10_7 : decode prog_46_method_6_code 7 = .ok (.iconst 1, 1) := by decide +kernel
theorem d10_8 : decode prog_46_method_6_code 8 = .ok (.goto 4, 3) := by decide +kernel
theorem d10_11 : decode prog_46_method_6_code 11 = .ok (.iconst 0, 1) := by decide +kernel
theorem d10_12 : decode prog_46_method_6_code 12 = .ok (.ireturn, 1) := by decide +kernel
theorem d11_0 : decode jdk_29_method_65_code 0 = .ok (.iload_n 0, 1) := by decide +kernel
theorem d11_1 : decode jdk_29_method_65_code 1 = .ok (.iload_n 1, 1) := by decide +kernel
theorem d11_2 : decode jdk_29_method_65_code 2 = .ok (.if_icmp .lt 7, 3) := by decide +kernel
theorem d11_5 : decode jdk_29_method_65_code 5 = .ok (.iload_n 0, 1) := by decide +kernel
theorem d11_6 : decode jdk_29_method_65_code 6 = .ok (.goto 4, 3) := by decide +kernel
theorem d11_9 : decode jdk_29_method_65_code 9 = .ok (.iload_n 1, 1) := by decide +kernel
theorem d11_10 : decode jdk_29_method_65_code 10 = .ok (.ireturn, 1) := by decide +kernel
theorem d12_0 : decode prog_1_method_1_code 0 = .ok (.aload_n 0, 1) := by decide +kernel
theorem d12_1 : decode prog_1_method_1_code 1 = .ok (.invokespecial 1, 3) := by decide +kernel
theorem d12_4 : decode prog_1_method_1_code 4 = .ok (.iload_n 1, 1) := by decide +kernel
theorem d12_5 : decode prog_1_method_1_code 5 = .ok (.iconst 1, 1) := by decide +kernel
theorem d12_6 : decode prog_1_method_1_code 6 = .ok (.if_icmp .ge 17, 3) := by decide +kernel
theorem d12_23 : decode prog_1_method_1_code 23 = .ok (.aload_n 0, 1) := by decide +kernel
theorem d12_24 : decode prog_1_method_1_code 24 = .ok (.iload_n 1, 1) := by decide +kernel
theorem d12_25 : decode prog_1_method_1_code 25 = .ok (.putfield 16, 3) := by decide +kernel
theorem d12_28 : decode prog_1_method_1_code 28 = .ok (.return_, 1) := by decide +kernel
theorem own_narR {t : FieldType} {w : Value} (ht : t.isReference = true) (h : w.isRef = true) : narrow t w = w := by rcases ref_cases h with rfl | ⟨_, rfl⟩ <;> cases t <;> first | rfl | (cases ht; done)
theorem own_fitsR {t : FieldType} {w : Value} (ht : t.isReference = true) (h : w.isRef = true) : fits t w = true := by rcases ref_cases h with rfl | ⟨_, rfl⟩ <;> cases t <;> first | rfl | (cases ht; done)
theorem own_nin {a b : Addr} (h : a ≠ b) : a ∉ [b] := fun z => h (List.mem_singleton.mp z)
theorem own_nil {a : Addr} : a ∉ ([] : List Addr) := fun z => nomatch z
theorem own_rew {s t : State} {o : Outcome} {L : List Loc} {k n k' n' : Nat} (h : ReturnedEndW s o t L k n) (hk : k ≤ k') (hn : n ≤ n') : ReturnedEndW s o t L k' n' := ⟨h.1, h.2.1, h.2.2.1, h.2.2.2.mono hk hn⟩
theorem own_lt {a b : Int32} (h : a < b) : ¬ b < a := by rw [Int32.lt_iff_toInt_lt] at h ⊢; omega
theorem own_irr (a : Int32) : ¬ a < a := by rw [Int32.lt_iff_toInt_lt]; omega
theorem own_c255 (x : Int32) : ¬ (nar .char ((x &&& (255 : Int32)).toUInt32.toUInt16.toUInt32.toInt32)) < 0 ∧ ¬ (255 : Int32) < (nar .char ((x &&& (255 : Int32)).toUInt32.toUInt16.toUInt32.toInt32)) := by
  have a := c_and x 255 (by decide)
  have k : (255 : Int32).toInt = 255 := by decide
  rw [k] at a
  have b := c_i2c (x &&& (255 : Int32))
  have c := c_i2c ((x &&& (255 : Int32)).toUInt32.toUInt16.toUInt32.toInt32)
  have e : (nar .char ((x &&& (255 : Int32)).toUInt32.toUInt16.toUInt32.toInt32)).toInt = (x &&& (255 : Int32)).toInt := by
    show (((x &&& (255 : Int32)).toUInt32.toUInt16.toUInt32.toInt32).toUInt32.toUInt16.toUInt32.toInt32).toInt = _
    omega
  rw [Int32.lt_iff_toInt_lt, Int32.lt_iff_toInt_lt, k, Int32.toInt_zero, e]
  omega
theorem own_cs1 (x : Int32) : ∀ c ∈ ([nar .char ((x &&& (255 : Int32)).toUInt32.toUInt16.toUInt32.toInt32)] : List Int32), ¬ c < 0 ∧ ¬ (255 : Int32) < c := by
  intro c hc
  cases List.mem_singleton.mp hc
  exact own_c255 x
theorem own_cs2 (x y : Int32) : ∀ c ∈ ([nar .char ((x &&& (255 : Int32)).toUInt32.toUInt16.toUInt32.toInt32), nar .char ((y &&& (255 : Int32)).toUInt32.toUInt16.toUInt32.toInt32)] : List Int32), ¬ c < 0 ∧ ¬ (255 : Int32) < c := by
  intro c hc
  simp only [List.mem_cons, List.not_mem_nil, or_false] at hc
  rcases hc with rfl | rfl
  · exact own_c255 x
  · exact own_c255 y
theorem own_dz1 {d k : Int32} {z : Value} (h : d = 1 ∧ z = .null ∨ d = 0 ∧ ¬ z = .null) (hz : z = .null ↔ k = (0 : Int32)) (hk : k = (0 : Int32)) : d = (1 : Int32) := by
  rcases h with ⟨h, -⟩ | ⟨-, h⟩
  · exact h
  · exact absurd (hz.mpr hk) h
theorem own_dz0 {d k : Int32} {z : Value} (h : d = 1 ∧ z = .null ∨ d = 0 ∧ ¬ z = .null) (hz : z = .null ↔ k = (0 : Int32)) (hk : ¬ (k = (0 : Int32))) : d = (0 : Int32) := by
  rcases h with ⟨-, h⟩ | ⟨h, -⟩
  · exact absurd (hz.mp h) hk
  · exact h

theorem ef_rm1 (m : MethodId) (x0 : Int32) (x1 : Int32) (x2 : Int32) : entryFrame m #[(.int x0), (.int x1), (.int x2)] 5 = mkF m 0 #[.val (.int x0), .val (.int x1), .val (.int x2), .unset, .unset] [] := by first | (simp [entryFrame, mkF, argsToLocals, Value.category]; done) | rfl
def Qrm1 (p1 p2 p3 G1 : Int32) (h0 : Heap) (n0 : Nat) (v : Option Value) (h : Heap) (L : List Loc) : Prop := ∃ z : Value, v = some z ∧ z.isRef = true ∧ (z = .null ↔ p1 &&& (3 : Int32) = (0 : Int32)) ∧ Fr n0 L ∧ Keep h0 h []
set_option maxRecDepth 65536 in
set_option maxHeartbeats 40000000 in
theorem rm1 (l : Launch) (Z : State) (a0 : Array Value) (hw : ∀ d ∈ tables_1, d.before a0 Z = true) (ws : List Jvm.Cond) (p1 p2 p3 G1 : Int32) (h0 : Heap) (n0 : Nat) (Z0 : n0 ≤ h0.size) (O2 : Sta Z Z.heap "java/lang/String" "COMPACT_STRINGS" "Z" (.int G1)) (P5 : ¬ (G1 = (0 : Int32))) (X00 : Old Z n0 h0) :
    MetFree l (⟨"com/example/ageline/ageline/policy/RetentionTagIsDefaultPinLaw", "drawn", "(III)Ljava/lang/String;"⟩ : MethodName) (head1 (Jvm.Cond.code (⟨"com/example/ageline/ageline/policy/RetentionTagIsDefaultPinLaw", "drawn", "(III)Ljava/lang/String;"⟩ : MethodName) method_2_code 5 (some (.object "java/lang/String")) :: ws) ({ frames := 4, cells := 3, slots := 8, locals := 66 } : Room)) (fun a U => a = #[(.int p1), (.int p2), (.int p3)] ∧ Z.Warmed39 U.vm ∧ U.heap = h0) (fun _ _ _ _ _ => True) (fun _ U o U' => ∃ v L, o = .returned v ∧ Qrm1 p1 p2 p3 G1 h0 n0 v U'.heap L ∧ ReturnedEndW U o U' L ({ frames := 4, cells := 3, slots := 8, locals := 66 } : Room).cells ({ frames := 4, cells := 3, slots := 8, locals := 66 } : Room).slots) := by
  refine MetFree.of_bodySF (plainFor_of_name pn_0) hisR ?_
  intro p e s m args below meth c s₁ Bd hml0 hP hK
  obtain ⟨rfl, hZ, hh⟩ := hP
  have hx := Bd.exec
  have hby := Bd.bytes
  have hml : c.maxLocals = 5 := hml0
  have hown : s.vm.findClass "com/example/ageline/ageline/policy/RetentionTagIsDefaultPinLaw" = some m.cls := findClass_of_methodNamed Bd.named
  have hnm := (name_of_methodNamed Bd.named Bd.method).1
  have X0 : Stand p l e ({ frames := 4, cells := 3, slots := 8, locals := 66 } : Room) s m #[(.int p1), (.int p2), (.int p3)] below meth c s₁ [] 0 0 := Stand.of_body Bd
  have e0 : s₁.heap = h0 := by rw [← hh, Bd.state]; rfl
  have N0 := Fr.nil n0
  have K0 : ∀ t, Steps p.tables e below (s₁.setTop (mkF m 0 #[.val (.int p1), .val (.int p2), .val (.int p3), .unset, .unset] [])) t → Steps p.tables e below (s₁.setTop (entryFrame m #[(.int p1), (.int p2), (.int p3)] 5)) t := fun t k => castTop (ef_rm1 m p1 p2 p3) k
  have hS0 : s.Since s.vm h0.size := (State.WarmedH.refl s).since _
  have hk0 : h0.size ≤ h0.size := Nat.le_refl _
  have KK0 : Keep h0 h0 [] := Keep.refl _ _
  have hws : ∀ d ∈ StrChars.Road.words, d.before a0 Z = true := fun d hd => hw d ((by decide +kernel : ∀ d ∈ StrChars.Road.words, d ∈ tables_1) d hd)
  have hsa : ∀ d ∈ Bundle.stringAtoms, d.before a0 Z = true := fun d hd => hw d ((by decide +kernel : ∀ d ∈ Bundle.stringAtoms, d ∈ tables_1) d hd)
  have K1 : ∀ t, Steps p.tables e below (s₁.setTop (mkF m 5 #[.val (.int p1), .val (.int p2), .val (.int p3), .val (.int (p1 &&& (3 : Int32))), .unset] [(.int (p1 &&& (3 : Int32)))])) t → Steps p.tables e below (s₁.setTop (entryFrame m #[(.int p1), (.int p2), (.int p3)] 5)) t := by
    intro t kt
    refine K0 t ?_
    show Steps p.tables e below (s₁.setTop (mkF m 0 #[.val (.int p1), .val (.int p2), .val (.int p3), .unset, .unset] [])) _
    refine XS.iloadN X0.here hx rfl (hb hby d1_0) rfl ?_
    show Steps p.tables e below (s₁.setTop (mkF m 1 #[.val (.int p1), .val (.int p2), .val (.int p3), .unset, .unset] [(.int p1)])) _
    refine XS.iconst X0.here hx rfl (hb hby d1_1) ?_
    show Steps p.tables e below (s₁.setTop (mkF m 2 #[.val (.int p1), .val (.int p2), .val (.int p3), .unset, .unset] [(.int (3 : Int32)), (.int p1)])) _
    refine XS.iand X0.here hx rfl (hb hby d1_2) rfl ?_
    show Steps p.tables e below (s₁.setTop (mkF m 3 #[.val (.int p1), .val (.int p2), .val (.int p3), .unset, .unset] [(.int (p1 &&& (3 : Int32)))])) _
    refine XS.istoreN X0.here hx rfl (hb hby d1_3) rfl (l' := #[.val (.int p1), .val (.int p2), .val (.int p3), .val (.int (p1 &&& (3 : Int32))), .unset]) rfl ?_
    show Steps p.tables e below (s₁.setTop (mkF m 4 #[.val (.int p1), .val (.int p2), .val (.int p3), .val (.int (p1 &&& (3 : Int32))), .unset] [])) _
    refine XS.iloadN X0.here hx rfl (hb hby d1_4) rfl ?_
    exact kt
  by_cases h1 : (p1 &&& (3 : Int32)) = (0 : Int32)
  · have K2 : ∀ t, Steps p.tables e below (s₁.setTop (mkF m 9 #[.val (.int p1), .val (.int p2), .val (.int p3), .val (.int (p1 &&& (3 : Int32))), .unset] [.null])) t → Steps p.tables e below (s₁.setTop (entryFrame m #[(.int p1), (.int p2), (.int p3)] 5)) t := by
      intro t kt
      refine K1 t ?_
      show Steps p.tables e below (s₁.setTop (mkF m 5 #[.val (.int p1), .val (.int p2), .val (.int p3), .val (.int (p1 &&& (3 : Int32))), .unset] [(.int (p1 &&& (3 : Int32)))])) _
      refine XS.ifNo X0.here hx rfl (hb hby d1_5) rfl ((if0 _ _).trans (teq (h1 : (p1 &&& (3 : Int32)) = (0 : Int32))).2) ?_
      show Steps p.tables e below (s₁.setTop (mkF m 8 #[.val (.int p1), .val (.int p2), .val (.int p3), .val (.int (p1 &&& (3 : Int32))), .unset] [])) _
      refine XS.aconstNull X0.here hx rfl (hb hby d1_8) ?_
      exact kt
    obtain ⟨fs, hr, hrun, hended, hend⟩ := Stand.leaveW (s := s) (vm₁ := s.vm) X0 hS0 (by rw [e0]; exact hk0) (v := some .null) (fun h => by rw [Bd.returns] at h; cases h)
    refine ⟨_, _, K2 _ ?_, hrun, hended, _, _, rfl, ?_, own_rew hend (by decide) (by decide)⟩
    · exact retOut X0 hx Bd.returns rfl (Or.inr (Or.inr (Or.inr (Or.inr ⟨rfl, rfl, rfl⟩)))) (hb hby d1_9) hr
    · show Qrm1 p1 p2 p3 G1 h0 n0 _ s₁.heap _
      rw [e0]
      exact ⟨_, rfl, rfl, ⟨fun _ => h1, fun _ => rfl⟩, N0, KK0⟩
  · have K3 : ∀ t, Steps p.tables e below (s₁.setTop (mkF m 12 #[.val (.int p1), .val (.int p2), .val (.int p3), .val (.int (p1 &&& (3 : Int32))), .unset] [(.int (1 : Int32)), (.int (p1 &&& (3 : Int32)))])) t → Steps p.tables e below (s₁.setTop (entryFrame m #[(.int p1), (.int p2), (.int p3)] 5)) t := by
      intro t kt
      refine K1 t ?_
      show Steps p.tables e below (s₁.setTop (mkF m 5 #[.val (.int p1), .val (.int p2), .val (.int p3), .val (.int (p1 &&& (3 : Int32))), .unset] [(.int (p1 &&& (3 : Int32)))])) _
      refine XS.ifYes X0.here hx rfl (pc0 := 5) (pc' := 10) rfl (hb hby d1_5) rfl ((if0 _ _).trans (feq (h1 : ¬ ((p1 &&& (3 : Int32)) = (0 : Int32)))).2) (by decide) (by decide) ?_
      show Steps p.tables e below (s₁.setTop (mkF m 10 #[.val (.int p1), .val (.int p2), .val (.int p3), .val (.int (p1 &&& (3 : Int32))), .unset] [])) _
      refine XS.iloadN X0.here hx rfl (hb hby d1_10) rfl ?_
      show Steps p.tables e below (s₁.setTop (mkF m 11 #[.val (.int p1), .val (.int p2), .val (.int p3), .val (.int (p1 &&& (3 : Int32))), .unset] [(.int (p1 &&& (3 : Int32)))])) _
      refine XS.iconst X0.here hx rfl (hb hby d1_11) ?_
      exact kt
    by_cases h2 : (p1 &&& (3 : Int32)) = (1 : Int32)
    · have K4 : ∀ t, Steps p.tables e below (s₁.setTop (mkF m 15 #[.val (.int p1), .val (.int p2), .val (.int p3), .val (.int (p1 &&& (3 : Int32))), .unset] [])) t → Steps p.tables e below (s₁.setTop (entryFrame m #[(.int p1), (.int p2), (.int p3)] 5)) t := by
        intro t kt
        refine K3 t ?_
        show Steps p.tables e below (s₁.setTop (mkF m 12 #[.val (.int p1), .val (.int p2), .val (.int p3), .val (.int (p1 &&& (3 : Int32))), .unset] [(.int (1 : Int32)), (.int (p1 &&& (3 : Int32)))])) _
        refine XS.icmpNo X0.here hx rfl (hb hby d1_12) rfl (teq (h2 : (p1 &&& (3 : Int32)) = (1 : Int32))).2 ?_
        exact kt
      obtain ⟨a5, T5, h5, kk5, X5, e5, E5, hS5, hk5, hZ5, hown5, st5⟩ := ldcS (s := s) (vm0 := s.vm) X0 hx hZ hown (hw _ (List.mem_of_getElem? (i := 75) rfl)) hsa e0 hS0 hk0 (g := (mkF m 15 #[.val (.int p1), .val (.int p2), .val (.int p3), .val (.int (p1 &&& (3 : Int32))), .unset] [])) rfl (hb hby d1_15) (n := 0) (by decide) (by decide) (by decide) (by decide)
      have f6 := Nat.le_trans Z0 E5.1
      have f7 := KK0.ext E5
      have f8 := Nat.le_trans hk0 E5.1
      have f9 := X00.ext E5
      have K10 : ∀ t, Steps p.tables e below (T5.setTop (mkF m 17 #[.val (.int p1), .val (.int p2), .val (.int p3), .val (.int (p1 &&& (3 : Int32))), .unset] [(.ref a5)])) t → Steps p.tables e below (s₁.setTop (entryFrame m #[(.int p1), (.int p2), (.int p3)] 5)) t := fun t kt => K4 t (st5 t kt)
      obtain ⟨fs, hr, hrun, hended, hend⟩ := Stand.leaveW (s := s) (vm₁ := T5.vm) X5 hS5 (by rw [e5]; exact hk5) (v := some (.ref a5)) (fun h => by rw [Bd.returns] at h; cases h)
      refine ⟨_, _, K10 _ ?_, hrun, hended, _, _, rfl, ?_, own_rew hend (by decide) (by decide)⟩
      · exact retOut X5 hx Bd.returns rfl (Or.inr (Or.inr (Or.inr (Or.inr ⟨rfl, rfl, rfl⟩)))) (hb hby d1_17) hr
      · show Qrm1 p1 p2 p3 G1 h0 n0 _ T5.heap _
        rw [e5]
        exact ⟨_, rfl, rfl, ⟨nofun, fun z => absurd z h1⟩, N0, f7⟩
    · have K11 : ∀ t, Steps p.tables e below (s₁.setTop (mkF m 20 #[.val (.int p1), .val (.int p2), .val (.int p3), .val (.int (p1 &&& (3 : Int32))), .unset] [(.int (2 : Int32)), (.int (p1 &&& (3 : Int32)))])) t → Steps p.tables e below (s₁.setTop (entryFrame m #[(.int p1), (.int p2), (.int p3)] 5)) t := by
        intro t kt
        refine K3 t ?_
        show Steps p.tables e below (s₁.setTop (mkF m 12 #[.val (.int p1), .val (.int p2), .val (.int p3), .val (.int (p1 &&& (3 : Int32))), .unset] [(.int (1 : Int32)), (.int (p1 &&& (3 : Int32)))])) _
        refine XS.icmpYes X0.here hx rfl (pc0 := 12) (pc' := 18) rfl (hb hby d1_12) rfl (feq (h2 : ¬ ((p1 &&& (3 : Int32)) = (1 : Int32)))).2 (by decide) (by decide) ?_
        show Steps p.tables e below (s₁.setTop (mkF m 18 #[.val (.int p1), .val (.int p2), .val (.int p3), .val (.int (p1 &&& (3 : Int32))), .unset] [])) _
        refine XS.iloadN X0.here hx rfl (hb hby d1_18) rfl ?_
        show Steps p.tables e below (s₁.setTop (mkF m 19 #[.val (.int p1), .val (.int p2), .val (.int p3), .val (.int (p1 &&& (3 : Int32))), .unset] [(.int (p1 &&& (3 : Int32)))])) _
        refine XS.iconst X0.here hx rfl (hb hby d1_19) ?_
        exact kt
      by_cases h3 : (p1 &&& (3 : Int32)) = (2 : Int32)
      · have K12 : ∀ t, Steps p.tables e below (s₁.setTop (mkF m 24 #[.val (.int p1), .val (.int p2), .val (.int p3), .val (.int (p1 &&& (3 : Int32))), .unset] [(.int (1 : Int32))])) t → Steps p.tables e below (s₁.setTop (entryFrame m #[(.int p1), (.int p2), (.int p3)] 5)) t := by
          intro t kt
          refine K11 t ?_
          show Steps p.tables e below (s₁.setTop (mkF m 20 #[.val (.int p1), .val (.int p2), .val (.int p3), .val (.int (p1 &&& (3 : Int32))), .unset] [(.int (2 : Int32)), (.int (p1 &&& (3 : Int32)))])) _
          refine XS.icmpNo X0.here hx rfl (hb hby d1_20) rfl (teq (h3 : (p1 &&& (3 : Int32)) = (2 : Int32))).2 ?_
          show Steps p.tables e below (s₁.setTop (mkF m 23 #[.val (.int p1), .val (.int p2), .val (.int p3), .val (.int (p1 &&& (3 : Int32))), .unset] [])) _
          refine XS.iconst X0.here hx rfl (hb hby d1_23) ?_
          exact kt
        obtain ⟨T13, h13, k13, X13, e13, E13, A13, st13⟩ := newP X0 hx hZ (hw _ (List.mem_of_getElem? (i := 4) rfl)) e0 (g := (mkF m 24 #[.val (.int p1), .val (.int p2), .val (.int p3), .val (.int (p1 &&& (3 : Int32))), .unset] [(.int (1 : Int32))])) rfl (hb hby d1_24) rfl (by decide) (cap := 1) (by decide) (by decide) (by decide) (by decide)
        obtain ⟨b13, g13⟩ : ∃ z, z = h0.size := ⟨_, rfl⟩
        rw [← g13] at A13 st13
        have sz14 : h0.size ≤ b13 := Nat.le_trans KK0.1 (Nat.le_of_eq g13.symm)
        have g_b13 : n0 ≤ b13 := Nat.le_trans Z0 (Nat.le_of_eq g13.symm)
        have f15 := Nat.le_trans Z0 E13.1
        have f16 := KK0.ext E13
        have f17 := Nat.le_trans hk0 E13.1
        have f18 := X00.ext E13
        have V13 : Arv Z h13 b13 k13 .char (1 : Int32) [(.int (0 : Int32))] (.int (0 : Int32)) := (Arv.new A13 (by decide)).pad (pad_rep [] (.int (0 : Int32)) 1)
        have K19 : ∀ t, Steps p.tables e below (T13.setTop (mkF m 26 #[.val (.int p1), .val (.int p2), .val (.int p3), .val (.int (p1 &&& (3 : Int32))), .unset] [(.ref b13)])) t → Steps p.tables e below (s₁.setTop (entryFrame m #[(.int p1), (.int p2), (.int p3)] 5)) t := fun t kt => K12 t (st13 t kt)
        have K20 : ∀ t, Steps p.tables e below (T13.setTop (mkF m 37 #[.val (.int p1), .val (.int p2), .val (.int p3), .val (.int (p1 &&& (3 : Int32))), .val (.ref b13)] [(.int ((p2 &&& (255 : Int32)).toUInt32.toUInt16.toUInt32.toInt32)), (.int (0 : Int32)), (.ref b13)])) t → Steps p.tables e below (s₁.setTop (entryFrame m #[(.int p1), (.int p2), (.int p3)] 5)) t := by
          intro t kt
          refine K19 t ?_
          show Steps p.tables e below (T13.setTop (mkF m 26 #[.val (.int p1), .val (.int p2), .val (.int p3), .val (.int (p1 &&& (3 : Int32))), .unset] [(.ref b13)])) _
          refine XS.astore X13.here hx rfl (hb hby d1_26) rfl rfl (l' := #[.val (.int p1), .val (.int p2), .val (.int p3), .val (.int (p1 &&& (3 : Int32))), .val (.ref b13)]) rfl ?_
          show Steps p.tables e below (T13.setTop (mkF m 28 #[.val (.int p1), .val (.int p2), .val (.int p3), .val (.int (p1 &&& (3 : Int32))), .val (.ref b13)] [])) _
          refine XS.aload X13.here hx rfl (hb hby d1_28) rfl rfl ?_
          show Steps p.tables e below (T13.setTop (mkF m 30 #[.val (.int p1), .val (.int p2), .val (.int p3), .val (.int (p1 &&& (3 : Int32))), .val (.ref b13)] [(.ref b13)])) _
          refine XS.iconst X13.here hx rfl (hb hby d1_30) ?_
          show Steps p.tables e below (T13.setTop (mkF m 31 #[.val (.int p1), .val (.int p2), .val (.int p3), .val (.int (p1 &&& (3 : Int32))), .val (.ref b13)] [(.int (0 : Int32)), (.ref b13)])) _
          refine XS.iloadN X13.here hx rfl (hb hby d1_31) rfl ?_
          show Steps p.tables e below (T13.setTop (mkF m 32 #[.val (.int p1), .val (.int p2), .val (.int p3), .val (.int (p1 &&& (3 : Int32))), .val (.ref b13)] [(.int p2), (.int (0 : Int32)), (.ref b13)])) _
          refine XS.sipush X13.here hx rfl (hb hby d1_32) ?_
          show Steps p.tables e below (T13.setTop (mkF m 35 #[.val (.int p1), .val (.int p2), .val (.int p3), .val (.int (p1 &&& (3 : Int32))), .val (.ref b13)] [(.int (255 : Int32)), (.int p2), (.int (0 : Int32)), (.ref b13)])) _
          refine XS.iand X13.here hx rfl (hb hby d1_35) rfl ?_
          show Steps p.tables e below (T13.setTop (mkF m 36 #[.val (.int p1), .val (.int p2), .val (.int p3), .val (.int (p1 &&& (3 : Int32))), .val (.ref b13)] [(.int (p2 &&& (255 : Int32))), (.int (0 : Int32)), (.ref b13)])) _
          refine XS.i2c X13.here hx rfl (hb hby d1_36) rfl ?_
          exact kt
        obtain ⟨cl21, Ar21, q21, S21, M21, H21, G21⟩ := V13
        have hin21 : ¬ ((0 : Int32) < 0 ∨ cl21.slots.size ≤ ((0 : Int32)).toNatClampNeg) := inb_of S21 ⟨by decide, by decide⟩
        obtain ⟨T21, h21, X21, e21, W21, st21⟩ := stC X13 hx hZ e13 Ar21 (j := (0 : Int32)) hin21 (g := (mkF m 37 #[.val (.int p1), .val (.int p2), .val (.int p3), .val (.int (p1 &&& (3 : Int32))), .val (.ref b13)] [(.int ((p2 &&& (255 : Int32)).toUInt32.toUInt16.toUInt32.toInt32)), (.int (0 : Int32)), (.ref b13)])) rfl rfl (hb hby d1_37)
        have f22 := Nat.le_trans f15 (Nat.le_of_eq W21.size.symm)
        have f23 := f16.wr W21 (Or.inr sz14)
        have f24 := Nat.le_trans f17 (Nat.le_of_eq W21.size.symm)
        have f25 := f18.wr W21 g_b13
        have V21 : Arv Z h21 b13 k13 .char (1 : Int32) [(.int (nar .char ((p2 &&& (255 : Int32)).toUInt32.toUInt16.toUInt32.toInt32)))] (.int (0 : Int32)) := Arv.set Ar21 q21 S21 M21 H21 G21 (fits_nar_char _) W21 0 rfl (Nat.le_of_ble_eq_true rfl)
        have N21 := Fr.snoc X21 N0 g_b13
        have K26 : ∀ t, Steps p.tables e below (T21.setTop (mkF m 38 #[.val (.int p1), .val (.int p2), .val (.int p3), .val (.int (p1 &&& (3 : Int32))), .val (.ref b13)] [])) t → Steps p.tables e below (s₁.setTop (entryFrame m #[(.int p1), (.int p2), (.int p3)] 5)) t := fun t kt => K20 t (st21 t kt)
        obtain ⟨T27, h27, X27, e27, E27, A27, D27, U27, st27⟩ := newO X21 hx hZ hown (hw _ (List.mem_of_getElem? (i := 5) rfl)) (hw _ (List.mem_of_getElem? (i := 6) rfl)) (hw _ (List.mem_of_getElem? (i := 7) rfl)) e21 (g := (mkF m 38 #[.val (.int p1), .val (.int p2), .val (.int p3), .val (.int (p1 &&& (3 : Int32))), .val (.ref b13)] [])) rfl (hb hby d1_38) (by decide) (by decide)
        obtain ⟨b27, g27⟩ : ∃ z, z = h21.size := ⟨_, rfl⟩
        rw [← g27] at A27 D27 U27 st27
        have ne_b13_b27 : b13 ≠ b27 := by rw [g27]; exact Nat.ne_of_lt V21.lt
        have sz28 : h0.size ≤ b27 := Nat.le_trans f23.1 (Nat.le_of_eq g27.symm)
        have g_b27 : n0 ≤ b27 := Nat.le_trans f22 (Nat.le_of_eq g27.symm)
        have f29 := Nat.le_trans f22 E27.1
        have f30 := f23.ext E27
        have f31 := Nat.le_trans f24 E27.1
        have f32 := f25.ext E27
        have f33 := V21.ext E27
        have F34 : Fld Z h27 b27 "java/lang/String" "coder" "B" (.int (0 : Int32)) := D27 (Or.inr (hw _ (List.mem_of_getElem? (i := 31) rfl))) (ty := .byte) (by decide)
        have F35 : Fld Z h27 b27 "java/lang/String" "value" "[B" .null := D27 (Or.inr (hw _ (List.mem_of_getElem? (i := 33) rfl))) (ty := (.array .byte)) (by decide)
        have K36 : ∀ t, Steps p.tables e below (T27.setTop (mkF m 41 #[.val (.int p1), .val (.int p2), .val (.int p3), .val (.int (p1 &&& (3 : Int32))), .val (.ref b13)] [(.ref b27)])) t → Steps p.tables e below (s₁.setTop (entryFrame m #[(.int p1), (.int p2), (.int p3)] 5)) t := fun t kt => K26 t (st27 t kt)
        have hpp : ∀ c ∈ ([nar .char ((p2 &&& (255 : Int32)).toUInt32.toUInt16.toUInt32.toInt32)] : List Int32), ¬ c < 0 ∧ ¬ (255 : Int32) < c := own_cs1 p2
        have K37 : ∀ t, Steps p.tables e below (T27.setTop (mkF m 44 #[.val (.int p1), .val (.int p2), .val (.int p3), .val (.int (p1 &&& (3 : Int32))), .val (.ref b13)] [(.ref b13), (.ref b27), (.ref b27)])) t → Steps p.tables e below (s₁.setTop (entryFrame m #[(.int p1), (.int p2), (.int p3)] 5)) t := by
          intro t kt
          refine K36 t ?_
          show Steps p.tables e below (T27.setTop (mkF m 41 #[.val (.int p1), .val (.int p2), .val (.int p3), .val (.int (p1 &&& (3 : Int32))), .val (.ref b13)] [(.ref b27)])) _
          refine XS.dup X27.here hx rfl (hb hby d1_41) rfl rfl ?_
          show Steps p.tables e below (T27.setTop (mkF m 42 #[.val (.int p1), .val (.int p2), .val (.int p3), .val (.int (p1 &&& (3 : Int32))), .val (.ref b13)] [(.ref b27), (.ref b27)])) _
          refine XS.aload X27.here hx rfl (hb hby d1_42) rfl rfl ?_
          exact kt
        obtain ⟨_, _, ⟨T38, L38, k38, n38⟩, -, X38, ⟨Lc38, hQ38, l38, y38, z38⟩, st38⟩ := X27.specialBack hx (y := (⟨"java/lang/String", "<init>", "([C)V"⟩ : MethodName)) rfl hown (mvT hZ (hw _ (List.mem_of_getElem? (i := 8) rfl))) (mvT hZ (hw _ (List.mem_of_getElem? (i := 9) rfl))) (mvT hZ (hw _ (List.mem_of_getElem? (i := 10) rfl))) (by decide) (StrChars.Road.backV (W := 1) hZ hws (kI := 4) (hw _ (List.mem_of_getElem? (i := 6) rfl)) (cs := ([nar .char ((p2 &&& (255 : Int32)).toUInt32.toUInt16.toUInt32.toInt32)] : List Int32)) (bs := ([nar .char ((p2 &&& (255 : Int32)).toUInt32.toUInt16.toUInt32.toInt32)] : List Int32).map (fun c => c.toInt8.toInt32)) (n := 1) g_b27 f29 A27 F35 F34 f33 (O2.ext f32.2) P5 rfl rfl (by decide) (by decide) hpp rfl (by decide) (by decide)) (g := (mkF m 44 #[.val (.int p1), .val (.int p2), .val (.int p3), .val (.int (p1 &&& (3 : Int32))), .val (.ref b13)] [(.ref b13), (.ref b27), (.ref b27)])) rfl (by rw [hml]; rfl) (Steps.refl _) (a := b27) (argsL := [(.ref b13)]) (rest := [(.ref b27)]) (lenOf pd_0 rfl) rfl (by show 2 * 0 + _ ≤ _; exact Nat.le_of_eq rfl) (hb hby d1_44) (fun _ _ => ⟨rfl, e27, (by decide : 2 + 1 ≤ _), (by decide : 5 + 1 ≤ _)⟩)
        dsimp only [Pt.U, Pt.locs, Pt.cells, Pt.slots] at X38 l38 y38 z38 st38 hQ38
        subst l38 y38 z38
        obtain ⟨rfl, Nq38, Kq38, g38E, g38C, t38, k38b, u38, v38, w38, g38V, g38A⟩ := hQ38
        have f39 := Nat.le_trans f29 Kq38.1
        have f40 := f30.trans Kq38 (allS (Or.inr sz28) all0)
        have f41 := Nat.le_trans f31 Kq38.1
        have f42 := f32.keep Kq38 (allS g_b27 all0)
        have f43 := f33.keep Kq38 (own_nin ne_b13_b27)
        have f44 := A27.keep Kq38
        have N38 := Fr.app N21 Nq38
        have K45 : ∀ t, Steps p.tables e below (T38.setTop (mkF m 47 #[.val (.int p1), .val (.int p2), .val (.int p3), .val (.int (p1 &&& (3 : Int32))), .val (.ref b13)] [(.ref b27)])) t → Steps p.tables e below (s₁.setTop (entryFrame m #[(.int p1), (.int p2), (.int p3)] 5)) t := fun t kt => K37 t (st38.trans kt)
        have ne_b13_t38 : b13 ≠ t38 := Nat.ne_of_lt (Nat.lt_of_lt_of_le f33.lt v38)
        obtain ⟨fs, hr, hrun, hended, hend⟩ := Stand.leaveW (s := s) (vm₁ := s.vm) X38 hS0 f41 (v := some (.ref b27)) (fun h => by rw [Bd.returns] at h; cases h)
        refine ⟨_, _, K45 _ ?_, hrun, hended, _, _, rfl, ?_, own_rew hend (by decide) (by decide)⟩
        · exact retOut X38 hx Bd.returns rfl (Or.inr (Or.inr (Or.inr (Or.inr ⟨rfl, rfl, rfl⟩)))) (hb hby d1_47) hr
        · show Qrm1 p1 p2 p3 G1 h0 n0 _ T38.heap _
          exact ⟨_, rfl, rfl, ⟨nofun, fun z => absurd z h1⟩, N38, f40⟩
      · have K46 : ∀ t, Steps p.tables e below (s₁.setTop (mkF m 49 #[.val (.int p1), .val (.int p2), .val (.int p3), .val (.int (p1 &&& (3 : Int32))), .unset] [(.int (2 : Int32))])) t → Steps p.tables e below (s₁.setTop (entryFrame m #[(.int p1), (.int p2), (.int p3)] 5)) t := by
          intro t kt
          refine K11 t ?_
          show Steps p.tables e below (s₁.setTop (mkF m 20 #[.val (.int p1), .val (.int p2), .val (.int p3), .val (.int (p1 &&& (3 : Int32))), .unset] [(.int (2 : Int32)), (.int (p1 &&& (3 : Int32)))])) _
          refine XS.icmpYes X0.here hx rfl (pc0 := 20) (pc' := 48) rfl (hb hby d1_20) rfl (feq (h3 : ¬ ((p1 &&& (3 : Int32)) = (2 : Int32)))).2 (by decide) (by decide) ?_
          show Steps p.tables e below (s₁.setTop (mkF m 48 #[.val (.int p1), .val (.int p2), .val (.int p3), .val (.int (p1 &&& (3 : Int32))), .unset] [])) _
          refine XS.iconst X0.here hx rfl (hb hby d1_48) ?_
          exact kt
        obtain ⟨T47, h47, k47, X47, e47, E47, A47, st47⟩ := newP X0 hx hZ (hw _ (List.mem_of_getElem? (i := 4) rfl)) e0 (g := (mkF m 49 #[.val (.int p1), .val (.int p2), .val (.int p3), .val (.int (p1 &&& (3 : Int32))), .unset] [(.int (2 : Int32))])) rfl (hb hby d1_49) rfl (by decide) (cap := 2) (by decide) (by decide) (by decide) (by decide)
        obtain ⟨b47, g47⟩ : ∃ z, z = h0.size := ⟨_, rfl⟩
        rw [← g47] at A47 st47
        have sz48 : h0.size ≤ b47 := Nat.le_trans KK0.1 (Nat.le_of_eq g47.symm)
        have g_b47 : n0 ≤ b47 := Nat.le_trans Z0 (Nat.le_of_eq g47.symm)
        have f49 := Nat.le_trans Z0 E47.1
        have f50 := KK0.ext E47
        have f51 := Nat.le_trans hk0 E47.1
        have f52 := X00.ext E47
        have V47 : Arv Z h47 b47 k47 .char (2 : Int32) [(.int (0 : Int32)), (.int (0 : Int32))] (.int (0 : Int32)) := (Arv.new A47 (by decide)).pad (pad_rep [] (.int (0 : Int32)) 2)
        have K53 : ∀ t, Steps p.tables e below (T47.setTop (mkF m 51 #[.val (.int p1), .val (.int p2), .val (.int p3), .val (.int (p1 &&& (3 : Int32))), .unset] [(.ref b47)])) t → Steps p.tables e below (s₁.setTop (entryFrame m #[(.int p1), (.int p2), (.int p3)] 5)) t := fun t kt => K46 t (st47 t kt)
        have K54 : ∀ t, Steps p.tables e below (T47.setTop (mkF m 62 #[.val (.int p1), .val (.int p2), .val (.int p3), .val (.int (p1 &&& (3 : Int32))), .val (.ref b47)] [(.int ((p2 &&& (255 : Int32)).toUInt32.toUInt16.toUInt32.toInt32)), (.int (0 : Int32)), (.ref b47)])) t → Steps p.tables e below (s₁.setTop (entryFrame m #[(.int p1), (.int p2), (.int p3)] 5)) t := by
          intro t kt
          refine K53 t ?_
          show Steps p.tables e below (T47.setTop (mkF m 51 #[.val (.int p1), .val (.int p2), .val (.int p3), .val (.int (p1 &&& (3 : Int32))), .unset] [(.ref b47)])) _
          refine XS.astore X47.here hx rfl (hb hby d1_51) rfl rfl (l' := #[.val (.int p1), .val (.int p2), .val (.int p3), .val (.int (p1 &&& (3 : Int32))), .val (.ref b47)]) rfl ?_
          show Steps p.tables e below (T47.setTop (mkF m 53 #[.val (.int p1), .val (.int p2), .val (.int p3), .val (.int (p1 &&& (3 : Int32))), .val (.ref b47)] [])) _
          refine XS.aload X47.here hx rfl (hb hby d1_53) rfl rfl ?_
          show Steps p.tables e below (T47.setTop (mkF m 55 #[.val (.int p1), .val (.int p2), .val (.int p3), .val (.int (p1 &&& (3 : Int32))), .val (.ref b47)] [(.ref b47)])) _
          refine XS.iconst X47.here hx rfl (hb hby d1_55) ?_
          show Steps p.tables e below (T47.setTop (mkF m 56 #[.val (.int p1), .val (.int p2), .val (.int p3), .val (.int (p1 &&& (3 : Int32))), .val (.ref b47)] [(.int (0 : Int32)), (.ref b47)])) _
          refine XS.iloadN X47.here hx rfl (hb hby d1_56) rfl ?_
          show Steps p.tables e below (T47.setTop (mkF m 57 #[.val (.int p1), .val (.int p2), .val (.int p3), .val (.int (p1 &&& (3 : Int32))), .val (.ref b47)] [(.int p2), (.int (0 : Int32)), (.ref b47)])) _
          refine XS.sipush X47.here hx rfl (hb hby d1_57) ?_
          show Steps p.tables e below (T47.setTop (mkF m 60 #[.val (.int p1), .val (.int p2), .val (.int p3), .val (.int (p1 &&& (3 : Int32))), .val (.ref b47)] [(.int (255 : Int32)), (.int p2), (.int (0 : Int32)), (.ref b47)])) _
          refine XS.iand X47.here hx rfl (hb hby d1_60) rfl ?_
          show Steps p.tables e below (T47.setTop (mkF m 61 #[.val (.int p1), .val (.int p2), .val (.int p3), .val (.int (p1 &&& (3 : Int32))), .val (.ref b47)] [(.int (p2 &&& (255 : Int32))), (.int (0 : Int32)), (.ref b47)])) _
          refine XS.i2c X47.here hx rfl (hb hby d1_61) rfl ?_
          exact kt
        obtain ⟨cl55, Ar55, q55, S55, M55, H55, G55⟩ := V47
        have hin55 : ¬ ((0 : Int32) < 0 ∨ cl55.slots.size ≤ ((0 : Int32)).toNatClampNeg) := inb_of S55 ⟨by decide, by decide⟩
        obtain ⟨T55, h55, X55, e55, W55, st55⟩ := stC X47 hx hZ e47 Ar55 (j := (0 : Int32)) hin55 (g := (mkF m 62 #[.val (.int p1), .val (.int p2), .val (.int p3), .val (.int (p1 &&& (3 : Int32))), .val (.ref b47)] [(.int ((p2 &&& (255 : Int32)).toUInt32.toUInt16.toUInt32.toInt32)), (.int (0 : Int32)), (.ref b47)])) rfl rfl (hb hby d1_62)
        have f56 := Nat.le_trans f49 (Nat.le_of_eq W55.size.symm)
        have f57 := f50.wr W55 (Or.inr sz48)
        have f58 := Nat.le_trans f51 (Nat.le_of_eq W55.size.symm)
        have f59 := f52.wr W55 g_b47
        have V55 : Arv Z h55 b47 k47 .char (2 : Int32) [(.int (nar .char ((p2 &&& (255 : Int32)).toUInt32.toUInt16.toUInt32.toInt32))), (.int (0 : Int32))] (.int (0 : Int32)) := Arv.set Ar55 q55 S55 M55 H55 G55 (fits_nar_char _) W55 0 rfl (Nat.le_of_ble_eq_true rfl)
        have N55 := Fr.snoc X55 N0 g_b47
        have K60 : ∀ t, Steps p.tables e below (T55.setTop (mkF m 63 #[.val (.int p1), .val (.int p2), .val (.int p3), .val (.int (p1 &&& (3 : Int32))), .val (.ref b47)] [])) t → Steps p.tables e below (s₁.setTop (entryFrame m #[(.int p1), (.int p2), (.int p3)] 5)) t := fun t kt => K54 t (st55 t kt)
        have K61 : ∀ t, Steps p.tables e below (T55.setTop (mkF m 72 #[.val (.int p1), .val (.int p2), .val (.int p3), .val (.int (p1 &&& (3 : Int32))), .val (.ref b47)] [(.int ((p3 &&& (255 : Int32)).toUInt32.toUInt16.toUInt32.toInt32)), (.int (1 : Int32)), (.ref b47)])) t → Steps p.tables e below (s₁.setTop (entryFrame m #[(.int p1), (.int p2), (.int p3)] 5)) t := by
          intro t kt
          refine K60 t ?_
          show Steps p.tables e below (T55.setTop (mkF m 63 #[.val (.int p1), .val (.int p2), .val (.int p3), .val (.int (p1 &&& (3 : Int32))), .val (.ref b47)] [])) _
          refine XS.aload X55.here hx rfl (hb hby d1_63) rfl rfl ?_
          show Steps p.tables e below (T55.setTop (mkF m 65 #[.val (.int p1), .val (.int p2), .val (.int p3), .val (.int (p1 &&& (3 : Int32))), .val (.ref b47)] [(.ref b47)])) _
          refine XS.iconst X55.here hx rfl (hb hby d1_65) ?_
          show Steps p.tables e below (T55.setTop (mkF m 66 #[.val (.int p1), .val (.int p2), .val (.int p3), .val (.int (p1 &&& (3 : Int32))), .val (.ref b47)] [(.int (1 : Int32)), (.ref b47)])) _
          refine XS.iloadN X55.here hx rfl (hb hby d1_66) rfl ?_
          show Steps p.tables e below (T55.setTop (mkF m 67 #[.val (.int p1), .val (.int p2), .val (.int p3), .val (.int (p1 &&& (3 : Int32))), .val (.ref b47)] [(.int p3), (.int (1 : Int32)), (.ref b47)])) _
          refine XS.sipush X55.here hx rfl (hb hby d1_67) ?_
          show Steps p.tables e below (T55.setTop (mkF m 70 #[.val (.int p1), .val (.int p2), .val (.int p3), .val (.int (p1 &&& (3 : Int32))), .val (.ref b47)] [(.int (255 : Int32)), (.int p3), (.int (1 : Int32)), (.ref b47)])) _
          refine XS.iand X55.here hx rfl (hb hby d1_70) rfl ?_
          show Steps p.tables e below (T55.setTop (mkF m 71 #[.val (.int p1), .val (.int p2), .val (.int p3), .val (.int (p1 &&& (3 : Int32))), .val (.ref b47)] [(.int (p3 &&& (255 : Int32))), (.int (1 : Int32)), (.ref b47)])) _
          refine XS.i2c X55.here hx rfl (hb hby d1_71) rfl ?_
          exact kt
        obtain ⟨cl62, Ar62, q62, S62, M62, H62, G62⟩ := V55
        have hin62 : ¬ ((1 : Int32) < 0 ∨ cl62.slots.size ≤ ((1 : Int32)).toNatClampNeg) := inb_of S62 ⟨by decide, by decide⟩
        obtain ⟨T62, h62, X62, e62, W62, st62⟩ := stC X55 hx hZ e55 Ar62 (j := (1 : Int32)) hin62 (g := (mkF m 72 #[.val (.int p1), .val (.int p2), .val (.int p3), .val (.int (p1 &&& (3 : Int32))), .val (.ref b47)] [(.int ((p3 &&& (255 : Int32)).toUInt32.toUInt16.toUInt32.toInt32)), (.int (1 : Int32)), (.ref b47)])) rfl rfl (hb hby d1_72)
        have f63 := Nat.le_trans f56 (Nat.le_of_eq W62.size.symm)
        have f64 := f57.wr W62 (Or.inr sz48)
        have f65 := Nat.le_trans f58 (Nat.le_of_eq W62.size.symm)
        have f66 := f59.wr W62 g_b47
        have V62 : Arv Z h62 b47 k47 .char (2 : Int32) [(.int (nar .char ((p2 &&& (255 : Int32)).toUInt32.toUInt16.toUInt32.toInt32))), (.int (nar .char ((p3 &&& (255 : Int32)).toUInt32.toUInt16.toUInt32.toInt32)))] (.int (0 : Int32)) := Arv.set Ar62 q62 S62 M62 H62 G62 (fits_nar_char _) W62 1 rfl (Nat.le_of_ble_eq_true rfl)
        have N62 := Fr.snoc X62 N55 g_b47
        have K67 : ∀ t, Steps p.tables e below (T62.setTop (mkF m 73 #[.val (.int p1), .val (.int p2), .val (.int p3), .val (.int (p1 &&& (3 : Int32))), .val (.ref b47)] [])) t → Steps p.tables e below (s₁.setTop (entryFrame m #[(.int p1), (.int p2), (.int p3)] 5)) t := fun t kt => K61 t (st62 t kt)
        obtain ⟨T68, h68, X68, e68, E68, A68, D68, U68, st68⟩ := newO X62 hx hZ hown (hw _ (List.mem_of_getElem? (i := 5) rfl)) (hw _ (List.mem_of_getElem? (i := 6) rfl)) (hw _ (List.mem_of_getElem? (i := 7) rfl)) e62 (g := (mkF m 73 #[.val (.int p1), .val (.int p2), .val (.int p3), .val (.int (p1 &&& (3 : Int32))), .val (.ref b47)] [])) rfl (hb hby d1_73) (by decide) (by decide)
        obtain ⟨b68, g68⟩ : ∃ z, z = h62.size := ⟨_, rfl⟩
        rw [← g68] at A68 D68 U68 st68
        have ne_b47_b68 : b47 ≠ b68 := by rw [g68]; exact Nat.ne_of_lt V62.lt
        have sz69 : h0.size ≤ b68 := Nat.le_trans f64.1 (Nat.le_of_eq g68.symm)
        have g_b68 : n0 ≤ b68 := Nat.le_trans f63 (Nat.le_of_eq g68.symm)
        have f70 := Nat.le_trans f63 E68.1
        have f71 := f64.ext E68
        have f72 := Nat.le_trans f65 E68.1
        have f73 := f66.ext E68
        have f74 := V62.ext E68
        have F75 : Fld Z h68 b68 "java/lang/String" "coder" "B" (.int (0 : Int32)) := D68 (Or.inr (hw _ (List.mem_of_getElem? (i := 31) rfl))) (ty := .byte) (by decide)
        have F76 : Fld Z h68 b68 "java/lang/String" "value" "[B" .null := D68 (Or.inr (hw _ (List.mem_of_getElem? (i := 33) rfl))) (ty := (.array .byte)) (by decide)
        have K77 : ∀ t, Steps p.tables e below (T68.setTop (mkF m 76 #[.val (.int p1), .val (.int p2), .val (.int p3), .val (.int (p1 &&& (3 : Int32))), .val (.ref b47)] [(.ref b68)])) t → Steps p.tables e below (s₁.setTop (entryFrame m #[(.int p1), (.int p2), (.int p3)] 5)) t := fun t kt => K67 t (st68 t kt)
        have hpp : ∀ c ∈ ([nar .char ((p2 &&& (255 : Int32)).toUInt32.toUInt16.toUInt32.toInt32), nar .char ((p3 &&& (255 : Int32)).toUInt32.toUInt16.toUInt32.toInt32)] : List Int32), ¬ c < 0 ∧ ¬ (255 : Int32) < c := own_cs2 p2 p3
        have K78 : ∀ t, Steps p.tables e below (T68.setTop (mkF m 79 #[.val (.int p1), .val (.int p2), .val (.int p3), .val (.int (p1 &&& (3 : Int32))), .val (.ref b47)] [(.ref b47), (.ref b68), (.ref b68)])) t → Steps p.tables e below (s₁.setTop (entryFrame m #[(.int p1), (.int p2), (.int p3)] 5)) t := by
          intro t kt
          refine K77 t ?_
          show Steps p.tables e below (T68.setTop (mkF m 76 #[.val (.int p1), .val (.int p2), .val (.int p3), .val (.int (p1 &&& (3 : Int32))), .val (.ref b47)] [(.ref b68)])) _
          refine XS.dup X68.here hx rfl (hb hby d1_76) rfl rfl ?_
          show Steps p.tables e below (T68.setTop (mkF m 77 #[.val (.int p1), .val (.int p2), .val (.int p3), .val (.int (p1 &&& (3 : Int32))), .val (.ref b47)] [(.ref b68), (.ref b68)])) _
          refine XS.aload X68.here hx rfl (hb hby d1_77) rfl rfl ?_
          exact kt
        obtain ⟨_, _, ⟨T79, L79, k79, n79⟩, -, X79, ⟨Lc79, hQ79, l79, y79, z79⟩, st79⟩ := X68.specialBack hx (y := (⟨"java/lang/String", "<init>", "([C)V"⟩ : MethodName)) rfl hown (mvT hZ (hw _ (List.mem_of_getElem? (i := 8) rfl))) (mvT hZ (hw _ (List.mem_of_getElem? (i := 9) rfl))) (mvT hZ (hw _ (List.mem_of_getElem? (i := 10) rfl))) (by decide) (StrChars.Road.backV (W := 1) hZ hws (kI := 4) (hw _ (List.mem_of_getElem? (i := 6) rfl)) (cs := ([nar .char ((p2 &&& (255 : Int32)).toUInt32.toUInt16.toUInt32.toInt32), nar .char ((p3 &&& (255 : Int32)).toUInt32.toUInt16.toUInt32.toInt32)] : List Int32)) (bs := ([nar .char ((p2 &&& (255 : Int32)).toUInt32.toUInt16.toUInt32.toInt32), nar .char ((p3 &&& (255 : Int32)).toUInt32.toUInt16.toUInt32.toInt32)] : List Int32).map (fun c => c.toInt8.toInt32)) (n := 2) g_b68 f70 A68 F76 F75 f74 (O2.ext f73.2) P5 rfl rfl (by decide) (by decide) hpp rfl (by decide) (by decide)) (g := (mkF m 79 #[.val (.int p1), .val (.int p2), .val (.int p3), .val (.int (p1 &&& (3 : Int32))), .val (.ref b47)] [(.ref b47), (.ref b68), (.ref b68)])) rfl (by rw [hml]; rfl) (Steps.refl _) (a := b68) (argsL := [(.ref b47)]) (rest := [(.ref b68)]) (lenOf pd_0 rfl) rfl (by show 2 * 0 + _ ≤ _; exact Nat.le_of_eq rfl) (hb hby d1_79) (fun _ _ => ⟨rfl, e68, (by decide : 2 + 1 ≤ _), (by decide : 6 + 2 ≤ _)⟩)
        dsimp only [Pt.U, Pt.locs, Pt.cells, Pt.slots] at X79 l79 y79 z79 st79 hQ79
        subst l79 y79 z79
        obtain ⟨rfl, Nq79, Kq79, g79E, g79C, t79, k79b, u79, v79, w79, g79V, g79A⟩ := hQ79
        have f80 := Nat.le_trans f70 Kq79.1
        have f81 := f71.trans Kq79 (allS (Or.inr sz69) all0)
        have f82 := Nat.le_trans f72 Kq79.1
        have f83 := f73.keep Kq79 (allS g_b68 all0)
        have f84 := f74.keep Kq79 (own_nin ne_b47_b68)
        have f85 := A68.keep Kq79
        have N79 := Fr.app N62 Nq79
        have K86 : ∀ t, Steps p.tables e below (T79.setTop (mkF m 82 #[.val (.int p1), .val (.int p2), .val (.int p3), .val (.int (p1 &&& (3 : Int32))), .val (.ref b47)] [(.ref b68)])) t → Steps p.tables e below (s₁.setTop (entryFrame m #[(.int p1), (.int p2), (.int p3)] 5)) t := fun t kt => K78 t (st79.trans kt)
        have ne_b47_t79 : b47 ≠ t79 := Nat.ne_of_lt (Nat.lt_of_lt_of_le f74.lt v79)
        obtain ⟨fs, hr, hrun, hended, hend⟩ := Stand.leaveW (s := s) (vm₁ := s.vm) X79 hS0 f82 (v := some (.ref b68)) (fun h => by rw [Bd.returns] at h; cases h)
        refine ⟨_, _, K86 _ ?_, hrun, hended, _, _, rfl, ?_, own_rew hend (by decide) (by decide)⟩
        · exact retOut X79 hx Bd.returns rfl (Or.inr (Or.inr (Or.inr (Or.inr ⟨rfl, rfl, rfl⟩)))) (hb hby d1_82) hr
        · show Qrm1 p1 p2 p3 G1 h0 n0 _ T79.heap _
          exact ⟨_, rfl, rfl, ⟨nofun, fun z => absurd z h1⟩, N79, f81⟩
theorem ef_rm8 (m : MethodId) (x0 : Int32) : entryFrame m #[(.int x0)] 2 = mkF m 0 #[.val (.int x0), .unset] [] := by first | (simp [entryFrame, mkF, argsToLocals, Value.category]; done) | rfl
def Qrm8 (p1 : Int32) (a1 a2 a3 a4 : Addr) (h0 : Heap) (n0 : Nat) (v : Option Value) (h : Heap) (L : List Loc) : Prop := ∃ z : Value, v = some z ∧ z.isRef = true ∧ Fr n0 L ∧ h = h0
set_option maxRecDepth 65536 in
set_option maxHeartbeats 40000000 in
theorem rm8 (l : Launch) (Z : State) (a0 : Array Value) (hw : ∀ d ∈ tables_1, d.before a0 Z = true) (ws : List Jvm.Cond) (p1 : Int32) (a1 a2 a3 a4 : Addr) (h0 : Heap) (n0 : Nat) (Z0 : n0 ≤ h0.size) (S1 : Sta Z h0 "com/example/ageline/ageline/policy/RetentionAction" "DELETE_ALLOW_RECOVERY" "Lcom/example/ageline/ageline/policy/RetentionAction;" (.ref a1)) (S2 : Sta Z h0 "com/example/ageline/ageline/policy/RetentionAction" "DELETE_PERMANENTLY" "Lcom/example/ageline/ageline/policy/RetentionAction;" (.ref a2)) (S3 : Sta Z h0 "com/example/ageline/ageline/policy/RetentionAction" "MOVE_TO_ARCHIVE" "Lcom/example/ageline/ageline/policy/RetentionAction;" (.ref a3)) (S4 : Sta Z h0 "com/example/ageline/ageline/policy/RetentionAction" "PURGE" "Lcom/example/ageline/ageline/policy/RetentionAction;" (.ref a4)) :
    MetFree l (⟨"com/example/ageline/ageline/policy/RetentionTagIsDefaultPinLaw", "action", "(I)Lcom/example/ageline/ageline/policy/RetentionAction;"⟩ : MethodName) (head1 (Jvm.Cond.code (⟨"com/example/ageline/ageline/policy/RetentionTagIsDefaultPinLaw", "action", "(I)Lcom/example/ageline/ageline/policy/RetentionAction;"⟩ : MethodName) method_3_code 2 (some (.object "com/example/ageline/ageline/policy/RetentionAction")) :: ws) ({ frames := 0, cells := 0, slots := 0, locals := 0 } : Room)) (fun a U => a = #[(.int p1)] ∧ Z.Warmed39 U.vm ∧ U.heap = h0) (fun _ _ _ _ _ => True) (fun _ U o U' => ∃ v L, o = .returned v ∧ Qrm8 p1 a1 a2 a3 a4 h0 n0 v U'.heap L ∧ FrameEnd U o U' L ({ frames := 0, cells := 0, slots := 0, locals := 0 } : Room).cells ({ frames := 0, cells := 0, slots := 0, locals := 0 } : Room).slots) := by
  refine MetFree.of_bodySF (plainFor_of_name pn_0) hisR ?_
  intro p e s m args below meth c s₁ Bd hml0 hP hK
  obtain ⟨rfl, hZ, hh⟩ := hP
  have hx := Bd.exec
  have hby := Bd.bytes
  have hml : c.maxLocals = 2 := hml0
  have hown : s.vm.findClass "com/example/ageline/ageline/policy/RetentionTagIsDefaultPinLaw" = some m.cls := findClass_of_methodNamed Bd.named
  have hnm := (name_of_methodNamed Bd.named Bd.method).1
  have X0 : Stand p l e ({ frames := 0, cells := 0, slots := 0, locals := 0 } : Room) s m #[(.int p1)] below meth c s₁ [] 0 0 := Stand.of_body Bd
  have e0 : s₁.heap = h0 := by rw [← hh, Bd.state]; rfl
  have N0 := Fr.nil n0
  have K0 : ∀ t, Steps p.tables e below (s₁.setTop (mkF m 0 #[.val (.int p1), .unset] [])) t → Steps p.tables e below (s₁.setTop (entryFrame m #[(.int p1)] 2)) t := fun t k => castTop (ef_rm8 m p1) k
  have KK0 : Keep h0 h0 [] := Keep.refl _ _
  
  have K1 : ∀ t, Steps p.tables e below (s₁.setTop (mkF m 6 #[.val (.int p1), .val (.int (p1 &&& (7 : Int32)))] [(.int (p1 &&& (7 : Int32)))])) t → Steps p.tables e below (s₁.setTop (entryFrame m #[(.int p1)] 2)) t := by
    intro t kt
    refine K0 t ?_
    show Steps p.tables e below (s₁.setTop (mkF m 0 #[.val (.int p1), .unset] [])) _
    refine XS.iloadN X0.here hx rfl (hb hby d8_0) rfl ?_
    show Steps p.tables e below (s₁.setTop (mkF m 1 #[.val (.int p1), .unset] [(.int p1)])) _
    refine XS.bipush X0.here hx rfl (hb hby d8_1) ?_
    show Steps p.tables e below (s₁.setTop (mkF m 3 #[.val (.int p1), .unset] [(.int (7 : Int32)), (.int p1)])) _
    refine XS.iand X0.here hx rfl (hb hby d8_3) rfl ?_
    show Steps p.tables e below (s₁.setTop (mkF m 4 #[.val (.int p1), .unset] [(.int (p1 &&& (7 : Int32)))])) _
    refine XS.istoreN X0.here hx rfl (hb hby d8_4) rfl (l' := #[.val (.int p1), .val (.int (p1 &&& (7 : Int32)))]) rfl ?_
    show Steps p.tables e below (s₁.setTop (mkF m 5 #[.val (.int p1), .val (.int (p1 &&& (7 : Int32)))] [])) _
    refine XS.iloadN X0.here hx rfl (hb hby d8_5) rfl ?_
    exact kt
  by_cases h1 : (p1 &&& (7 : Int32)) = (0 : Int32)
  · have K2 : ∀ t, Steps p.tables e below (s₁.setTop (mkF m 9 #[.val (.int p1), .val (.int (p1 &&& (7 : Int32)))] [])) t → Steps p.tables e below (s₁.setTop (entryFrame m #[(.int p1)] 2)) t := by
      intro t kt
      refine K1 t ?_
      show Steps p.tables e below (s₁.setTop (mkF m 6 #[.val (.int p1), .val (.int (p1 &&& (7 : Int32)))] [(.int (p1 &&& (7 : Int32)))])) _
      refine XS.ifNo X0.here hx rfl (hb hby d8_6) rfl ((if0 _ _).trans (teq (h1 : (p1 &&& (7 : Int32)) = (0 : Int32))).2) ?_
      exact kt
    obtain ⟨T3, X3, e3, st3⟩ := getS2 X0 hx hZ hown (host := "") (Or.inl (hw _ (List.mem_of_getElem? (i := 78) rfl))) Via.refl e0 S1 (g := (mkF m 9 #[.val (.int p1), .val (.int (p1 &&& (7 : Int32)))] [])) rfl (hb hby d8_9)
    have K4 : ∀ t, Steps p.tables e below (T3.setTop (mkF m 12 #[.val (.int p1), .val (.int (p1 &&& (7 : Int32)))] [(.ref a1)])) t → Steps p.tables e below (s₁.setTop (entryFrame m #[(.int p1)] 2)) t := fun t kt => K2 t (st3 t kt)
    obtain ⟨fs, hr, hrun, hended, hW, hsame⟩ := X3.leave (v := some (.ref a1)) (fun h => by rw [Bd.returns] at h; cases h)
    refine ⟨_, _, K4 _ ?_, hrun, hended, _, _, rfl, ?_, ⟨_, rfl⟩, hW, hsame.mono (by decide) (by decide)⟩
    · exact retOut X3 hx Bd.returns rfl (Or.inr (Or.inr (Or.inr (Or.inr ⟨rfl, rfl, rfl⟩)))) (hb hby d8_12) hr
    · show Qrm8 p1 a1 a2 a3 a4 h0 n0 _ T3.heap _
      rw [e3]
      exact ⟨_, rfl, rfl, N0, rfl⟩
  · have K5 : ∀ t, Steps p.tables e below (s₁.setTop (mkF m 15 #[.val (.int p1), .val (.int (p1 &&& (7 : Int32)))] [(.int (1 : Int32)), (.int (p1 &&& (7 : Int32)))])) t → Steps p.tables e below (s₁.setTop (entryFrame m #[(.int p1)] 2)) t := by
      intro t kt
      refine K1 t ?_
      show Steps p.tables e below (s₁.setTop (mkF m 6 #[.val (.int p1), .val (.int (p1 &&& (7 : Int32)))] [(.int (p1 &&& (7 : Int32)))])) _
      refine XS.ifYes X0.here hx rfl (pc0 := 6) (pc' := 13) rfl (hb hby d8_6) rfl ((if0 _ _).trans (feq (h1 : ¬ ((p1 &&& (7 : Int32)) = (0 : Int32)))).2) (by decide) (by decide) ?_
      show Steps p.tables e below (s₁.setTop (mkF m 13 #[.val (.int p1), .val (.int (p1 &&& (7 : Int32)))] [])) _
      refine XS.iloadN X0.here hx rfl (hb hby d8_13) rfl ?_
      show Steps p.tables e below (s₁.setTop (mkF m 14 #[.val (.int p1), .val (.int (p1 &&& (7 : Int32)))] [(.int (p1 &&& (7 : Int32)))])) _
      refine XS.iconst X0.here hx rfl (hb hby d8_14) ?_
      exact kt
    by_cases h2 : (p1 &&& (7 : Int32)) = (1 : Int32)
    · have K6 : ∀ t, Steps p.tables e below (s₁.setTop (mkF m 18 #[.val (.int p1), .val (.int (p1 &&& (7 : Int32)))] [])) t → Steps p.tables e below (s₁.setTop (entryFrame m #[(.int p1)] 2)) t := by
        intro t kt
        refine K5 t ?_
        show Steps p.tables e below (s₁.setTop (mkF m 15 #[.val (.int p1), .val (.int (p1 &&& (7 : Int32)))] [(.int (1 : Int32)), (.int (p1 &&& (7 : Int32)))])) _
        refine XS.icmpNo X0.here hx rfl (hb hby d8_15) rfl (teq (h2 : (p1 &&& (7 : Int32)) = (1 : Int32))).2 ?_
        exact kt
      obtain ⟨T7, X7, e7, st7⟩ := getS2 X0 hx hZ hown (host := "") (Or.inl (hw _ (List.mem_of_getElem? (i := 80) rfl))) Via.refl e0 S2 (g := (mkF m 18 #[.val (.int p1), .val (.int (p1 &&& (7 : Int32)))] [])) rfl (hb hby d8_18)
      have K8 : ∀ t, Steps p.tables e below (T7.setTop (mkF m 21 #[.val (.int p1), .val (.int (p1 &&& (7 : Int32)))] [(.ref a2)])) t → Steps p.tables e below (s₁.setTop (entryFrame m #[(.int p1)] 2)) t := fun t kt => K6 t (st7 t kt)
      obtain ⟨fs, hr, hrun, hended, hW, hsame⟩ := X7.leave (v := some (.ref a2)) (fun h => by rw [Bd.returns] at h; cases h)
      refine ⟨_, _, K8 _ ?_, hrun, hended, _, _, rfl, ?_, ⟨_, rfl⟩, hW, hsame.mono (by decide) (by decide)⟩
      · exact retOut X7 hx Bd.returns rfl (Or.inr (Or.inr (Or.inr (Or.inr ⟨rfl, rfl, rfl⟩)))) (hb hby d8_21) hr
      · show Qrm8 p1 a1 a2 a3 a4 h0 n0 _ T7.heap _
        rw [e7]
        exact ⟨_, rfl, rfl, N0, rfl⟩
    · have K9 : ∀ t, Steps p.tables e below (s₁.setTop (mkF m 24 #[.val (.int p1), .val (.int (p1 &&& (7 : Int32)))] [(.int (2 : Int32)), (.int (p1 &&& (7 : Int32)))])) t → Steps p.tables e below (s₁.setTop (entryFrame m #[(.int p1)] 2)) t := by
        intro t kt
        refine K5 t ?_
        show Steps p.tables e below (s₁.setTop (mkF m 15 #[.val (.int p1), .val (.int (p1 &&& (7 : Int32)))] [(.int (1 : Int32)), (.int (p1 &&& (7 : Int32)))])) _
        refine XS.icmpYes X0.here hx rfl (pc0 := 15) (pc' := 22) rfl (hb hby d8_15) rfl (feq (h2 : ¬ ((p1 &&& (7 : Int32)) = (1 : Int32)))).2 (by decide) (by decide) ?_
        show Steps p.tables e below (s₁.setTop (mkF m 22 #[.val (.int p1), .val (.int (p1 &&& (7 : Int32)))] [])) _
        refine XS.iloadN X0.here hx rfl (hb hby d8_22) rfl ?_
        show Steps p.tables e below (s₁.setTop (mkF m 23 #[.val (.int p1), .val (.int (p1 &&& (7 : Int32)))] [(.int (p1 &&& (7 : Int32)))])) _
        refine XS.iconst X0.here hx rfl (hb hby d8_23) ?_
        exact kt
      by_cases h3 : (p1 &&& (7 : Int32)) = (2 : Int32)
      · have K10 : ∀ t, Steps p.tables e below (s₁.setTop (mkF m 27 #[.val (.int p1), .val (.int (p1 &&& (7 : Int32)))] [])) t → Steps p.tables e below (s₁.setTop (entryFrame m #[(.int p1)] 2)) t := by
          intro t kt
          refine K9 t ?_
          show Steps p.tables e below (s₁.setTop (mkF m 24 #[.val (.int p1), .val (.int (p1 &&& (7 : Int32)))] [(.int (2 : Int32)), (.int (p1 &&& (7 : Int32)))])) _
          refine XS.icmpNo X0.here hx rfl (hb hby d8_24) rfl (teq (h3 : (p1 &&& (7 : Int32)) = (2 : Int32))).2 ?_
          exact kt
        obtain ⟨T11, X11, e11, st11⟩ := getS2 X0 hx hZ hown (host := "") (Or.inl (hw _ (List.mem_of_getElem? (i := 73) rfl))) Via.refl e0 S3 (g := (mkF m 27 #[.val (.int p1), .val (.int (p1 &&& (7 : Int32)))] [])) rfl (hb hby d8_27)
        have K12 : ∀ t, Steps p.tables e below (T11.setTop (mkF m 30 #[.val (.int p1), .val (.int (p1 &&& (7 : Int32)))] [(.ref a3)])) t → Steps p.tables e below (s₁.setTop (entryFrame m #[(.int p1)] 2)) t := fun t kt => K10 t (st11 t kt)
        obtain ⟨fs, hr, hrun, hended, hW, hsame⟩ := X11.leave (v := some (.ref a3)) (fun h => by rw [Bd.returns] at h; cases h)
        refine ⟨_, _, K12 _ ?_, hrun, hended, _, _, rfl, ?_, ⟨_, rfl⟩, hW, hsame.mono (by decide) (by decide)⟩
        · exact retOut X11 hx Bd.returns rfl (Or.inr (Or.inr (Or.inr (Or.inr ⟨rfl, rfl, rfl⟩)))) (hb hby d8_30) hr
        · show Qrm8 p1 a1 a2 a3 a4 h0 n0 _ T11.heap _
          rw [e11]
          exact ⟨_, rfl, rfl, N0, rfl⟩
      · have K13 : ∀ t, Steps p.tables e below (s₁.setTop (mkF m 33 #[.val (.int p1), .val (.int (p1 &&& (7 : Int32)))] [(.int (3 : Int32)), (.int (p1 &&& (7 : Int32)))])) t → Steps p.tables e below (s₁.setTop (entryFrame m #[(.int p1)] 2)) t := by
          intro t kt
          refine K9 t ?_
          show Steps p.tables e below (s₁.setTop (mkF m 24 #[.val (.int p1), .val (.int (p1 &&& (7 : Int32)))] [(.int (2 : Int32)), (.int (p1 &&& (7 : Int32)))])) _
          refine XS.icmpYes X0.here hx rfl (pc0 := 24) (pc' := 31) rfl (hb hby d8_24) rfl (feq (h3 : ¬ ((p1 &&& (7 : Int32)) = (2 : Int32)))).2 (by decide) (by decide) ?_
          show Steps p.tables e below (s₁.setTop (mkF m 31 #[.val (.int p1), .val (.int (p1 &&& (7 : Int32)))] [])) _
          refine XS.iloadN X0.here hx rfl (hb hby d8_31) rfl ?_
          show Steps p.tables e below (s₁.setTop (mkF m 32 #[.val (.int p1), .val (.int (p1 &&& (7 : Int32)))] [(.int (p1 &&& (7 : Int32)))])) _
          refine XS.iconst X0.here hx rfl (hb hby d8_32) ?_
          exact kt
        by_cases h4 : (p1 &&& (7 : Int32)) = (3 : Int32)
        · have K14 : ∀ t, Steps p.tables e below (s₁.setTop (mkF m 36 #[.val (.int p1), .val (.int (p1 &&& (7 : Int32)))] [])) t → Steps p.tables e below (s₁.setTop (entryFrame m #[(.int p1)] 2)) t := by
            intro t kt
            refine K13 t ?_
            show Steps p.tables e below (s₁.setTop (mkF m 33 #[.val (.int p1), .val (.int (p1 &&& (7 : Int32)))] [(.int (3 : Int32)), (.int (p1 &&& (7 : Int32)))])) _
            refine XS.icmpNo X0.here hx rfl (hb hby d8_33) rfl (teq (h4 : (p1 &&& (7 : Int32)) = (3 : Int32))).2 ?_
            exact kt
          obtain ⟨T15, X15, e15, st15⟩ := getS2 X0 hx hZ hown (host := "") (Or.inl (hw _ (List.mem_of_getElem? (i := 37) rfl))) Via.refl e0 S4 (g := (mkF m 36 #[.val (.int p1), .val (.int (p1 &&& (7 : Int32)))] [])) rfl (hb hby d8_36)
          have K16 : ∀ t, Steps p.tables e below (T15.setTop (mkF m 39 #[.val (.int p1), .val (.int (p1 &&& (7 : Int32)))] [(.ref a4)])) t → Steps p.tables e below (s₁.setTop (entryFrame m #[(.int p1)] 2)) t := fun t kt => K14 t (st15 t kt)
          obtain ⟨fs, hr, hrun, hended, hW, hsame⟩ := X15.leave (v := some (.ref a4)) (fun h => by rw [Bd.returns] at h; cases h)
          refine ⟨_, _, K16 _ ?_, hrun, hended, _, _, rfl, ?_, ⟨_, rfl⟩, hW, hsame.mono (by decide) (by decide)⟩
          · exact retOut X15 hx Bd.returns rfl (Or.inr (Or.inr (Or.inr (Or.inr ⟨rfl, rfl, rfl⟩)))) (hb hby d8_39) hr
          · show Qrm8 p1 a1 a2 a3 a4 h0 n0 _ T15.heap _
            rw [e15]
            exact ⟨_, rfl, rfl, N0, rfl⟩
        · have K17 : ∀ t, Steps p.tables e below (s₁.setTop (mkF m 41 #[.val (.int p1), .val (.int (p1 &&& (7 : Int32)))] [.null])) t → Steps p.tables e below (s₁.setTop (entryFrame m #[(.int p1)] 2)) t := by
            intro t kt
            refine K13 t ?_
            show Steps p.tables e below (s₁.setTop (mkF m 33 #[.val (.int p1), .val (.int (p1 &&& (7 : Int32)))] [(.int (3 : Int32)), (.int (p1 &&& (7 : Int32)))])) _
            refine XS.icmpYes X0.here hx rfl (pc0 := 33) (pc' := 40) rfl (hb hby d8_33) rfl (feq (h4 : ¬ ((p1 &&& (7 : Int32)) = (3 : Int32)))).2 (by decide) (by decide) ?_
            show Steps p.tables e below (s₁.setTop (mkF m 40 #[.val (.int p1), .val (.int (p1 &&& (7 : Int32)))] [])) _
            refine XS.aconstNull X0.here hx rfl (hb hby d8_40) ?_
            exact kt
          obtain ⟨fs, hr, hrun, hended, hW, hsame⟩ := X0.leave (v := some .null) (fun h => by rw [Bd.returns] at h; cases h)
          refine ⟨_, _, K17 _ ?_, hrun, hended, _, _, rfl, ?_, ⟨_, rfl⟩, hW, hsame.mono (by decide) (by decide)⟩
          · exact retOut X0 hx Bd.returns rfl (Or.inr (Or.inr (Or.inr (Or.inr ⟨rfl, rfl, rfl⟩)))) (hb hby d8_41) hr
          · show Qrm8 p1 a1 a2 a3 a4 h0 n0 _ s₁.heap _
            rw [e0]
            exact ⟨_, rfl, rfl, N0, rfl⟩
theorem ef_rm9 (m : MethodId) (x0 : Addr) (x1 : Value) (x2 : Value) (x3 : Value) (x4 : Value) (r1 : x1.isRef = true) (r2 : x2.isRef = true) (r3 : x3.isRef = true) (r4 : x4.isRef = true) : entryFrame m #[(.ref x0), x1, x2, x3, x4] 5 = mkF m 0 #[.val (.ref x0), .val x1, .val x2, .val x3, .val x4] [] := by
  rcases ref_cases r1 with rfl | ⟨_, rfl⟩ <;> rcases ref_cases r2 with rfl | ⟨_, rfl⟩ <;> rcases ref_cases r3 with rfl | ⟨_, rfl⟩ <;> rcases ref_cases r4 with rfl | ⟨_, rfl⟩ <;> first | (simp [entryFrame, mkF, argsToLocals, Value.category]; done) | rfl
def Qrm9 (Z : State) (a1 : Addr) (v5 : Value) (h0 : Heap) (n0 : Nat) (v : Option Value) (h : Heap) (L : List Loc) : Prop := v = none ∧ Fr n0 L ∧ Keep h0 h [a1] ∧ Fld Z h a1 "com/example/ageline/ageline/policy/RetentionTag" "folder" "Ljava/lang/String;" v5
set_option maxRecDepth 65536 in
set_option maxHeartbeats 40000000 in
theorem rm9 (l : Launch) (Z : State) (a0 : Array Value) (hw : ∀ d ∈ tables_1, d.before a0 Z = true) (ws : List Jvm.Cond) (a1 : Addr) (v2 v3 v4 v5 : Value) (h0 : Heap) (n0 : Nat) (Z0 : n0 ≤ h0.size) (r2 : v2.isRef = true) (r3 : v3.isRef = true) (r4 : v4.isRef = true) (r5 : v5.isRef = true) (E1 : Exa Z h0 a1 "com/example/ageline/ageline/policy/RetentionTag") (F1 : Fld Z h0 a1 "com/example/ageline/ageline/policy/RetentionTag" "name" "Ljava/lang/String;" .null) (F2 : Fld Z h0 a1 "com/example/ageline/ageline/policy/RetentionTag" "age" "Lcom/example/ageline/ageline/Age;" .null) (F3 : Fld Z h0 a1 "com/example/ageline/ageline/policy/RetentionTag" "action" "Lcom/example/ageline/ageline/policy/RetentionAction;" .null) (F4 : Fld Z h0 a1 "com/example/ageline/ageline/policy/RetentionTag" "folder" "Ljava/lang/String;" .null) (g1 : n0 ≤ a1) :
    MetFree l (⟨"com/example/ageline/ageline/policy/RetentionTag", "<init>", "(Ljava/lang/String;Lcom/example/ageline/ageline/Age;Lcom/example/ageline/ageline/policy/RetentionAction;Ljava/lang/String;)V"⟩ : MethodName) (head1 (Jvm.Cond.code (⟨"com/example/ageline/ageline/policy/RetentionTag", "<init>", "(Ljava/lang/String;Lcom/example/ageline/ageline/Age;Lcom/example/ageline/ageline/policy/RetentionAction;Ljava/lang/String;)V"⟩ : MethodName) prog_46_method_1_code 5 none :: ws) ({ frames := 1, cells := 0, slots := 0, locals := 12 } : Room)) (fun a U => a = #[(.ref a1), v2, v3, v4, v5] ∧ Z.Warmed39 U.vm ∧ U.heap = h0) (fun _ _ _ _ _ => True) (fun _ U o U' => ∃ v L, o = .returned v ∧ Qrm9 Z a1 v5 h0 n0 v U'.heap L ∧ FrameEnd U o U' L ({ frames := 1, cells := 0, slots := 0, locals := 12 } : Room).cells ({ frames := 1, cells := 0, slots := 0, locals := 12 } : Room).slots) := by
  refine MetFree.of_bodySF (plainFor_of_name pn_1) hisR ?_
  intro p e s m args below meth c s₁ Bd hml0 hP hK
  obtain ⟨rfl, hZ, hh⟩ := hP
  have hx := Bd.exec
  have hby := Bd.bytes
  have hml : c.maxLocals = 5 := hml0
  have hown : s.vm.findClass "com/example/ageline/ageline/policy/RetentionTag" = some m.cls := findClass_of_methodNamed Bd.named
  have hnm := (name_of_methodNamed Bd.named Bd.method).1
  have X0 : Stand p l e ({ frames := 1, cells := 0, slots := 0, locals := 12 } : Room) s m #[(.ref a1), v2, v3, v4, v5] below meth c s₁ [] 0 0 := Stand.of_body Bd
  have e0 : s₁.heap = h0 := by rw [← hh, Bd.state]; rfl
  have N0 := Fr.nil n0
  have K0 : ∀ t, Steps p.tables e below (s₁.setTop (mkF m 0 #[.val (.ref a1), .val v2, .val v3, .val v4, .val v5] [])) t → Steps p.tables e below (s₁.setTop (entryFrame m #[(.ref a1), v2, v3, v4, v5] 5)) t := fun t k => castTop (ef_rm9 m a1 v2 v3 v4 v5 r2 r3 r4 r5) k
  have KK0 : Keep h0 h0 [a1] := Keep.refl _ _
  
  have K1 : ∀ t, Steps p.tables e below (s₁.setTop (mkF m 1 #[.val (.ref a1), .val v2, .val v3, .val v4, .val v5] [(.ref a1)])) t → Steps p.tables e below (s₁.setTop (entryFrame m #[(.ref a1), v2, v3, v4, v5] 5)) t := by
    intro t kt
    refine K0 t ?_
    show Steps p.tables e below (s₁.setTop (mkF m 0 #[.val (.ref a1), .val v2, .val v3, .val v4, .val v5] [])) _
    refine XS.aloadN X0.here hx rfl (hb hby d9_0) rfl rfl ?_
    exact kt
  obtain ⟨T2, X2, e2, st2⟩ := initO X0 hx hZ hown (hw _ (List.mem_of_getElem? (i := 46) rfl)) (hw _ (List.mem_of_getElem? (i := 16) rfl)) (hw _ (List.mem_of_getElem? (i := 17) rfl)) e0 (g := (mkF m 1 #[.val (.ref a1), .val v2, .val v3, .val v4, .val v5] [(.ref a1)])) rfl (by rw [hml]; rfl) rfl (hb hby d9_1) (by decide) (W := 0) (by show 2 * 0 + _ ≤ _; exact Nat.le_of_eq rfl) (by decide)
  have K3 : ∀ t, Steps p.tables e below (T2.setTop (mkF m 4 #[.val (.ref a1), .val v2, .val v3, .val v4, .val v5] [])) t → Steps p.tables e below (s₁.setTop (entryFrame m #[(.ref a1), v2, v3, v4, v5] 5)) t := fun t kt => K1 t (st2 t kt)
  have K4 : ∀ t, Steps p.tables e below (T2.setTop (mkF m 6 #[.val (.ref a1), .val v2, .val v3, .val v4, .val v5] [v2, (.ref a1)])) t → Steps p.tables e below (s₁.setTop (entryFrame m #[(.ref a1), v2, v3, v4, v5] 5)) t := by
    intro t kt
    refine K3 t ?_
    show Steps p.tables e below (T2.setTop (mkF m 4 #[.val (.ref a1), .val v2, .val v3, .val v4, .val v5] [])) _
    refine XS.aloadN X2.here hx rfl (hb hby d9_4) rfl rfl ?_
    show Steps p.tables e below (T2.setTop (mkF m 5 #[.val (.ref a1), .val v2, .val v3, .val v4, .val v5] [(.ref a1)])) _
    refine XS.aloadN X2.here hx rfl (hb hby d9_5) rfl r2 ?_
    exact kt
  obtain ⟨T5, h5, X5, e5, W5, st5⟩ := putF X2 hx hZ hown (host := "") (Or.inl (hw _ (List.mem_of_getElem? (i := 47) rfl))) Via.refl e2 F1 E1 (Or.inr ⟨(hw _ (List.mem_of_getElem? (i := 48) rfl)), rfl, hnm⟩) (hw _ (List.mem_of_getElem? (i := 41) rfl)) (ty := (.object "java/lang/String")) (by decide) (own_narR rfl r2) (own_fitsR rfl r2) (g := (mkF m 6 #[.val (.ref a1), .val v2, .val v3, .val v4, .val v5] [v2, (.ref a1)])) rfl rfl (hb hby d9_6)
  have f6 := Nat.le_trans Z0 (Nat.le_of_eq W5.size.symm)
  have f7 := KK0.wr W5 (Or.inl (List.mem_of_getElem? (i := 0) rfl))
  have f8 := E1.wr W5
  have f9 := F2.other W5 (Or.inr (slot_ne (Or.inr (hw _ (List.mem_of_getElem? (i := 50) rfl))) (Or.inr (hw _ (List.mem_of_getElem? (i := 48) rfl))) (by decide) (t := (.object "com/example/ageline/ageline/Age")) (t' := (.object "java/lang/String")) (by decide) (by decide)))
  have f10 := F3.other W5 (Or.inr (slot_ne (Or.inr (hw _ (List.mem_of_getElem? (i := 52) rfl))) (Or.inr (hw _ (List.mem_of_getElem? (i := 48) rfl))) (by decide) (t := (.object "com/example/ageline/ageline/policy/RetentionAction")) (t' := (.object "java/lang/String")) (by decide) (by decide)))
  have f11 := F4.other W5 (Or.inr (slot_ne (Or.inr (hw _ (List.mem_of_getElem? (i := 54) rfl))) (Or.inr (hw _ (List.mem_of_getElem? (i := 48) rfl))) (by decide) (t := (.object "java/lang/String")) (t' := (.object "java/lang/String")) (by decide) (by decide)))
  have F5 := F1.same W5
  have N5 := Fr.snoc X5 N0 g1
  have K12 : ∀ t, Steps p.tables e below (T5.setTop (mkF m 9 #[.val (.ref a1), .val v2, .val v3, .val v4, .val v5] [])) t → Steps p.tables e below (s₁.setTop (entryFrame m #[(.ref a1), v2, v3, v4, v5] 5)) t := fun t kt => K4 t (st5 t kt)
  have K13 : ∀ t, Steps p.tables e below (T5.setTop (mkF m 11 #[.val (.ref a1), .val v2, .val v3, .val v4, .val v5] [v3, (.ref a1)])) t → Steps p.tables e below (s₁.setTop (entryFrame m #[(.ref a1), v2, v3, v4, v5] 5)) t := by
    intro t kt
    refine K12 t ?_
    show Steps p.tables e below (T5.setTop (mkF m 9 #[.val (.ref a1), .val v2, .val v3, .val v4, .val v5] [])) _
    refine XS.aloadN X5.here hx rfl (hb hby d9_9) rfl rfl ?_
    show Steps p.tables e below (T5.setTop (mkF m 10 #[.val (.ref a1), .val v2, .val v3, .val v4, .val v5] [(.ref a1)])) _
    refine XS.aloadN X5.here hx rfl (hb hby d9_10) rfl r3 ?_
    exact kt
  obtain ⟨T14, h14, X14, e14, W14, st14⟩ := putF X5 hx hZ hown (host := "") (Or.inl (hw _ (List.mem_of_getElem? (i := 49) rfl))) Via.refl e5 f9 f8 (Or.inr ⟨(hw _ (List.mem_of_getElem? (i := 50) rfl)), rfl, hnm⟩) (hw _ (List.mem_of_getElem? (i := 41) rfl)) (ty := (.object "com/example/ageline/ageline/Age")) (by decide) (own_narR rfl r3) (own_fitsR rfl r3) (g := (mkF m 11 #[.val (.ref a1), .val v2, .val v3, .val v4, .val v5] [v3, (.ref a1)])) rfl rfl (hb hby d9_11)
  have f15 := Nat.le_trans f6 (Nat.le_of_eq W14.size.symm)
  have f16 := f7.wr W14 (Or.inl (List.mem_of_getElem? (i := 0) rfl))
  have f17 := f8.wr W14
  have f18 := F5.other W14 (Or.inr (slot_ne (Or.inr (hw _ (List.mem_of_getElem? (i := 48) rfl))) (Or.inr (hw _ (List.mem_of_getElem? (i := 50) rfl))) (by decide) (t := (.object "java/lang/String")) (t' := (.object "com/example/ageline/ageline/Age")) (by decide) (by decide)))
  have f19 := f10.other W14 (Or.inr (slot_ne (Or.inr (hw _ (List.mem_of_getElem? (i := 52) rfl))) (Or.inr (hw _ (List.mem_of_getElem? (i := 50) rfl))) (by decide) (t := (.object "com/example/ageline/ageline/policy/RetentionAction")) (t' := (.object "com/example/ageline/ageline/Age")) (by decide) (by decide)))
  have f20 := f11.other W14 (Or.inr (slot_ne (Or.inr (hw _ (List.mem_of_getElem? (i := 54) rfl))) (Or.inr (hw _ (List.mem_of_getElem? (i := 50) rfl))) (by decide) (t := (.object "java/lang/String")) (t' := (.object "com/example/ageline/ageline/Age")) (by decide) (by decide)))
  have F14 := f9.same W14
  have N14 := Fr.snoc X14 N5 g1
  have K21 : ∀ t, Steps p.tables e below (T14.setTop (mkF m 14 #[.val (.ref a1), .val v2, .val v3, .val v4, .val v5] [])) t → Steps p.tables e below (s₁.setTop (entryFrame m #[(.ref a1), v2, v3, v4, v5] 5)) t := fun t kt => K13 t (st14 t kt)
  have K22 : ∀ t, Steps p.tables e below (T14.setTop (mkF m 16 #[.val (.ref a1), .val v2, .val v3, .val v4, .val v5] [v4, (.ref a1)])) t → Steps p.tables e below (s₁.setTop (entryFrame m #[(.ref a1), v2, v3, v4, v5] 5)) t := by
    intro t kt
    refine K21 t ?_
    show Steps p.tables e below (T14.setTop (mkF m 14 #[.val (.ref a1), .val v2, .val v3, .val v4, .val v5] [])) _
    refine XS.aloadN X14.here hx rfl (hb hby d9_14) rfl rfl ?_
    show Steps p.tables e below (T14.setTop (mkF m 15 #[.val (.ref a1), .val v2, .val v3, .val v4, .val v5] [(.ref a1)])) _
    refine XS.aloadN X14.here hx rfl (hb hby d9_15) rfl r4 ?_
    exact kt
  obtain ⟨T23, h23, X23, e23, W23, st23⟩ := putF X14 hx hZ hown (host := "") (Or.inl (hw _ (List.mem_of_getElem? (i := 51) rfl))) Via.refl e14 f19 f17 (Or.inr ⟨(hw _ (List.mem_of_getElem? (i := 52) rfl)), rfl, hnm⟩) (hw _ (List.mem_of_getElem? (i := 41) rfl)) (ty := (.object "com/example/ageline/ageline/policy/RetentionAction")) (by decide) (own_narR rfl r4) (own_fitsR rfl r4) (g := (mkF m 16 #[.val (.ref a1), .val v2, .val v3, .val v4, .val v5] [v4, (.ref a1)])) rfl rfl (hb hby d9_16)
  have f24 := Nat.le_trans f15 (Nat.le_of_eq W23.size.symm)
  have f25 := f16.wr W23 (Or.inl (List.mem_of_getElem? (i := 0) rfl))
  have f26 := f17.wr W23
  have f27 := f18.other W23 (Or.inr (slot_ne (Or.inr (hw _ (List.mem_of_getElem? (i := 48) rfl))) (Or.inr (hw _ (List.mem_of_getElem? (i := 52) rfl))) (by decide) (t := (.object "java/lang/String")) (t' := (.object "com/example/ageline/ageline/policy/RetentionAction")) (by decide) (by decide)))
  have f28 := F14.other W23 (Or.inr (slot_ne (Or.inr (hw _ (List.mem_of_getElem? (i := 50) rfl))) (Or.inr (hw _ (List.mem_of_getElem? (i := 52) rfl))) (by decide) (t := (.object "com/example/ageline/ageline/Age")) (t' := (.object "com/example/ageline/ageline/policy/RetentionAction")) (by decide) (by decide)))
  have f29 := f20.other W23 (Or.inr (slot_ne (Or.inr (hw _ (List.mem_of_getElem? (i := 54) rfl))) (Or.inr (hw _ (List.mem_of_getElem? (i := 52) rfl))) (by decide) (t := (.object "java/lang/String")) (t' := (.object "com/example/ageline/ageline/policy/RetentionAction")) (by decide) (by decide)))
  have F23 := f19.same W23
  have N23 := Fr.snoc X23 N14 g1
  have K30 : ∀ t, Steps p.tables e below (T23.setTop (mkF m 19 #[.val (.ref a1), .val v2, .val v3, .val v4, .val v5] [])) t → Steps p.tables e below (s₁.setTop (entryFrame m #[(.ref a1), v2, v3, v4, v5] 5)) t := fun t kt => K22 t (st23 t kt)
  have K31 : ∀ t, Steps p.tables e below (T23.setTop (mkF m 22 #[.val (.ref a1), .val v2, .val v3, .val v4, .val v5] [v5, (.ref a1)])) t → Steps p.tables e below (s₁.setTop (entryFrame m #[(.ref a1), v2, v3, v4, v5] 5)) t := by
    intro t kt
    refine K30 t ?_
    show Steps p.tables e below (T23.setTop (mkF m 19 #[.val (.ref a1), .val v2, .val v3, .val v4, .val v5] [])) _
    refine XS.aloadN X23.here hx rfl (hb hby d9_19) rfl rfl ?_
    show Steps p.tables e below (T23.setTop (mkF m 20 #[.val (.ref a1), .val v2, .val v3, .val v4, .val v5] [(.ref a1)])) _
    refine XS.aload X23.here hx rfl (hb hby d9_20) rfl r5 ?_
    exact kt
  obtain ⟨T32, h32, X32, e32, W32, st32⟩ := putF X23 hx hZ hown (host := "") (Or.inl (hw _ (List.mem_of_getElem? (i := 53) rfl))) Via.refl e23 f29 f26 (Or.inr ⟨(hw _ (List.mem_of_getElem? (i := 54) rfl)), rfl, hnm⟩) (hw _ (List.mem_of_getElem? (i := 41) rfl)) (ty := (.object "java/lang/String")) (by decide) (own_narR rfl r5) (own_fitsR rfl r5) (g := (mkF m 22 #[.val (.ref a1), .val v2, .val v3, .val v4, .val v5] [v5, (.ref a1)])) rfl rfl (hb hby d9_22)
  have f33 := Nat.le_trans f24 (Nat.le_of_eq W32.size.symm)
  have f34 := f25.wr W32 (Or.inl (List.mem_of_getElem? (i := 0) rfl))
  have f35 := f26.wr W32
  have f36 := f27.other W32 (Or.inr (slot_ne (Or.inr (hw _ (List.mem_of_getElem? (i := 48) rfl))) (Or.inr (hw _ (List.mem_of_getElem? (i := 54) rfl))) (by decide) (t := (.object "java/lang/String")) (t' := (.object "java/lang/String")) (by decide) (by decide)))
  have f37 := f28.other W32 (Or.inr (slot_ne (Or.inr (hw _ (List.mem_of_getElem? (i := 50) rfl))) (Or.inr (hw _ (List.mem_of_getElem? (i := 54) rfl))) (by decide) (t := (.object "com/example/ageline/ageline/Age")) (t' := (.object "java/lang/String")) (by decide) (by decide)))
  have f38 := F23.other W32 (Or.inr (slot_ne (Or.inr (hw _ (List.mem_of_getElem? (i := 52) rfl))) (Or.inr (hw _ (List.mem_of_getElem? (i := 54) rfl))) (by decide) (t := (.object "com/example/ageline/ageline/policy/RetentionAction")) (t' := (.object "java/lang/String")) (by decide) (by decide)))
  have F32 := f29.same W32
  have N32 := Fr.snoc X32 N23 g1
  have K39 : ∀ t, Steps p.tables e below (T32.setTop (mkF m 25 #[.val (.ref a1), .val v2, .val v3, .val v4, .val v5] [])) t → Steps p.tables e below (s₁.setTop (entryFrame m #[(.ref a1), v2, v3, v4, v5] 5)) t := fun t kt => K31 t (st32 t kt)
  obtain ⟨fs, hr, hrun, hended, hW, hsame⟩ := X32.leave (v := none) (fun _ => rfl)
  refine ⟨_, _, K39 _ ?_, hrun, hended, _, _, rfl, ?_, ⟨_, rfl⟩, hW, hsame.mono (by decide) (by decide)⟩
  · exact X32.returnOut hx Bd.returns (hb hby d9_25) hr
  · show Qrm9 Z a1 v5 h0 n0 _ T32.heap _
    rw [e32]
    exact ⟨rfl, N32, f34, F32⟩
theorem ef_rm10 (m : MethodId) (x0 : Addr) : entryFrame m #[(.ref x0)] 1 = mkF m 0 #[.val (.ref x0)] [] := by first | (simp [entryFrame, mkF, argsToLocals, Value.category]; done) | rfl
def Qrm10 (v5 : Value) (h0 : Heap) (n0 : Nat) (v : Option Value) (h : Heap) (L : List Loc) : Prop := ∃ r : Int32, v = some (.int r) ∧ (r = 1 ∧ v5 = .null ∨ r = 0 ∧ ¬ v5 = .null) ∧ Fr n0 L ∧ h = h0
set_option maxRecDepth 65536 in
set_option maxHeartbeats 40000000 in
theorem rm10 (l : Launch) (Z : State) (a0 : Array Value) (hw : ∀ d ∈ tables_1, d.before a0 Z = true) (ws : List Jvm.Cond) (a1 : Addr) (v5 : Value) (h0 : Heap) (n0 : Nat) (Z0 : n0 ≤ h0.size) (r5 : v5.isRef = true) (F4 : Fld Z h0 a1 "com/example/ageline/ageline/policy/RetentionTag" "folder" "Ljava/lang/String;" v5) :
    MetFree l (⟨"com/example/ageline/ageline/policy/RetentionTag", "isDefault", "()Z"⟩ : MethodName) (head1 (Jvm.Cond.code (⟨"com/example/ageline/ageline/policy/RetentionTag", "isDefault", "()Z"⟩ : MethodName) prog_46_method_6_code 1 (some .boolean) :: ws) ({ frames := 0, cells := 0, slots := 0, locals := 0 } : Room)) (fun a U => a = #[(.ref a1)] ∧ Z.Warmed39 U.vm ∧ U.heap = h0) (fun _ _ _ _ _ => True) (fun _ U o U' => ∃ v L, o = .returned v ∧ Qrm10 v5 h0 n0 v U'.heap L ∧ FrameEnd U o U' L ({ frames := 0, cells := 0, slots := 0, locals := 0 } : Room).cells ({ frames := 0, cells := 0, slots := 0, locals := 0 } : Room).slots) := by
  refine MetFree.of_bodySF (plainFor_of_name pn_1) hisR ?_
  intro p e s m args below meth c s₁ Bd hml0 hP hK
  obtain ⟨rfl, hZ, hh⟩ := hP
  have hx := Bd.exec
  have hby := Bd.bytes
  have hml : c.maxLocals = 1 := hml0
  have hown : s.vm.findClass "com/example/ageline/ageline/policy/RetentionTag" = some m.cls := findClass_of_methodNamed Bd.named
  have hnm := (name_of_methodNamed Bd.named Bd.method).1
  have X0 : Stand p l e ({ frames := 0, cells := 0, slots := 0, locals := 0 } : Room) s m #[(.ref a1)] below meth c s₁ [] 0 0 := Stand.of_body Bd
  have e0 : s₁.heap = h0 := by rw [← hh, Bd.state]; rfl
  have N0 := Fr.nil n0
  have K0 : ∀ t, Steps p.tables e below (s₁.setTop (mkF m 0 #[.val (.ref a1)] [])) t → Steps p.tables e below (s₁.setTop (entryFrame m #[(.ref a1)] 1)) t := fun t k => castTop (ef_rm10 m a1) k
  have KK0 : Keep h0 h0 [] := Keep.refl _ _
  
  have K1 : ∀ t, Steps p.tables e below (s₁.setTop (mkF m 1 #[.val (.ref a1)] [(.ref a1)])) t → Steps p.tables e below (s₁.setTop (entryFrame m #[(.ref a1)] 1)) t := by
    intro t kt
    refine K0 t ?_
    show Steps p.tables e below (s₁.setTop (mkF m 0 #[.val (.ref a1)] [])) _
    refine XS.aloadN X0.here hx rfl (hb hby d10_0) rfl rfl ?_
    exact kt
  obtain ⟨T2, X2, e2, st2⟩ := getF X0 hx hZ hown (host := "") (Or.inl (hw _ (List.mem_of_getElem? (i := 53) rfl))) Via.refl e0 F4 (g := (mkF m 1 #[.val (.ref a1)] [(.ref a1)])) rfl rfl (hb hby d10_1)
  have K3 : ∀ t, Steps p.tables e below (T2.setTop (mkF m 4 #[.val (.ref a1)] [v5])) t → Steps p.tables e below (s₁.setTop (entryFrame m #[(.ref a1)] 1)) t := fun t kt => K1 t (st2 t kt)
  by_cases hc : v5 = .null
  · have K4 : ∀ t, Steps p.tables e below (T2.setTop (mkF m 12 #[.val (.ref a1)] [(.int (1 : Int32))])) t → Steps p.tables e below (s₁.setTop (entryFrame m #[(.ref a1)] 1)) t := by
      intro t kt
      refine K3 t ?_
      show Steps p.tables e below (T2.setTop (mkF m 4 #[.val (.ref a1)] [v5])) _
      refine Jvm.Free.XT.nonnullNo X2.here hx rfl (hb hby d10_4) rfl hc ?_
      show Steps p.tables e below (T2.setTop (mkF m 7 #[.val (.ref a1)] [])) _
      refine XS.iconst X2.here hx rfl (hb hby d10_7) ?_
      show Steps p.tables e below (T2.setTop (mkF m 8 #[.val (.ref a1)] [(.int (1 : Int32))])) _
      refine XS.goto X2.here hx rfl (pc0 := 8) (pc' := 12) rfl (hb hby d10_8) (by decide) (by decide) ?_
      exact kt
    obtain ⟨fs, hr, hrun, hended, hW, hsame⟩ := X2.leave (v := some (.int (1 : Int32))) (fun h => by rw [Bd.returns] at h; cases h)
    refine ⟨_, _, K4 _ ?_, hrun, hended, _, _, rfl, ?_, ⟨_, rfl⟩, hW, hsame.mono (by decide) (by decide)⟩
    · exact retN X2 hx (t := .boolean) Bd.returns (by simp) (hb hby d10_12) hr
    · show Qrm10 v5 h0 n0 _ T2.heap _
      rw [e2]
      exact ⟨_, rfl, Or.inl ⟨rfl, hc⟩, N0, rfl⟩
  · have K5 : ∀ t, Steps p.tables e below (T2.setTop (mkF m 12 #[.val (.ref a1)] [(.int (0 : Int32))])) t → Steps p.tables e below (s₁.setTop (entryFrame m #[(.ref a1)] 1)) t := by
      intro t kt
      refine K3 t ?_
      show Steps p.tables e below (T2.setTop (mkF m 4 #[.val (.ref a1)] [v5])) _
      refine Jvm.Free.XT.nonnullYes X2.here hx rfl (pc0 := 4) (pc' := 11) rfl (hb hby d10_4) rfl r5 hc (by decide) (by decide) ?_
      show Steps p.tables e below (T2.setTop (mkF m 11 #[.val (.ref a1)] [])) _
      refine XS.iconst X2.here hx rfl (hb hby d10_11) ?_
      exact kt
    obtain ⟨fs, hr, hrun, hended, hW, hsame⟩ := X2.leave (v := some (.int (0 : Int32))) (fun h => by rw [Bd.returns] at h; cases h)
    refine ⟨_, _, K5 _ ?_, hrun, hended, _, _, rfl, ?_, ⟨_, rfl⟩, hW, hsame.mono (by decide) (by decide)⟩
    · exact retN X2 hx (t := .boolean) Bd.returns (by simp) (hb hby d10_12) hr
    · show Qrm10 v5 h0 n0 _ T2.heap _
      rw [e2]
      exact ⟨_, rfl, Or.inr ⟨rfl, hc⟩, N0, rfl⟩
theorem ef_rm11 (m : MethodId) (x0 : Int32) (x1 : Int32) : entryFrame m #[(.int x0), (.int x1)] 2 = mkF m 0 #[.val (.int x0), .val (.int x1)] [] := by first | (simp [entryFrame, mkF, argsToLocals, Value.category]; done) | rfl
def Qrm11 (p1 p2 : Int32) (h0 : Heap) (n0 : Nat) (v : Option Value) (h : Heap) (L : List Loc) : Prop := ∃ r : Int32, v = some (.int r) ∧ ¬ r < p1 ∧ Fr n0 L ∧ h = h0
set_option maxRecDepth 65536 in
set_option maxHeartbeats 40000000 in
theorem rm11 (l : Launch) (Z : State) (a0 : Array Value) (hw : ∀ d ∈ tables_1, d.before a0 Z = true) (ws : List Jvm.Cond) (p1 p2 : Int32) (h0 : Heap) (n0 : Nat) (Z0 : n0 ≤ h0.size)  :
    MetFree l (⟨"java/lang/Math", "max", "(II)I"⟩ : MethodName) (head1 (Jvm.Cond.code (⟨"java/lang/Math", "max", "(II)I"⟩ : MethodName) jdk_29_method_65_code 2 (some .int) :: ws) ({ frames := 0, cells := 0, slots := 0, locals := 0 } : Room)) (fun a U => a = #[(.int p1), (.int p2)] ∧ Z.Warmed39 U.vm ∧ U.heap = h0) (fun _ _ _ _ _ => True) (fun _ U o U' => ∃ v L, o = .returned v ∧ Qrm11 p1 p2 h0 n0 v U'.heap L ∧ FrameEnd U o U' L ({ frames := 0, cells := 0, slots := 0, locals := 0 } : Room).cells ({ frames := 0, cells := 0, slots := 0, locals := 0 } : Room).slots) := by
  refine MetFree.of_bodySF (Jvm.Free.JP.mathPlain rfl (by decide +kernel)) hisR ?_
  intro p e s m args below meth c s₁ Bd hml0 hP hK
  obtain ⟨rfl, hZ, hh⟩ := hP
  have hx := Bd.exec
  have hby := Bd.bytes
  have hml : c.maxLocals = 2 := hml0
  have hown : s.vm.findClass "java/lang/Math" = some m.cls := findClass_of_methodNamed Bd.named
  have hnm := (name_of_methodNamed Bd.named Bd.method).1
  have X0 : Stand p l e ({ frames := 0, cells := 0, slots := 0, locals := 0 } : Room) s m #[(.int p1), (.int p2)] below meth c s₁ [] 0 0 := Stand.of_body Bd
  have e0 : s₁.heap = h0 := by rw [← hh, Bd.state]; rfl
  have N0 := Fr.nil n0
  have K0 : ∀ t, Steps p.tables e below (s₁.setTop (mkF m 0 #[.val (.int p1), .val (.int p2)] [])) t → Steps p.tables e below (s₁.setTop (entryFrame m #[(.int p1), (.int p2)] 2)) t := fun t k => castTop (ef_rm11 m p1 p2) k
  have KK0 : Keep h0 h0 [] := Keep.refl _ _
  
  have K1 : ∀ t, Steps p.tables e below (s₁.setTop (mkF m 2 #[.val (.int p1), .val (.int p2)] [(.int p2), (.int p1)])) t → Steps p.tables e below (s₁.setTop (entryFrame m #[(.int p1), (.int p2)] 2)) t := by
    intro t kt
    refine K0 t ?_
    show Steps p.tables e below (s₁.setTop (mkF m 0 #[.val (.int p1), .val (.int p2)] [])) _
    refine XS.iloadN X0.here hx rfl (hb hby d11_0) rfl ?_
    show Steps p.tables e below (s₁.setTop (mkF m 1 #[.val (.int p1), .val (.int p2)] [(.int p1)])) _
    refine XS.iloadN X0.here hx rfl (hb hby d11_1) rfl ?_
    exact kt
  by_cases hc : p1 < p2
  · have K2 : ∀ t, Steps p.tables e below (s₁.setTop (mkF m 10 #[.val (.int p1), .val (.int p2)] [(.int p2)])) t → Steps p.tables e below (s₁.setTop (entryFrame m #[(.int p1), (.int p2)] 2)) t := by
      intro t kt
      refine K1 t ?_
      show Steps p.tables e below (s₁.setTop (mkF m 2 #[.val (.int p1), .val (.int p2)] [(.int p2), (.int p1)])) _
      refine XS.icmpYes X0.here hx rfl (pc0 := 2) (pc' := 9) rfl (hb hby d11_2) rfl (tlt (hc : p1 < p2)).1 (by decide) (by decide) ?_
      show Steps p.tables e below (s₁.setTop (mkF m 9 #[.val (.int p1), .val (.int p2)] [])) _
      refine XS.iloadN X0.here hx rfl (hb hby d11_9) rfl ?_
      exact kt
    obtain ⟨fs, hr, hrun, hended, hW, hsame⟩ := X0.leave (v := some (.int p2)) (fun h => by rw [Bd.returns] at h; cases h)
    refine ⟨_, _, K2 _ ?_, hrun, hended, _, _, rfl, ?_, ⟨_, rfl⟩, hW, hsame.mono (by decide) (by decide)⟩
    · exact retI X0 hx Bd.returns (hb hby d11_10) hr
    · show Qrm11 p1 p2 h0 n0 _ s₁.heap _
      rw [e0]
      exact ⟨_, rfl, own_lt hc, N0, rfl⟩
  · have K3 : ∀ t, Steps p.tables e below (s₁.setTop (mkF m 10 #[.val (.int p1), .val (.int p2)] [(.int p1)])) t → Steps p.tables e below (s₁.setTop (entryFrame m #[(.int p1), (.int p2)] 2)) t := by
      intro t kt
      refine K1 t ?_
      show Steps p.tables e below (s₁.setTop (mkF m 2 #[.val (.int p1), .val (.int p2)] [(.int p2), (.int p1)])) _
      refine XS.icmpNo X0.here hx rfl (hb hby d11_2) rfl (flt (hc : ¬ (p1 < p2))).1 ?_
      show Steps p.tables e below (s₁.setTop (mkF m 5 #[.val (.int p1), .val (.int p2)] [])) _
      refine XS.iloadN X0.here hx rfl (hb hby d11_5) rfl ?_
      show Steps p.tables e below (s₁.setTop (mkF m 6 #[.val (.int p1), .val (.int p2)] [(.int p1)])) _
      refine XS.goto X0.here hx rfl (pc0 := 6) (pc' := 10) rfl (hb hby d11_6) (by decide) (by decide) ?_
      exact kt
    obtain ⟨fs, hr, hrun, hended, hW, hsame⟩ := X0.leave (v := some (.int p1)) (fun h => by rw [Bd.returns] at h; cases h)
    refine ⟨_, _, K3 _ ?_, hrun, hended, _, _, rfl, ?_, ⟨_, rfl⟩, hW, hsame.mono (by decide) (by decide)⟩
    · exact retI X0 hx Bd.returns (hb hby d11_10) hr
    · show Qrm11 p1 p2 h0 n0 _ s₁.heap _
      rw [e0]
      exact ⟨_, rfl, own_irr p1, N0, rfl⟩
theorem ef_rm12 (m : MethodId) (x0 : Addr) (x1 : Int32) : entryFrame m #[(.ref x0), (.int x1)] 2 = mkF m 0 #[.val (.ref x0), .val (.int x1)] [] := by first | (simp [entryFrame, mkF, argsToLocals, Value.category]; done) | rfl
def Qrm12 (a1 : Addr) (h0 : Heap) (n0 : Nat) (v : Option Value) (h : Heap) (L : List Loc) : Prop := v = none ∧ Fr n0 L ∧ Keep h0 h [a1]
set_option maxRecDepth 65536 in
set_option maxHeartbeats 40000000 in
theorem rm12 (l : Launch) (Z : State) (a0 : Array Value) (hw : ∀ d ∈ tables_1, d.before a0 Z = true) (ws : List Jvm.Cond) (a1 : Addr) (p2 : Int32) (h0 : Heap) (n0 : Nat) (Z0 : n0 ≤ h0.size) (h2 : ¬ p2 < (1 : Int32)) (E1 : Exa Z h0 a1 "com/example/ageline/ageline/Age") (F1 : Fld Z h0 a1 "com/example/ageline/ageline/Age" "days" "I" (.int (0 : Int32))) (g1 : n0 ≤ a1) :
    MetFree l (⟨"com/example/ageline/ageline/Age", "<init>", "(I)V"⟩ : MethodName) (head1 (Jvm.Cond.code (⟨"com/example/ageline/ageline/Age", "<init>", "(I)V"⟩ : MethodName) prog_1_method_1_code 2 none :: ws) ({ frames := 1, cells := 0, slots := 0, locals := 12 } : Room)) (fun a U => a = #[(.ref a1), (.int p2)] ∧ Z.Warmed39 U.vm ∧ U.heap = h0) (fun _ _ _ _ _ => True) (fun _ U o U' => ∃ v L, o = .returned v ∧ Qrm12 a1 h0 n0 v U'.heap L ∧ FrameEnd U o U' L ({ frames := 1, cells := 0, slots := 0, locals := 12 } : Room).cells ({ frames := 1, cells := 0, slots := 0, locals := 12 } : Room).slots) := by
  refine MetFree.of_bodySF (plainFor_of_name pn_2) hisR ?_
  intro p e s m args below meth c s₁ Bd hml0 hP hK
  obtain ⟨rfl, hZ, hh⟩ := hP
  have hx := Bd.exec
  have hby := Bd.bytes
  have hml : c.maxLocals = 2 := hml0
  have hown : s.vm.findClass "com/example/ageline/ageline/Age" = some m.cls := findClass_of_methodNamed Bd.named
  have hnm := (name_of_methodNamed Bd.named Bd.method).1
  have X0 : Stand p l e ({ frames := 1, cells := 0, slots := 0, locals := 12 } : Room) s m #[(.ref a1), (.int p2)] below meth c s₁ [] 0 0 := Stand.of_body Bd
  have e0 : s₁.heap = h0 := by rw [← hh, Bd.state]; rfl
  have N0 := Fr.nil n0
  have K0 : ∀ t, Steps p.tables e below (s₁.setTop (mkF m 0 #[.val (.ref a1), .val (.int p2)] [])) t → Steps p.tables e below (s₁.setTop (entryFrame m #[(.ref a1), (.int p2)] 2)) t := fun t k => castTop (ef_rm12 m a1 p2) k
  have KK0 : Keep h0 h0 [a1] := Keep.refl _ _
  
  have K1 : ∀ t, Steps p.tables e below (s₁.setTop (mkF m 1 #[.val (.ref a1), .val (.int p2)] [(.ref a1)])) t → Steps p.tables e below (s₁.setTop (entryFrame m #[(.ref a1), (.int p2)] 2)) t := by
    intro t kt
    refine K0 t ?_
    show Steps p.tables e below (s₁.setTop (mkF m 0 #[.val (.ref a1), .val (.int p2)] [])) _
    refine XS.aloadN X0.here hx rfl (hb hby d12_0) rfl rfl ?_
    exact kt
  obtain ⟨T2, X2, e2, st2⟩ := initO X0 hx hZ hown (hw _ (List.mem_of_getElem? (i := 70) rfl)) (hw _ (List.mem_of_getElem? (i := 16) rfl)) (hw _ (List.mem_of_getElem? (i := 17) rfl)) e0 (g := (mkF m 1 #[.val (.ref a1), .val (.int p2)] [(.ref a1)])) rfl (by rw [hml]; rfl) rfl (hb hby d12_1) (by decide) (W := 0) (by show 2 * 0 + _ ≤ _; exact Nat.le_of_eq rfl) (by decide)
  have K3 : ∀ t, Steps p.tables e below (T2.setTop (mkF m 4 #[.val (.ref a1), .val (.int p2)] [])) t → Steps p.tables e below (s₁.setTop (entryFrame m #[(.ref a1), (.int p2)] 2)) t := fun t kt => K1 t (st2 t kt)
  have K4 : ∀ t, Steps p.tables e below (T2.setTop (mkF m 25 #[.val (.ref a1), .val (.int p2)] [(.int p2), (.ref a1)])) t → Steps p.tables e below (s₁.setTop (entryFrame m #[(.ref a1), (.int p2)] 2)) t := by
    intro t kt
    refine K3 t ?_
    show Steps p.tables e below (T2.setTop (mkF m 4 #[.val (.ref a1), .val (.int p2)] [])) _
    refine XS.iloadN X2.here hx rfl (hb hby d12_4) rfl ?_
    show Steps p.tables e below (T2.setTop (mkF m 5 #[.val (.ref a1), .val (.int p2)] [(.int p2)])) _
    refine XS.iconst X2.here hx rfl (hb hby d12_5) ?_
    show Steps p.tables e below (T2.setTop (mkF m 6 #[.val (.ref a1), .val (.int p2)] [(.int (1 : Int32)), (.int p2)])) _
    refine XS.icmpYes X2.here hx rfl (pc0 := 6) (pc' := 23) rfl (hb hby d12_6) rfl (flt (h2 : ¬ (p2 < (1 : Int32)))).2.1 (by decide) (by decide) ?_
    show Steps p.tables e below (T2.setTop (mkF m 23 #[.val (.ref a1), .val (.int p2)] [])) _
    refine XS.aloadN X2.here hx rfl (hb hby d12_23) rfl rfl ?_
    show Steps p.tables e below (T2.setTop (mkF m 24 #[.val (.ref a1), .val (.int p2)] [(.ref a1)])) _
    refine XS.iloadN X2.here hx rfl (hb hby d12_24) rfl ?_
    exact kt
  obtain ⟨T5, h5, X5, e5, W5, st5⟩ := putF X2 hx hZ hown (host := "") (Or.inl (hw _ (List.mem_of_getElem? (i := 71) rfl))) Via.refl e2 F1 E1 (Or.inr ⟨(hw _ (List.mem_of_getElem? (i := 72) rfl)), rfl, hnm⟩) (hw _ (List.mem_of_getElem? (i := 61) rfl)) (ty := .int) (by decide) rfl rfl (g := (mkF m 25 #[.val (.ref a1), .val (.int p2)] [(.int p2), (.ref a1)])) rfl rfl (hb hby d12_25)
  have f6 := Nat.le_trans Z0 (Nat.le_of_eq W5.size.symm)
  have f7 := KK0.wr W5 (Or.inl (List.mem_of_getElem? (i := 0) rfl))
  have f8 := E1.wr W5
  have F5 := F1.same W5
  have N5 := Fr.snoc X5 N0 g1
  have K9 : ∀ t, Steps p.tables e below (T5.setTop (mkF m 28 #[.val (.ref a1), .val (.int p2)] [])) t → Steps p.tables e below (s₁.setTop (entryFrame m #[(.ref a1), (.int p2)] 2)) t := fun t kt => K4 t (st5 t kt)
  obtain ⟨fs, hr, hrun, hended, hW, hsame⟩ := X5.leave (v := none) (fun _ => rfl)
  refine ⟨_, _, K9 _ ?_, hrun, hended, _, _, rfl, ?_, ⟨_, rfl⟩, hW, hsame.mono (by decide) (by decide)⟩
  · exact X5.returnOut hx Bd.returns (hb hby d12_28) hr
  · show Qrm12 a1 h0 n0 _ T5.heap _
    rw [e5]
    exact ⟨rfl, N5, f7⟩
theorem ef_rm0 (m : MethodId) (x0 : Int32) (x1 : Int32) (x2 : Int32) (x3 : Int32) (x4 : Int32) (x5 : Int32) : entryFrame m #[(.int x0), (.int x1), (.int x2), (.int x3), (.int x4), (.int x5)] maxLocals = mkF m 0 #[.val (.int x0), .val (.int x1), .val (.int x2), .val (.int x3), .val (.int x4), .val (.int x5), .unset, .unset, .unset, .unset, .unset, .unset, .unset, .unset] [] := by first | (simp [entryFrame, mkF, argsToLocals, Value.category, maxLocals]; done) | rfl
def Qrm0  (h0 : Heap) (n0 : Nat) (v : Option Value) (h : Heap) (L : List Loc) : Prop := v = some (.int 1) ∧ Fr n0 L
set_option maxRecDepth 65536 in
set_option maxHeartbeats 40000000 in
theorem rm0 (l : Launch) (Z : State) (a0 : Array Value) (hw : ∀ d ∈ tables_1, d.before a0 Z = true) (ws : List Jvm.Cond) (p0 p1 p2 p3 p4 p5 G1 : Int32) (a1 a2 a3 a4 : Addr) (h0 : Heap) (n0 : Nat) (Z0 : n0 ≤ h0.size) (O2 : Sta Z Z.heap "java/lang/String" "COMPACT_STRINGS" "Z" (.int G1)) (P5 : ¬ (G1 = (0 : Int32))) (X00 : Old Z n0 h0) (S1 : Sta Z Z.heap "com/example/ageline/ageline/policy/RetentionAction" "DELETE_ALLOW_RECOVERY" "Lcom/example/ageline/ageline/policy/RetentionAction;" (.ref a1)) (S2 : Sta Z Z.heap "com/example/ageline/ageline/policy/RetentionAction" "DELETE_PERMANENTLY" "Lcom/example/ageline/ageline/policy/RetentionAction;" (.ref a2)) (S3 : Sta Z Z.heap "com/example/ageline/ageline/policy/RetentionAction" "MOVE_TO_ARCHIVE" "Lcom/example/ageline/ageline/policy/RetentionAction;" (.ref a3)) (S4 : Sta Z Z.heap "com/example/ageline/ageline/policy/RetentionAction" "PURGE" "Lcom/example/ageline/ageline/policy/RetentionAction;" (.ref a4)) :
    MetFree l x (head1 (Jvm.Cond.code x code maxLocals ret :: ws) room_1) (fun a U => a = #[(.int p0), (.int p1), (.int p2), (.int p3), (.int p4), (.int p5)] ∧ Z.Warmed39 U.vm ∧ U.heap = h0) (fun _ _ _ _ _ => True) (fun _ U o U' => ∃ v L, o = .returned v ∧ Qrm0  h0 n0 v U'.heap L ∧ ReturnedEndW U o U' L room_1.cells room_1.slots) := by
  refine MetFree.of_bodySF (plainFor_of_name pn_0) hisR ?_
  intro p e s m args below meth c s₁ Bd hml0 hP hK
  obtain ⟨rfl, hZ, hh⟩ := hP
  have hx := Bd.exec
  have hby := Bd.bytes
  have hml : c.maxLocals = 14 := hml0
  have hown : s.vm.findClass "com/example/ageline/ageline/policy/RetentionTagIsDefaultPinLaw" = some m.cls := findClass_of_methodNamed Bd.named
  have hnm := (name_of_methodNamed Bd.named Bd.method).1
  have X0 : Stand p l e room_1 s m #[(.int p0), (.int p1), (.int p2), (.int p3), (.int p4), (.int p5)] below meth c s₁ [] 0 0 := Stand.of_body Bd
  have e0 : s₁.heap = h0 := by rw [← hh, Bd.state]; rfl
  have N0 := Fr.nil n0
  have K0 : ∀ t, Steps p.tables e below (s₁.setTop (mkF m 0 #[.val (.int p0), .val (.int p1), .val (.int p2), .val (.int p3), .val (.int p4), .val (.int p5), .unset, .unset, .unset, .unset, .unset, .unset, .unset, .unset] [])) t → Steps p.tables e below (s₁.setTop (entryFrame m #[(.int p0), (.int p1), (.int p2), (.int p3), (.int p4), (.int p5)] maxLocals)) t := fun t k => castTop (ef_rm0 m p0 p1 p2 p3 p4 p5) k
  have hS0 : s.Since s.vm h0.size := (State.WarmedH.refl s).since _
  have hk0 : h0.size ≤ h0.size := Nat.le_refl _
  have KK0 : Keep h0 h0 [] := Keep.refl _ _
  have hws : ∀ d ∈ StrChars.Road.words, d.before a0 Z = true := fun d hd => hw d ((by decide +kernel : ∀ d ∈ StrChars.Road.words, d ∈ tables_1) d hd)
  have hsa : ∀ d ∈ Bundle.stringAtoms, d.before a0 Z = true := fun d hd => hw d ((by decide +kernel : ∀ d ∈ Bundle.stringAtoms, d ∈ tables_1) d hd)
  have K1 : ∀ t, Steps p.tables e below (s₁.setTop (mkF m 6 #[.val (.int p0), .val (.int p1), .val (.int p2), .val (.int p3), .val (.int p4), .val (.int p5), .unset, .unset, .unset, .unset, .unset, .unset, .unset, .unset] [(.int ((p1.toUInt32 >>> ((8 : Int32) &&& 31).toUInt32).toInt32)), (.int p1), (.int p0)])) t → Steps p.tables e below (s₁.setTop (entryFrame m #[(.int p0), (.int p1), (.int p2), (.int p3), (.int p4), (.int p5)] maxLocals)) t := by
    intro t kt
    refine K0 t ?_
    show Steps p.tables e below (s₁.setTop (mkF m 0 #[.val (.int p0), .val (.int p1), .val (.int p2), .val (.int p3), .val (.int p4), .val (.int p5), .unset, .unset, .unset, .unset, .unset, .unset, .unset, .unset] [])) _
    refine XS.iloadN X0.here hx rfl (hb hby at_0) rfl ?_
    show Steps p.tables e below (s₁.setTop (mkF m 1 #[.val (.int p0), .val (.int p1), .val (.int p2), .val (.int p3), .val (.int p4), .val (.int p5), .unset, .unset, .unset, .unset, .unset, .unset, .unset, .unset] [(.int p0)])) _
    refine XS.iloadN X0.here hx rfl (hb hby at_1) rfl ?_
    show Steps p.tables e below (s₁.setTop (mkF m 2 #[.val (.int p0), .val (.int p1), .val (.int p2), .val (.int p3), .val (.int p4), .val (.int p5), .unset, .unset, .unset, .unset, .unset, .unset, .unset, .unset] [(.int p1), (.int p0)])) _
    refine XS.iloadN X0.here hx rfl (hb hby at_2) rfl ?_
    show Steps p.tables e below (s₁.setTop (mkF m 3 #[.val (.int p0), .val (.int p1), .val (.int p2), .val (.int p3), .val (.int p4), .val (.int p5), .unset, .unset, .unset, .unset, .unset, .unset, .unset, .unset] [(.int p1), (.int p1), (.int p0)])) _
    refine XS.bipush X0.here hx rfl (hb hby at_3) ?_
    show Steps p.tables e below (s₁.setTop (mkF m 5 #[.val (.int p0), .val (.int p1), .val (.int p2), .val (.int p3), .val (.int p4), .val (.int p5), .unset, .unset, .unset, .unset, .unset, .unset, .unset, .unset] [(.int (8 : Int32)), (.int p1), (.int p1), (.int p0)])) _
    refine XS.iushr X0.here hx rfl (hb hby at_5) rfl ?_
    exact kt
  obtain ⟨_, _, ⟨T2, L2, k2, n2⟩, -, X2, sn2, gs2, ⟨Lc2, hQ2, l2, y2, z2⟩, st2⟩ := callSS X0 hx (y := (⟨"com/example/ageline/ageline/policy/RetentionTagIsDefaultPinLaw", "drawn", "(III)Ljava/lang/String;"⟩ : MethodName)) hown (mvT hZ (hw _ (List.mem_of_getElem? (i := 0) rfl))) (mvT hZ (hw _ (List.mem_of_getElem? (i := 1) rfl))) (mvT hZ (hw _ (List.mem_of_getElem? (i := 2) rfl))) (mvT hZ (hw _ (List.mem_of_getElem? (i := 3) rfl))) (by decide) (backOfS (W := 0) (rm1 l Z a0 hw [] p0 p1 ((p1.toUInt32 >>> ((8 : Int32) &&& 31).toUInt32).toInt32) G1 h0 n0 Z0 O2 P5 X00) hZ (hw _ (List.mem_of_getElem? (i := 3) rfl)) (hw _ (List.mem_of_getElem? (i := 2) rfl)) (by decide) (by decide)) (g := (mkF m 6 #[.val (.int p0), .val (.int p1), .val (.int p2), .val (.int p3), .val (.int p4), .val (.int p5), .unset, .unset, .unset, .unset, .unset, .unset, .unset, .unset] [(.int ((p1.toUInt32 >>> ((8 : Int32) &&& 31).toUInt32).toInt32)), (.int p1), (.int p0)])) rfl (by rw [hml]; rfl) (argsL := [(.int p0), (.int p1), (.int ((p1.toUInt32 >>> ((8 : Int32) &&& 31).toUInt32).toInt32))]) (rest := []) (lenOf pd_1 rfl) rfl (by show 2 * 0 + _ ≤ _; exact Nat.le_of_eq rfl) (hb hby at_6) (fun _ _ => ⟨rfl, e0, (by decide : 0 + 3 ≤ _), (by decide : 0 + 8 ≤ _)⟩)
  dsimp only [Pt.U, Pt.locs, Pt.cells, Pt.slots] at X2 l2 y2 z2 st2 hQ2 sn2 gs2
  subst l2 y2 z2
  obtain ⟨sf, rfl, rsf, zsf, Nq2, Kq2⟩ := hQ2
  have f3 := Nat.le_trans Z0 Kq2.1
  have f4 := KK0.trans Kq2 all0
  have f5 := X00.keep Kq2 all0
  obtain ⟨XX2, hS2, hZ2, hown2⟩ := rebS hS0 (by rw [e0]; exact hk0) X2 sn2 gs2 hZ hown
  have N2 := Fr.app N0 Nq2
  have K6 : ∀ t, Steps p.tables e below (T2.setTop (mkF m 9 #[.val (.int p0), .val (.int p1), .val (.int p2), .val (.int p3), .val (.int p4), .val (.int p5), .unset, .unset, .unset, .unset, .unset, .unset, .unset, .unset] [sf])) t → Steps p.tables e below (s₁.setTop (entryFrame m #[(.int p0), (.int p1), (.int p2), (.int p3), (.int p4), (.int p5)] maxLocals)) t := fun t kt => K1 t (st2.trans kt)
  have K7 : ∀ t, Steps p.tables e below (T2.setTop (mkF m 17 #[.val (.int p0), .val (.int p1), .val (.int p2), .val (.int p3), .val (.int p4), .val (.int p5), .val sf, .unset, .unset, .unset, .unset, .unset, .unset, .unset] [(.int ((p3.toUInt32 >>> ((8 : Int32) &&& 31).toUInt32).toInt32)), (.int p3), (.int p2)])) t → Steps p.tables e below (s₁.setTop (entryFrame m #[(.int p0), (.int p1), (.int p2), (.int p3), (.int p4), (.int p5)] maxLocals)) t := by
    intro t kt
    refine K6 t ?_
    show Steps p.tables e below (T2.setTop (mkF m 9 #[.val (.int p0), .val (.int p1), .val (.int p2), .val (.int p3), .val (.int p4), .val (.int p5), .unset, .unset, .unset, .unset, .unset, .unset, .unset, .unset] [sf])) _
    refine XS.astore XX2.here hx rfl (hb hby at_9) rfl rsf (l' := #[.val (.int p0), .val (.int p1), .val (.int p2), .val (.int p3), .val (.int p4), .val (.int p5), .val sf, .unset, .unset, .unset, .unset, .unset, .unset, .unset]) (XS.store1 rfl (by first | exact Or.inl rfl | exact Or.inr ⟨_, rfl, rfl⟩) (Jvm.Free.XT.cat1 rsf)) ?_
    show Steps p.tables e below (T2.setTop (mkF m 11 #[.val (.int p0), .val (.int p1), .val (.int p2), .val (.int p3), .val (.int p4), .val (.int p5), .val sf, .unset, .unset, .unset, .unset, .unset, .unset, .unset] [])) _
    refine XS.iloadN XX2.here hx rfl (hb hby at_11) rfl ?_
    show Steps p.tables e below (T2.setTop (mkF m 12 #[.val (.int p0), .val (.int p1), .val (.int p2), .val (.int p3), .val (.int p4), .val (.int p5), .val sf, .unset, .unset, .unset, .unset, .unset, .unset, .unset] [(.int p2)])) _
    refine XS.iloadN XX2.here hx rfl (hb hby at_12) rfl ?_
    show Steps p.tables e below (T2.setTop (mkF m 13 #[.val (.int p0), .val (.int p1), .val (.int p2), .val (.int p3), .val (.int p4), .val (.int p5), .val sf, .unset, .unset, .unset, .unset, .unset, .unset, .unset] [(.int p3), (.int p2)])) _
    refine XS.iloadN XX2.here hx rfl (hb hby at_13) rfl ?_
    show Steps p.tables e below (T2.setTop (mkF m 14 #[.val (.int p0), .val (.int p1), .val (.int p2), .val (.int p3), .val (.int p4), .val (.int p5), .val sf, .unset, .unset, .unset, .unset, .unset, .unset, .unset] [(.int p3), (.int p3), (.int p2)])) _
    refine XS.bipush XX2.here hx rfl (hb hby at_14) ?_
    show Steps p.tables e below (T2.setTop (mkF m 16 #[.val (.int p0), .val (.int p1), .val (.int p2), .val (.int p3), .val (.int p4), .val (.int p5), .val sf, .unset, .unset, .unset, .unset, .unset, .unset, .unset] [(.int (8 : Int32)), (.int p3), (.int p3), (.int p2)])) _
    refine XS.iushr XX2.here hx rfl (hb hby at_16) rfl ?_
    exact kt
  obtain ⟨_, _, ⟨T8, L8, k8, n8⟩, -, X8, sn8, gs8, ⟨Lc8, hQ8, l8, y8, z8⟩, st8⟩ := callSS XX2 hx (y := (⟨"com/example/ageline/ageline/policy/RetentionTagIsDefaultPinLaw", "drawn", "(III)Ljava/lang/String;"⟩ : MethodName)) hown2 (mvT hZ2 (hw _ (List.mem_of_getElem? (i := 0) rfl))) (mvT hZ2 (hw _ (List.mem_of_getElem? (i := 1) rfl))) (mvT hZ2 (hw _ (List.mem_of_getElem? (i := 2) rfl))) (mvT hZ2 (hw _ (List.mem_of_getElem? (i := 3) rfl))) (by decide) (backOfS (W := 0) (rm1 l Z a0 hw [] p2 p3 ((p3.toUInt32 >>> ((8 : Int32) &&& 31).toUInt32).toInt32) G1 T2.heap n0 f3 O2 P5 f5) hZ2 (hw _ (List.mem_of_getElem? (i := 3) rfl)) (hw _ (List.mem_of_getElem? (i := 2) rfl)) (by decide) (by decide)) (g := (mkF m 17 #[.val (.int p0), .val (.int p1), .val (.int p2), .val (.int p3), .val (.int p4), .val (.int p5), .val sf, .unset, .unset, .unset, .unset, .unset, .unset, .unset] [(.int ((p3.toUInt32 >>> ((8 : Int32) &&& 31).toUInt32).toInt32)), (.int p3), (.int p2)])) rfl (by rw [hml]; rfl) (argsL := [(.int p2), (.int p3), (.int ((p3.toUInt32 >>> ((8 : Int32) &&& 31).toUInt32).toInt32))]) (rest := []) (lenOf pd_1 rfl) rfl (by show 2 * 0 + _ ≤ _; exact Nat.le_of_eq rfl) (hb hby at_17) (fun _ _ => ⟨rfl, rfl, (by decide : 3 + 3 ≤ _), (by decide : 8 + 8 ≤ _)⟩)
  dsimp only [Pt.U, Pt.locs, Pt.cells, Pt.slots] at X8 l8 y8 z8 st8 hQ8 sn8 gs8
  subst l8 y8 z8
  obtain ⟨sn, rfl, rsn, zsn, Nq8, Kq8⟩ := hQ8
  have f9 := Nat.le_trans f3 Kq8.1
  have f10 := f4.trans Kq8 all0
  have f11 := f5.keep Kq8 all0
  obtain ⟨XX8, hS8, hZ8, hown8⟩ := rebS hS2 (Nat.le_refl T2.heap.size) X8 sn8 gs8 hZ2 hown2
  have N8 := Fr.app N2 Nq8
  have K12 : ∀ t, Steps p.tables e below (T8.setTop (mkF m 20 #[.val (.int p0), .val (.int p1), .val (.int p2), .val (.int p3), .val (.int p4), .val (.int p5), .val sf, .unset, .unset, .unset, .unset, .unset, .unset, .unset] [sn])) t → Steps p.tables e below (s₁.setTop (entryFrame m #[(.int p0), (.int p1), (.int p2), (.int p3), (.int p4), (.int p5)] maxLocals)) t := fun t kt => K7 t (st8.trans kt)
  have K13 : ∀ t, Steps p.tables e below (T8.setTop (mkF m 27 #[.val (.int p0), .val (.int p1), .val (.int p2), .val (.int p3), .val (.int p4), .val (.int p5), .val sf, .val sn, .unset, .unset, .unset, .unset, .unset, .unset] [(.int (((p2.toUInt32 >>> ((2 : Int32) &&& 31).toUInt32).toInt32) &&& (1 : Int32)))])) t → Steps p.tables e below (s₁.setTop (entryFrame m #[(.int p0), (.int p1), (.int p2), (.int p3), (.int p4), (.int p5)] maxLocals)) t := by
    intro t kt
    refine K12 t ?_
    show Steps p.tables e below (T8.setTop (mkF m 20 #[.val (.int p0), .val (.int p1), .val (.int p2), .val (.int p3), .val (.int p4), .val (.int p5), .val sf, .unset, .unset, .unset, .unset, .unset, .unset, .unset] [sn])) _
    refine XS.astore XX8.here hx rfl (hb hby at_20) rfl rsn (l' := #[.val (.int p0), .val (.int p1), .val (.int p2), .val (.int p3), .val (.int p4), .val (.int p5), .val sf, .val sn, .unset, .unset, .unset, .unset, .unset, .unset]) (XS.store1 rfl (by first | exact Or.inl rfl | exact Or.inr ⟨_, rfl, rfl⟩) (Jvm.Free.XT.cat1 rsn)) ?_
    show Steps p.tables e below (T8.setTop (mkF m 22 #[.val (.int p0), .val (.int p1), .val (.int p2), .val (.int p3), .val (.int p4), .val (.int p5), .val sf, .val sn, .unset, .unset, .unset, .unset, .unset, .unset] [])) _
    refine XS.iloadN XX8.here hx rfl (hb hby at_22) rfl ?_
    show Steps p.tables e below (T8.setTop (mkF m 23 #[.val (.int p0), .val (.int p1), .val (.int p2), .val (.int p3), .val (.int p4), .val (.int p5), .val sf, .val sn, .unset, .unset, .unset, .unset, .unset, .unset] [(.int p2)])) _
    refine XS.iconst XX8.here hx rfl (hb hby at_23) ?_
    show Steps p.tables e below (T8.setTop (mkF m 24 #[.val (.int p0), .val (.int p1), .val (.int p2), .val (.int p3), .val (.int p4), .val (.int p5), .val sf, .val sn, .unset, .unset, .unset, .unset, .unset, .unset] [(.int (2 : Int32)), (.int p2)])) _
    refine XS.iushr XX8.here hx rfl (hb hby at_24) rfl ?_
    show Steps p.tables e below (T8.setTop (mkF m 25 #[.val (.int p0), .val (.int p1), .val (.int p2), .val (.int p3), .val (.int p4), .val (.int p5), .val sf, .val sn, .unset, .unset, .unset, .unset, .unset, .unset] [(.int ((p2.toUInt32 >>> ((2 : Int32) &&& 31).toUInt32).toInt32))])) _
    refine XS.iconst XX8.here hx rfl (hb hby at_25) ?_
    show Steps p.tables e below (T8.setTop (mkF m 26 #[.val (.int p0), .val (.int p1), .val (.int p2), .val (.int p3), .val (.int p4), .val (.int p5), .val sf, .val sn, .unset, .unset, .unset, .unset, .unset, .unset] [(.int (1 : Int32)), (.int ((p2.toUInt32 >>> ((2 : Int32) &&& 31).toUInt32).toInt32))])) _
    refine XS.iand XX8.here hx rfl (hb hby at_26) rfl ?_
    exact kt
  obtain ⟨Tj14, lc14, hj14, vmj14, kj14, va, Xj14, Nj14, ej14, hSj14, hkj14, hZj14, hownj14, pj14, Kj14⟩ : ∃ (Tj14 : State) (lc14 : List Loc) (hj14 : Heap) (vmj14 : Vm) (kj14 : Nat) (va : Value), Stand p l e room_1 (s.setVm vmj14) m #[(.int p0), (.int p1), (.int p2), (.int p3), (.int p4), (.int p5)] below meth c Tj14 lc14 7 17 ∧ Fr n0 lc14 ∧ Tj14.heap = hj14 ∧ s.Since vmj14 kj14 ∧ kj14 ≤ hj14.size ∧ Z.Warmed39 (s.setVm vmj14).vm ∧ (s.setVm vmj14).vm.findClass "com/example/ageline/ageline/policy/RetentionTagIsDefaultPinLaw" = some m.cls ∧ (va.isRef = true ∧ Keep T8.heap hj14 []) ∧ ∀ t, Steps p.tables e below (Tj14.setTop (mkF m 47 #[.val (.int p0), .val (.int p1), .val (.int p2), .val (.int p3), .val (.int p4), .val (.int p5), .val sf, .val sn, .unset, .unset, .unset, .unset, .unset, .unset] [va])) t → Steps p.tables e below (s₁.setTop (entryFrame m #[(.int p0), (.int p1), (.int p2), (.int p3), (.int p4), (.int p5)] maxLocals)) t := by
    have KJ15 : Keep T8.heap T8.heap [] := Keep.refl _ _
    by_cases hc : (((p2.toUInt32 >>> ((2 : Int32) &&& 31).toUInt32).toInt32) &&& (1 : Int32)) = (0 : Int32)
    · have K16 : ∀ t, Steps p.tables e below (T8.setTop (mkF m 47 #[.val (.int p0), .val (.int p1), .val (.int p2), .val (.int p3), .val (.int p4), .val (.int p5), .val sf, .val sn, .unset, .unset, .unset, .unset, .unset, .unset] [.null])) t → Steps p.tables e below (s₁.setTop (entryFrame m #[(.int p0), (.int p1), (.int p2), (.int p3), (.int p4), (.int p5)] maxLocals)) t := by
        intro t kt
        refine K13 t ?_
        show Steps p.tables e below (T8.setTop (mkF m 27 #[.val (.int p0), .val (.int p1), .val (.int p2), .val (.int p3), .val (.int p4), .val (.int p5), .val sf, .val sn, .unset, .unset, .unset, .unset, .unset, .unset] [(.int (((p2.toUInt32 >>> ((2 : Int32) &&& 31).toUInt32).toInt32) &&& (1 : Int32)))])) _
        refine XS.ifNo XX8.here hx rfl (hb hby at_27) rfl ((if0 _ _).trans (teq (hc : (((p2.toUInt32 >>> ((2 : Int32) &&& 31).toUInt32).toInt32) &&& (1 : Int32)) = (0 : Int32))).2) ?_
        show Steps p.tables e below (T8.setTop (mkF m 30 #[.val (.int p0), .val (.int p1), .val (.int p2), .val (.int p3), .val (.int p4), .val (.int p5), .val sf, .val sn, .unset, .unset, .unset, .unset, .unset, .unset] [])) _
        refine XS.aconstNull XX8.here hx rfl (hb hby at_30) ?_
        show Steps p.tables e below (T8.setTop (mkF m 31 #[.val (.int p0), .val (.int p1), .val (.int p2), .val (.int p3), .val (.int p4), .val (.int p5), .val sf, .val sn, .unset, .unset, .unset, .unset, .unset, .unset] [.null])) _
        refine XS.goto XX8.here hx rfl (pc0 := 31) (pc' := 47) rfl (hb hby at_31) (by decide) (by decide) ?_
        exact kt
      exact ⟨T8, _, T8.heap, T8.vm, T8.heap.size, .null, XX8.mono (by decide) (by decide), N8, rfl, hS8, (Nat.le_refl T8.heap.size), hZ8, hown8, ⟨rfl, KJ15⟩, K16⟩
    · have K17 : ∀ t, Steps p.tables e below (T8.setTop (mkF m 34 #[.val (.int p0), .val (.int p1), .val (.int p2), .val (.int p3), .val (.int p4), .val (.int p5), .val sf, .val sn, .unset, .unset, .unset, .unset, .unset, .unset] [])) t → Steps p.tables e below (s₁.setTop (entryFrame m #[(.int p0), (.int p1), (.int p2), (.int p3), (.int p4), (.int p5)] maxLocals)) t := by
        intro t kt
        refine K13 t ?_
        show Steps p.tables e below (T8.setTop (mkF m 27 #[.val (.int p0), .val (.int p1), .val (.int p2), .val (.int p3), .val (.int p4), .val (.int p5), .val sf, .val sn, .unset, .unset, .unset, .unset, .unset, .unset] [(.int (((p2.toUInt32 >>> ((2 : Int32) &&& 31).toUInt32).toInt32) &&& (1 : Int32)))])) _
        refine XS.ifYes XX8.here hx rfl (pc0 := 27) (pc' := 34) rfl (hb hby at_27) rfl ((if0 _ _).trans (feq (hc : ¬ ((((p2.toUInt32 >>> ((2 : Int32) &&& 31).toUInt32).toInt32) &&& (1 : Int32)) = (0 : Int32)))).2) (by decide) (by decide) ?_
        exact kt
      obtain ⟨T18, h18, X18, e18, E18, A18, D18, U18, st18⟩ := newO XX8 hx hZ8 hown8 (hw _ (List.mem_of_getElem? (i := 60) rfl)) (hw _ (List.mem_of_getElem? (i := 61) rfl)) (hw _ (List.mem_of_getElem? (i := 62) rfl)) rfl (g := (mkF m 34 #[.val (.int p0), .val (.int p1), .val (.int p2), .val (.int p3), .val (.int p4), .val (.int p5), .val sf, .val sn, .unset, .unset, .unset, .unset, .unset, .unset] [])) rfl (hb hby at_34) (by decide) (by decide)
      obtain ⟨b18, g18⟩ : ∃ z, z = T8.heap.size := ⟨_, rfl⟩
      rw [← g18] at A18 D18 U18 st18
      have sz19 : h0.size ≤ b18 := Nat.le_trans f10.1 (Nat.le_of_eq g18.symm)
      have sz20 : T8.heap.size ≤ b18 := Nat.le_trans KJ15.1 (Nat.le_of_eq g18.symm)
      have g_b18 : n0 ≤ b18 := Nat.le_trans f9 (Nat.le_of_eq g18.symm)
      have f21 := Nat.le_trans f9 E18.1
      have f22 := f10.ext E18
      have f23 := Nat.le_trans (Nat.le_refl T8.heap.size) E18.1
      have f24 := f11.ext E18
      have f25 := KJ15.ext E18
      have F26 : Fld Z h18 b18 "com/example/ageline/ageline/Age" "days" "I" (.int (0 : Int32)) := D18 (Or.inr (hw _ (List.mem_of_getElem? (i := 72) rfl))) (ty := .int) (by decide)
      have K27 : ∀ t, Steps p.tables e below (T18.setTop (mkF m 37 #[.val (.int p0), .val (.int p1), .val (.int p2), .val (.int p3), .val (.int p4), .val (.int p5), .val sf, .val sn, .unset, .unset, .unset, .unset, .unset, .unset] [(.ref b18)])) t → Steps p.tables e below (s₁.setTop (entryFrame m #[(.int p0), (.int p1), (.int p2), (.int p3), (.int p4), (.int p5)] maxLocals)) t := fun t kt => K17 t (st18 t kt)
      have K28 : ∀ t, Steps p.tables e below (T18.setTop (mkF m 41 #[.val (.int p0), .val (.int p1), .val (.int p2), .val (.int p3), .val (.int p4), .val (.int p5), .val sf, .val sn, .unset, .unset, .unset, .unset, .unset, .unset] [(.int p4), (.int (1 : Int32)), (.ref b18), (.ref b18)])) t → Steps p.tables e below (s₁.setTop (entryFrame m #[(.int p0), (.int p1), (.int p2), (.int p3), (.int p4), (.int p5)] maxLocals)) t := by
        intro t kt
        refine K27 t ?_
        show Steps p.tables e below (T18.setTop (mkF m 37 #[.val (.int p0), .val (.int p1), .val (.int p2), .val (.int p3), .val (.int p4), .val (.int p5), .val sf, .val sn, .unset, .unset, .unset, .unset, .unset, .unset] [(.ref b18)])) _
        refine XS.dup X18.here hx rfl (hb hby at_37) rfl rfl ?_
        show Steps p.tables e below (T18.setTop (mkF m 38 #[.val (.int p0), .val (.int p1), .val (.int p2), .val (.int p3), .val (.int p4), .val (.int p5), .val sf, .val sn, .unset, .unset, .unset, .unset, .unset, .unset] [(.ref b18), (.ref b18)])) _
        refine XS.iconst X18.here hx rfl (hb hby at_38) ?_
        show Steps p.tables e below (T18.setTop (mkF m 39 #[.val (.int p0), .val (.int p1), .val (.int p2), .val (.int p3), .val (.int p4), .val (.int p5), .val sf, .val sn, .unset, .unset, .unset, .unset, .unset, .unset] [(.int (1 : Int32)), (.ref b18), (.ref b18)])) _
        refine XS.iload X18.here hx rfl (hb hby at_39) rfl ?_
        exact kt
      obtain ⟨_, _, ⟨T29, L29, k29, n29⟩, -, X29, ⟨Lc29, hQ29, l29, y29, z29⟩, st29⟩ := Jvm.LawKit.callS X18 hx (y := (⟨"java/lang/Math", "max", "(II)I"⟩ : MethodName)) hown8 (mvT hZ8 (hw _ (List.mem_of_getElem? (i := 63) rfl))) (mvT hZ8 (hw _ (List.mem_of_getElem? (i := 64) rfl))) (mvT hZ8 (hw _ (List.mem_of_getElem? (i := 65) rfl))) (mvT hZ8 (hw _ (List.mem_of_getElem? (i := 66) rfl))) (by decide) (backOf (W := 2) (rm11 l Z a0 hw [] (1 : Int32) p4 h18 n0 f21) hZ8 (hw _ (List.mem_of_getElem? (i := 66) rfl)) (hw _ (List.mem_of_getElem? (i := 65) rfl)) (by decide) (by decide)) (g := (mkF m 41 #[.val (.int p0), .val (.int p1), .val (.int p2), .val (.int p3), .val (.int p4), .val (.int p5), .val sf, .val sn, .unset, .unset, .unset, .unset, .unset, .unset] [(.int p4), (.int (1 : Int32)), (.ref b18), (.ref b18)])) rfl (by rw [hml]; rfl) (argsL := [(.int (1 : Int32)), (.int p4)]) (rest := [(.ref b18), (.ref b18)]) (lenOf pd_2 rfl) rfl (by show 2 * 0 + _ ≤ _; exact Nat.le_of_eq rfl) (hb hby at_41) (fun _ _ => ⟨rfl, e18, (by decide : 7 + 0 ≤ _), (by decide : 17 + 0 ≤ _)⟩)
      dsimp only [Pt.U, Pt.locs, Pt.cells, Pt.slots] at X29 l29 y29 z29 st29 hQ29
      subst l29 y29 z29
      obtain ⟨mx, rfl, hmx, Nq29, e29⟩ := hQ29
      have N29 := Fr.app N8 Nq29
      have K30 : ∀ t, Steps p.tables e below (T29.setTop (mkF m 44 #[.val (.int p0), .val (.int p1), .val (.int p2), .val (.int p3), .val (.int p4), .val (.int p5), .val sf, .val sn, .unset, .unset, .unset, .unset, .unset, .unset] [(.int mx), (.ref b18), (.ref b18)])) t → Steps p.tables e below (s₁.setTop (entryFrame m #[(.int p0), (.int p1), (.int p2), (.int p3), (.int p4), (.int p5)] maxLocals)) t := fun t kt => K28 t (st29 t kt)
      obtain ⟨_, _, ⟨T31, L31, k31, n31⟩, -, X31, ⟨Lc31, hQ31, l31, y31, z31⟩, st31⟩ := X29.specialBack hx (y := (⟨"com/example/ageline/ageline/Age", "<init>", "(I)V"⟩ : MethodName)) rfl hown8 (mvT hZ8 (hw _ (List.mem_of_getElem? (i := 67) rfl))) (mvT hZ8 (hw _ (List.mem_of_getElem? (i := 68) rfl))) (mvT hZ8 (hw _ (List.mem_of_getElem? (i := 69) rfl))) (by decide) (backOf (W := 1) (rm12 l Z a0 hw [] b18 mx h18 n0 f21 hmx A18 F26 g_b18) hZ8 (hw _ (List.mem_of_getElem? (i := 69) rfl)) (hw _ (List.mem_of_getElem? (i := 62) rfl)) (by decide) (by decide)) (g := (mkF m 44 #[.val (.int p0), .val (.int p1), .val (.int p2), .val (.int p3), .val (.int p4), .val (.int p5), .val sf, .val sn, .unset, .unset, .unset, .unset, .unset, .unset] [(.int mx), (.ref b18), (.ref b18)])) rfl (by rw [hml]; rfl) (Steps.refl _) (a := b18) (argsL := [(.int mx)]) (rest := [(.ref b18)]) (lenOf pd_3 rfl) rfl (by show 2 * 0 + _ ≤ _; exact Nat.le_of_eq rfl) (hb hby at_44) (fun _ _ => ⟨rfl, e29, (by decide : 7 + 0 ≤ _), (by decide : 17 + 0 ≤ _)⟩)
      dsimp only [Pt.U, Pt.locs, Pt.cells, Pt.slots] at X31 l31 y31 z31 st31 hQ31
      subst l31 y31 z31
      obtain ⟨rfl, Nq31, Kq31⟩ := hQ31
      have f32 := Nat.le_trans f21 Kq31.1
      have f33 := f22.trans Kq31 (allS (Or.inr sz19) all0)
      have f34 := Nat.le_trans f23 Kq31.1
      have f35 := f24.keep Kq31 (allS g_b18 all0)
      have f36 := f25.trans Kq31 (allS (Or.inr sz20) all0)
      have f37 := A18.keep Kq31
      have N31 := Fr.app N29 Nq31
      have K38 : ∀ t, Steps p.tables e below (T31.setTop (mkF m 47 #[.val (.int p0), .val (.int p1), .val (.int p2), .val (.int p3), .val (.int p4), .val (.int p5), .val sf, .val sn, .unset, .unset, .unset, .unset, .unset, .unset] [(.ref b18)])) t → Steps p.tables e below (s₁.setTop (entryFrame m #[(.int p0), (.int p1), (.int p2), (.int p3), (.int p4), (.int p5)] maxLocals)) t := fun t kt => K30 t (st31.trans kt)
      exact ⟨T31, _, T31.heap, T8.vm, T8.heap.size, (.ref b18), X31.mono (by decide) (by decide), N31, rfl, hS8, f34, hZ8, hown8, ⟨rfl, f36⟩, K38⟩
  have K39 : ∀ t, Steps p.tables e below (Tj14.setTop (mkF m 47 #[.val (.int p0), .val (.int p1), .val (.int p2), .val (.int p3), .val (.int p4), .val (.int p5), .val sf, .val sn, .unset, .unset, .unset, .unset, .unset, .unset] [va])) t → Steps p.tables e below (s₁.setTop (entryFrame m #[(.int p0), (.int p1), (.int p2), (.int p3), (.int p4), (.int p5)] maxLocals)) t := Kj14
  obtain ⟨rva, KA⟩ := pj14
  have f40 := Nat.le_trans f9 KA.1
  have f41 := f10.trans KA all0
  have f42 := f11.keep KA all0
  have K43 : ∀ t, Steps p.tables e below (Tj14.setTop (mkF m 51 #[.val (.int p0), .val (.int p1), .val (.int p2), .val (.int p3), .val (.int p4), .val (.int p5), .val sf, .val sn, .val va, .unset, .unset, .unset, .unset, .unset] [(.int p5)])) t → Steps p.tables e below (s₁.setTop (entryFrame m #[(.int p0), (.int p1), (.int p2), (.int p3), (.int p4), (.int p5)] maxLocals)) t := by
    intro t kt
    refine K39 t ?_
    show Steps p.tables e below (Tj14.setTop (mkF m 47 #[.val (.int p0), .val (.int p1), .val (.int p2), .val (.int p3), .val (.int p4), .val (.int p5), .val sf, .val sn, .unset, .unset, .unset, .unset, .unset, .unset] [va])) _
    refine XS.astore Xj14.here hx rfl (hb hby at_47) rfl rva (l' := #[.val (.int p0), .val (.int p1), .val (.int p2), .val (.int p3), .val (.int p4), .val (.int p5), .val sf, .val sn, .val va, .unset, .unset, .unset, .unset, .unset]) (XS.store1 rfl (by first | exact Or.inl rfl | exact Or.inr ⟨_, rfl, rfl⟩) (Jvm.Free.XT.cat1 rva)) ?_
    show Steps p.tables e below (Tj14.setTop (mkF m 49 #[.val (.int p0), .val (.int p1), .val (.int p2), .val (.int p3), .val (.int p4), .val (.int p5), .val sf, .val sn, .val va, .unset, .unset, .unset, .unset, .unset] [])) _
    refine XS.iload Xj14.here hx rfl (hb hby at_49) rfl ?_
    exact kt
  obtain ⟨_, _, ⟨T44, L44, k44, n44⟩, -, X44, ⟨Lc44, hQ44, l44, y44, z44⟩, st44⟩ := Jvm.LawKit.callS Xj14 hx (y := (⟨"com/example/ageline/ageline/policy/RetentionTagIsDefaultPinLaw", "action", "(I)Lcom/example/ageline/ageline/policy/RetentionAction;"⟩ : MethodName)) hownj14 (mvT hZj14 (hw _ (List.mem_of_getElem? (i := 34) rfl))) (mvT hZj14 (hw _ (List.mem_of_getElem? (i := 35) rfl))) (mvT hZj14 (hw _ (List.mem_of_getElem? (i := 2) rfl))) (mvT hZj14 (hw _ (List.mem_of_getElem? (i := 36) rfl))) (by decide) (backOf (W := 0) (rm8 l Z a0 hw [] p5 a1 a2 a3 a4 hj14 n0 f40 (S1.ext f42.2) (S2.ext f42.2) (S3.ext f42.2) (S4.ext f42.2)) hZj14 (hw _ (List.mem_of_getElem? (i := 36) rfl)) (hw _ (List.mem_of_getElem? (i := 2) rfl)) (by decide) (by decide)) (g := (mkF m 51 #[.val (.int p0), .val (.int p1), .val (.int p2), .val (.int p3), .val (.int p4), .val (.int p5), .val sf, .val sn, .val va, .unset, .unset, .unset, .unset, .unset] [(.int p5)])) rfl (by rw [hml]; rfl) (argsL := [(.int p5)]) (rest := []) (lenOf pd_4 rfl) rfl (by show 2 * 0 + _ ≤ _; exact Nat.le_of_eq rfl) (hb hby at_51) (fun _ _ => ⟨rfl, ej14, (by decide : 7 + 0 ≤ _), (by decide : 17 + 0 ≤ _)⟩)
  dsimp only [Pt.U, Pt.locs, Pt.cells, Pt.slots] at X44 l44 y44 z44 st44 hQ44
  subst l44 y44 z44
  obtain ⟨ac, rfl, rac, Nq44, e44⟩ := hQ44
  have N44 := Fr.app Nj14 Nq44
  have K45 : ∀ t, Steps p.tables e below (T44.setTop (mkF m 54 #[.val (.int p0), .val (.int p1), .val (.int p2), .val (.int p3), .val (.int p4), .val (.int p5), .val sf, .val sn, .val va, .unset, .unset, .unset, .unset, .unset] [ac])) t → Steps p.tables e below (s₁.setTop (entryFrame m #[(.int p0), (.int p1), (.int p2), (.int p3), (.int p4), (.int p5)] maxLocals)) t := fun t kt => K43 t (st44 t kt)
  have K46 : ∀ t, Steps p.tables e below (T44.setTop (mkF m 56 #[.val (.int p0), .val (.int p1), .val (.int p2), .val (.int p3), .val (.int p4), .val (.int p5), .val sf, .val sn, .val va, .val ac, .unset, .unset, .unset, .unset] [])) t → Steps p.tables e below (s₁.setTop (entryFrame m #[(.int p0), (.int p1), (.int p2), (.int p3), (.int p4), (.int p5)] maxLocals)) t := by
    intro t kt
    refine K45 t ?_
    show Steps p.tables e below (T44.setTop (mkF m 54 #[.val (.int p0), .val (.int p1), .val (.int p2), .val (.int p3), .val (.int p4), .val (.int p5), .val sf, .val sn, .val va, .unset, .unset, .unset, .unset, .unset] [ac])) _
    refine XS.astore X44.here hx rfl (hb hby at_54) rfl rac (l' := #[.val (.int p0), .val (.int p1), .val (.int p2), .val (.int p3), .val (.int p4), .val (.int p5), .val sf, .val sn, .val va, .val ac, .unset, .unset, .unset, .unset]) (XS.store1 rfl (by first | exact Or.inl rfl | exact Or.inr ⟨_, rfl, rfl⟩) (Jvm.Free.XT.cat1 rac)) ?_
    exact kt
  obtain ⟨T47, h47, X47, e47, E47, A47, D47, U47, st47⟩ := newO X44 hx hZj14 hownj14 (hw _ (List.mem_of_getElem? (i := 40) rfl)) (hw _ (List.mem_of_getElem? (i := 41) rfl)) (hw _ (List.mem_of_getElem? (i := 42) rfl)) e44 (g := (mkF m 56 #[.val (.int p0), .val (.int p1), .val (.int p2), .val (.int p3), .val (.int p4), .val (.int p5), .val sf, .val sn, .val va, .val ac, .unset, .unset, .unset, .unset] [])) rfl (hb hby at_56) (by decide) (by decide)
  obtain ⟨b47, g47⟩ : ∃ z, z = hj14.size := ⟨_, rfl⟩
  rw [← g47] at A47 D47 U47 st47
  have sz48 : h0.size ≤ b47 := Nat.le_trans f41.1 (Nat.le_of_eq g47.symm)
  have g_b47 : n0 ≤ b47 := Nat.le_trans f40 (Nat.le_of_eq g47.symm)
  have f49 := Nat.le_trans f40 E47.1
  have f50 := f41.ext E47
  have f51 := Nat.le_trans hkj14 E47.1
  have f52 := f42.ext E47
  have F53 : Fld Z h47 b47 "com/example/ageline/ageline/policy/RetentionTag" "name" "Ljava/lang/String;" .null := D47 (Or.inr (hw _ (List.mem_of_getElem? (i := 48) rfl))) (ty := (.object "java/lang/String")) (by decide)
  have F54 : Fld Z h47 b47 "com/example/ageline/ageline/policy/RetentionTag" "age" "Lcom/example/ageline/ageline/Age;" .null := D47 (Or.inr (hw _ (List.mem_of_getElem? (i := 50) rfl))) (ty := (.object "com/example/ageline/ageline/Age")) (by decide)
  have F55 : Fld Z h47 b47 "com/example/ageline/ageline/policy/RetentionTag" "action" "Lcom/example/ageline/ageline/policy/RetentionAction;" .null := D47 (Or.inr (hw _ (List.mem_of_getElem? (i := 52) rfl))) (ty := (.object "com/example/ageline/ageline/policy/RetentionAction")) (by decide)
  have F56 : Fld Z h47 b47 "com/example/ageline/ageline/policy/RetentionTag" "folder" "Ljava/lang/String;" .null := D47 (Or.inr (hw _ (List.mem_of_getElem? (i := 54) rfl))) (ty := (.object "java/lang/String")) (by decide)
  have K57 : ∀ t, Steps p.tables e below (T47.setTop (mkF m 59 #[.val (.int p0), .val (.int p1), .val (.int p2), .val (.int p3), .val (.int p4), .val (.int p5), .val sf, .val sn, .val va, .val ac, .unset, .unset, .unset, .unset] [(.ref b47)])) t → Steps p.tables e below (s₁.setTop (entryFrame m #[(.int p0), (.int p1), (.int p2), (.int p3), (.int p4), (.int p5)] maxLocals)) t := fun t kt => K46 t (st47 t kt)
  have K58 : ∀ t, Steps p.tables e below (T47.setTop (mkF m 68 #[.val (.int p0), .val (.int p1), .val (.int p2), .val (.int p3), .val (.int p4), .val (.int p5), .val sf, .val sn, .val va, .val ac, .unset, .unset, .unset, .unset] [sf, ac, va, sn, (.ref b47), (.ref b47)])) t → Steps p.tables e below (s₁.setTop (entryFrame m #[(.int p0), (.int p1), (.int p2), (.int p3), (.int p4), (.int p5)] maxLocals)) t := by
    intro t kt
    refine K57 t ?_
    show Steps p.tables e below (T47.setTop (mkF m 59 #[.val (.int p0), .val (.int p1), .val (.int p2), .val (.int p3), .val (.int p4), .val (.int p5), .val sf, .val sn, .val va, .val ac, .unset, .unset, .unset, .unset] [(.ref b47)])) _
    refine XS.dup X47.here hx rfl (hb hby at_59) rfl rfl ?_
    show Steps p.tables e below (T47.setTop (mkF m 60 #[.val (.int p0), .val (.int p1), .val (.int p2), .val (.int p3), .val (.int p4), .val (.int p5), .val sf, .val sn, .val va, .val ac, .unset, .unset, .unset, .unset] [(.ref b47), (.ref b47)])) _
    refine XS.aload X47.here hx rfl (hb hby at_60) rfl rsn ?_
    show Steps p.tables e below (T47.setTop (mkF m 62 #[.val (.int p0), .val (.int p1), .val (.int p2), .val (.int p3), .val (.int p4), .val (.int p5), .val sf, .val sn, .val va, .val ac, .unset, .unset, .unset, .unset] [sn, (.ref b47), (.ref b47)])) _
    refine XS.aload X47.here hx rfl (hb hby at_62) rfl rva ?_
    show Steps p.tables e below (T47.setTop (mkF m 64 #[.val (.int p0), .val (.int p1), .val (.int p2), .val (.int p3), .val (.int p4), .val (.int p5), .val sf, .val sn, .val va, .val ac, .unset, .unset, .unset, .unset] [va, sn, (.ref b47), (.ref b47)])) _
    refine XS.aload X47.here hx rfl (hb hby at_64) rfl rac ?_
    show Steps p.tables e below (T47.setTop (mkF m 66 #[.val (.int p0), .val (.int p1), .val (.int p2), .val (.int p3), .val (.int p4), .val (.int p5), .val sf, .val sn, .val va, .val ac, .unset, .unset, .unset, .unset] [ac, va, sn, (.ref b47), (.ref b47)])) _
    refine XS.aload X47.here hx rfl (hb hby at_66) rfl rsf ?_
    exact kt
  obtain ⟨_, _, ⟨T59, L59, k59, n59⟩, -, X59, ⟨Lc59, hQ59, l59, y59, z59⟩, st59⟩ := X47.specialBack hx (y := (⟨"com/example/ageline/ageline/policy/RetentionTag", "<init>", "(Ljava/lang/String;Lcom/example/ageline/ageline/Age;Lcom/example/ageline/ageline/policy/RetentionAction;Ljava/lang/String;)V"⟩ : MethodName)) rfl hownj14 (mvT hZj14 (hw _ (List.mem_of_getElem? (i := 43) rfl))) (mvT hZj14 (hw _ (List.mem_of_getElem? (i := 44) rfl))) (mvT hZj14 (hw _ (List.mem_of_getElem? (i := 45) rfl))) (by decide) (backOf (W := 1) (rm9 l Z a0 hw [] b47 sn va ac sf h47 n0 f49 rsn rva rac rsf A47 F53 F54 F55 F56 g_b47) hZj14 (hw _ (List.mem_of_getElem? (i := 45) rfl)) (hw _ (List.mem_of_getElem? (i := 42) rfl)) (by decide) (by decide)) (g := (mkF m 68 #[.val (.int p0), .val (.int p1), .val (.int p2), .val (.int p3), .val (.int p4), .val (.int p5), .val sf, .val sn, .val va, .val ac, .unset, .unset, .unset, .unset] [sf, ac, va, sn, (.ref b47), (.ref b47)])) rfl (by rw [hml]; rfl) (Steps.refl _) (a := b47) (argsL := [sn, va, ac, sf]) (rest := [(.ref b47)]) (lenOf pd_5 rfl) rfl (by show 2 * 0 + _ ≤ _; exact Nat.le_of_eq rfl) (hb hby at_68) (fun _ _ => ⟨rfl, e47, (by decide : 8 + 0 ≤ _), (by decide : 21 + 0 ≤ _)⟩)
  dsimp only [Pt.U, Pt.locs, Pt.cells, Pt.slots] at X59 l59 y59 z59 st59 hQ59
  subst l59 y59 z59
  obtain ⟨rfl, Nq59, Kq59, FF59⟩ := hQ59
  have f60 := Nat.le_trans f49 Kq59.1
  have f61 := f50.trans Kq59 (allS (Or.inr sz48) all0)
  have f62 := Nat.le_trans f51 Kq59.1
  have f63 := f52.keep Kq59 (allS g_b47 all0)
  have f64 := A47.keep Kq59
  have N59 := Fr.app N44 Nq59
  have K65 : ∀ t, Steps p.tables e below (T59.setTop (mkF m 71 #[.val (.int p0), .val (.int p1), .val (.int p2), .val (.int p3), .val (.int p4), .val (.int p5), .val sf, .val sn, .val va, .val ac, .unset, .unset, .unset, .unset] [(.ref b47)])) t → Steps p.tables e below (s₁.setTop (entryFrame m #[(.int p0), (.int p1), (.int p2), (.int p3), (.int p4), (.int p5)] maxLocals)) t := fun t kt => K58 t (st59.trans kt)
  have K66 : ∀ t, Steps p.tables e below (T59.setTop (mkF m 76 #[.val (.int p0), .val (.int p1), .val (.int p2), .val (.int p3), .val (.int p4), .val (.int p5), .val sf, .val sn, .val va, .val ac, .val (.ref b47), .unset, .unset, .unset] [(.int (p0 &&& (3 : Int32)))])) t → Steps p.tables e below (s₁.setTop (entryFrame m #[(.int p0), (.int p1), (.int p2), (.int p3), (.int p4), (.int p5)] maxLocals)) t := by
    intro t kt
    refine K65 t ?_
    show Steps p.tables e below (T59.setTop (mkF m 71 #[.val (.int p0), .val (.int p1), .val (.int p2), .val (.int p3), .val (.int p4), .val (.int p5), .val sf, .val sn, .val va, .val ac, .unset, .unset, .unset, .unset] [(.ref b47)])) _
    refine XS.astore X59.here hx rfl (hb hby at_71) rfl rfl (l' := #[.val (.int p0), .val (.int p1), .val (.int p2), .val (.int p3), .val (.int p4), .val (.int p5), .val sf, .val sn, .val va, .val ac, .val (.ref b47), .unset, .unset, .unset]) rfl ?_
    show Steps p.tables e below (T59.setTop (mkF m 73 #[.val (.int p0), .val (.int p1), .val (.int p2), .val (.int p3), .val (.int p4), .val (.int p5), .val sf, .val sn, .val va, .val ac, .val (.ref b47), .unset, .unset, .unset] [])) _
    refine XS.iloadN X59.here hx rfl (hb hby at_73) rfl ?_
    show Steps p.tables e below (T59.setTop (mkF m 74 #[.val (.int p0), .val (.int p1), .val (.int p2), .val (.int p3), .val (.int p4), .val (.int p5), .val sf, .val sn, .val va, .val ac, .val (.ref b47), .unset, .unset, .unset] [(.int p0)])) _
    refine XS.iconst X59.here hx rfl (hb hby at_74) ?_
    show Steps p.tables e below (T59.setTop (mkF m 75 #[.val (.int p0), .val (.int p1), .val (.int p2), .val (.int p3), .val (.int p4), .val (.int p5), .val sf, .val sn, .val va, .val ac, .val (.ref b47), .unset, .unset, .unset] [(.int (3 : Int32)), (.int p0)])) _
    refine XS.iand X59.here hx rfl (hb hby at_75) rfl ?_
    exact kt
  by_cases hc : (p0 &&& (3 : Int32)) = (0 : Int32)
  · have K67 : ∀ t, Steps p.tables e below (T59.setTop (mkF m 88 #[.val (.int p0), .val (.int p1), .val (.int p2), .val (.int p3), .val (.int p4), .val (.int p5), .val sf, .val sn, .val va, .val ac, .val (.ref b47), .val (.int (1 : Int32)), .unset, .unset] [(.ref b47)])) t → Steps p.tables e below (s₁.setTop (entryFrame m #[(.int p0), (.int p1), (.int p2), (.int p3), (.int p4), (.int p5)] maxLocals)) t := by
      intro t kt
      refine K66 t ?_
      show Steps p.tables e below (T59.setTop (mkF m 76 #[.val (.int p0), .val (.int p1), .val (.int p2), .val (.int p3), .val (.int p4), .val (.int p5), .val sf, .val sn, .val va, .val ac, .val (.ref b47), .unset, .unset, .unset] [(.int (p0 &&& (3 : Int32)))])) _
      refine XS.ifNo X59.here hx rfl (hb hby at_76) rfl ((if0 _ _).trans (teq (hc : (p0 &&& (3 : Int32)) = (0 : Int32))).2) ?_
      show Steps p.tables e below (T59.setTop (mkF m 79 #[.val (.int p0), .val (.int p1), .val (.int p2), .val (.int p3), .val (.int p4), .val (.int p5), .val sf, .val sn, .val va, .val ac, .val (.ref b47), .unset, .unset, .unset] [])) _
      refine XS.iconst X59.here hx rfl (hb hby at_79) ?_
      show Steps p.tables e below (T59.setTop (mkF m 80 #[.val (.int p0), .val (.int p1), .val (.int p2), .val (.int p3), .val (.int p4), .val (.int p5), .val sf, .val sn, .val va, .val ac, .val (.ref b47), .unset, .unset, .unset] [(.int (1 : Int32))])) _
      refine XS.goto X59.here hx rfl (pc0 := 80) (pc' := 84) rfl (hb hby at_80) (by decide) (by decide) ?_
      show Steps p.tables e below (T59.setTop (mkF m 84 #[.val (.int p0), .val (.int p1), .val (.int p2), .val (.int p3), .val (.int p4), .val (.int p5), .val sf, .val sn, .val va, .val ac, .val (.ref b47), .unset, .unset, .unset] [(.int (1 : Int32))])) _
      refine XS.istore X59.here hx rfl (hb hby at_84) rfl (l' := #[.val (.int p0), .val (.int p1), .val (.int p2), .val (.int p3), .val (.int p4), .val (.int p5), .val sf, .val sn, .val va, .val ac, .val (.ref b47), .val (.int (1 : Int32)), .unset, .unset]) rfl ?_
      show Steps p.tables e below (T59.setTop (mkF m 86 #[.val (.int p0), .val (.int p1), .val (.int p2), .val (.int p3), .val (.int p4), .val (.int p5), .val sf, .val sn, .val va, .val ac, .val (.ref b47), .val (.int (1 : Int32)), .unset, .unset] [])) _
      refine XS.aload X59.here hx rfl (hb hby at_86) rfl rfl ?_
      exact kt
    obtain ⟨cq68, kq68, q68a, q68b, q68c⟩ := isOf hZj14 rfl f64
    obtain ⟨_, _, ⟨T68, L68, k68, n68⟩, -, X68, ⟨Lc68, hQ68, l68, y68, z68⟩, st68⟩ := X59.virtualBack hx (y := (⟨"com/example/ageline/ageline/policy/RetentionTag", "isDefault", "()Z"⟩ : MethodName)) (z := (⟨"com/example/ageline/ageline/policy/RetentionTag", "isDefault", "()Z"⟩ : MethodName)) hownj14 (mvT hZj14 (hw _ (List.mem_of_getElem? (i := 55) rfl))) (mvT hZj14 (hw _ (List.mem_of_getElem? (i := 56) rfl))) (notFace_of_selects (args := #[]) (mvT hZj14 (hw _ (List.mem_of_getElem? (i := 58) rfl)))) (mvT hZj14 (hw _ (List.mem_of_getElem? (i := 58) rfl))) (mvT hZj14 (hw _ (List.mem_of_getElem? (i := 57) rfl))) (by decide) (backOf (W := 0) (rm10 l Z a0 hw [] b47 sf T59.heap n0 f60 rsf FF59) hZj14 (hw _ (List.mem_of_getElem? (i := 59) rfl)) (hw _ (List.mem_of_getElem? (i := 42) rfl)) (by decide) (by decide)) q68a q68c (g := (mkF m 88 #[.val (.int p0), .val (.int p1), .val (.int p2), .val (.int p3), .val (.int p4), .val (.int p5), .val sf, .val sn, .val va, .val ac, .val (.ref b47), .val (.int (1 : Int32)), .unset, .unset] [(.ref b47)])) rfl (by rw [hml]; rfl) (Steps.refl _) (argsL := []) (rest := []) (lenOf pd_6 rfl) rfl (by show 2 * 0 + _ ≤ _; exact Nat.le_of_eq rfl) (hb hby at_88) (fun _ _ => ⟨rfl, rfl, (by decide : 8 + 0 ≤ _), (by decide : 21 + 0 ≤ _)⟩)
    dsimp only [Pt.U, Pt.locs, Pt.cells, Pt.slots] at X68 l68 y68 z68 st68 hQ68
    subst l68 y68 z68
    obtain ⟨d1, rfl, hd1, Nq68, e68⟩ := hQ68
    have N68 := Fr.app N59 Nq68
    have K69 : ∀ t, Steps p.tables e below (T68.setTop (mkF m 91 #[.val (.int p0), .val (.int p1), .val (.int p2), .val (.int p3), .val (.int p4), .val (.int p5), .val sf, .val sn, .val va, .val ac, .val (.ref b47), .val (.int (1 : Int32)), .unset, .unset] [(.int d1)])) t → Steps p.tables e below (s₁.setTop (entryFrame m #[(.int p0), (.int p1), (.int p2), (.int p3), (.int p4), (.int p5)] maxLocals)) t := fun t kt => K67 t (st68.trans kt)
    have K70 : ∀ t, Steps p.tables e below (T68.setTop (mkF m 95 #[.val (.int p0), .val (.int p1), .val (.int p2), .val (.int p3), .val (.int p4), .val (.int p5), .val sf, .val sn, .val va, .val ac, .val (.ref b47), .val (.int (1 : Int32)), .val (.int d1), .unset] [(.ref b47)])) t → Steps p.tables e below (s₁.setTop (entryFrame m #[(.int p0), (.int p1), (.int p2), (.int p3), (.int p4), (.int p5)] maxLocals)) t := by
      intro t kt
      refine K69 t ?_
      show Steps p.tables e below (T68.setTop (mkF m 91 #[.val (.int p0), .val (.int p1), .val (.int p2), .val (.int p3), .val (.int p4), .val (.int p5), .val sf, .val sn, .val va, .val ac, .val (.ref b47), .val (.int (1 : Int32)), .unset, .unset] [(.int d1)])) _
      refine XS.istore X68.here hx rfl (hb hby at_91) rfl (l' := #[.val (.int p0), .val (.int p1), .val (.int p2), .val (.int p3), .val (.int p4), .val (.int p5), .val sf, .val sn, .val va, .val ac, .val (.ref b47), .val (.int (1 : Int32)), .val (.int d1), .unset]) rfl ?_
      show Steps p.tables e below (T68.setTop (mkF m 93 #[.val (.int p0), .val (.int p1), .val (.int p2), .val (.int p3), .val (.int p4), .val (.int p5), .val sf, .val sn, .val va, .val ac, .val (.ref b47), .val (.int (1 : Int32)), .val (.int d1), .unset] [])) _
      refine XS.aload X68.here hx rfl (hb hby at_93) rfl rfl ?_
      exact kt
    obtain ⟨cq71, kq71, q71a, q71b, q71c⟩ := isOf hZj14 e68 f64
    obtain ⟨_, _, ⟨T71, L71, k71, n71⟩, -, X71, ⟨Lc71, hQ71, l71, y71, z71⟩, st71⟩ := X68.virtualBack hx (y := (⟨"com/example/ageline/ageline/policy/RetentionTag", "isDefault", "()Z"⟩ : MethodName)) (z := (⟨"com/example/ageline/ageline/policy/RetentionTag", "isDefault", "()Z"⟩ : MethodName)) hownj14 (mvT hZj14 (hw _ (List.mem_of_getElem? (i := 55) rfl))) (mvT hZj14 (hw _ (List.mem_of_getElem? (i := 56) rfl))) (notFace_of_selects (args := #[]) (mvT hZj14 (hw _ (List.mem_of_getElem? (i := 58) rfl)))) (mvT hZj14 (hw _ (List.mem_of_getElem? (i := 58) rfl))) (mvT hZj14 (hw _ (List.mem_of_getElem? (i := 57) rfl))) (by decide) (backOf (W := 0) (rm10 l Z a0 hw [] b47 sf T59.heap n0 f60 rsf FF59) hZj14 (hw _ (List.mem_of_getElem? (i := 59) rfl)) (hw _ (List.mem_of_getElem? (i := 42) rfl)) (by decide) (by decide)) q71a q71c (g := (mkF m 95 #[.val (.int p0), .val (.int p1), .val (.int p2), .val (.int p3), .val (.int p4), .val (.int p5), .val sf, .val sn, .val va, .val ac, .val (.ref b47), .val (.int (1 : Int32)), .val (.int d1), .unset] [(.ref b47)])) rfl (by rw [hml]; rfl) (Steps.refl _) (argsL := []) (rest := []) (lenOf pd_6 rfl) rfl (by show 2 * 0 + _ ≤ _; exact Nat.le_of_eq rfl) (hb hby at_95) (fun _ _ => ⟨rfl, e68, (by decide : 8 + 0 ≤ _), (by decide : 21 + 0 ≤ _)⟩)
    dsimp only [Pt.U, Pt.locs, Pt.cells, Pt.slots] at X71 l71 y71 z71 st71 hQ71
    subst l71 y71 z71
    obtain ⟨d2, rfl, hd2, Nq71, e71⟩ := hQ71
    have N71 := Fr.app N68 Nq71
    have K72 : ∀ t, Steps p.tables e below (T71.setTop (mkF m 98 #[.val (.int p0), .val (.int p1), .val (.int p2), .val (.int p3), .val (.int p4), .val (.int p5), .val sf, .val sn, .val va, .val ac, .val (.ref b47), .val (.int (1 : Int32)), .val (.int d1), .unset] [(.int d2)])) t → Steps p.tables e below (s₁.setTop (entryFrame m #[(.int p0), (.int p1), (.int p2), (.int p3), (.int p4), (.int p5)] maxLocals)) t := fun t kt => K70 t (st71.trans kt)
    have K73 : ∀ t, Steps p.tables e below (T71.setTop (mkF m 119 #[.val (.int p0), .val (.int p1), .val (.int p2), .val (.int p3), .val (.int p4), .val (.int p5), .val sf, .val sn, .val va, .val ac, .val (.ref b47), .val (.int (1 : Int32)), .val (.int d1), .val (.int d2)] [(.int (1 : Int32))])) t → Steps p.tables e below (s₁.setTop (entryFrame m #[(.int p0), (.int p1), (.int p2), (.int p3), (.int p4), (.int p5)] maxLocals)) t := by
      intro t kt
      refine K72 t ?_
      show Steps p.tables e below (T71.setTop (mkF m 98 #[.val (.int p0), .val (.int p1), .val (.int p2), .val (.int p3), .val (.int p4), .val (.int p5), .val sf, .val sn, .val va, .val ac, .val (.ref b47), .val (.int (1 : Int32)), .val (.int d1), .unset] [(.int d2)])) _
      refine XS.istore X71.here hx rfl (hb hby at_98) rfl (l' := #[.val (.int p0), .val (.int p1), .val (.int p2), .val (.int p3), .val (.int p4), .val (.int p5), .val sf, .val sn, .val va, .val ac, .val (.ref b47), .val (.int (1 : Int32)), .val (.int d1), .val (.int d2)]) rfl ?_
      show Steps p.tables e below (T71.setTop (mkF m 100 #[.val (.int p0), .val (.int p1), .val (.int p2), .val (.int p3), .val (.int p4), .val (.int p5), .val sf, .val sn, .val va, .val ac, .val (.ref b47), .val (.int (1 : Int32)), .val (.int d1), .val (.int d2)] [])) _
      refine XS.iload X71.here hx rfl (hb hby at_100) rfl ?_
      show Steps p.tables e below (T71.setTop (mkF m 102 #[.val (.int p0), .val (.int p1), .val (.int p2), .val (.int p3), .val (.int p4), .val (.int p5), .val sf, .val sn, .val va, .val ac, .val (.ref b47), .val (.int (1 : Int32)), .val (.int d1), .val (.int d2)] [(.int d1)])) _
      refine XS.iload X71.here hx rfl (hb hby at_102) rfl ?_
      show Steps p.tables e below (T71.setTop (mkF m 104 #[.val (.int p0), .val (.int p1), .val (.int p2), .val (.int p3), .val (.int p4), .val (.int p5), .val sf, .val sn, .val va, .val ac, .val (.ref b47), .val (.int (1 : Int32)), .val (.int d1), .val (.int d2)] [(.int (1 : Int32)), (.int d1)])) _
      refine XS.icmpNo X71.here hx rfl (hb hby at_104) rfl (teq (own_dz1 hd1 zsf hc : d1 = (1 : Int32))).2 ?_
      show Steps p.tables e below (T71.setTop (mkF m 107 #[.val (.int p0), .val (.int p1), .val (.int p2), .val (.int p3), .val (.int p4), .val (.int p5), .val sf, .val sn, .val va, .val ac, .val (.ref b47), .val (.int (1 : Int32)), .val (.int d1), .val (.int d2)] [])) _
      refine XS.iload X71.here hx rfl (hb hby at_107) rfl ?_
      show Steps p.tables e below (T71.setTop (mkF m 109 #[.val (.int p0), .val (.int p1), .val (.int p2), .val (.int p3), .val (.int p4), .val (.int p5), .val sf, .val sn, .val va, .val ac, .val (.ref b47), .val (.int (1 : Int32)), .val (.int d1), .val (.int d2)] [(.int d2)])) _
      refine XS.iload X71.here hx rfl (hb hby at_109) rfl ?_
      show Steps p.tables e below (T71.setTop (mkF m 111 #[.val (.int p0), .val (.int p1), .val (.int p2), .val (.int p3), .val (.int p4), .val (.int p5), .val sf, .val sn, .val va, .val ac, .val (.ref b47), .val (.int (1 : Int32)), .val (.int d1), .val (.int d2)] [(.int (1 : Int32)), (.int d2)])) _
      refine XS.icmpNo X71.here hx rfl (hb hby at_111) rfl (teq (own_dz1 hd2 zsf hc : d2 = (1 : Int32))).2 ?_
      show Steps p.tables e below (T71.setTop (mkF m 114 #[.val (.int p0), .val (.int p1), .val (.int p2), .val (.int p3), .val (.int p4), .val (.int p5), .val sf, .val sn, .val va, .val ac, .val (.ref b47), .val (.int (1 : Int32)), .val (.int d1), .val (.int d2)] [])) _
      refine XS.iconst X71.here hx rfl (hb hby at_114) ?_
      show Steps p.tables e below (T71.setTop (mkF m 115 #[.val (.int p0), .val (.int p1), .val (.int p2), .val (.int p3), .val (.int p4), .val (.int p5), .val sf, .val sn, .val va, .val ac, .val (.ref b47), .val (.int (1 : Int32)), .val (.int d1), .val (.int d2)] [(.int (1 : Int32))])) _
      refine XS.goto X71.here hx rfl (pc0 := 115) (pc' := 119) rfl (hb hby at_115) (by decide) (by decide) ?_
      exact kt
    obtain ⟨fs, hr, hrun, hended, hend⟩ := Stand.leaveW (s := s) (vm₁ := vmj14) X71 hSj14 (by rw [e71]; exact f62) (v := some (.int (1 : Int32))) (fun h => by rw [Bd.returns] at h; cases h)
    refine ⟨_, _, K73 _ ?_, hrun, hended, _, _, rfl, ?_, own_rew hend (by decide) (by decide)⟩
    · exact retN X71 hx (t := .boolean) Bd.returns (by simp) (hb hby at_119) hr
    · show Qrm0 h0 n0 _ T71.heap _
      rw [e71]
      exact ⟨rfl, N71⟩
  · have K74 : ∀ t, Steps p.tables e below (T59.setTop (mkF m 88 #[.val (.int p0), .val (.int p1), .val (.int p2), .val (.int p3), .val (.int p4), .val (.int p5), .val sf, .val sn, .val va, .val ac, .val (.ref b47), .val (.int (0 : Int32)), .unset, .unset] [(.ref b47)])) t → Steps p.tables e below (s₁.setTop (entryFrame m #[(.int p0), (.int p1), (.int p2), (.int p3), (.int p4), (.int p5)] maxLocals)) t := by
      intro t kt
      refine K66 t ?_
      show Steps p.tables e below (T59.setTop (mkF m 76 #[.val (.int p0), .val (.int p1), .val (.int p2), .val (.int p3), .val (.int p4), .val (.int p5), .val sf, .val sn, .val va, .val ac, .val (.ref b47), .unset, .unset, .unset] [(.int (p0 &&& (3 : Int32)))])) _
      refine XS.ifYes X59.here hx rfl (pc0 := 76) (pc' := 83) rfl (hb hby at_76) rfl ((if0 _ _).trans (feq (hc : ¬ ((p0 &&& (3 : Int32)) = (0 : Int32)))).2) (by decide) (by decide) ?_
      show Steps p.tables e below (T59.setTop (mkF m 83 #[.val (.int p0), .val (.int p1), .val (.int p2), .val (.int p3), .val (.int p4), .val (.int p5), .val sf, .val sn, .val va, .val ac, .val (.ref b47), .unset, .unset, .unset] [])) _
      refine XS.iconst X59.here hx rfl (hb hby at_83) ?_
      show Steps p.tables e below (T59.setTop (mkF m 84 #[.val (.int p0), .val (.int p1), .val (.int p2), .val (.int p3), .val (.int p4), .val (.int p5), .val sf, .val sn, .val va, .val ac, .val (.ref b47), .unset, .unset, .unset] [(.int (0 : Int32))])) _
      refine XS.istore X59.here hx rfl (hb hby at_84) rfl (l' := #[.val (.int p0), .val (.int p1), .val (.int p2), .val (.int p3), .val (.int p4), .val (.int p5), .val sf, .val sn, .val va, .val ac, .val (.ref b47), .val (.int (0 : Int32)), .unset, .unset]) rfl ?_
      show Steps p.tables e below (T59.setTop (mkF m 86 #[.val (.int p0), .val (.int p1), .val (.int p2), .val (.int p3), .val (.int p4), .val (.int p5), .val sf, .val sn, .val va, .val ac, .val (.ref b47), .val (.int (0 : Int32)), .unset, .unset] [])) _
      refine XS.aload X59.here hx rfl (hb hby at_86) rfl rfl ?_
      exact kt
    obtain ⟨cq75, kq75, q75a, q75b, q75c⟩ := isOf hZj14 rfl f64
    obtain ⟨_, _, ⟨T75, L75, k75, n75⟩, -, X75, ⟨Lc75, hQ75, l75, y75, z75⟩, st75⟩ := X59.virtualBack hx (y := (⟨"com/example/ageline/ageline/policy/RetentionTag", "isDefault", "()Z"⟩ : MethodName)) (z := (⟨"com/example/ageline/ageline/policy/RetentionTag", "isDefault", "()Z"⟩ : MethodName)) hownj14 (mvT hZj14 (hw _ (List.mem_of_getElem? (i := 55) rfl))) (mvT hZj14 (hw _ (List.mem_of_getElem? (i := 56) rfl))) (notFace_of_selects (args := #[]) (mvT hZj14 (hw _ (List.mem_of_getElem? (i := 58) rfl)))) (mvT hZj14 (hw _ (List.mem_of_getElem? (i := 58) rfl))) (mvT hZj14 (hw _ (List.mem_of_getElem? (i := 57) rfl))) (by decide) (backOf (W := 0) (rm10 l Z a0 hw [] b47 sf T59.heap n0 f60 rsf FF59) hZj14 (hw _ (List.mem_of_getElem? (i := 59) rfl)) (hw _ (List.mem_of_getElem? (i := 42) rfl)) (by decide) (by decide)) q75a q75c (g := (mkF m 88 #[.val (.int p0), .val (.int p1), .val (.int p2), .val (.int p3), .val (.int p4), .val (.int p5), .val sf, .val sn, .val va, .val ac, .val (.ref b47), .val (.int (0 : Int32)), .unset, .unset] [(.ref b47)])) rfl (by rw [hml]; rfl) (Steps.refl _) (argsL := []) (rest := []) (lenOf pd_6 rfl) rfl (by show 2 * 0 + _ ≤ _; exact Nat.le_of_eq rfl) (hb hby at_88) (fun _ _ => ⟨rfl, rfl, (by decide : 8 + 0 ≤ _), (by decide : 21 + 0 ≤ _)⟩)
    dsimp only [Pt.U, Pt.locs, Pt.cells, Pt.slots] at X75 l75 y75 z75 st75 hQ75
    subst l75 y75 z75
    obtain ⟨d1, rfl, hd1, Nq75, e75⟩ := hQ75
    have N75 := Fr.app N59 Nq75
    have K76 : ∀ t, Steps p.tables e below (T75.setTop (mkF m 91 #[.val (.int p0), .val (.int p1), .val (.int p2), .val (.int p3), .val (.int p4), .val (.int p5), .val sf, .val sn, .val va, .val ac, .val (.ref b47), .val (.int (0 : Int32)), .unset, .unset] [(.int d1)])) t → Steps p.tables e below (s₁.setTop (entryFrame m #[(.int p0), (.int p1), (.int p2), (.int p3), (.int p4), (.int p5)] maxLocals)) t := fun t kt => K74 t (st75.trans kt)
    have K77 : ∀ t, Steps p.tables e below (T75.setTop (mkF m 95 #[.val (.int p0), .val (.int p1), .val (.int p2), .val (.int p3), .val (.int p4), .val (.int p5), .val sf, .val sn, .val va, .val ac, .val (.ref b47), .val (.int (0 : Int32)), .val (.int d1), .unset] [(.ref b47)])) t → Steps p.tables e below (s₁.setTop (entryFrame m #[(.int p0), (.int p1), (.int p2), (.int p3), (.int p4), (.int p5)] maxLocals)) t := by
      intro t kt
      refine K76 t ?_
      show Steps p.tables e below (T75.setTop (mkF m 91 #[.val (.int p0), .val (.int p1), .val (.int p2), .val (.int p3), .val (.int p4), .val (.int p5), .val sf, .val sn, .val va, .val ac, .val (.ref b47), .val (.int (0 : Int32)), .unset, .unset] [(.int d1)])) _
      refine XS.istore X75.here hx rfl (hb hby at_91) rfl (l' := #[.val (.int p0), .val (.int p1), .val (.int p2), .val (.int p3), .val (.int p4), .val (.int p5), .val sf, .val sn, .val va, .val ac, .val (.ref b47), .val (.int (0 : Int32)), .val (.int d1), .unset]) rfl ?_
      show Steps p.tables e below (T75.setTop (mkF m 93 #[.val (.int p0), .val (.int p1), .val (.int p2), .val (.int p3), .val (.int p4), .val (.int p5), .val sf, .val sn, .val va, .val ac, .val (.ref b47), .val (.int (0 : Int32)), .val (.int d1), .unset] [])) _
      refine XS.aload X75.here hx rfl (hb hby at_93) rfl rfl ?_
      exact kt
    obtain ⟨cq78, kq78, q78a, q78b, q78c⟩ := isOf hZj14 e75 f64
    obtain ⟨_, _, ⟨T78, L78, k78, n78⟩, -, X78, ⟨Lc78, hQ78, l78, y78, z78⟩, st78⟩ := X75.virtualBack hx (y := (⟨"com/example/ageline/ageline/policy/RetentionTag", "isDefault", "()Z"⟩ : MethodName)) (z := (⟨"com/example/ageline/ageline/policy/RetentionTag", "isDefault", "()Z"⟩ : MethodName)) hownj14 (mvT hZj14 (hw _ (List.mem_of_getElem? (i := 55) rfl))) (mvT hZj14 (hw _ (List.mem_of_getElem? (i := 56) rfl))) (notFace_of_selects (args := #[]) (mvT hZj14 (hw _ (List.mem_of_getElem? (i := 58) rfl)))) (mvT hZj14 (hw _ (List.mem_of_getElem? (i := 58) rfl))) (mvT hZj14 (hw _ (List.mem_of_getElem? (i := 57) rfl))) (by decide) (backOf (W := 0) (rm10 l Z a0 hw [] b47 sf T59.heap n0 f60 rsf FF59) hZj14 (hw _ (List.mem_of_getElem? (i := 59) rfl)) (hw _ (List.mem_of_getElem? (i := 42) rfl)) (by decide) (by decide)) q78a q78c (g := (mkF m 95 #[.val (.int p0), .val (.int p1), .val (.int p2), .val (.int p3), .val (.int p4), .val (.int p5), .val sf, .val sn, .val va, .val ac, .val (.ref b47), .val (.int (0 : Int32)), .val (.int d1), .unset] [(.ref b47)])) rfl (by rw [hml]; rfl) (Steps.refl _) (argsL := []) (rest := []) (lenOf pd_6 rfl) rfl (by show 2 * 0 + _ ≤ _; exact Nat.le_of_eq rfl) (hb hby at_95) (fun _ _ => ⟨rfl, e75, (by decide : 8 + 0 ≤ _), (by decide : 21 + 0 ≤ _)⟩)
    dsimp only [Pt.U, Pt.locs, Pt.cells, Pt.slots] at X78 l78 y78 z78 st78 hQ78
    subst l78 y78 z78
    obtain ⟨d2, rfl, hd2, Nq78, e78⟩ := hQ78
    have N78 := Fr.app N75 Nq78
    have K79 : ∀ t, Steps p.tables e below (T78.setTop (mkF m 98 #[.val (.int p0), .val (.int p1), .val (.int p2), .val (.int p3), .val (.int p4), .val (.int p5), .val sf, .val sn, .val va, .val ac, .val (.ref b47), .val (.int (0 : Int32)), .val (.int d1), .unset] [(.int d2)])) t → Steps p.tables e below (s₁.setTop (entryFrame m #[(.int p0), (.int p1), (.int p2), (.int p3), (.int p4), (.int p5)] maxLocals)) t := fun t kt => K77 t (st78.trans kt)
    have K80 : ∀ t, Steps p.tables e below (T78.setTop (mkF m 119 #[.val (.int p0), .val (.int p1), .val (.int p2), .val (.int p3), .val (.int p4), .val (.int p5), .val sf, .val sn, .val va, .val ac, .val (.ref b47), .val (.int (0 : Int32)), .val (.int d1), .val (.int d2)] [(.int (1 : Int32))])) t → Steps p.tables e below (s₁.setTop (entryFrame m #[(.int p0), (.int p1), (.int p2), (.int p3), (.int p4), (.int p5)] maxLocals)) t := by
      intro t kt
      refine K79 t ?_
      show Steps p.tables e below (T78.setTop (mkF m 98 #[.val (.int p0), .val (.int p1), .val (.int p2), .val (.int p3), .val (.int p4), .val (.int p5), .val sf, .val sn, .val va, .val ac, .val (.ref b47), .val (.int (0 : Int32)), .val (.int d1), .unset] [(.int d2)])) _
      refine XS.istore X78.here hx rfl (hb hby at_98) rfl (l' := #[.val (.int p0), .val (.int p1), .val (.int p2), .val (.int p3), .val (.int p4), .val (.int p5), .val sf, .val sn, .val va, .val ac, .val (.ref b47), .val (.int (0 : Int32)), .val (.int d1), .val (.int d2)]) rfl ?_
      show Steps p.tables e below (T78.setTop (mkF m 100 #[.val (.int p0), .val (.int p1), .val (.int p2), .val (.int p3), .val (.int p4), .val (.int p5), .val sf, .val sn, .val va, .val ac, .val (.ref b47), .val (.int (0 : Int32)), .val (.int d1), .val (.int d2)] [])) _
      refine XS.iload X78.here hx rfl (hb hby at_100) rfl ?_
      show Steps p.tables e below (T78.setTop (mkF m 102 #[.val (.int p0), .val (.int p1), .val (.int p2), .val (.int p3), .val (.int p4), .val (.int p5), .val sf, .val sn, .val va, .val ac, .val (.ref b47), .val (.int (0 : Int32)), .val (.int d1), .val (.int d2)] [(.int d1)])) _
      refine XS.iload X78.here hx rfl (hb hby at_102) rfl ?_
      show Steps p.tables e below (T78.setTop (mkF m 104 #[.val (.int p0), .val (.int p1), .val (.int p2), .val (.int p3), .val (.int p4), .val (.int p5), .val sf, .val sn, .val va, .val ac, .val (.ref b47), .val (.int (0 : Int32)), .val (.int d1), .val (.int d2)] [(.int (0 : Int32)), (.int d1)])) _
      refine XS.icmpNo X78.here hx rfl (hb hby at_104) rfl (teq (own_dz0 hd1 zsf hc : d1 = (0 : Int32))).2 ?_
      show Steps p.tables e below (T78.setTop (mkF m 107 #[.val (.int p0), .val (.int p1), .val (.int p2), .val (.int p3), .val (.int p4), .val (.int p5), .val sf, .val sn, .val va, .val ac, .val (.ref b47), .val (.int (0 : Int32)), .val (.int d1), .val (.int d2)] [])) _
      refine XS.iload X78.here hx rfl (hb hby at_107) rfl ?_
      show Steps p.tables e below (T78.setTop (mkF m 109 #[.val (.int p0), .val (.int p1), .val (.int p2), .val (.int p3), .val (.int p4), .val (.int p5), .val sf, .val sn, .val va, .val ac, .val (.ref b47), .val (.int (0 : Int32)), .val (.int d1), .val (.int d2)] [(.int d2)])) _
      refine XS.iload X78.here hx rfl (hb hby at_109) rfl ?_
      show Steps p.tables e below (T78.setTop (mkF m 111 #[.val (.int p0), .val (.int p1), .val (.int p2), .val (.int p3), .val (.int p4), .val (.int p5), .val sf, .val sn, .val va, .val ac, .val (.ref b47), .val (.int (0 : Int32)), .val (.int d1), .val (.int d2)] [(.int (0 : Int32)), (.int d2)])) _
      refine XS.icmpNo X78.here hx rfl (hb hby at_111) rfl (teq (own_dz0 hd2 zsf hc : d2 = (0 : Int32))).2 ?_
      show Steps p.tables e below (T78.setTop (mkF m 114 #[.val (.int p0), .val (.int p1), .val (.int p2), .val (.int p3), .val (.int p4), .val (.int p5), .val sf, .val sn, .val va, .val ac, .val (.ref b47), .val (.int (0 : Int32)), .val (.int d1), .val (.int d2)] [])) _
      refine XS.iconst X78.here hx rfl (hb hby at_114) ?_
      show Steps p.tables e below (T78.setTop (mkF m 115 #[.val (.int p0), .val (.int p1), .val (.int p2), .val (.int p3), .val (.int p4), .val (.int p5), .val sf, .val sn, .val va, .val ac, .val (.ref b47), .val (.int (0 : Int32)), .val (.int d1), .val (.int d2)] [(.int (1 : Int32))])) _
      refine XS.goto X78.here hx rfl (pc0 := 115) (pc' := 119) rfl (hb hby at_115) (by decide) (by decide) ?_
      exact kt
    obtain ⟨fs, hr, hrun, hended, hend⟩ := Stand.leaveW (s := s) (vm₁ := vmj14) X78 hSj14 (by rw [e78]; exact f62) (v := some (.int (1 : Int32))) (fun h => by rw [Bd.returns] at h; cases h)
    refine ⟨_, _, K80 _ ?_, hrun, hended, _, _, rfl, ?_, own_rew hend (by decide) (by decide)⟩
    · exact retN X78 hx (t := .boolean) Bd.returns (by simp) (hb hby at_119) hr
    · show Qrm0 h0 n0 _ T78.heap _
      rw [e78]
      exact ⟨rfl, N78⟩
set_option maxRecDepth 65536 in
set_option maxHeartbeats 40000000 in
theorem comes_1 {Post : Tables → Env → Array Value → State → Outcome → State → Prop} (hpost : ∀ tb e args s v u, (limb_1_1.after args s (.returned v) u = true ∧ limb_1_2.after args s (.returned v) u = true ∧ True) → ReturnedEndW s (.returned v) u (Jvm.fieldLocs frame_1_writes args s ++ Jvm.arrayLocs frame_1_arrays args s ++ Jvm.staticLocs frame_1_statics s) 32 1152 → Post tb e args s (.returned v) u) :
    ArmFor flags0 classFile x code maxLocals ret World_1 tables_1 room_1 Calls_1 rest_1 Pre_1 Post := by
  intro l hfl _ _ p e ha hc hk s m args below hf hA hF happ hP
  obtain ⟨hcalls, hrest, hpre⟩ := hP
  obtain ⟨-, -, -, hnamed, -, -, -, hat⟩ := (Spec.applies_iff hf).mp happ
  obtain ⟨hg, hn⟩ := and_e (Cond.before_iff.mp (show (Jvm.Cond.and given_1 narrow_1).before args s = true from hpre))
  obtain ⟨g1, g2⟩ := and_e hg
  obtain ⟨g3, g4⟩ := and_e g2
  obtain ⟨g5, g6⟩ := and_e g4
  obtain ⟨g7, g8⟩ := and_e g6
  obtain ⟨g9, g10⟩ := and_e g8
  obtain ⟨g11, g12⟩ := and_e g10
  obtain ⟨w0, w1, w2, w3, w4, w5, rfl⟩ : ∃ w0 w1 w2 w3 w4 w5 : Value, args = #[w0, w1, w2, w3, w4, w5] := by
    have hs : args.size = 6 := by simpa [Cond.value, given_1] using g1
    obtain ⟨L⟩ := args
    match L, hs with
    | [w0, w1, w2, w3, w4, w5], _ => exact ⟨w0, w1, w2, w3, w4, w5, rfl⟩
  have hw := fun d (hd : d ∈ tables_1) => atoms_spec (ws := Jvm.Cond.code x code maxLocals ret :: tables_1) hat d (List.mem_cons_of_mem _ hd)
  obtain ⟨hsets, hown0⟩ := atoms_of _ (rest_1_c_eq ▸ (show rest_1_c.before _ s = true from hrest))
  obtain ⟨i0, ei0⟩ := is_v g3
  obtain rfl : w0 = (.int i0) := Option.some.inj ei0
  obtain ⟨i1, ei1⟩ := is_v g5
  obtain rfl : w1 = (.int i1) := Option.some.inj ei1
  obtain ⟨i2, ei2⟩ := is_v g7
  obtain rfl : w2 = (.int i2) := Option.some.inj ei2
  obtain ⟨i3, ei3⟩ := is_v g9
  obtain rfl : w3 = (.int i3) := Option.some.inj ei3
  obtain ⟨i4, ei4⟩ := is_v g11
  obtain rfl : w4 = (.int i4) := Option.some.inj ei4
  obtain ⟨i5, ei5⟩ := is_v g12
  obtain rfl : w5 = (.int i5) := Option.some.inj ei5
  obtain ⟨G1, eG1⟩ := is_v (Cond.before_iff.mp (hsets _ (List.mem_of_getElem? (i := 1) rfl)))
  have O2 : Sta s s.heap "java/lang/String" "COMPACT_STRINGS" "Z" (.int G1) := Sta.start eG1 (Or.inl (hsets _ (List.mem_of_getElem? (i := 0) rfl)))
  have P5 : ¬ (G1 = (0 : Int32)) := gotF (Cond.eq_ints eG1 (Term.int_eval (0))) (not_v (Cond.before_iff.mp (hsets _ (List.mem_of_getElem? (i := 2) rfl))))
  obtain ⟨n1, n2⟩ := and_e hn
  obtain ⟨n3, n4⟩ := and_e n2
  obtain ⟨n5, n6⟩ := and_e n4
  obtain ⟨a4, ea4⟩ := exa_v n1
  obtain ⟨a3, ea3⟩ := exa_v n3
  obtain ⟨a1, ea1⟩ := exa_v n5
  obtain ⟨a2, ea2⟩ := exa_v n6
  have S4 : Sta s s.heap "com/example/ageline/ageline/policy/RetentionAction" "PURGE" "Lcom/example/ageline/ageline/policy/RetentionAction;" (.ref a4) := Sta.start ea4 (Or.inr ⟨hw _ (List.mem_of_getElem? (i := 38) rfl), hw _ (List.mem_of_getElem? (i := 39) rfl)⟩)
  have S3 : Sta s s.heap "com/example/ageline/ageline/policy/RetentionAction" "MOVE_TO_ARCHIVE" "Lcom/example/ageline/ageline/policy/RetentionAction;" (.ref a3) := Sta.start ea3 (Or.inr ⟨hw _ (List.mem_of_getElem? (i := 38) rfl), hw _ (List.mem_of_getElem? (i := 74) rfl)⟩)
  have S1 : Sta s s.heap "com/example/ageline/ageline/policy/RetentionAction" "DELETE_ALLOW_RECOVERY" "Lcom/example/ageline/ageline/policy/RetentionAction;" (.ref a1) := Sta.start ea1 (Or.inr ⟨hw _ (List.mem_of_getElem? (i := 38) rfl), hw _ (List.mem_of_getElem? (i := 79) rfl)⟩)
  have S2 : Sta s s.heap "com/example/ageline/ageline/policy/RetentionAction" "DELETE_PERMANENTLY" "Lcom/example/ageline/ageline/policy/RetentionAction;" (.ref a2) := Sta.start ea2 (Or.inr ⟨hw _ (List.mem_of_getElem? (i := 38) rfl), hw _ (List.mem_of_getElem? (i := 81) rfl)⟩)
  obtain ⟨n, o, h1, h2, h3, _, L, rfl, ⟨rfl, N⟩, hq⟩ := rm0 l s _ hw tables_1 i0 i1 i2 i3 i4 i5 G1 a1 a2 a3 a4 s.heap s.heap.size (Nat.le_refl _) O2 P5 (Old.start s) S1 S2 S3 S4 p e ha hc hk s m _ below hf ((Spec.applies_iff_loose hf).mp happ).1 ⟨rfl, State.Warmed39.refl s, rfl⟩ trivial
  refine ⟨n, _, h1, h2, h3, hpost _ _ _ _ _ _ ⟨Cond.after_iff.mpr rfl, Cond.after_iff.mpr (eq_i res_at (Term.int_eval (1)) rfl), trivial⟩ ⟨hq.1, hq.2.1, hq.2.2.1, (hq.2.2.2.sift fun y hy => Or.inr (N y hy)).mono (by decide) (by decide)⟩⟩
theorem main_1_1 : Claimed_1_1 := comes_1 fun _ _ _ _ _ _ h hF => ⟨h.1, hF⟩
theorem main_1_2 : Claimed_1_2 := comes_1 fun _ _ _ _ _ _ h hF => ⟨h.2.1, hF⟩

end Jvm.Pilot.@@N@@
namespace Jvm.Pilot.@@N@@
open Jvm Jvm.ClassFile Sem Op Lib Jvm.Free Jvm.Stand Jvm.Pilot.@@N@@.Jvm.D
/-! MADE BY PROGRAM (witnessworld.py) out of the Statement's table words and the real class files: 24 classes; the members and pool entries that the words name. The judged class is class 1, her method 3. -/
namespace start1
open Jvm.ClassFile
def u (s : String) : CpInfo := .utf8 (stringToUtf16 s)
/-- a pool by its gaps: so many unusable entries, then the entry; so many at the end -/
def gap : Nat → List CpInfo → List CpInfo
  | 0, r => r
  | n + 1, r => .unusable :: gap n r
def poolList (es : List (Nat × CpInfo)) (last : Nat) : List CpInfo := es.foldr (fun e r => gap e.1 (e.2 :: r)) (gap last [])
def pool (es : List (Nat × CpInfo)) (last : Nat) : Array CpInfo := ⟨poolList es last⟩
def fileOf (pool : Array CpInfo) (this : Nat) (attrs : Array Attribute := #[]) (ms : Array MethodInfo := #[]) (fl : Nat := 33) (sup : Nat := 0) (ifs : Array Nat := #[]) (fds : Array FieldInfo := #[]) : ClassFile where
  minorVersion := 0
  majorVersion := 65
  constantPool := pool
  accessFlags := fl
  thisClass := this
  superClass := sup
  interfaces := ifs
  fields := fds
  methods := ms
  attributes := attrs
def plain (name : String) (sup : Option ClassId) : Class where
  name := name
  kind := .ordinary
  loader := none
  accessFlags := 33
  super := sup
  interfaces := #[]
  cf := none
  fields := #[]
  methods := #[]
  instanceTypes := #[]
  staticTypes := #[]
  resolved := #[]
  callSites := []
  init := .initialized
  statics := none
  mirror := none

def pool0 : Array CpInfo := pool [(5, u "<init>"), (0, u "()V"), (1, .class_ 10), (1, u "java/lang/Object")] 113

def k0c0 : Code := { maxStack := 0, maxLocals := 1, code := object_method_1_code, exceptionTable := #[], attributes := #[] }
def k0m0 : Method := { name := "<init>", desc := "()V", sig := { parameters := [], returnType := none }, accessFlags := 1, code := some k0c0 }
/-- java/lang/Object -/
def k0 : Class := { plain "java/lang/Object" none with
  accessFlags := 33
  interfaces := #[]
  cf := some (fileOf pool0 8 #[] #[{ accessFlags := 1, nameIndex := 5, descriptorIndex := 6, attributes := #[] }] 33 0 #[] #[])
  fields := #[]
  methods := #[k0m0]
  instanceTypes := #[]
  staticTypes := #[]
  resolved := Array.replicate 124 none
  statics := none }

def pool1 : Array CpInfo := pool [(2, .class_ 4), (1, u "java/lang/Object"), (0, u "<init>"), (0, u "()V"), (0, .string 8), (0, u ""), (0, .class_ 10), (0, u "java/lang/String"), (0, .methodref 9 12), (0, .nameAndType 5 13), (0, u "([C)V"), (0, .fieldref 15 16), (0, .class_ 17), (0, .nameAndType 18 19), (0, u "com/example/ageline/ageline/policy/RetentionAction"), (0, u "DELETE_ALLOW_RECOVERY"), (0, u "Lcom/example/ageline/ageline/policy/RetentionAction;"), (0, .fieldref 15 21), (0, .nameAndType 22 19), (0, u "DELETE_PERMANENTLY"), (0, .fieldref 15 24), (0, .nameAndType 25 19), (0, u "MOVE_TO_ARCHIVE"), (0, .fieldref 15 27), (0, .nameAndType 28 19), (0, u "PURGE"), (0, .methodref 30 31), (0, .class_ 32), (0, .nameAndType 33 34), (0, u "com/example/ageline/ageline/policy/RetentionTagIsDefaultPinLaw"), (0, u "drawn"), (0, u "(III)Ljava/lang/String;"), (0, .class_ 36), (0, u "com/example/ageline/ageline/Age"), (0, .methodref 38 39), (0, .class_ 40), (0, .nameAndType 41 42), (0, u "java/lang/Math"), (0, u "max"), (0, u "(II)I"), (0, .methodref 35 44), (0, .nameAndType 5 45), (0, u "(I)V"), (0, .methodref 30 47), (0, .nameAndType 48 49), (0, u "action"), (0, u "(I)Lcom/example/ageline/ageline/policy/RetentionAction;"), (0, .class_ 51), (0, u "com/example/ageline/ageline/policy/RetentionTag"), (0, .methodref 50 53), (0, .nameAndType 5 54), (0, u "(Ljava/lang/String;Lcom/example/ageline/ageline/Age;Lcom/example/ageline/ageline/policy/RetentionAction;Ljava/lang/String;)V"), (0, .methodref 50 56), (0, .nameAndType 57 58), (0, u "isDefault"), (0, u "()Z"), (3, u "law"), (0, u "(IIIIII)Z")] 2

def k1m0 : Method := { name := "<init>", desc := "()V", sig := { parameters := [], returnType := none }, accessFlags := 1, code := none }
def k1c1 : Code := { maxStack := 4, maxLocals := 5, code := method_2_code, exceptionTable := #[], attributes := #[] }
def k1m1 : Method := { name := "drawn", desc := "(III)Ljava/lang/String;", sig := { parameters := [.int, .int, .int], returnType := some (.object "java/lang/String") }, accessFlags := 10, code := some k1c1 }
def k1c2 : Code := { maxStack := 2, maxLocals := 2, code := method_3_code, exceptionTable := #[], attributes := #[] }
def k1m2 : Method := { name := "action", desc := "(I)Lcom/example/ageline/ageline/policy/RetentionAction;", sig := { parameters := [.int], returnType := some (.object "com/example/ageline/ageline/policy/RetentionAction") }, accessFlags := 10, code := some k1c2 }
def k1c3 : Code := { maxStack := 6, maxLocals := 14, code := code, exceptionTable := #[], attributes := #[] }
def k1m3 : Method := { name := "law", desc := "(IIIIII)Z", sig := { parameters := [.int, .int, .int, .int, .int, .int], returnType := some .boolean }, accessFlags := 9, code := some k1c3 }
/-- com/example/ageline/ageline/policy/RetentionTagIsDefaultPinLaw -/
def k1 : Class := { plain "com/example/ageline/ageline/policy/RetentionTagIsDefaultPinLaw" (some 0) with
  accessFlags := 49
  interfaces := #[]
  cf := some (fileOf pool1 30 #[] #[{ accessFlags := 1, nameIndex := 5, descriptorIndex := 6, attributes := #[] }, { accessFlags := 10, nameIndex := 33, descriptorIndex := 34, attributes := #[] }, { accessFlags := 10, nameIndex := 48, descriptorIndex := 49, attributes := #[] }, { accessFlags := 9, nameIndex := 62, descriptorIndex := 63, attributes := #[] }] 49 2 #[] #[])
  fields := #[]
  methods := #[k1m0, k1m1, k1m2, k1m3]
  instanceTypes := #[]
  staticTypes := #[]
  resolved := Array.replicate 66 none
  statics := none }

def pool2 : Array CpInfo := pool [(1, .class_ 2), (0, u "java/io/Serializable"), (0, .class_ 4), (0, u "java/lang/Object")] 2

/-- java/io/Serializable -/
def k2 : Class := { plain "java/io/Serializable" (some 0) with
  accessFlags := 1537
  interfaces := #[]
  cf := some (fileOf pool2 1 #[] #[] 1537 3 #[] #[])
  fields := #[]
  methods := #[]
  instanceTypes := #[]
  staticTypes := #[]
  resolved := Array.replicate 7 none
  statics := none }

def pool3 : Array CpInfo := pool [(1, .class_ 2), (0, u "java/lang/Comparable"), (0, .class_ 4), (0, u "java/lang/Object")] 7

/-- java/lang/Comparable -/
def k3 : Class := { plain "java/lang/Comparable" (some 0) with
  accessFlags := 1537
  interfaces := #[]
  cf := some (fileOf pool3 1 #[] #[] 1537 3 #[] #[])
  fields := #[]
  methods := #[]
  instanceTypes := #[]
  staticTypes := #[]
  resolved := Array.replicate 12 none
  statics := none }

def pool4 : Array CpInfo := pool [(2, .class_ 4), (1, u "java/lang/CharSequence"), (42, .class_ 48), (0, u "java/lang/CharSequence$1CodePointIterator"), (10, .class_ 60), (0, u "java/lang/CharSequence$1CharIterator"), (5, .class_ 67), (0, u "java/lang/Object")] 63

/-- java/lang/CharSequence -/
def k4 : Class := { plain "java/lang/CharSequence" (some 0) with
  accessFlags := 1537
  interfaces := #[]
  cf := some (fileOf pool4 2 #[.nestMembers #[47, 59]] #[] 1537 66 #[] #[])
  fields := #[]
  methods := #[]
  instanceTypes := #[]
  staticTypes := #[]
  resolved := Array.replicate 131 none
  statics := none }

def pool5 : Array CpInfo := pool [(1, .class_ 2), (0, u "java/lang/constant/Constable"), (0, .class_ 4), (0, u "java/lang/Object")] 6

/-- java/lang/constant/Constable -/
def k5 : Class := { plain "java/lang/constant/Constable" (some 0) with
  accessFlags := 1537
  interfaces := #[]
  cf := some (fileOf pool5 1 #[] #[] 1537 3 #[] #[])
  fields := #[]
  methods := #[]
  instanceTypes := #[]
  staticTypes := #[]
  resolved := Array.replicate 11 none
  statics := none }

def pool6 : Array CpInfo := pool [(1, .class_ 2), (0, u "java/lang/constant/ConstantDesc"), (0, .class_ 4), (0, u "java/lang/Object")] 32

/-- java/lang/constant/ConstantDesc -/
def k6 : Class := { plain "java/lang/constant/ConstantDesc" (some 0) with
  accessFlags := 1537
  interfaces := #[]
  cf := some (fileOf pool6 1 #[] #[] 1537 3 #[] #[])
  fields := #[]
  methods := #[]
  instanceTypes := #[]
  staticTypes := #[]
  resolved := Array.replicate 37 none
  statics := none }

def pool7 : Array CpInfo := pool [(1, .methodref 2 3), (0, .class_ 4), (0, .nameAndType 5 6), (0, u "java/lang/Object"), (0, u "<init>"), (0, u "()V"), (2, .fieldref 10 11), (0, .class_ 12), (0, .nameAndType 13 14), (0, u "java/lang/String"), (0, u "value"), (0, u "[B"), (0, .fieldref 10 16), (0, .nameAndType 17 18), (0, u "coder"), (0, u "B"), (2, u "hash"), (0, u "I"), (2, u "hashIsZero"), (0, u "Z"), (0, .methodref 10 28), (0, .nameAndType 5 29), (0, u "([CIILjava/lang/Void;)V"), (8, .fieldref 10 39), (0, .nameAndType 40 26), (0, u "COMPACT_STRINGS"), (1, .class_ 44), (1, u "java/lang/StringUTF16"), (0, u "compress"), (1, .methodref 42 48), (0, .nameAndType 49 50), (0, u "coderFromArrayLen"), (0, u "([BI)B"), (126, .methodref 42 178), (0, .nameAndType 45 179), (0, u "([CII)[B"), (395, .class_ 576), (0, u "java/lang/CharSequence"), (22, u "CASE_INSENSITIVE_ORDER"), (0, u "Ljava/util/Comparator;"), (409, u "([C)V"), (90, u "serialPersistentFields"), (0, u "[Ljava/io/ObjectStreamField;"), (0, .class_ 1104), (0, u "java/lang/String$CaseInsensitiveComparator"), (1, .class_ 1107), (0, u "java/io/Serializable"), (0, .class_ 1109), (0, u "java/lang/Comparable"), (0, .class_ 1111), (0, u "java/lang/constant/Constable"), (0, .class_ 1113), (0, u "java/lang/constant/ConstantDesc"), (2, u "serialVersionUID"), (0, u "J"), (3, u "REPL"), (0, u "C"), (2, u "LATIN1"), (1, u "UTF16")] 323

def k7m0 : Method := { name := "<init>", desc := "()V", sig := { parameters := [], returnType := none }, accessFlags := 1, code := none }
def k7c1 : Code := { maxStack := 5, maxLocals := 2, code := jdk_42_method_3_code, exceptionTable := #[], attributes := #[] }
def k7m1 : Method := { name := "<init>", desc := "([C)V", sig := { parameters := [(.array .char)], returnType := none }, accessFlags := 1, code := some k7c1 }
def k7c2 : Code := { maxStack := 4, maxLocals := 6, code := jdk_42_method_149_code, exceptionTable := #[], attributes := #[] }
def k7m2 : Method := { name := "<init>", desc := "([CIILjava/lang/Void;)V", sig := { parameters := [(.array .char), .int, .int, (.object "java/lang/Void")], returnType := none }, accessFlags := 2, code := some k7c2 }
/-- java/lang/String -/
def k7 : Class := { plain "java/lang/String" (some 0) with
  accessFlags := 49
  interfaces := #[2, 3, 4, 5, 6]
  cf := some (fileOf pool7 10 #[.nestMembers #[1103]] #[{ accessFlags := 1, nameIndex := 5, descriptorIndex := 6, attributes := #[] }, { accessFlags := 1, nameIndex := 5, descriptorIndex := 1010, attributes := #[] }, { accessFlags := 2, nameIndex := 5, descriptorIndex := 29, attributes := #[] }] 49 2 #[1106, 1108, 575, 1110, 1112] #[{ accessFlags := 18, nameIndex := 13, descriptorIndex := 14, attributes := #[] }, { accessFlags := 18, nameIndex := 17, descriptorIndex := 18, attributes := #[] }, { accessFlags := 2, nameIndex := 21, descriptorIndex := 22, attributes := #[] }, { accessFlags := 2, nameIndex := 25, descriptorIndex := 26, attributes := #[] }, { accessFlags := 26, nameIndex := 1116, descriptorIndex := 1117, attributes := #[] }, { accessFlags := 24, nameIndex := 40, descriptorIndex := 26, attributes := #[] }, { accessFlags := 26, nameIndex := 1101, descriptorIndex := 1102, attributes := #[] }, { accessFlags := 26, nameIndex := 1121, descriptorIndex := 1122, attributes := #[] }, { accessFlags := 25, nameIndex := 599, descriptorIndex := 600, attributes := #[] }, { accessFlags := 24, nameIndex := 1125, descriptorIndex := 18, attributes := #[] }, { accessFlags := 24, nameIndex := 1127, descriptorIndex := 18, attributes := #[] }])
  fields := #[{ name := "value", type := (.array .byte), accessFlags := 18, slot := 0, constantValue := 0 }, { name := "coder", type := .byte, accessFlags := 18, slot := 1, constantValue := 0 }, { name := "hash", type := .int, accessFlags := 2, slot := 2, constantValue := 0 }, { name := "hashIsZero", type := .boolean, accessFlags := 2, slot := 3, constantValue := 0 }, { name := "serialVersionUID", type := .long, accessFlags := 26, slot := 0, constantValue := 0 }, { name := "COMPACT_STRINGS", type := .boolean, accessFlags := 24, slot := 1, constantValue := 0 }, { name := "serialPersistentFields", type := (.array (.object "java/io/ObjectStreamField")), accessFlags := 26, slot := 2, constantValue := 0 }, { name := "REPL", type := .char, accessFlags := 26, slot := 3, constantValue := 0 }, { name := "CASE_INSENSITIVE_ORDER", type := (.object "java/util/Comparator"), accessFlags := 25, slot := 4, constantValue := 0 }, { name := "LATIN1", type := .byte, accessFlags := 24, slot := 5, constantValue := 0 }, { name := "UTF16", type := .byte, accessFlags := 24, slot := 6, constantValue := 0 }]
  methods := #[k7m0, k7m1, k7m2]
  instanceTypes := #[(.array .byte), .byte, .int, .boolean]
  staticTypes := #[.long, .boolean, (.array (.object "java/io/ObjectStreamField")), .char, (.object "java/util/Comparator"), .byte, .byte]
  resolved := Array.replicate 1451 none
  statics := some 0 }

def pool8 : Array CpInfo := pool [(6, .class_ 8), (1, u "java/lang/Object"), (0, u "<init>"), (0, u "()V"), (1, .class_ 14), (1, u "java/lang/StringUTF16"), (31, u "$assertionsDisabled"), (0, u "Z"), (13, u "HI_BYTE_SHIFT"), (0, u "I"), (2, u "LO_BYTE_SHIFT"), (49, .methodref 12 116), (0, .nameAndType 117 118), (0, u "compress"), (0, u "([CI[BII)I"), (3, u "([CII)[B"), (138, u "coderFromArrayLen"), (0, u "([BI)B"), (106, .class_ 371), (1, u "java/lang/StringUTF16$LinesSpliterator"), (58, u "MAX_LENGTH"), (196, .class_ 628), (0, u "java/lang/StringUTF16$CodePointsSpliterator"), (0, .class_ 630), (0, u "java/lang/StringUTF16$CharsSpliterator")] 4

def k8m0 : Method := { name := "<init>", desc := "()V", sig := { parameters := [], returnType := none }, accessFlags := 0, code := none }
def k8c1 : Code := { maxStack := 2, maxLocals := 2, code := jdk_52_method_15_code, exceptionTable := #[], attributes := #[] }
def k8m1 : Method := { name := "coderFromArrayLen", desc := "([BI)B", sig := { parameters := [(.array .byte), .int], returnType := some .byte }, accessFlags := 8, code := some k8c1 }
def k8c2 : Code := { maxStack := 5, maxLocals := 6, code := jdk_52_method_16_code, exceptionTable := #[], attributes := #[] }
def k8m2 : Method := { name := "compress", desc := "([CII)[B", sig := { parameters := [(.array .char), .int, .int], returnType := some (.array .byte) }, accessFlags := 9, code := some k8c2 }
def k8c3 : Code := { maxStack := 3, maxLocals := 7, code := jdk_52_method_21_code, exceptionTable := #[], attributes := #[] }
def k8m3 : Method := { name := "compress", desc := "([CI[BII)I", sig := { parameters := [(.array .char), .int, (.array .byte), .int, .int], returnType := some .int }, accessFlags := 9, code := some k8c3 }
/-- java/lang/StringUTF16 -/
def k8 : Class := { plain "java/lang/StringUTF16" (some 0) with
  accessFlags := 48
  interfaces := #[]
  cf := some (fileOf pool8 12 #[.nestMembers #[627, 629, 369]] #[{ accessFlags := 0, nameIndex := 9, descriptorIndex := 10, attributes := #[] }, { accessFlags := 8, nameIndex := 261, descriptorIndex := 262, attributes := #[] }, { accessFlags := 9, nameIndex := 117, descriptorIndex := 122, attributes := #[] }, { accessFlags := 9, nameIndex := 117, descriptorIndex := 118, attributes := #[] }] 48 6 #[] #[{ accessFlags := 26, nameIndex := 61, descriptorIndex := 62, attributes := #[] }, { accessFlags := 26, nameIndex := 65, descriptorIndex := 62, attributes := #[] }, { accessFlags := 24, nameIndex := 430, descriptorIndex := 62, attributes := #[] }, { accessFlags := 4120, nameIndex := 46, descriptorIndex := 47, attributes := #[] }])
  fields := #[{ name := "HI_BYTE_SHIFT", type := .int, accessFlags := 26, slot := 0, constantValue := 0 }, { name := "LO_BYTE_SHIFT", type := .int, accessFlags := 26, slot := 1, constantValue := 0 }, { name := "MAX_LENGTH", type := .int, accessFlags := 24, slot := 2, constantValue := 0 }, { name := "$assertionsDisabled", type := .boolean, accessFlags := 4120, slot := 3, constantValue := 0 }]
  methods := #[k8m0, k8m1, k8m2, k8m3]
  instanceTypes := #[]
  staticTypes := #[.int, .int, .int, .boolean]
  resolved := Array.replicate 635 none
  statics := none }

def pool9 : Array CpInfo := pool [(2, .class_ 4), (1, u "java/lang/Enum"), (0, u "name"), (0, u "Ljava/lang/String;"), (2, u "ordinal"), (0, u "I"), (1, .class_ 14), (1, u "java/lang/Object"), (4, u "hash"), (86, .class_ 108), (1, u "java/lang/Enum$EnumDesc"), (2, .class_ 112), (0, u "java/lang/constant/Constable"), (0, .class_ 114), (0, u "java/lang/Comparable"), (0, .class_ 116), (0, u "java/io/Serializable")] 87

/-- java/lang/Enum -/
def k9 : Class := { plain "java/lang/Enum" (some 0) with
  accessFlags := 1057
  interfaces := #[5, 3, 2]
  cf := some (fileOf pool9 2 #[.nestMembers #[106]] #[] 1057 12 #[111, 113, 115] #[{ accessFlags := 18, nameIndex := 5, descriptorIndex := 6, attributes := #[] }, { accessFlags := 18, nameIndex := 9, descriptorIndex := 10, attributes := #[] }, { accessFlags := 2, nameIndex := 19, descriptorIndex := 10, attributes := #[] }])
  fields := #[{ name := "name", type := (.object "java/lang/String"), accessFlags := 18, slot := 0, constantValue := 0 }, { name := "ordinal", type := .int, accessFlags := 18, slot := 1, constantValue := 0 }, { name := "hash", type := .int, accessFlags := 2, slot := 2, constantValue := 0 }]
  methods := #[]
  instanceTypes := #[(.object "java/lang/String"), .int, .int]
  staticTypes := #[]
  resolved := Array.replicate 204 none
  statics := none }

def pool10 : Array CpInfo := pool [(1, .class_ 2), (0, u "com/example/ageline/ageline/policy/RetentionAction"), (2, u "DELETE_ALLOW_RECOVERY"), (0, u "Lcom/example/ageline/ageline/policy/RetentionAction;"), (2, u "DELETE_PERMANENTLY"), (2, u "MOVE_TO_ARCHIVE"), (2, u "PURGE"), (2, u "$VALUES"), (0, u "[Lcom/example/ageline/ageline/policy/RetentionAction;"), (6, .class_ 28), (1, u "java/lang/Enum"), (8, u "word"), (0, u "Ljava/lang/String;"), (2, u "isTagAction"), (0, u "Z")] 55

/-- com/example/ageline/ageline/policy/RetentionAction -/
def k10 : Class := { plain "com/example/ageline/ageline/policy/RetentionAction" (some 9) with
  accessFlags := 16433
  interfaces := #[]
  cf := some (fileOf pool10 1 #[] #[] 16433 26 #[] #[{ accessFlags := 16409, nameIndex := 5, descriptorIndex := 6, attributes := #[] }, { accessFlags := 16409, nameIndex := 9, descriptorIndex := 6, attributes := #[] }, { accessFlags := 16409, nameIndex := 12, descriptorIndex := 6, attributes := #[] }, { accessFlags := 16409, nameIndex := 15, descriptorIndex := 6, attributes := #[] }, { accessFlags := 18, nameIndex := 37, descriptorIndex := 38, attributes := #[] }, { accessFlags := 18, nameIndex := 41, descriptorIndex := 42, attributes := #[] }, { accessFlags := 4122, nameIndex := 18, descriptorIndex := 19, attributes := #[] }])
  fields := #[{ name := "DELETE_ALLOW_RECOVERY", type := (.object "com/example/ageline/ageline/policy/RetentionAction"), accessFlags := 16409, slot := 0, constantValue := 0 }, { name := "DELETE_PERMANENTLY", type := (.object "com/example/ageline/ageline/policy/RetentionAction"), accessFlags := 16409, slot := 1, constantValue := 0 }, { name := "MOVE_TO_ARCHIVE", type := (.object "com/example/ageline/ageline/policy/RetentionAction"), accessFlags := 16409, slot := 2, constantValue := 0 }, { name := "PURGE", type := (.object "com/example/ageline/ageline/policy/RetentionAction"), accessFlags := 16409, slot := 3, constantValue := 0 }, { name := "word", type := (.object "java/lang/String"), accessFlags := 18, slot := 3, constantValue := 0 }, { name := "isTagAction", type := .boolean, accessFlags := 18, slot := 4, constantValue := 0 }, { name := "$VALUES", type := (.array (.object "com/example/ageline/ageline/policy/RetentionAction")), accessFlags := 4122, slot := 4, constantValue := 0 }]
  methods := #[]
  instanceTypes := #[(.object "java/lang/String"), .int, .int, (.object "java/lang/String"), .boolean]
  staticTypes := #[(.object "com/example/ageline/ageline/policy/RetentionAction"), (.object "com/example/ageline/ageline/policy/RetentionAction"), (.object "com/example/ageline/ageline/policy/RetentionAction"), (.object "com/example/ageline/ageline/policy/RetentionAction"), (.array (.object "com/example/ageline/ageline/policy/RetentionAction"))]
  resolved := Array.replicate 98 none
  statics := some 1 }

def pool11 : Array CpInfo := pool [(1, .methodref 2 3), (0, .class_ 4), (0, .nameAndType 5 6), (0, u "java/lang/Object"), (0, u "<init>"), (0, u "()V"), (0, .fieldref 8 9), (0, .class_ 10), (0, .nameAndType 11 12), (0, u "com/example/ageline/ageline/policy/RetentionTag"), (0, u "name"), (0, u "Ljava/lang/String;"), (0, .fieldref 8 14), (0, .nameAndType 15 16), (0, u "age"), (0, u "Lcom/example/ageline/ageline/Age;"), (0, .fieldref 8 18), (0, .nameAndType 19 20), (0, u "action"), (0, u "Lcom/example/ageline/ageline/policy/RetentionAction;"), (0, .fieldref 8 22), (0, .nameAndType 23 12), (0, u "folder"), (6, u "(Ljava/lang/String;Lcom/example/ageline/ageline/Age;Lcom/example/ageline/ageline/policy/RetentionAction;Ljava/lang/String;)V"), (8, u "isDefault"), (0, u "()Z")] 3

def k11c0 : Code := { maxStack := 2, maxLocals := 5, code := prog_46_method_1_code, exceptionTable := #[], attributes := #[] }
def k11m0 : Method := { name := "<init>", desc := "(Ljava/lang/String;Lcom/example/ageline/ageline/Age;Lcom/example/ageline/ageline/policy/RetentionAction;Ljava/lang/String;)V", sig := { parameters := [(.object "java/lang/String"), (.object "com/example/ageline/ageline/Age"), (.object "com/example/ageline/ageline/policy/RetentionAction"), (.object "java/lang/String")], returnType := none }, accessFlags := 0, code := some k11c0 }
def k11c1 : Code := { maxStack := 1, maxLocals := 1, code := prog_46_method_6_code, exceptionTable := #[], attributes := #[] }
def k11m1 : Method := { name := "isDefault", desc := "()Z", sig := { parameters := [], returnType := some .boolean }, accessFlags := 1, code := some k11c1 }
/-- com/example/ageline/ageline/policy/RetentionTag -/
def k11 : Class := { plain "com/example/ageline/ageline/policy/RetentionTag" (some 0) with
  accessFlags := 33
  interfaces := #[]
  cf := some (fileOf pool11 8 #[] #[{ accessFlags := 0, nameIndex := 5, descriptorIndex := 30, attributes := #[] }, { accessFlags := 1, nameIndex := 39, descriptorIndex := 40, attributes := #[] }] 33 2 #[] #[{ accessFlags := 18, nameIndex := 11, descriptorIndex := 12, attributes := #[] }, { accessFlags := 18, nameIndex := 15, descriptorIndex := 16, attributes := #[] }, { accessFlags := 18, nameIndex := 19, descriptorIndex := 20, attributes := #[] }, { accessFlags := 18, nameIndex := 23, descriptorIndex := 12, attributes := #[] }])
  fields := #[{ name := "name", type := (.object "java/lang/String"), accessFlags := 18, slot := 0, constantValue := 0 }, { name := "age", type := (.object "com/example/ageline/ageline/Age"), accessFlags := 18, slot := 1, constantValue := 0 }, { name := "action", type := (.object "com/example/ageline/ageline/policy/RetentionAction"), accessFlags := 18, slot := 2, constantValue := 0 }, { name := "folder", type := (.object "java/lang/String"), accessFlags := 18, slot := 3, constantValue := 0 }]
  methods := #[k11m0, k11m1]
  instanceTypes := #[(.object "java/lang/String"), (.object "com/example/ageline/ageline/Age"), (.object "com/example/ageline/ageline/policy/RetentionAction"), (.object "java/lang/String")]
  staticTypes := #[]
  resolved := Array.replicate 44 none
  statics := none }

def pool12 : Array CpInfo := pool [(1, .methodref 2 3), (0, .class_ 4), (0, .nameAndType 5 6), (0, u "java/lang/Object"), (0, u "<init>"), (0, u "()V"), (9, .fieldref 17 18), (0, .class_ 19), (0, .nameAndType 20 21), (0, u "com/example/ageline/ageline/Age"), (0, u "days"), (0, u "I"), (42, u "(I)V")] 25

def k12c0 : Code := { maxStack := 3, maxLocals := 2, code := prog_1_method_1_code, exceptionTable := #[], attributes := #[] }
def k12m0 : Method := { name := "<init>", desc := "(I)V", sig := { parameters := [.int], returnType := none }, accessFlags := 1, code := some k12c0 }
/-- com/example/ageline/ageline/Age -/
def k12 : Class := { plain "com/example/ageline/ageline/Age" (some 0) with
  accessFlags := 33
  interfaces := #[]
  cf := some (fileOf pool12 17 #[] #[{ accessFlags := 1, nameIndex := 5, descriptorIndex := 64, attributes := #[] }] 33 2 #[] #[{ accessFlags := 18, nameIndex := 20, descriptorIndex := 21, attributes := #[] }])
  fields := #[{ name := "days", type := .int, accessFlags := 18, slot := 0, constantValue := 0 }]
  methods := #[k12m0]
  instanceTypes := #[.int]
  staticTypes := #[]
  resolved := Array.replicate 90 none
  statics := none }

def pool13 : Array CpInfo := pool [(1, .class_ 2), (0, u "java/lang/Math"), (1, .class_ 6), (1, u "java/lang/Object"), (0, u "<init>"), (0, u "()V"), (89, .class_ 100), (1, u "java/lang/Math$RandomNumberGeneratorHolder"), (71, u "negativeZeroFloatBits"), (0, u "J"), (2, u "negativeZeroDoubleBits"), (21, u "max"), (46, u "$assertionsDisabled"), (0, u "Z"), (88, u "(II)I"), (2, u "twoToTheDoubleScaleDown"), (0, u "D"), (4, u "twoToTheDoubleScaleUp"), (9, u "E"), (3, u "PI"), (2, u "TAU"), (2, u "DEGREES_TO_RADIANS"), (0, u "RADIANS_TO_DEGREES")] 94

def k13m0 : Method := { name := "<init>", desc := "()V", sig := { parameters := [], returnType := none }, accessFlags := 2, code := none }
def k13c1 : Code := { maxStack := 2, maxLocals := 2, code := jdk_29_method_65_code, exceptionTable := #[], attributes := #[] }
def k13m1 : Method := { name := "max", desc := "(II)I", sig := { parameters := [.int, .int], returnType := some .int }, accessFlags := 9, code := some k13c1 }
/-- java/lang/Math -/
def k13 : Class := { plain "java/lang/Math" (some 0) with
  accessFlags := 49
  interfaces := #[]
  cf := some (fileOf pool13 1 #[.nestMembers #[98]] #[{ accessFlags := 2, nameIndex := 7, descriptorIndex := 8, attributes := #[] }, { accessFlags := 9, nameIndex := 198, descriptorIndex := 335, attributes := #[] }] 49 4 #[] #[{ accessFlags := 25, nameIndex := 354, descriptorIndex := 339, attributes := #[] }, { accessFlags := 25, nameIndex := 358, descriptorIndex := 339, attributes := #[] }, { accessFlags := 25, nameIndex := 361, descriptorIndex := 339, attributes := #[] }, { accessFlags := 26, nameIndex := 364, descriptorIndex := 339, attributes := #[] }, { accessFlags := 26, nameIndex := 365, descriptorIndex := 339, attributes := #[] }, { accessFlags := 26, nameIndex := 172, descriptorIndex := 173, attributes := #[] }, { accessFlags := 26, nameIndex := 176, descriptorIndex := 173, attributes := #[] }, { accessFlags := 8, nameIndex := 344, descriptorIndex := 339, attributes := #[] }, { accessFlags := 8, nameIndex := 338, descriptorIndex := 339, attributes := #[] }, { accessFlags := 4120, nameIndex := 245, descriptorIndex := 246, attributes := #[] }])
  fields := #[{ name := "E", type := .double, accessFlags := 25, slot := 0, constantValue := 0 }, { name := "PI", type := .double, accessFlags := 25, slot := 1, constantValue := 0 }, { name := "TAU", type := .double, accessFlags := 25, slot := 2, constantValue := 0 }, { name := "DEGREES_TO_RADIANS", type := .double, accessFlags := 26, slot := 3, constantValue := 0 }, { name := "RADIANS_TO_DEGREES", type := .double, accessFlags := 26, slot := 4, constantValue := 0 }, { name := "negativeZeroFloatBits", type := .long, accessFlags := 26, slot := 5, constantValue := 0 }, { name := "negativeZeroDoubleBits", type := .long, accessFlags := 26, slot := 6, constantValue := 0 }, { name := "twoToTheDoubleScaleUp", type := .double, accessFlags := 8, slot := 7, constantValue := 0 }, { name := "twoToTheDoubleScaleDown", type := .double, accessFlags := 8, slot := 8, constantValue := 0 }, { name := "$assertionsDisabled", type := .boolean, accessFlags := 4120, slot := 9, constantValue := 0 }]
  methods := #[k13m0, k13m1]
  instanceTypes := #[]
  staticTypes := #[.double, .double, .double, .double, .double, .long, .long, .double, .double, .boolean]
  resolved := Array.replicate 460 none
  statics := none }

def pool14 : Array CpInfo := pool [(4, .class_ 6), (1, u "java/lang/Object"), (0, u "<init>"), (0, u "()V"), (5, .class_ 16), (1, u "java/lang/StringLatin1"), (104, u "$assertionsDisabled"), (0, u "Z"), (98, .class_ 223), (1, u "java/lang/StringLatin1$LinesSpliterator"), (166, .class_ 391), (0, u "java/lang/StringLatin1$CharsSpliterator")] 3

def k14m0 : Method := { name := "<init>", desc := "()V", sig := { parameters := [], returnType := none }, accessFlags := 0, code := none }
/-- java/lang/StringLatin1 -/
def k14 : Class := { plain "java/lang/StringLatin1" (some 0) with
  accessFlags := 48
  interfaces := #[]
  cf := some (fileOf pool14 14 #[.nestMembers #[390, 221]] #[{ accessFlags := 0, nameIndex := 7, descriptorIndex := 8, attributes := #[] }] 48 4 #[] #[{ accessFlags := 4120, nameIndex := 121, descriptorIndex := 122, attributes := #[] }])
  fields := #[{ name := "$assertionsDisabled", type := .boolean, accessFlags := 4120, slot := 0, constantValue := 0 }]
  methods := #[k14m0]
  instanceTypes := #[]
  staticTypes := #[.boolean]
  resolved := Array.replicate 395 none
  statics := none }

def pool15 : Array CpInfo := pool [(2, .class_ 4), (1, u "java/lang/Object"), (0, u "<init>"), (0, u "()V"), (17, .class_ 26), (1, u "jdk/internal/util/Preconditions"), (28, .class_ 56), (0, u "jdk/internal/util/Preconditions$4"), (57, .class_ 115), (0, u "jdk/internal/util/Preconditions$1"), (7, u "SIOOBE_FORMATTER"), (0, u "Ljava/util/function/BiFunction;"), (0, .class_ 126), (0, u "jdk/internal/util/Preconditions$2"), (3, u "AIOOBE_FORMATTER"), (0, .class_ 132), (0, u "jdk/internal/util/Preconditions$3"), (3, u "IOOBE_FORMATTER")] 57

def k15m0 : Method := { name := "<init>", desc := "()V", sig := { parameters := [], returnType := none }, accessFlags := 1, code := none }
/-- jdk/internal/util/Preconditions -/
def k15 : Class := { plain "jdk/internal/util/Preconditions" (some 0) with
  accessFlags := 33
  interfaces := #[]
  cf := some (fileOf pool15 24 #[.nestMembers #[55, 131, 125, 114]] #[{ accessFlags := 1, nameIndex := 5, descriptorIndex := 6, attributes := #[] }] 33 2 #[] #[{ accessFlags := 25, nameIndex := 123, descriptorIndex := 124, attributes := #[] }, { accessFlags := 25, nameIndex := 130, descriptorIndex := 124, attributes := #[] }, { accessFlags := 25, nameIndex := 136, descriptorIndex := 124, attributes := #[] }])
  fields := #[{ name := "SIOOBE_FORMATTER", type := (.object "java/util/function/BiFunction"), accessFlags := 25, slot := 0, constantValue := 0 }, { name := "AIOOBE_FORMATTER", type := (.object "java/util/function/BiFunction"), accessFlags := 25, slot := 1, constantValue := 0 }, { name := "IOOBE_FORMATTER", type := (.object "java/util/function/BiFunction"), accessFlags := 25, slot := 2, constantValue := 0 }]
  methods := #[k15m0]
  instanceTypes := #[]
  staticTypes := #[(.object "java/util/function/BiFunction"), (.object "java/util/function/BiFunction"), (.object "java/util/function/BiFunction")]
  resolved := Array.replicate 194 none
  statics := some 2 }

def pool16 : Array CpInfo := pool [(9, u "<init>"), (6, .class_ 18), (1, u "java/lang/Object"), (0, u "()V"), (1, .class_ 23), (1, u "jdk/internal/util/ArraysSupport"), (0, u "LOG2_ARRAY_LONG_INDEX_SCALE"), (0, u "I"), (2, u "U"), (0, u "Ljdk/internal/misc/Unsafe;"), (8, u "BIG_ENDIAN"), (0, u "Z"), (8, u "LOG2_BYTE_BIT_SIZE"), (4, u "LOG2_ARRAY_INT_INDEX_SCALE"), (54, u "JLA"), (0, u "Ljdk/internal/access/JavaLangAccess;"), (11, u "LOG2_ARRAY_BOOLEAN_INDEX_SCALE"), (9, u "LOG2_ARRAY_BYTE_INDEX_SCALE"), (5, u "LOG2_ARRAY_CHAR_INDEX_SCALE"), (5, u "LOG2_ARRAY_SHORT_INDEX_SCALE"), (18, u "LOG2_ARRAY_FLOAT_INDEX_SCALE"), (24, u "LOG2_ARRAY_DOUBLE_INDEX_SCALE"), (89, u "T_BOOLEAN"), (2, u "T_CHAR"), (1, u "T_FLOAT"), (1, u "T_DOUBLE"), (1, u "T_BYTE"), (1, u "T_SHORT"), (1, u "T_INT"), (1, u "T_LONG"), (1, u "SOFT_MAX_ARRAY_LENGTH")] 83

def k16m0 : Method := { name := "<init>", desc := "()V", sig := { parameters := [], returnType := none }, accessFlags := 2, code := none }
/-- jdk/internal/util/ArraysSupport -/
def k16 : Class := { plain "jdk/internal/util/ArraysSupport" (some 0) with
  accessFlags := 33
  interfaces := #[]
  cf := some (fileOf pool16 21 #[] #[{ accessFlags := 2, nameIndex := 9, descriptorIndex := 19, attributes := #[] }] 33 16 #[] #[{ accessFlags := 24, nameIndex := 28, descriptorIndex := 29, attributes := #[] }, { accessFlags := 26, nameIndex := 38, descriptorIndex := 39, attributes := #[] }, { accessFlags := 25, nameIndex := 121, descriptorIndex := 25, attributes := #[] }, { accessFlags := 25, nameIndex := 131, descriptorIndex := 25, attributes := #[] }, { accessFlags := 25, nameIndex := 137, descriptorIndex := 25, attributes := #[] }, { accessFlags := 25, nameIndex := 143, descriptorIndex := 25, attributes := #[] }, { accessFlags := 25, nameIndex := 53, descriptorIndex := 25, attributes := #[] }, { accessFlags := 25, nameIndex := 24, descriptorIndex := 25, attributes := #[] }, { accessFlags := 25, nameIndex := 162, descriptorIndex := 25, attributes := #[] }, { accessFlags := 25, nameIndex := 187, descriptorIndex := 25, attributes := #[] }, { accessFlags := 26, nameIndex := 48, descriptorIndex := 25, attributes := #[] }, { accessFlags := 25, nameIndex := 277, descriptorIndex := 25, attributes := #[] }, { accessFlags := 25, nameIndex := 280, descriptorIndex := 25, attributes := #[] }, { accessFlags := 25, nameIndex := 282, descriptorIndex := 25, attributes := #[] }, { accessFlags := 25, nameIndex := 284, descriptorIndex := 25, attributes := #[] }, { accessFlags := 25, nameIndex := 286, descriptorIndex := 25, attributes := #[] }, { accessFlags := 25, nameIndex := 288, descriptorIndex := 25, attributes := #[] }, { accessFlags := 25, nameIndex := 290, descriptorIndex := 25, attributes := #[] }, { accessFlags := 25, nameIndex := 292, descriptorIndex := 25, attributes := #[] }, { accessFlags := 26, nameIndex := 108, descriptorIndex := 109, attributes := #[] }, { accessFlags := 25, nameIndex := 294, descriptorIndex := 25, attributes := #[] }])
  fields := #[{ name := "U", type := (.object "jdk/internal/misc/Unsafe"), accessFlags := 24, slot := 0, constantValue := 0 }, { name := "BIG_ENDIAN", type := .boolean, accessFlags := 26, slot := 1, constantValue := 0 }, { name := "LOG2_ARRAY_BOOLEAN_INDEX_SCALE", type := .int, accessFlags := 25, slot := 2, constantValue := 0 }, { name := "LOG2_ARRAY_BYTE_INDEX_SCALE", type := .int, accessFlags := 25, slot := 3, constantValue := 0 }, { name := "LOG2_ARRAY_CHAR_INDEX_SCALE", type := .int, accessFlags := 25, slot := 4, constantValue := 0 }, { name := "LOG2_ARRAY_SHORT_INDEX_SCALE", type := .int, accessFlags := 25, slot := 5, constantValue := 0 }, { name := "LOG2_ARRAY_INT_INDEX_SCALE", type := .int, accessFlags := 25, slot := 6, constantValue := 0 }, { name := "LOG2_ARRAY_LONG_INDEX_SCALE", type := .int, accessFlags := 25, slot := 7, constantValue := 0 }, { name := "LOG2_ARRAY_FLOAT_INDEX_SCALE", type := .int, accessFlags := 25, slot := 8, constantValue := 0 }, { name := "LOG2_ARRAY_DOUBLE_INDEX_SCALE", type := .int, accessFlags := 25, slot := 9, constantValue := 0 }, { name := "LOG2_BYTE_BIT_SIZE", type := .int, accessFlags := 26, slot := 10, constantValue := 0 }, { name := "T_BOOLEAN", type := .int, accessFlags := 25, slot := 11, constantValue := 0 }, { name := "T_CHAR", type := .int, accessFlags := 25, slot := 12, constantValue := 0 }, { name := "T_FLOAT", type := .int, accessFlags := 25, slot := 13, constantValue := 0 }, { name := "T_DOUBLE", type := .int, accessFlags := 25, slot := 14, constantValue := 0 }, { name := "T_BYTE", type := .int, accessFlags := 25, slot := 15, constantValue := 0 }, { name := "T_SHORT", type := .int, accessFlags := 25, slot := 16, constantValue := 0 }, { name := "T_INT", type := .int, accessFlags := 25, slot := 17, constantValue := 0 }, { name := "T_LONG", type := .int, accessFlags := 25, slot := 18, constantValue := 0 }, { name := "JLA", type := (.object "jdk/internal/access/JavaLangAccess"), accessFlags := 26, slot := 19, constantValue := 0 }, { name := "SOFT_MAX_ARRAY_LENGTH", type := .int, accessFlags := 25, slot := 20, constantValue := 0 }]
  methods := #[k16m0]
  instanceTypes := #[]
  staticTypes := #[(.object "jdk/internal/misc/Unsafe"), .boolean, .int, .int, .int, .int, .int, .int, .int, .int, .int, .int, .int, .int, .int, .int, .int, .int, .int, (.object "jdk/internal/access/JavaLangAccess"), .int]
  resolved := Array.replicate 378 none
  statics := none }

def pool17 : Array CpInfo := pool [(1, u "java/lang/Cloneable"), (0, .class_ 1), (0, u "java/lang/Object"), (0, .class_ 3)] 3

/-- java/lang/Cloneable -/
def k17 : Class := { plain "java/lang/Cloneable" (some 0) with
  accessFlags := 1537
  interfaces := #[]
  cf := some (fileOf pool17 2 #[] #[] 1537 4 #[] #[])
  fields := #[]
  methods := #[]
  instanceTypes := #[]
  staticTypes := #[]
  resolved := Array.replicate 8 none
  statics := none }

/-- the primitive byte -/
def k18 : Class := { plain "byte" none with kind := .primitive 'B', accessFlags := 0x411 }
/-- [B -/
def k19 : Class := { plain "[B" (some 0) with kind := .array 18 .byte, interfaces := #[17, 2], accessFlags := 1041 }

/-- the primitive char -/
def k20 : Class := { plain "char" none with kind := .primitive 'C', accessFlags := 0x411 }
/-- [C -/
def k21 : Class := { plain "[C" (some 0) with kind := .array 20 .char, interfaces := #[17, 2], accessFlags := 1041 }

/-- the primitive int -/
def k22 : Class := { plain "int" none with kind := .primitive 'I', accessFlags := 0x411 }
/-- [I -/
def k23 : Class := { plain "[I" (some 0) with kind := .array 22 .int, interfaces := #[17, 2], accessFlags := 1041 }

def heap : Heap := #[{ cls := 7, slots := #[.long 0, .int 1, .null, .int 0, .null, .int 0, .int 0], vm := .statics 7 },
  { cls := 10, slots := #[.ref 3, .ref 3, .ref 3, .ref 3, .null], vm := .statics 10 },
  { cls := 15, slots := #[.null, .null, .null], vm := .statics 15 },
  { cls := 10, slots := #[.null, .int 0, .int 0, .null, .int 0], vm := .none }]
def classes : Array Class := #[k0, k1, k2, k3, k4, k5, k6, k7, k8, k9, k10, k11, k12, k13, k14, k15, k16, k17, k18, k19, k20, k21, k22, k23]
def interned : List (Array UInt16 × Addr) := []
def slotsUsed : Nat := 20
def theMethod : MethodId := ⟨1, 3⟩
def args0 : Array Value := #[.int 5, .int 7, .int 6, .int 9, .int 3, .int 1]
def aboutOver (below : List Frame) : State where
  vm := { classes := classes, interned := interned.toArray }
  heap := heap
  slotsUsed := slotsUsed
  threads := #[{ frames := .invoking theMethod args0 :: below }]
def below0 : List Frame := [.native { method := ⟨0, 0⟩, args := #[] }]
def about1 : State := aboutOver below0
def p0 : Program := .bare "" "" ""
def e0 : Env := launch0.env 0 0 0
theorem w_frames : about1.frames = Frame.invoking theMethod args0 :: below0 := rfl
set_option maxRecDepth 65536 in
theorem w_args : argsFit about1.vm theMethod args0 = true := by decide +kernel
set_option maxRecDepth 65536 in
theorem w_heap : heapFits about1 = true := by decide +kernel
set_option maxRecDepth 65536 in
theorem w_runnable : about1.curStatus? = some .runnable := by decide +kernel
set_option maxRecDepth 65536 in
theorem w_alone : about1.alone = true := by decide +kernel
set_option maxRecDepth 65536 in
theorem w_named : about1.methodNamed? x = some theMethod := by decide +kernel
set_option maxRecDepth 65536 in
theorem w_hears : about1.hears theMethod below0 = true := by decide +kernel
set_option maxRecDepth 65536 in
theorem w_ripe : about1.ripe theMethod args0 below0 = true := by decide +kernel
theorem w_running : about1.status = .running := rfl
set_option maxRecDepth 65536 in
theorem w_room : about1.hasRoom e0.platform room_1 = true :=
  launch0.hasRoom_least _ room_1 (by decide +kernel) (by decide +kernel) (by decide +kernel) (by decide +kernel) (by decide +kernel) (by decide +kernel)
theorem allAtoms_all (ts : List Jvm.Cond) (a : Array Jvm.Value) (st : Jvm.State) : (allAtoms ts).before a st = ts.all (fun c => c.before a st) := by
  induction ts with
  | nil => rfl
  | cons c t ih =>
    show (Jvm.Cond.and c (allAtoms t)).before a st = _
    rw [Jvm.Cond.before_and, ih, List.all_cons]
def words1 : List Jvm.Cond := Jvm.Cond.code x code maxLocals ret :: tables_1
/-- a 'code' word, met by the world's own term for the bytes: nothing is compared byte by byte -/
theorem code_word {y : MethodName} {bytes : ByteArray} {mx : Nat} {rt : Option FieldType} {a : Array Value} {s : State} {m : MethodId} {meth : Method} {c : Code} (h1 : s.methodNamed? y = some m) (h2 : s.vm.method? m = some meth) (h3 : meth.code = some c) (h4 : c.code = bytes)
    (h5 : (c.maxLocals == mx && c.exceptionTable.isEmpty && decide (c.maxStack ≤ mostOperands) && decide (meth.sig.returnType = rt) && !meth.locks && decide (parseMethodDescriptor y.desc = some meth.sig)) = true) : (Jvm.Cond.code y bytes mx rt).before a s = true := by
  simp only [Bool.and_eq_true, beq_iff_eq, Bool.not_eq_true', decide_eq_true_eq] at h5
  obtain ⟨⟨⟨⟨⟨g1, g2⟩, g3⟩, g4⟩, g5⟩, g6⟩ := h5
  simp [Cond.before, Cond.holds, Cond.value, h1, h2, h3, h4, g1, g2, g3, g4, g5, g6]
def isCode : Jvm.Cond → Bool
  | .code _ _ _ _ => true
  | _ => false
theorem all_split {L : List Jvm.Cond} {P : Jvm.Cond → Bool} (h1 : L.all (fun c => isCode c || P c) = true) (h2 : ∀ c ∈ L.filter isCode, P c = true) : L.all P = true := by
  refine List.all_eq_true.mpr fun c hc => ?_
  have h := List.all_eq_true.mp h1 c hc
  rcases Bool.eq_false_or_eq_true (isCode c) with hi | hi
  · exact h2 c (List.mem_filter.mpr ⟨hc, hi⟩)
  · simpa [hi] using h
set_option maxRecDepth 65536 in
theorem w_c0 : (Jvm.Cond.code x code maxLocals ret).before args0 about1 = true := code_word (m := ⟨1, 3⟩) (meth := k1m3) (c := k1c3) (by decide +kernel) rfl rfl rfl (by decide +kernel)
set_option maxRecDepth 65536 in
theorem w_c1 : (Jvm.Cond.code ({ cls := "com/example/ageline/ageline/policy/RetentionTagIsDefaultPinLaw", name := "drawn", desc := "(III)Ljava/lang/String;" } : Jvm.MethodName) method_2_code (5 : Nat) (Option.some (Jvm.ClassFile.FieldType.object "java/lang/String"))).before args0 about1 = true := code_word (m := ⟨1, 1⟩) (meth := k1m1) (c := k1c1) (by decide +kernel) rfl rfl rfl (by decide +kernel)
set_option maxRecDepth 65536 in
theorem w_c2 : (Jvm.Cond.code ({ cls := "java/lang/String", name := "<init>", desc := "([C)V" } : Jvm.MethodName) jdk_42_method_3_code (2 : Nat) (Option.none : Option Jvm.ClassFile.FieldType)).before args0 about1 = true := code_word (m := ⟨7, 1⟩) (meth := k7m1) (c := k7c1) (by decide +kernel) rfl rfl rfl (by decide +kernel)
set_option maxRecDepth 65536 in
theorem w_c3 : (Jvm.Cond.code ({ cls := "java/lang/String", name := "<init>", desc := "([CIILjava/lang/Void;)V" } : Jvm.MethodName) jdk_42_method_149_code (6 : Nat) (Option.none : Option Jvm.ClassFile.FieldType)).before args0 about1 = true := code_word (m := ⟨7, 2⟩) (meth := k7m2) (c := k7c2) (by decide +kernel) rfl rfl rfl (by decide +kernel)
set_option maxRecDepth 65536 in
theorem w_c4 : (Jvm.Cond.code ({ cls := "java/lang/Object", name := "<init>", desc := "()V" } : Jvm.MethodName) object_method_1_code (1 : Nat) (Option.none : Option Jvm.ClassFile.FieldType)).before args0 about1 = true := code_word (m := ⟨0, 0⟩) (meth := k0m0) (c := k0c0) (by decide +kernel) rfl rfl rfl (by decide +kernel)
set_option maxRecDepth 65536 in
theorem w_c5 : (Jvm.Cond.code ({ cls := "java/lang/StringUTF16", name := "compress", desc := "([CII)[B" } : Jvm.MethodName) jdk_52_method_16_code (6 : Nat) (Option.some (Jvm.ClassFile.FieldType.array Jvm.ClassFile.FieldType.byte))).before args0 about1 = true := code_word (m := ⟨8, 2⟩) (meth := k8m2) (c := k8c2) (by decide +kernel) rfl rfl rfl (by decide +kernel)
set_option maxRecDepth 65536 in
theorem w_c6 : (Jvm.Cond.code ({ cls := "java/lang/StringUTF16", name := "compress", desc := "([CI[BII)I" } : Jvm.MethodName) jdk_52_method_21_code (7 : Nat) (Option.some Jvm.ClassFile.FieldType.int)).before args0 about1 = true := code_word (m := ⟨8, 3⟩) (meth := k8m3) (c := k8c3) (by decide +kernel) rfl rfl rfl (by decide +kernel)
set_option maxRecDepth 65536 in
theorem w_c7 : (Jvm.Cond.code ({ cls := "java/lang/StringUTF16", name := "coderFromArrayLen", desc := "([BI)B" } : Jvm.MethodName) jdk_52_method_15_code (2 : Nat) (Option.some Jvm.ClassFile.FieldType.byte)).before args0 about1 = true := code_word (m := ⟨8, 1⟩) (meth := k8m1) (c := k8c1) (by decide +kernel) rfl rfl rfl (by decide +kernel)
set_option maxRecDepth 65536 in
theorem w_c8 : (Jvm.Cond.code ({ cls := "com/example/ageline/ageline/policy/RetentionTagIsDefaultPinLaw", name := "action", desc := "(I)Lcom/example/ageline/ageline/policy/RetentionAction;" } : Jvm.MethodName) method_3_code (2 : Nat) (Option.some (Jvm.ClassFile.FieldType.object "com/example/ageline/ageline/policy/RetentionAction"))).before args0 about1 = true := code_word (m := ⟨1, 2⟩) (meth := k1m2) (c := k1c2) (by decide +kernel) rfl rfl rfl (by decide +kernel)
set_option maxRecDepth 65536 in
theorem w_c9 : (Jvm.Cond.code ({ cls := "com/example/ageline/ageline/policy/RetentionTag", name := "<init>", desc := "(Ljava/lang/String;Lcom/example/ageline/ageline/Age;Lcom/example/ageline/ageline/policy/RetentionAction;Ljava/lang/String;)V" } : Jvm.MethodName) prog_46_method_1_code (5 : Nat) (Option.none : Option Jvm.ClassFile.FieldType)).before args0 about1 = true := code_word (m := ⟨11, 0⟩) (meth := k11m0) (c := k11c0) (by decide +kernel) rfl rfl rfl (by decide +kernel)
set_option maxRecDepth 65536 in
theorem w_c10 : (Jvm.Cond.code ({ cls := "com/example/ageline/ageline/policy/RetentionTag", name := "isDefault", desc := "()Z" } : Jvm.MethodName) prog_46_method_6_code (1 : Nat) (Option.some Jvm.ClassFile.FieldType.boolean)).before args0 about1 = true := code_word (m := ⟨11, 1⟩) (meth := k11m1) (c := k11c1) (by decide +kernel) rfl rfl rfl (by decide +kernel)
set_option maxRecDepth 65536 in
theorem w_c11 : (Jvm.Cond.code ({ cls := "java/lang/Math", name := "max", desc := "(II)I" } : Jvm.MethodName) jdk_29_method_65_code (2 : Nat) (Option.some Jvm.ClassFile.FieldType.int)).before args0 about1 = true := code_word (m := ⟨13, 1⟩) (meth := k13m1) (c := k13c1) (by decide +kernel) rfl rfl rfl (by decide +kernel)
set_option maxRecDepth 65536 in
theorem w_c12 : (Jvm.Cond.code ({ cls := "com/example/ageline/ageline/Age", name := "<init>", desc := "(I)V" } : Jvm.MethodName) prog_1_method_1_code (2 : Nat) (Option.none : Option Jvm.ClassFile.FieldType)).before args0 about1 = true := code_word (m := ⟨12, 0⟩) (meth := k12m0) (c := k12c0) (by decide +kernel) rfl rfl rfl (by decide +kernel)
def codes1 : List Jvm.Cond := [Jvm.Cond.code x code maxLocals ret, Jvm.Cond.code ({ cls := "com/example/ageline/ageline/policy/RetentionTagIsDefaultPinLaw", name := "drawn", desc := "(III)Ljava/lang/String;" } : Jvm.MethodName) method_2_code (5 : Nat) (Option.some (Jvm.ClassFile.FieldType.object "java/lang/String")), Jvm.Cond.code ({ cls := "java/lang/String", name := "<init>", desc := "([C)V" } : Jvm.MethodName) jdk_42_method_3_code (2 : Nat) (Option.none : Option Jvm.ClassFile.FieldType), Jvm.Cond.code ({ cls := "java/lang/String", name := "<init>", desc := "([CIILjava/lang/Void;)V" } : Jvm.MethodName) jdk_42_method_149_code (6 : Nat) (Option.none : Option Jvm.ClassFile.FieldType), Jvm.Cond.code ({ cls := "java/lang/Object", name := "<init>", desc := "()V" } : Jvm.MethodName) object_method_1_code (1 : Nat) (Option.none : Option Jvm.ClassFile.FieldType), Jvm.Cond.code ({ cls := "java/lang/StringUTF16", name := "compress", desc := "([CII)[B" } : Jvm.MethodName) jdk_52_method_16_code (6 : Nat) (Option.some (Jvm.ClassFile.FieldType.array Jvm.ClassFile.FieldType.byte)), Jvm.Cond.code ({ cls := "java/lang/StringUTF16", name := "compress", desc := "([CI[BII)I" } : Jvm.MethodName) jdk_52_method_21_code (7 : Nat) (Option.some Jvm.ClassFile.FieldType.int), Jvm.Cond.code ({ cls := "java/lang/StringUTF16", name := "coderFromArrayLen", desc := "([BI)B" } : Jvm.MethodName) jdk_52_method_15_code (2 : Nat) (Option.some Jvm.ClassFile.FieldType.byte), Jvm.Cond.code ({ cls := "com/example/ageline/ageline/policy/RetentionTagIsDefaultPinLaw", name := "action", desc := "(I)Lcom/example/ageline/ageline/policy/RetentionAction;" } : Jvm.MethodName) method_3_code (2 : Nat) (Option.some (Jvm.ClassFile.FieldType.object "com/example/ageline/ageline/policy/RetentionAction")), Jvm.Cond.code ({ cls := "com/example/ageline/ageline/policy/RetentionTag", name := "<init>", desc := "(Ljava/lang/String;Lcom/example/ageline/ageline/Age;Lcom/example/ageline/ageline/policy/RetentionAction;Ljava/lang/String;)V" } : Jvm.MethodName) prog_46_method_1_code (5 : Nat) (Option.none : Option Jvm.ClassFile.FieldType), Jvm.Cond.code ({ cls := "com/example/ageline/ageline/policy/RetentionTag", name := "isDefault", desc := "()Z" } : Jvm.MethodName) prog_46_method_6_code (1 : Nat) (Option.some Jvm.ClassFile.FieldType.boolean), Jvm.Cond.code ({ cls := "java/lang/Math", name := "max", desc := "(II)I" } : Jvm.MethodName) jdk_29_method_65_code (2 : Nat) (Option.some Jvm.ClassFile.FieldType.int), Jvm.Cond.code ({ cls := "com/example/ageline/ageline/Age", name := "<init>", desc := "(I)V" } : Jvm.MethodName) prog_1_method_1_code (2 : Nat) (Option.none : Option Jvm.ClassFile.FieldType)]
set_option maxRecDepth 65536 in
theorem codes_eq : words1.filter isCode = codes1 := rfl
theorem w_codes : ∀ c ∈ words1.filter isCode, c.before args0 about1 = true := by
  rw [codes_eq]
  intro c hc
  simp only [codes1, List.mem_cons, List.not_mem_nil, or_false] at hc
  rcases hc with rfl | rfl | rfl | rfl | rfl | rfl | rfl | rfl | rfl | rfl | rfl | rfl | rfl
  · exact w_c0
  · exact w_c1
  · exact w_c2
  · exact w_c3
  · exact w_c4
  · exact w_c5
  · exact w_c6
  · exact w_c7
  · exact w_c8
  · exact w_c9
  · exact w_c10
  · exact w_c11
  · exact w_c12
set_option maxRecDepth 65536 in
theorem w_t1 : (words1.take 24).all (fun c => isCode c || c.before args0 about1) = true := by decide +kernel
set_option maxRecDepth 65536 in
theorem w_t2 : ((words1.drop 24).take 24).all (fun c => isCode c || c.before args0 about1) = true := by decide +kernel
set_option maxRecDepth 65536 in
theorem w_t3 : (((words1.drop 24).drop 24).take 24).all (fun c => isCode c || c.before args0 about1) = true := by decide +kernel
set_option maxRecDepth 65536 in
theorem w_t4 : (((words1.drop 24).drop 24).drop 24).all (fun c => isCode c || c.before args0 about1) = true := by decide +kernel
theorem w_tables : (allAtoms (Jvm.Cond.code x code maxLocals ret :: tables_1)).before args0 about1 = true := by
  rw [allAtoms_all]
  show words1.all (fun c => c.before args0 about1) = true
  refine all_split ?_ w_codes
  rw [← List.take_append_drop 24 words1, List.all_append, w_t1, ← List.take_append_drop 24 (words1.drop 24), List.all_append, w_t2, ← List.take_append_drop 24 ((words1.drop 24).drop 24), List.all_append, w_t3, w_t4]
  rfl
set_option maxRecDepth 65536 in
theorem w_rest : rest_1_c.before args0 about1 = true := by decide +kernel
set_option maxRecDepth 65536 in
theorem w_case : (Jvm.Cond.and given_1 narrow_1).before args0 about1 = true := by decide +kernel
theorem w_applies : (headSpec (Jvm.Cond.code x code maxLocals ret :: tables_1) room_1).applies x e0.platform about1 = true :=
  (Spec.applies_iff w_frames).mpr ⟨w_running, w_runnable, w_alone, w_named, w_hears, w_ripe, w_room, w_tables⟩
theorem atStart : AtStart classFile x code maxLocals ret World_1 tables_1 room_1 Calls_1 rest_1 Pre_1 launch0 p0 e0 about1 theMethod args0 below0 :=
  ⟨lists_1, trivial, launch0.admits_env _ _ _, launch0.least_env, fairChoices_fair.cas, fairChoices_fair.clock, w_frames, w_args, w_heap, w_applies, trivial, w_rest, w_case⟩
end start1
theorem witness_1 : WitnessClaimed_1 := ⟨start1.p0, start1.e0, start1.about1, start1.theMethod, start1.args0, start1.below0, start1.atStart⟩
end Jvm.Pilot.@@N@@
