import JvmDerived
import JvmDerived.Pilot.@@N@@Statement
import JvmDerived.Pilot.@@N@@Code
set_option linter.unusedVariables false
set_option linter.unusedSimpArgs false
namespace Jvm.RoadKit
open Sem ClassFile Op Lib Jvm.Stand Jvm.Free Jvm.LawKit
section New
variable {p : Program} {l : Launch} {e : Env} {R : Room} {s : State} {m : MethodId} {args : Array Value} {below : List Frame} {meth : Method} {c : Code} {T : State} {locs : List Loc} {cells slots : Nat}
theorem retI (X : Stand p l e R s m args below meth c T locs cells slots) (hx : p.tables.exec = Jvm.exec) {pc : Nat} {Ls : Array Slot} {z : Int32} {rest : List Value} (hret : meth.sig.returnType = some .int) (hd : decode c.code pc = .ok (.ireturn, 1)) {fs : List Frame}
    (hl : ∀ (f : JFrame) (acts : List Action), f.method = m → f.locked = none → f.entered = [] → (doReturn e (T.setTop f) acts (some (.int z))).1 = T.setFrames fs) : Steps p.tables e below (T.setTop (mkF m pc Ls (.int z :: rest))) (T.setFrames fs) := by
  have hm' : T.vm.method? m = some meth := X.method'
  have hn : narrow .int (.int z) = .int z := rfl
  show Steps p.tables e below (T.setTop { method := m, pc := pc, locals := Ls, stack := _ :: rest, locked := none }) _
  jvm_step X.here [X.here.top, hx, hd, hm', hret, hn]
  first | (intro acts; rw [hl _ acts rfl rfl rfl]) | rw [hl _ _ rfl rfl rfl]
  exact Steps.refl _
end New
end Jvm.RoadKit
/- laws to paste: Road.backV (cut by pick.py; bodies as the Statement names them) -/
namespace Jvm.Pilot.@@N@@
namespace StrChars
open Jvm Sem ClassFile Op Lib Jvm.Stand Jvm.Free.XT Jvm.Free.ALB Jvm.Free.JM Jvm.Free
open Jvm.Lib.Cold (StaticIs)
/-- a char array whose places are chars -/
def Ch (a : Addr) (A : Cell) (U : State) : Prop := Arr .char a A U ∧ Typed .char A
theorem Ch.mv {a : Addr} {A : Cell} {U U' : State} (h : Ch a A U) (hal : U.vm.Alike U'.vm) (hh : U'.heap = U.heap) : Ch a A U' := ⟨h.1.mv hal hh, h.2⟩
theorem Ch.keep {a : Addr} {A : Cell} {U U' : State} (h : Ch a A U) (hal : U.vm.Alike U'.vm) (hk : U'.heap[a]? = some A) : Ch a A U' := ⟨h.1.keep hal hk, h.2⟩
/-- what place i of a char[]'s cell holds -/
def cv (A : Cell) (i : Nat) : Int32 := match A.slots[i]? with | some (.int x) => x | _ => 0
theorem Ch.get {a : Addr} {A : Cell} {U : State} (h : Ch a A U) {i : Nat} (hi : i < A.slots.size) : A.slots[i]? = some (.int (cv A i)) := by
  have e := Array.getElem?_eq_getElem hi
  have f := h.2 i _ e
  unfold cv; rw [e]
  generalize A.slots[i] = v at f
  cases v <;> simp [fits] at f ⊢
/-- the byte that i2b leaves of a char -/
def lo8 (x : Int32) : Int32 := x.toInt8.toInt32
theorem fits_lo8 (y : Int32) : fits .byte (.int (lo8 y)) = true := by
  have h1 := y.toInt8.le_toInt
  have h2 := y.toInt8.toInt_lt
  simp only [lo8, fits, Bool.and_eq_true, decide_eq_true_eq, Int32.le_iff_toInt_le, Int8.toInt_toInt32, show (-128 : Int32).toInt = -128 from by decide, show (127 : Int32).toInt = 127 from by decide]
  omega
/-- A' is A but that each place j of lo .. hi - 1 holds f j -/
def Laid (A A' : Cell) (lo hi : Nat) (f : Nat → Value) : Prop := A'.cls = A.cls ∧ A'.vm = A.vm ∧ A'.slots.size = A.slots.size ∧ ∀ i, A'.slots[i]? = if lo ≤ i ∧ i < hi then some (f i) else A.slots[i]?
theorem Laid.zero (A : Cell) (lo : Nat) (f : Nat → Value) : Laid A A lo (lo + 0) f := ⟨rfl, rfl, rfl, fun i => by rw [if_neg (by omega)]⟩
theorem Laid.step {A Ak : Cell} {lo k : Nat} {f : Nat → Value} {v : Value} (h : Laid A Ak lo k f) (hlo : lo ≤ k) (hk : k < Ak.slots.size) (hv : v = f k) : Laid A (Ak.setSlot k v) lo (k + 1) f := by
  refine ⟨h.1, h.2.1, by simpa [Cell.setSlot] using h.2.2.1, fun i => ?_⟩
  by_cases e : k = i
  · subst e; rw [Cell.slots_setSlot_self v hk, if_pos (by omega), hv]
  · rw [Cell.slots_setSlot_ne v e, h.2.2.2 i]
    by_cases q : lo ≤ i ∧ i < k
    · rw [if_pos q, if_pos (by omega)]
    · rw [if_neg q, if_neg (by omega)]
def U16 : String := "java/lang/StringUTF16"
namespace Cmp5
def yN : MethodName := ⟨"java/lang/StringUTF16", "compress", "([CI[BII)I"⟩
abbrev yB : ByteArray := jdk_52_method_21_code
theorem d0 : decode yB 0 = .ok (.iconst 0, 1) := by decide +kernel
theorem d1 : decode yB 1 = .ok (.istore 5, 2) := by decide +kernel
theorem d3 : decode yB 3 = .ok (.iload 5, 2) := by decide +kernel
theorem d5 : decode yB 5 = .ok (.iload 4, 2) := by decide +kernel
theorem d7 : decode yB 7 = .ok (.if_icmp (.ge) 37, 3) := by decide +kernel
theorem d10 : decode yB 10 = .ok (.aload_n 0, 1) := by decide +kernel
theorem d11 : decode yB 11 = .ok (.iload_n 1, 1) := by decide +kernel
theorem d12 : decode yB 12 = .ok (.caload, 1) := by decide +kernel
theorem d13 : decode yB 13 = .ok (.istore 6, 2) := by decide +kernel
theorem d15 : decode yB 15 = .ok (.iload 6, 2) := by decide +kernel
theorem d17 : decode yB 17 = .ok (.sipush 255, 3) := by decide +kernel
theorem d20 : decode yB 20 = .ok (.if_icmp (.le) 6, 3) := by decide +kernel
theorem d26 : decode yB 26 = .ok (.aload_n 2, 1) := by decide +kernel
theorem d27 : decode yB 27 = .ok (.iload_n 3, 1) := by decide +kernel
theorem d28 : decode yB 28 = .ok (.iload 6, 2) := by decide +kernel
theorem d30 : decode yB 30 = .ok (.i2b, 1) := by decide +kernel
theorem d31 : decode yB 31 = .ok (.bastore, 1) := by decide +kernel
theorem d32 : decode yB 32 = .ok (.iinc 1 1, 3) := by decide +kernel
theorem d35 : decode yB 35 = .ok (.iinc 3 1, 3) := by decide +kernel
theorem d38 : decode yB 38 = .ok (.iinc 5 1, 3) := by decide +kernel
theorem d41 : decode yB 41 = .ok (.goto (-38), 3) := by decide +kernel
theorem d44 : decode yB 44 = .ok (.iload 4, 2) := by decide +kernel
theorem d46 : decode yB 46 = .ok (.ireturn, 1) := by decide +kernel
def site : List Cond := []
def tab : Cond := tabOf yN yB 7 (some .int) site
def P (b : Addr) (A : Cell) (d : Addr) (B : Cell) (o q len : Nat) (args : Array Value) (s : State) : Prop := args = #[.ref b, .int (Int32.ofNat o), .ref d, .int (Int32.ofNat q), .int (Int32.ofNat len)] ∧ Ch b A s ∧ Arr .byte d B s ∧ b ≠ d ∧ o + len ≤ A.slots.size ∧ q + len ≤ B.slots.size ∧ ∀ i, i < len → ¬ 255 < cv A (o + i)
def E (b : Addr) (A : Cell) (d : Addr) (B : Cell) (o q len : Nat) (r : Option Value) (s u : State) : Prop := r = some (.int (Int32.ofNat len)) ∧ ∃ B', Put d B' s u ∧ Laid B B' q (q + len) (fun j => Value.int (lo8 (cv A (o + (j - q)))))
/-- no char of the range above 255: len; the places written hold each char's low byte -/
theorem law (l : Launch) (b : Addr) (A : Cell) (d : Addr) (B : Cell) (o q len : Nat) : Law l yN 5 5 0 0 yB 7 (some .int) site (P b A d B o q len) (E b A d B o q len) (copyLocs d q len) 0 0 := by
  refine Law.of_walk (plainFor_of_name (by decide +kernel)) (by decide +kernel) (by decide +kernel) (by decide) (fun _ _ h => by rw [h.1]; rfl) (fun _ U U' hal hh h => ⟨h.1, h.2.1.mv hal hh, h.2.2.1.mv hal hh, h.2.2.2⟩) (fun r U U' V V' h1 hal h2 h => ⟨h.1, h.2.elim fun B' q => ⟨B', q.1.mv h1 h2, q.2⟩⟩) ?_
  intro p e s m args below meth c s₁ X0 hexec hbytes hml hret hlk hnm hown hh0 W hP
  obtain ⟨rfl, hA, hB, hne, l1, l2, hp⟩ := hP
  have c1 : Steps p.tables e below (s₁.setTop (entryFrame m #[.ref b, .int (Int32.ofNat o), .ref d, .int (Int32.ofNat q), .int (Int32.ofNat len)] 7)) (s₁.setTop (mkF m 0 #[.val (.ref b), .val (.int (Int32.ofNat o)), .val (.ref d), .val (.int (Int32.ofNat q)), .val (.int (Int32.ofNat len)), .unset, .unset] [])) := entry rfl
  have hA0 := hA.1.mv X0.warmed.alike hh0
  have hB0 := hB.mv X0.warmed.alike hh0
  have a31 := hA.1.2.2.2
  have c2 : Steps p.tables e below (s₁.setTop (entryFrame m #[.ref b, .int (Int32.ofNat o), .ref d, .int (Int32.ofNat q), .int (Int32.ofNat len)] 7)) (s₁.setTop (mkF m 3 #[.val (.ref b), .val (.int (Int32.ofNat o)), .val (.ref d), .val (.int (Int32.ofNat q)), .val (.int (Int32.ofNat len)), .val (.int 0), .unset] [])) := c1.trans (by
    refine iconstV X0.here hexec rfl 0 (hb hbytes d0) (by decide) ?_
    refine XS.istore X0.here hexec rfl (hb hbytes d1) rfl rfl ?_
    exact Steps.refl _)
  have loop : ∀ (r i : Nat), i + r = len → ∀ (z : Slot), (z = .unset ∨ ∃ w, z = .val w ∧ w.category = 1) → ∀ (Tl : State) (Bk : Cell), Stand p l e { frames := 0, locals := 0, cells := 0, slots := 0 } s m #[.ref b, .int (Int32.ofNat o), .ref d, .int (Int32.ofNat q), .int (Int32.ofNat len)] below meth c Tl ([] ++ copyLocs d q i) 0 0 → Put d Bk s₁ Tl → Laid B Bk q (q + i) (fun j => Value.int (lo8 (cv A (o + (j - q))))) →
      Steps p.tables e below (s₁.setTop (entryFrame m #[.ref b, .int (Int32.ofNat o), .ref d, .int (Int32.ofNat q), .int (Int32.ofNat len)] 7)) (Tl.setTop (mkF m 3 #[.val (.ref b), .val (.int (Int32.ofNat (o + i))), .val (.ref d), .val (.int (Int32.ofNat (q + i))), .val (.int (Int32.ofNat len)), .val (.int (Int32.ofNat i)), z] [])) → ∃ (T' : State) (B' : Cell) (z' : Slot), Stand p l e { frames := 0, locals := 0, cells := 0, slots := 0 } s m #[.ref b, .int (Int32.ofNat o), .ref d, .int (Int32.ofNat q), .int (Int32.ofNat len)] below meth c T' ([] ++ copyLocs d q len) 0 0 ∧ Put d B' s₁ T' ∧ Laid B B' q (q + len) (fun j => Value.int (lo8 (cv A (o + (j - q))))) ∧
      Steps p.tables e below (s₁.setTop (entryFrame m #[.ref b, .int (Int32.ofNat o), .ref d, .int (Int32.ofNat q), .int (Int32.ofNat len)] 7)) (T'.setTop (mkF m 3 #[.val (.ref b), .val (.int (Int32.ofNat (o + len))), .val (.ref d), .val (.int (Int32.ofNat (q + len))), .val (.int (Int32.ofNat len)), .val (.int (Int32.ofNat len)), z'] [])) := by
    intro r
    induction r with
    | zero =>
      intro i hi z hz Tl Bk Xl pl fl cl
      have hil : i = len := by omega
      rw [hil] at Xl fl cl
      exact ⟨Tl, Bk, z, Xl, pl, fl, cl⟩
    | succ r ih =>
      intro i hi z hz Tl Bk Xl pl fl cl
      have all := X0.warmed.alike.symm.trans Xl.warmed.alike
      have hAl := hA0.keep all (pl.other hne hA0.1)
      have hBk := hB0.like all pl.1 fl.1 fl.2.1 fl.2.2.1
      have hlt : q + i < Bk.slots.size := by rw [fl.2.2.1]; omega
      have c3 : Steps p.tables e below (s₁.setTop (entryFrame m #[.ref b, .int (Int32.ofNat o), .ref d, .int (Int32.ofNat q), .int (Int32.ofNat len)] 7)) (Tl.setTop (mkF m 12 #[.val (.ref b), .val (.int (Int32.ofNat (o + i))), .val (.ref d), .val (.int (Int32.ofNat (q + i))), .val (.int (Int32.ofNat len)), .val (.int (Int32.ofNat i)), z] [.int (Int32.ofNat (o + i)), .ref b])) := cl.trans (by
        refine XS.iload Xl.here hexec rfl (hb hbytes d3) rfl ?_
        refine XS.iload Xl.here hexec rfl (hb hbytes d5) rfl ?_
        refine XS.icmpNo Xl.here hexec rfl (hb hbytes d7) rfl (ii_ge_f (lt32 (by omega) (by omega))) ?_
        refine XS.aloadN Xl.here hexec rfl (hb hbytes d10) rfl rfl ?_
        refine XS.iloadN Xl.here hexec rfl (hb hbytes d11) rfl ?_
        exact Steps.refl _)
      have c4 : Steps p.tables e below (s₁.setTop (entryFrame m #[.ref b, .int (Int32.ofNat o), .ref d, .int (Int32.ofNat q), .int (Int32.ofNat len)] 7)) (Tl.setTop (mkF m 13 #[.val (.ref b), .val (.int (Int32.ofNat (o + i))), .val (.ref d), .val (.int (Int32.ofNat (q + i))), .val (.int (Int32.ofNat len)), .val (.int (Int32.ofNat i)), z] [.int (cv A (o + i))])) := c3.trans (by
        refine Xl.aget hexec hAl rfl (hA.get (i := o + i) (by omega)) rfl rfl (hb hbytes d12) ?_
        exact Steps.refl _)
      have c5 : Steps p.tables e below (s₁.setTop (entryFrame m #[.ref b, .int (Int32.ofNat o), .ref d, .int (Int32.ofNat q), .int (Int32.ofNat len)] 7)) (Tl.setTop (mkF m 15 #[.val (.ref b), .val (.int (Int32.ofNat (o + i))), .val (.ref d), .val (.int (Int32.ofNat (q + i))), .val (.int (Int32.ofNat len)), .val (.int (Int32.ofNat i)), .val (.int (cv A (o + i)))] [])) := c4.trans (by
        refine XS.istoreS Xl.here hexec rfl (hb hbytes d13) rfl rfl hz ?_
        exact Steps.refl _)
      have c6 : Steps p.tables e below (s₁.setTop (entryFrame m #[.ref b, .int (Int32.ofNat o), .ref d, .int (Int32.ofNat q), .int (Int32.ofNat len)] 7)) (Tl.setTop (mkF m 31 #[.val (.ref b), .val (.int (Int32.ofNat (o + i))), .val (.ref d), .val (.int (Int32.ofNat (q + i))), .val (.int (Int32.ofNat len)), .val (.int (Int32.ofNat i)), .val (.int (cv A (o + i)))] [.int (lo8 (cv A (o + i))), .int (Int32.ofNat (q + i)), .ref d])) := c5.trans (by
        refine XS.iload Xl.here hexec rfl (hb hbytes d15) rfl ?_
        refine sipushV Xl.here hexec rfl 255 (hb hbytes d17) (by decide) ?_
        refine XS.icmpYes Xl.here hexec rfl (pc0 := 20) rfl (hb hbytes d20) rfl (ii_le_t (hp i (by omega))) (by decide) rfl ?_
        refine XS.aloadN Xl.here hexec rfl (hb hbytes d26) rfl rfl ?_
        refine XS.iloadN Xl.here hexec rfl (hb hbytes d27) rfl ?_
        refine XS.iload Xl.here hexec rfl (hb hbytes d28) rfl ?_
        refine i2b Xl.here hexec rfl (hb hbytes d30) rfl ?_
        exact Steps.refl _)
      obtain ⟨T7, X7, p7, st7⟩ := Xl.aput hexec hBk rfl hlt rfl (fits_lo8 (cv A (o + i))) (g := (mkF m 31 #[.val (.ref b), .val (.int (Int32.ofNat (o + i))), .val (.ref d), .val (.int (Int32.ofNat (q + i))), .val (.int (Int32.ofNat len)), .val (.int (Int32.ofNat i)), .val (.int (cv A (o + i)))] [.int (lo8 (cv A (o + i))), .int (Int32.ofNat (q + i)), .ref d])) rfl (rest := []) rfl (hb hbytes d31)
      have c8 : Steps p.tables e below (s₁.setTop (entryFrame m #[.ref b, .int (Int32.ofNat o), .ref d, .int (Int32.ofNat q), .int (Int32.ofNat len)] 7)) (T7.setTop (mkF m 32 #[.val (.ref b), .val (.int (Int32.ofNat (o + i))), .val (.ref d), .val (.int (Int32.ofNat (q + i))), .val (.int (Int32.ofNat len)), .val (.int (Int32.ofNat i)), .val (.int (cv A (o + i)))] [])) := c6.trans (st7 _ (Steps.refl _))
      have c9 : Steps p.tables e below (s₁.setTop (entryFrame m #[.ref b, .int (Int32.ofNat o), .ref d, .int (Int32.ofNat q), .int (Int32.ofNat len)] 7)) (T7.setTop (mkF m 3 #[.val (.ref b), .val (.int (Int32.ofNat (o + i) + 1)), .val (.ref d), .val (.int (Int32.ofNat (q + i) + 1)), .val (.int (Int32.ofNat len)), .val (.int (Int32.ofNat i + 1)), .val (.int (cv A (o + i)))] [])) := c8.trans (by
        refine iincV X7.here hexec rfl 1 (hb hbytes d32) (by decide) rfl rfl ?_
        refine iincV X7.here hexec rfl 1 (hb hbytes d35) (by decide) rfl rfl ?_
        refine iincV X7.here hexec rfl 1 (hb hbytes d38) (by decide) rfl rfl ?_
        refine XS.goto X7.here hexec rfl (pc0 := 41) rfl (hb hbytes d41) (by decide) rfl ?_
        exact Steps.refl _)
      have c10 : Steps p.tables e below (s₁.setTop (entryFrame m #[.ref b, .int (Int32.ofNat o), .ref d, .int (Int32.ofNat q), .int (Int32.ofNat len)] 7)) (T7.setTop (mkF m 3 #[.val (.ref b), .val (.int (Int32.ofNat (o + (i + 1)))), .val (.ref d), .val (.int (Int32.ofNat (q + (i + 1)))), .val (.int (Int32.ofNat len)), .val (.int (Int32.ofNat (i + 1))), .val (.int (cv A (o + i)))] [])) := by
        have := c9
        rw [succ32, succ32, succ32] at this
        exact this
      exact ih (i + 1) (by omega) _ (Or.inr ⟨_, rfl, rfl⟩) T7 _ (by rw [copyLocs_step, ← List.append_assoc]; exact X7) (pl.trans p7) (fl.step (by omega) hlt (by simp)) c10
  obtain ⟨T9, B9, z9, X9, p9, f9, g9⟩ := loop len 0 (by omega) .unset (Or.inl rfl) s₁ B (by simpa [copyLocs] using X0) ⟨hB0.1, fun _ _ => rfl, rfl⟩ (Laid.zero _ _ _) c2
  have c11 : Steps p.tables e below (s₁.setTop (entryFrame m #[.ref b, .int (Int32.ofNat o), .ref d, .int (Int32.ofNat q), .int (Int32.ofNat len)] 7)) (T9.setTop (mkF m 46 #[.val (.ref b), .val (.int (Int32.ofNat (o + len))), .val (.ref d), .val (.int (Int32.ofNat (q + len))), .val (.int (Int32.ofNat len)), .val (.int (Int32.ofNat len)), z9] [.int (Int32.ofNat len)])) := g9.trans (by
    refine XS.iload X9.here hexec rfl (hb hbytes d3) rfl ?_
    refine XS.iload X9.here hexec rfl (hb hbytes d5) rfl ?_
    refine XS.icmpYes X9.here hexec rfl (pc0 := 7) rfl (hb hbytes d7) rfl (ii_ge_t (nlt32 (by omega) (Nat.le_refl _))) (by decide) rfl ?_
    refine XS.iload X9.here hexec rfl (hb hbytes d44) rfl ?_
    exact Steps.refl _)
  exact ⟨T9, some (.int (Int32.ofNat len)), _, _, _, X9, by simp, rfl, rfl, (fun h => by cases h), ⟨rfl, B9, p9.from hh0, f9⟩, fun fs hl => c11.trans (X9.ireturnOut hexec hret rfl (Or.inl rfl) (hb hbytes d46) hl)⟩
end Cmp5
namespace Cmp3
def yN : MethodName := ⟨"java/lang/StringUTF16", "compress", "([CII)[B"⟩
abbrev yB : ByteArray := jdk_52_method_16_code
theorem d0 : decode yB 0 = .ok (.iload_n 2, 1) := by decide +kernel
theorem d1 : decode yB 1 = .ok (.newarray .byte, 2) := by decide +kernel
theorem d3 : decode yB 3 = .ok (.astore_n 3, 1) := by decide +kernel
theorem d4 : decode yB 4 = .ok (.aload_n 0, 1) := by decide +kernel
theorem d5 : decode yB 5 = .ok (.iload_n 1, 1) := by decide +kernel
theorem d6 : decode yB 6 = .ok (.aload_n 3, 1) := by decide +kernel
theorem d7 : decode yB 7 = .ok (.iconst 0, 1) := by decide +kernel
theorem d8 : decode yB 8 = .ok (.iload_n 2, 1) := by decide +kernel
theorem d9 : decode yB 9 = .ok (.invokestatic 115, 3) := by decide +kernel
theorem d12 : decode yB 12 = .ok (.istore 4, 2) := by decide +kernel
theorem d14 : decode yB 14 = .ok (.iload 4, 2) := by decide +kernel
theorem d16 : decode yB 16 = .ok (.iload_n 2, 1) := by decide +kernel
theorem d17 : decode yB 17 = .ok (.if_icmp (.eq) 40, 3) := by decide +kernel
theorem d57 : decode yB 57 = .ok (.aload_n 3, 1) := by decide +kernel
theorem d58 : decode yB 58 = .ok (.areturn, 1) := by decide +kernel
def site : List Cond := [.arrayClass .byte, Cmp5.tab] ++ staticW U16 115 Cmp5.yN
def tab : Cond := tabOf yN yB 6 (some (.array .byte)) site
def P (b : Addr) (A : Cell) (o len : Nat) (args : Array Value) (s : State) : Prop := args = #[.ref b, .int (Int32.ofNat o), .int (Int32.ofNat len)] ∧ Ch b A s ∧ o + len ≤ A.slots.size ∧ len ≤ 536870912 ∧ ∀ i, i < len → ¬ 255 < cv A (o + i)
def E (b : Addr) (A : Cell) (o len : Nat) (r : Option Value) (s u : State) : Prop := NewArr .byte "[B" len (fun j => .int (lo8 (cv A (o + j)))) r s u ∧ u.heap.size = s.heap.size + 1
/-- no char of the range above 255: a new byte[] of their low bytes -/
theorem law (l : Launch) (b : Addr) (A : Cell) (o len : Nat) : Law l yN 3 3 1 18 yB 6 (some (.array .byte)) site (P b A o len) (E b A o len) [] 1 len := by
  refine Law.of_walk (plainFor_of_name (by decide +kernel)) (by decide +kernel) (by decide +kernel) (by decide) (fun _ _ h => by rw [h.1]; rfl) (fun _ U U' hal hh h => ⟨h.1, h.2.1.mv hal hh, h.2.2⟩) (fun r U U' V V' h1 hal h2 h => ⟨NewArr.mv r U U' V V' h1 hal h2 h.1, by rw [h1, h2]; exact h.2⟩) ?_
  intro p e s m args below meth c s₁ X0 hexec hbytes hml hret hlk hnm hown hh0 W hP
  obtain ⟨rfl, hA, l1, l2, hp⟩ := hP
  have a31 := hA.1.2.2.2
  have c1 : Steps p.tables e below (s₁.setTop (entryFrame m #[.ref b, .int (Int32.ofNat o), .int (Int32.ofNat len)] 6)) (s₁.setTop (mkF m 0 #[.val (.ref b), .val (.int (Int32.ofNat o)), .val (.int (Int32.ofNat len)), .unset, .unset, .unset] [])) := entry rfl
  have c2 : Steps p.tables e below (s₁.setTop (entryFrame m #[.ref b, .int (Int32.ofNat o), .int (Int32.ofNat len)] 6)) (s₁.setTop (mkF m 1 #[.val (.ref b), .val (.int (Int32.ofNat o)), .val (.int (Int32.ofNat len)), .unset, .unset, .unset] [.int (Int32.ofNat len)])) := c1.trans (by
    refine XS.iloadN X0.here hexec rfl (hb hbytes d0) rfl ?_
    exact Steps.refl _)
  obtain ⟨T3, B3, X3, ba3, bs3, bv3, bh3, bf3, st3⟩ := X0.anew hexec (atype := .byte) (wk W (.arrayClass .byte)) rfl (by show len * 1 ≤ _; omega) (by omega) (g := (mkF m 1 #[.val (.ref b), .val (.int (Int32.ofNat o)), .val (.int (Int32.ofNat len)), .unset, .unset, .unset] [.int (Int32.ofNat len)])) rfl (hb hbytes d1) (rest := []) rfl (Nat.le_refl _) (by show 0 + len ≤ len; omega)
  rw [hh0] at ba3 st3
  have kp3 : XT.Kept s T3 := (XT.Kept.of_eq hh0).push bh3
  have hA3 := hA.keep X3.warmed.alike (kp3 _ _ hA.1.1)
  have hne : b ≠ s.heap.size := hA.1.ne
  have c4 : Steps p.tables e below (s₁.setTop (entryFrame m #[.ref b, .int (Int32.ofNat o), .int (Int32.ofNat len)] 6)) (T3.setTop (mkF m 3 #[.val (.ref b), .val (.int (Int32.ofNat o)), .val (.int (Int32.ofNat len)), .unset, .unset, .unset] [.ref s.heap.size])) := c2.trans (st3 _ (Steps.refl _))
  have c5 : Steps p.tables e below (s₁.setTop (entryFrame m #[.ref b, .int (Int32.ofNat o), .int (Int32.ofNat len)] 6)) (T3.setTop (mkF m 9 #[.val (.ref b), .val (.int (Int32.ofNat o)), .val (.int (Int32.ofNat len)), .val (.ref s.heap.size), .unset, .unset] [.int (Int32.ofNat len), .int 0, .ref s.heap.size, .int (Int32.ofNat o), .ref b])) := c4.trans (by
    refine XS.astoreN X3.here hexec rfl (hb hbytes d3) rfl rfl rfl ?_
    refine XS.aloadN X3.here hexec rfl (hb hbytes d4) rfl rfl ?_
    refine XS.iloadN X3.here hexec rfl (hb hbytes d5) rfl ?_
    refine XS.aloadN X3.here hexec rfl (hb hbytes d6) rfl rfl ?_
    refine iconstV X3.here hexec rfl 0 (hb hbytes d7) (by decide) ?_
    refine XS.iloadN X3.here hexec rfl (hb hbytes d8) rfl ?_
    exact Steps.refl _)
  obtain ⟨v6, T6, X6, E6, g6⟩ := X3.callS hexec (Cmp5.law l b A s.heap.size B3 o 0 len) hown (wks W (staticW U16 115 Cmp5.yN)) (wk W Cmp5.tab) (W := 0) (Nat.le_of_ble_eq_true rfl) (Nat.le_of_ble_eq_true rfl) (Nat.le_refl _) (by show 0 + len + 0 ≤ len; omega) (g := (mkF m 9 #[.val (.ref b), .val (.int (Int32.ofNat o)), .val (.int (Int32.ofNat len)), .val (.ref s.heap.size), .unset, .unset] [.int (Int32.ofNat len), .int (Int32.ofNat 0), .ref s.heap.size, .int (Int32.ofNat o), .ref b])) rfl (by rw [hml]; rfl) c5 (argsL := [.ref b, .int (Int32.ofNat o), .ref s.heap.size, .int (Int32.ofNat 0), .int (Int32.ofNat len)]) (rest := []) rfl rfl (by show 2 * 0 + 0 ≤ _; decide) (hb hbytes d9) (⟨rfl, hA3, ba3, hne, l1, by rw [bs3]; simp, hp⟩)
  obtain ⟨rfl, B6, p6, f6⟩ := E6
  have c7 : Steps p.tables e below (s₁.setTop (entryFrame m #[.ref b, .int (Int32.ofNat o), .int (Int32.ofNat len)] 6)) (T6.setTop (mkF m 12 #[.val (.ref b), .val (.int (Int32.ofNat o)), .val (.int (Int32.ofNat len)), .val (.ref s.heap.size), .unset, .unset] [.int (Int32.ofNat len)])) := g6
  have c8 : Steps p.tables e below (s₁.setTop (entryFrame m #[.ref b, .int (Int32.ofNat o), .int (Int32.ofNat len)] 6)) (T6.setTop (mkF m 58 #[.val (.ref b), .val (.int (Int32.ofNat o)), .val (.int (Int32.ofNat len)), .val (.ref s.heap.size), .val (.int (Int32.ofNat len)), .unset] [.ref s.heap.size])) := c7.trans (by
    refine XS.istore X6.here hexec rfl (hb hbytes d12) rfl rfl ?_
    refine XS.iload X6.here hexec rfl (hb hbytes d14) rfl ?_
    refine XS.iloadN X6.here hexec rfl (hb hbytes d16) rfl ?_
    refine XS.icmpYes X6.here hexec rfl (pc0 := 17) rfl (hb hbytes d17) rfl (ii_eq_t rfl) (by decide) rfl ?_
    refine XS.aloadN X6.here hexec rfl (hb hbytes d57) rfl rfl ?_
    exact Steps.refl _)
  have X8 := X6.wide (L' := []) (cells' := 1) (slots' := len) (fun x hx hlt => by
    simp only [List.nil_append, copyLocs, List.mem_map, List.mem_range] at hx
    obtain ⟨i, -, rfl⟩ := hx
    exact absurd hlt (Nat.lt_irrefl _)) (Nat.le_refl _) (by omega)
  exact ⟨T6, some (.ref s.heap.size), _, _, _, X8, rfl, rfl, rfl, (fun h => by cases h), ⟨⟨rfl, B6, ba3.like (X3.warmed.alike.symm.trans X6.warmed.alike) p6.1 f6.1 f6.2.1 f6.2.2.1, f6.2.1.trans bv3, by rw [X6.warmed.alike.findClass, f6.1]; exact bf3, by rw [f6.2.2.1, bs3]; simp, fun j hj => by rw [f6.2.2.2 j, if_pos (by omega)]; rfl, kp3.put p6 (Nat.le_refl _)⟩, by rw [p6.2.2, bh3, hh0]; simp⟩, fun fs hl => c8.trans (X8.areturnOut hexec rfl hret rfl (hb hbytes d58) hl)⟩
end Cmp3
namespace CodL
def yN : MethodName := ⟨"java/lang/StringUTF16", "coderFromArrayLen", "([BI)B"⟩
abbrev yB : ByteArray := jdk_52_method_15_code
theorem d0 : decode yB 0 = .ok (.iload_n 1, 1) := by decide +kernel
theorem d1 : decode yB 1 = .ok (.aload_n 0, 1) := by decide +kernel
theorem d2 : decode yB 2 = .ok (.arraylength, 1) := by decide +kernel
theorem d3 : decode yB 3 = .ok (.isub, 1) := by decide +kernel
theorem d4 : decode yB 4 = .ok (.bipush 31, 2) := by decide +kernel
theorem d6 : decode yB 6 = .ok (.iushr, 1) := by decide +kernel
theorem d7 : decode yB 7 = .ok (.i2b, 1) := by decide +kernel
theorem d8 : decode yB 8 = .ok (.ireturn, 1) := by decide +kernel
def site : List Cond := []
def tab : Cond := tabOf yN yB 2 (some .byte) site
def P (d : Addr) (B : Cell) (args : Array Value) (s : State) : Prop := args = #[.ref d, .int (Int32.ofNat B.slots.size)] ∧ Arr .byte d B s
def E (r : Option Value) (s u : State) : Prop := XT.PureE (some (.int 0)) r s u
/-- an array as long as the number of chars: LATIN1 -/
theorem law (l : Launch) (d : Addr) (B : Cell) : Law l yN 2 2 0 0 yB 2 (some .byte) site (P d B) E [] 0 0 := by
  refine Law.of_walk (plainFor_of_name (by decide +kernel)) (by decide +kernel) (by decide +kernel) (by decide) (fun _ _ h => by rw [h.1]; rfl) (fun _ U U' hal hh h => ⟨h.1, h.2.mv hal hh⟩) (fun r U U' V V' h1 hal h2 h => XT.PureE.mv r U U' V V' h1 hal h2 h) ?_
  intro p e s m args below meth c s₁ X0 hexec hbytes hml hret hlk hnm hown hh0 W hP
  obtain ⟨rfl, hB⟩ := hP
  have hB0 := hB.mv X0.warmed.alike hh0
  have c1 : Steps p.tables e below (s₁.setTop (entryFrame m #[.ref d, .int (Int32.ofNat B.slots.size)] 2)) (s₁.setTop (mkF m 0 #[.val (.ref d), .val (.int (Int32.ofNat B.slots.size))] [])) := entry rfl
  have c2 : Steps p.tables e below (s₁.setTop (entryFrame m #[.ref d, .int (Int32.ofNat B.slots.size)] 2)) (s₁.setTop (mkF m 2 #[.val (.ref d), .val (.int (Int32.ofNat B.slots.size))] [.ref d, .int (Int32.ofNat B.slots.size)])) := c1.trans (by
    refine XS.iloadN X0.here hexec rfl (hb hbytes d0) rfl ?_
    refine XS.aloadN X0.here hexec rfl (hb hbytes d1) rfl rfl ?_
    exact Steps.refl _)
  have c3 : Steps p.tables e below (s₁.setTop (entryFrame m #[.ref d, .int (Int32.ofNat B.slots.size)] 2)) (s₁.setTop (mkF m 8 #[.val (.ref d), .val (.int (Int32.ofNat B.slots.size))] [.int (lo8 (ushr (Int32.ofNat B.slots.size - Int32.ofNat B.slots.size) 31))])) := c2.trans (by
    refine X0.alen hexec hB0 rfl rfl (hb hbytes d2) ?_
    refine XS.isub X0.here hexec rfl (hb hbytes d3) rfl ?_
    refine bipushV X0.here hexec rfl 31 (hb hbytes d4) (by decide) ?_
    refine iushr X0.here hexec rfl (hb hbytes d6) rfl ?_
    refine i2b X0.here hexec rfl (hb hbytes d7) rfl ?_
    exact Steps.refl _)
  have e0 : lo8 (ushr (Int32.ofNat B.slots.size - Int32.ofNat B.slots.size) 31) = 0 := by rw [Int32.sub_self]; decide
  rw [e0] at c3
  exact ⟨s₁, some (.int 0), _, _, _, X0, rfl, rfl, rfl, (fun h => by cases h), ⟨rfl, hh0⟩, fun fs hl => c3.trans (X0.ireturnOut hexec hret rfl (Or.inr (Or.inr (Or.inl rfl))) (hb hbytes d8) hl)⟩
end CodL
/-- the String at a is Latin-1 over a new byte[] (the heap's one new cell): the low bytes of the len chars of A from o on; every cell but a is kept -/
def Got (a : Addr) (D : Cell) (fV fC : Field) (A : Cell) (o len : Nat) (r : Option Value) (s u : State) : Prop := r = none ∧ ∃ D' V : Cell, Blank "java/lang/String" a D' u ∧ Same D D' [fV.slot, fC.slot] ∧ D'.slots[fV.slot]? = some (.ref s.heap.size) ∧ D'.slots[fC.slot]? = some (.int 0) ∧ Arr .byte s.heap.size V u ∧ V.vm = .none ∧ u.vm.findClass "[B" = some V.cls ∧ V.slots.size = len ∧ (∀ j, j < len → V.slots[j]? = some (.int (lo8 (cv A (o + j))))) ∧ (∀ (y : Addr) (c : Cell), y ≠ a → s.heap[y]? = some c → u.heap[y]? = some c) ∧ u.heap.size = s.heap.size + 1
theorem Got.mv {a : Addr} {D A : Cell} {fV fC : Field} {o len : Nat} : ∀ r (U U' V V' : State), U'.heap = U.heap → V.vm.Alike V'.vm → V'.heap = V.heap → Got a D fV fC A o len r U V → Got a D fV fC A o len r U' V' :=
  fun r U U' V V' h1 hal h2 ⟨e0, D', X, a1, a2, a3, a4, a5, a6, a7, a8, a9, a10, a11⟩ => ⟨e0, D', X, a1.mv hal h2, a2, by rw [h1]; exact a3, a4, by rw [h1]; exact a5.mv hal h2, a6, by rw [hal.findClass]; exact a7, a8, a9, by rw [h1, h2]; exact a10, by rw [h1, h2]; exact a11⟩
namespace New4
def yN : MethodName := ⟨"java/lang/String", "<init>", "([CIILjava/lang/Void;)V"⟩
abbrev yB : ByteArray := jdk_42_method_149_code
theorem d0 : decode yB 0 = .ok (.aload_n 0, 1) := by decide +kernel
theorem d1 : decode yB 1 = .ok (.invokespecial 1, 3) := by decide +kernel
theorem d4 : decode yB 4 = .ok (.iload_n 3, 1) := by decide +kernel
theorem d5 : decode yB 5 = .ok (.ifCond (.ne) 22, 3) := by decide +kernel
theorem d27 : decode yB 27 = .ok (.getstatic 38, 3) := by decide +kernel
theorem d30 : decode yB 30 = .ok (.ifCond (.eq) 28, 3) := by decide +kernel
theorem d33 : decode yB 33 = .ok (.aload_n 1, 1) := by decide +kernel
theorem d34 : decode yB 34 = .ok (.iload_n 2, 1) := by decide +kernel
theorem d35 : decode yB 35 = .ok (.iload_n 3, 1) := by decide +kernel
theorem d36 : decode yB 36 = .ok (.invokestatic 177, 3) := by decide +kernel
theorem d39 : decode yB 39 = .ok (.astore 5, 2) := by decide +kernel
theorem d41 : decode yB 41 = .ok (.aload_n 0, 1) := by decide +kernel
theorem d42 : decode yB 42 = .ok (.aload 5, 2) := by decide +kernel
theorem d44 : decode yB 44 = .ok (.iload_n 3, 1) := by decide +kernel
theorem d45 : decode yB 45 = .ok (.invokestatic 47, 3) := by decide +kernel
theorem d48 : decode yB 48 = .ok (.putfield 15, 3) := by decide +kernel
theorem d51 : decode yB 51 = .ok (.aload_n 0, 1) := by decide +kernel
theorem d52 : decode yB 52 = .ok (.aload 5, 2) := by decide +kernel
theorem d54 : decode yB 54 = .ok (.putfield 9, 3) := by decide +kernel
theorem d57 : decode yB 57 = .ok (.return_, 1) := by decide +kernel
def site : List Cond := [.fieldLink "java/lang/String" 38 "java/lang/String" "COMPACT_STRINGS" "Z", Cmp3.tab, CodL.tab, .laysFinal "java/lang/String" "java/lang/String" "value" "[B", .fieldLink "java/lang/String" 9 "java/lang/String" "value" "[B", .laysFinal "java/lang/String" "java/lang/String" "coder" "B", .fieldLink "java/lang/String" 15 "java/lang/String" "coder" "B"] ++ objW "java/lang/String" 1 ++ staticW "java/lang/String" 177 Cmp3.yN ++ staticW "java/lang/String" 47 CodL.yN
def tab : Cond := tabOf yN yB 6 none site
def P (a : Addr) (D : Cell) (fV fC : Field) (b : Addr) (A : Cell) (z : Int32) (o len : Nat) (args : Array Value) (s : State) : Prop := args = #[.ref a, .ref b, .int (Int32.ofNat o), .int (Int32.ofNat len), .null] ∧ Blank "java/lang/String" a D s ∧ Found "java/lang/String" "value" "[B" fV s ∧ Found "java/lang/String" "coder" "B" fC s ∧ Ch b A s ∧ StaticIs s "java/lang/String" "COMPACT_STRINGS" "Z" (.int z) ∧ ¬ z = 0 ∧ 0 < len ∧ o + len ≤ A.slots.size ∧ len ≤ 536870912 ∧ ∀ i, i < len → ¬ 255 < cv A (o + i)
def E (a : Addr) (D : Cell) (fV fC : Field) (A : Cell) (o len : Nat) (r : Option Value) (s u : State) : Prop := Got a D fV fC A o len r s u
/-- len > 0, no char of the range above 255: a Latin-1 String of their low bytes -/
theorem law (l : Launch) (a : Addr) (D : Cell) (fV fC : Field) (b : Addr) (A : Cell) (z : Int32) (o len : Nat) : Law l yN 5 4 2 35 yB 6 none site (P a D fV fC b A z o len) (E a D fV fC A o len) [⟨a, fC.slot⟩, ⟨a, fV.slot⟩] 1 len := by
  refine Law.of_walk (plainFor_of_name (by decide +kernel)) (by decide +kernel) (by decide +kernel) (by decide) (fun _ _ h => by rw [h.1]; rfl) (fun _ U U' hal hh h => ⟨h.1, h.2.1.mv hal hh, h.2.2.1.al hal, h.2.2.2.1.al hal, h.2.2.2.2.1.mv hal hh, h.2.2.2.2.2.1.there hal hh, h.2.2.2.2.2.2⟩) (fun r U U' V V' h1 hal h2 h => Got.mv r U U' V V' h1 hal h2 h) ?_
  intro p e s m args below meth c s₁ X0 hexec hbytes hml hret hlk hnm hown hh0 W hP
  obtain ⟨rfl, hB, f1, f2, hA, s1, hz, l0, l1, l2, hp⟩ := hP
  have a31 := hA.1.2.2.2
  have c1 : Steps p.tables e below (s₁.setTop (entryFrame m #[.ref a, .ref b, .int (Int32.ofNat o), .int (Int32.ofNat len), .null] 6)) (s₁.setTop (mkF m 0 #[.val (.ref a), .val (.ref b), .val (.int (Int32.ofNat o)), .val (.int (Int32.ofNat len)), .val .null, .unset] [])) := entry rfl
  have c2 : Steps p.tables e below (s₁.setTop (entryFrame m #[.ref a, .ref b, .int (Int32.ofNat o), .int (Int32.ofNat len), .null] 6)) (s₁.setTop (mkF m 1 #[.val (.ref a), .val (.ref b), .val (.int (Int32.ofNat o)), .val (.int (Int32.ofNat len)), .val .null, .unset] [.ref a])) := c1.trans (by
    refine XS.aloadN X0.here hexec rfl (hb hbytes d0) rfl rfl ?_
    exact Steps.refl _)
  obtain ⟨T3, X3, q3, st3⟩ := X0.oinit hexec hown (wks W (objW "java/lang/String" 1)) (g := (mkF m 1 #[.val (.ref a), .val (.ref b), .val (.int (Int32.ofNat o)), .val (.int (Int32.ofNat len)), .val .null, .unset] [.ref a])) rfl (by rw [hml]; rfl) (rest := []) rfl (hb hbytes d1) (W := 0) (by show 2 * 0 + 0 ≤ _; decide) (Nat.le_of_ble_eq_true rfl) (Nat.le_of_ble_eq_true rfl)
  have hh3 := q3.trans hh0
  have c4 : Steps p.tables e below (s₁.setTop (entryFrame m #[.ref a, .ref b, .int (Int32.ofNat o), .int (Int32.ofNat len), .null] 6)) (T3.setTop (mkF m 27 #[.val (.ref a), .val (.ref b), .val (.int (Int32.ofNat o)), .val (.int (Int32.ofNat len)), .val .null, .unset] [])) := (c2.trans (st3 _ (Steps.refl _))).trans (by
    refine XS.iloadN X3.here hexec rfl (hb hbytes d4) rfl ?_
    refine XS.ifYes X3.here hexec rfl (pc0 := 5) rfl (hb hbytes d5) rfl (i0_ne_t (nz32 (by omega) l0)) (by decide) rfl ?_
    exact Steps.refl _)
  obtain ⟨T5, X5, q5, st5⟩ := X3.sget hexec hown (wk W (.fieldLink "java/lang/String" 38 "java/lang/String" "COMPACT_STRINGS" "Z")) s1 (fun _ _ h => by rw [hh3]; exact h) (g := (mkF m 27 #[.val (.ref a), .val (.ref b), .val (.int (Int32.ofNat o)), .val (.int (Int32.ofNat len)), .val .null, .unset] [])) rfl (hb hbytes d27)
  have hh5 := q5.trans hh3
  have c6 : Steps p.tables e below (s₁.setTop (entryFrame m #[.ref a, .ref b, .int (Int32.ofNat o), .int (Int32.ofNat len), .null] 6)) (T5.setTop (mkF m 30 #[.val (.ref a), .val (.ref b), .val (.int (Int32.ofNat o)), .val (.int (Int32.ofNat len)), .val .null, .unset] [.int z])) := c4.trans (st5 _ (Steps.refl _))
  have c7 : Steps p.tables e below (s₁.setTop (entryFrame m #[.ref a, .ref b, .int (Int32.ofNat o), .int (Int32.ofNat len), .null] 6)) (T5.setTop (mkF m 36 #[.val (.ref a), .val (.ref b), .val (.int (Int32.ofNat o)), .val (.int (Int32.ofNat len)), .val .null, .unset] [.int (Int32.ofNat len), .int (Int32.ofNat o), .ref b])) := c6.trans (by
    refine XS.ifNo X5.here hexec rfl (hb hbytes d30) rfl (i0_eq_f hz) ?_
    refine XS.aloadN X5.here hexec rfl (hb hbytes d33) rfl rfl ?_
    refine XS.iloadN X5.here hexec rfl (hb hbytes d34) rfl ?_
    refine XS.iloadN X5.here hexec rfl (hb hbytes d35) rfl ?_
    exact Steps.refl _)
  obtain ⟨v8, T8, X8, E8, g8⟩ := X5.callS hexec (Cmp3.law l b A o len) hown (wks W (staticW "java/lang/String" 177 Cmp3.yN)) (wk W Cmp3.tab) (W := 0) (Nat.le_of_ble_eq_true rfl) (Nat.le_of_ble_eq_true rfl) (Nat.le_refl _) (by show 0 + len ≤ len; omega) (g := (mkF m 36 #[.val (.ref a), .val (.ref b), .val (.int (Int32.ofNat o)), .val (.int (Int32.ofNat len)), .val .null, .unset] [.int (Int32.ofNat len), .int (Int32.ofNat o), .ref b])) rfl (by rw [hml]; rfl) c7 (argsL := [.ref b, .int (Int32.ofNat o), .int (Int32.ofNat len)]) (rest := []) rfl rfl (by show 2 * 0 + 0 ≤ _; decide) (hb hbytes d36) (⟨rfl, hA.mv X5.warmed.alike hh5, l1, l2, hp⟩)
  obtain ⟨e8, z8⟩ := E8
  obtain ⟨rfl, N, n1, n2, n3, n4, n5, n6⟩ := NewArr.mv _ T5 s _ _ hh5.symm (Vm.Alike.refl _) rfl e8
  rw [hh5] at z8
  have hB1 := hB.keep X8.warmed.alike (n6 _ _ hB.1)
  have hne : s.heap.size ≠ a := (Nat.ne_of_lt (Array.getElem?_eq_some_iff.mp hB.1).1).symm
  have c9 : Steps p.tables e below (s₁.setTop (entryFrame m #[.ref a, .ref b, .int (Int32.ofNat o), .int (Int32.ofNat len), .null] 6)) (T8.setTop (mkF m 39 #[.val (.ref a), .val (.ref b), .val (.int (Int32.ofNat o)), .val (.int (Int32.ofNat len)), .val .null, .unset] [.ref s.heap.size])) := g8
  have c10 : Steps p.tables e below (s₁.setTop (entryFrame m #[.ref a, .ref b, .int (Int32.ofNat o), .int (Int32.ofNat len), .null] 6)) (T8.setTop (mkF m 45 #[.val (.ref a), .val (.ref b), .val (.int (Int32.ofNat o)), .val (.int (Int32.ofNat len)), .val .null, .val (.ref s.heap.size)] [.int (Int32.ofNat N.slots.size), .ref s.heap.size, .ref a])) := by
    have hc : Steps p.tables e below (s₁.setTop (entryFrame m #[.ref a, .ref b, .int (Int32.ofNat o), .int (Int32.ofNat len), .null] 6)) (T8.setTop (mkF m 45 #[.val (.ref a), .val (.ref b), .val (.int (Int32.ofNat o)), .val (.int (Int32.ofNat len)), .val .null, .val (.ref s.heap.size)] [.int (Int32.ofNat len), .ref s.heap.size, .ref a])) := c9.trans (by
      refine XS.astore X8.here hexec rfl (hb hbytes d39) rfl rfl rfl ?_
      refine XS.aloadN X8.here hexec rfl (hb hbytes d41) rfl rfl ?_
      refine XS.aload X8.here hexec rfl (hb hbytes d42) rfl rfl ?_
      refine XS.iloadN X8.here hexec rfl (hb hbytes d44) rfl ?_
      exact Steps.refl _)
    rw [n4]; exact hc
  obtain ⟨v11, T11, X11, E11, g11⟩ := X8.callS hexec (CodL.law l s.heap.size N) hown (wks W (staticW "java/lang/String" 47 CodL.yN)) (wk W CodL.tab) (W := 1) (Nat.le_of_ble_eq_true rfl) (Nat.le_of_ble_eq_true rfl) (Nat.le_refl _) (by show 0 + len + 0 ≤ len; omega) (g := (mkF m 45 #[.val (.ref a), .val (.ref b), .val (.int (Int32.ofNat o)), .val (.int (Int32.ofNat len)), .val .null, .val (.ref s.heap.size)] [.int (Int32.ofNat N.slots.size), .ref s.heap.size, .ref a])) rfl (by rw [hml]; rfl) c10 (argsL := [.ref s.heap.size, .int (Int32.ofNat N.slots.size)]) (rest := [.ref a]) rfl rfl (by show 2 * 0 + (1 + 0) ≤ _; decide) (hb hbytes d45) (⟨rfl, n1⟩)
  obtain ⟨rfl, q11⟩ := E11
  have hB11 := hB1.mv (X8.warmed.alike.symm.trans X11.warmed.alike) q11
  have c12 : Steps p.tables e below (s₁.setTop (entryFrame m #[.ref a, .ref b, .int (Int32.ofNat o), .int (Int32.ofNat len), .null] 6)) (T11.setTop (mkF m 48 #[.val (.ref a), .val (.ref b), .val (.int (Int32.ofNat o)), .val (.int (Int32.ofNat len)), .val .null, .val (.ref s.heap.size)] [.int 0, .ref a])) := g11
  obtain ⟨T13, X13, p13, bl13, sl13, st13⟩ := X11.finit hexec hown (wk W (.fieldLink "java/lang/String" 15 "java/lang/String" "coder" "B")) (Or.inr ⟨_, (wk W (.laysFinal "java/lang/String" "java/lang/String" "coder" "B"))⟩) (Or.inl ⟨rfl, hnm⟩) f2 (Or.inl rfl) hB11 (t := .byte) (by decide +kernel) rfl (g := (mkF m 48 #[.val (.ref a), .val (.ref b), .val (.int (Int32.ofNat o)), .val (.int (Int32.ofNat len)), .val .null, .val (.ref s.heap.size)] [.int 0, .ref a])) rfl (rest := []) rfl (hb hbytes d48)
  have c14 : Steps p.tables e below (s₁.setTop (entryFrame m #[.ref a, .ref b, .int (Int32.ofNat o), .int (Int32.ofNat len), .null] 6)) (T13.setTop (mkF m 54 #[.val (.ref a), .val (.ref b), .val (.int (Int32.ofNat o)), .val (.int (Int32.ofNat len)), .val .null, .val (.ref s.heap.size)] [.ref s.heap.size, .ref a])) := (c12.trans (st13 _ (Steps.refl _))).trans (by
    refine XS.aloadN X13.here hexec rfl (hb hbytes d51) rfl rfl ?_
    refine XS.aload X13.here hexec rfl (hb hbytes d52) rfl rfl ?_
    exact Steps.refl _)
  obtain ⟨T15, X15, p15, bl15, sl15, st15⟩ := X13.finit hexec hown (wk W (.fieldLink "java/lang/String" 9 "java/lang/String" "value" "[B")) (Or.inr ⟨_, (wk W (.laysFinal "java/lang/String" "java/lang/String" "value" "[B"))⟩) (Or.inl ⟨rfl, hnm⟩) f1 (Or.inl rfl) bl13 (t := (.array .byte)) (by decide +kernel) rfl (g := (mkF m 54 #[.val (.ref a), .val (.ref b), .val (.int (Int32.ofNat o)), .val (.int (Int32.ofNat len)), .val .null, .val (.ref s.heap.size)] [.ref s.heap.size, .ref a])) rfl (rest := []) rfl (hb hbytes d54)
  have c16 : Steps p.tables e below (s₁.setTop (entryFrame m #[.ref a, .ref b, .int (Int32.ofNat o), .int (Int32.ofNat len), .null] 6)) (T15.setTop (mkF m 57 #[.val (.ref a), .val (.ref b), .val (.int (Int32.ofNat o)), .val (.int (Int32.ofNat len)), .val .null, .val (.ref s.heap.size)] [])) := c14.trans (st15 _ (Steps.refl _))
  have ap := apart (Or.inr ⟨_, (wk W (.laysFinal "java/lang/String" "java/lang/String" "value" "[B"))⟩) (Or.inr ⟨_, (wk W (.laysFinal "java/lang/String" "java/lang/String" "coder" "B"))⟩) f1 f2 (t₁ := .array .byte) (t₂ := .byte) (by decide +kernel) (by decide +kernel) (by decide)
  have al := X8.warmed.alike.symm.trans X15.warmed.alike
  have n7 : T11.heap[s.heap.size]? = some N := by rw [q11]; exact n1.1
  exact ⟨T15, none, _, _, _, X15, by simp, rfl, by omega, (fun _ => rfl), ⟨rfl, _, N, bl15, ((Same.refl D _).set _ (by simp)).set _ (by simp), sl15, (Cell.slots_setSlot_ne _ ap).trans sl13, n1.keep al (p15.other hne (p13.other hne n7)), n2, by rw [al.findClass]; exact n3, n4, n5, fun y c h1 h2 => p15.other h1 (p13.other h1 (by rw [q11]; exact n6 y c h2)), by rw [p15.2.2, p13.2.2, q11]; exact z8⟩, fun fs hl => c16.trans (X15.returnOut hexec hret (hb hbytes d57) hl)⟩
end New4
namespace New1
def yN : MethodName := ⟨"java/lang/String", "<init>", "([C)V"⟩
abbrev yB : ByteArray := jdk_42_method_3_code
theorem d0 : decode yB 0 = .ok (.aload_n 0, 1) := by decide +kernel
theorem d1 : decode yB 1 = .ok (.aload_n 1, 1) := by decide +kernel
theorem d2 : decode yB 2 = .ok (.iconst 0, 1) := by decide +kernel
theorem d3 : decode yB 3 = .ok (.aload_n 1, 1) := by decide +kernel
theorem d4 : decode yB 4 = .ok (.arraylength, 1) := by decide +kernel
theorem d5 : decode yB 5 = .ok (.aconst_null, 1) := by decide +kernel
theorem d6 : decode yB 6 = .ok (.invokespecial 27, 3) := by decide +kernel
theorem d9 : decode yB 9 = .ok (.return_, 1) := by decide +kernel
def site : List Cond := [New4.tab] ++ initW "java/lang/String" 27 New4.yN
def tab : Cond := tabOf yN yB 2 none site
def P (a : Addr) (D : Cell) (fV fC : Field) (b : Addr) (A : Cell) (z : Int32) (args : Array Value) (s : State) : Prop := args = #[.ref a, .ref b] ∧ Blank "java/lang/String" a D s ∧ Found "java/lang/String" "value" "[B" fV s ∧ Found "java/lang/String" "coder" "B" fC s ∧ Ch b A s ∧ StaticIs s "java/lang/String" "COMPACT_STRINGS" "Z" (.int z) ∧ ¬ z = 0 ∧ 0 < A.slots.size ∧ A.slots.size ≤ 536870912 ∧ ∀ i, i < A.slots.size → ¬ 255 < cv A i
def E (a : Addr) (D : Cell) (fV fC : Field) (A : Cell) (r : Option Value) (s u : State) : Prop := Got a D fV fC A 0 A.slots.size r s u
/-- new String(chars), not empty, no char above 255: a Latin-1 String of their low bytes -/
theorem law (l : Launch) (a : Addr) (D : Cell) (fV fC : Field) (b : Addr) (A : Cell) (z : Int32) : Law l yN 2 1 3 52 yB 2 none site (P a D fV fC b A z) (E a D fV fC A) [⟨a, fC.slot⟩, ⟨a, fV.slot⟩] 1 A.slots.size := by
  refine Law.of_walk (plainFor_of_name (by decide +kernel)) (by decide +kernel) (by decide +kernel) (by decide) (fun _ _ h => by rw [h.1]; rfl) (fun _ U U' hal hh h => ⟨h.1, h.2.1.mv hal hh, h.2.2.1.al hal, h.2.2.2.1.al hal, h.2.2.2.2.1.mv hal hh, h.2.2.2.2.2.1.there hal hh, h.2.2.2.2.2.2⟩) (fun r U U' V V' h1 hal h2 h => Got.mv r U U' V V' h1 hal h2 h) ?_
  intro p e s m args below meth c s₁ X0 hexec hbytes hml hret hlk hnm hown hh0 W hP
  obtain ⟨rfl, hB, f1, f2, hA, s1, hz, l0, l2, hp⟩ := hP
  have c1 : Steps p.tables e below (s₁.setTop (entryFrame m #[.ref a, .ref b] 2)) (s₁.setTop (mkF m 0 #[.val (.ref a), .val (.ref b)] [])) := entry rfl
  have c2 : Steps p.tables e below (s₁.setTop (entryFrame m #[.ref a, .ref b] 2)) (s₁.setTop (mkF m 6 #[.val (.ref a), .val (.ref b)] [.null, .int (Int32.ofNat A.slots.size), .int 0, .ref b, .ref a])) := c1.trans (by
    refine XS.aloadN X0.here hexec rfl (hb hbytes d0) rfl rfl ?_
    refine XS.aloadN X0.here hexec rfl (hb hbytes d1) rfl rfl ?_
    refine iconstV X0.here hexec rfl 0 (hb hbytes d2) (by decide) ?_
    refine XS.aloadN X0.here hexec rfl (hb hbytes d3) rfl rfl ?_
    refine X0.alen hexec (hA.1.mv X0.warmed.alike hh0) rfl rfl (hb hbytes d4) ?_
    refine XS.aconstNull X0.here hexec rfl (hb hbytes d5) ?_
    exact Steps.refl _)
  obtain ⟨v3, T3, X3, E3, g3⟩ := X0.callN hexec (New4.law l a D fV fC b A z 0 A.slots.size) rfl hown (wks W (initW "java/lang/String" 27 New4.yN)) (W New4.tab (by simp only [site, List.mem_cons, List.mem_append, true_or, or_true])) (W := 0) (Nat.le_of_ble_eq_true rfl) (Nat.le_of_ble_eq_true rfl) (Nat.le_refl _) (by show 0 + A.slots.size ≤ A.slots.size; omega) (g := (mkF m 6 #[.val (.ref a), .val (.ref b)] [.null, .int (Int32.ofNat A.slots.size), .int (Int32.ofNat 0), .ref b, .ref a])) rfl (by rw [hml]; rfl) c2 (argsL := [.ref b, .int (Int32.ofNat 0), .int (Int32.ofNat A.slots.size), .null]) (rest := []) rfl rfl (by show 2 * 0 + 0 ≤ _; decide) (hb hbytes d6) (⟨rfl, hB.mv X0.warmed.alike hh0, f1.al X0.warmed.alike, f2.al X0.warmed.alike, hA.mv X0.warmed.alike hh0, s1.there X0.warmed.alike hh0, hz, l0, by omega, l2, fun i hi => by rw [Nat.zero_add]; exact hp i hi⟩)
  have e0 := Got.mv _ s₁ s _ _ hh0.symm (Vm.Alike.refl _) rfl E3
  obtain rfl := e0.1
  have c4 : Steps p.tables e below (s₁.setTop (entryFrame m #[.ref a, .ref b] 2)) (T3.setTop (mkF m 9 #[.val (.ref a), .val (.ref b)] [])) := g3
  exact ⟨T3, none, _, _, _, X3, by simp, rfl, by omega, (fun _ => rfl), e0, fun fs hl => c4.trans (X3.returnOut hexec hret (hb hbytes d9) hl)⟩
theorem pays {l : Launch} {R : Room} {p : Program} {e : Env} {below : List Frame} {s : State} {sargs : Array Value} {len W : Nat} (a : Addr) (D : Cell) (fV fC : Field) (b : Addr) (A : Cell) (z : Int32) (htab : tab.before sargs s = true) (hfr : 4 ≤ R.frames) (hlo : W + 65 ≤ R.locals) :
    Back l R p e below s sargs yN len W (fun A₁ a₁ => A₁.cells + 1 ≤ R.cells ∧ A₁.slots + A.slots.size ≤ R.slots ∧ P a D fV fC b A z a₁ A₁.U) (fun A₁ _ v₁ B₁ => E a D fV fC A v₁ A₁.U B₁.U ∧ B₁.locs = A₁.locs ++ [⟨a, fC.slot⟩, ⟨a, fV.slot⟩] ∧ B₁.cells = A₁.cells + 1 ∧ B₁.slots = A₁.slots + A.slots.size) :=
  (law l a D fV fC b A z).pays htab hfr (by omega)
end New1
end StrChars
namespace StrChars.Road
open Jvm Sem ClassFile Op Lib Jvm.Stand Jvm.Free Jvm.Free.XT
open Jvm.Lib.Cold (StaticIs)
abbrev ST : String := "java/lang/String"
/-- every table word that New1's law asks, flat -/
abbrev words : List Jvm.Cond := [.code New1.yN New1.yB 2 none, .initialized ST, .methodLink ST 27 New4.yN, .instanceMethod New4.yN,
  .code New4.yN New4.yB 6 none, .fieldLink ST 38 ST "COMPACT_STRINGS" "Z", .laysFinal ST ST "value" "[B", .fieldLink ST 9 ST "value" "[B", .laysFinal ST ST "coder" "B", .fieldLink ST 15 ST "coder" "B",
  .methodLink ST 1 Lib.objectInit, .instanceMethod Lib.objectInit, .code Lib.objectInit ⟨#[0xb1]⟩ 1 none, .methodLink ST 177 Cmp3.yN, .static Cmp3.yN, .methodLink ST 47 CodL.yN, .static CodL.yN,
  .code Cmp3.yN Cmp3.yB 6 (some (.array .byte)), .initialized U16, .arrayClass .byte, .methodLink U16 115 Cmp5.yN, .static Cmp5.yN, .code Cmp5.yN Cmp5.yB 7 (some .int), .code CodL.yN CodL.yB 2 (some .byte)]
theorem tab_of {a : Array Value} {s : State} (h : ∀ w ∈ words, w.before a s = true) : New1.tab.before a s = true := by
  have h5 : Cmp5.tab.before a s = true := unparts (wk h (.code Cmp5.yN Cmp5.yB 7 (some .int))) (wks h (.initialized Cmp5.yN.cls :: Cmp5.site))
  have hc : CodL.tab.before a s = true := unparts (wk h (.code CodL.yN CodL.yB 2 (some .byte))) (wks h (.initialized CodL.yN.cls :: CodL.site))
  have q5 : ∀ w ∈ Cmp5.tab :: words, w.before a s = true := fun w hw => (List.mem_cons.mp hw).elim (fun e => e ▸ h5) (h w)
  have h3 : Cmp3.tab.before a s = true := unparts (wk q5 (.code Cmp3.yN Cmp3.yB 6 (some (.array .byte)))) (wks q5 (.initialized Cmp3.yN.cls :: Cmp3.site))
  have q3 : ∀ w ∈ Cmp3.tab :: CodL.tab :: words, w.before a s = true := fun w hw => (List.mem_cons.mp hw).elim (fun e => e ▸ h3) fun hw => (List.mem_cons.mp hw).elim (fun e => e ▸ hc) (h w)
  have h4 : New4.tab.before a s = true := unparts (wk q3 (.code New4.yN New4.yB 6 none)) (wks q3 (.initialized New4.yN.cls :: New4.site))
  have q4 : ∀ w ∈ New4.tab :: words, w.before a s = true := fun w hw => (List.mem_cons.mp hw).elim (fun e => e ▸ h4) (h w)
  exact unparts (wk q4 (.code New1.yN New1.yB 2 none)) (wks q4 (.initialized New1.yN.cls :: New1.site))
/-- the words ride from the start Z to the walk's own state -/
theorem moved {Z s : State} {a0 args : Array Value} (hZ : Z.Warmed39 s.vm) (hw : ∀ d ∈ words, d.before a0 Z = true) : ∀ d ∈ words, d.before args s = true := fun d hd => by
  have q := hw d hd
  have t : ∀ d ∈ words, d = .arrayClass .byte ∨ (d.onTables && d.keepsFace) = true := by decide +kernel
  rcases t d hd with rfl | t
  · exact RoadKit.mvA hZ q
  · exact RoadKit.mv hZ q t
/-- WHAT COMES BACK, over the tables of the start Z: h the heap at the call, h' behind it -/
def Q (Z : State) (x : Addr) (A : Cell) (h : Heap) (v : Option Value) (h' : Heap) (L : List Loc) : Prop := v = none ∧ (∀ y ∈ L, y.base = x) ∧ RoadKit.Keep h h' [x] ∧ h'.size = h.size + 1 ∧ RoadKit.Exa Z h' x ST ∧ RoadKit.Fld Z h' x ST "value" "[B" (.ref h.size) ∧ RoadKit.Fld Z h' x ST "coder" "B" (.int 0) ∧
  (∃ V : Cell, RoadKit.Arr Z h' h.size V .byte ∧ V.vm = .none ∧ Z.vm.findClass "[B" = some V.cls ∧ V.slots.size = A.slots.size ∧ ∀ j, j < A.slots.size → V.slots[j]? = some (.int (lo8 (cv A j)))) ∧
  ∀ (O n d : String) (w : Value), RoadKit.Fld Z h x O n d w → RoadKit.slotOf Z O n d ≠ RoadKit.slotOf Z ST "value" "[B" → RoadKit.slotOf Z O n d ≠ RoadKit.slotOf Z ST "coder" "B" → RoadKit.Fld Z h' x O n d w
/-- **new String(chars) AT A CALL, IN THE ROAD'S FORM**: for specialBack behind newO: x the fresh String, b the char[] with the cell A -/
theorem back {p : Program} {l : Launch} {e : Env} {R : Room} {s : State} {args : Array Value} {below : List Frame} {len W : Nat} {Z : State} {a0 : Array Value} {h : Heap} (hZ : Z.Warmed39 s.vm) (hw : ∀ d ∈ words, d.before a0 Z = true) {kI : Nat} (wi : (Jvm.Cond.instantiable ST kI).before a0 Z = true)
    {x b : Addr} {A : Cell} {z : Int32} {v0 c0 : Value} (E : RoadKit.Exa Z h x ST) (V : RoadKit.Fld Z h x ST "value" "[B" v0) (C : RoadKit.Fld Z h x ST "coder" "B" c0) (K : RoadKit.Arr Z h b A .char) (hty : Typed .char A) (S : RoadKit.Sta Z h ST "COMPACT_STRINGS" "Z" (.int z)) (hz : ¬ z = 0)
    (l0 : 0 < A.slots.size) (l2 : A.slots.size ≤ 536870912) (hp : ∀ i, i < A.slots.size → ¬ 255 < cv A i) (hfr : 4 ≤ R.frames) (hlo : W + 65 ≤ R.locals) :
    Back l R p e below s args New1.yN len W (fun P a => a = #[.ref x, .ref b] ∧ P.U.heap = h ∧ P.cells + 1 ≤ R.cells ∧ P.slots + A.slots.size ≤ R.slots)
      (fun P _ v B => ∃ L, Q Z x A h v B.U.heap L ∧ B.locs = P.locs ++ L ∧ B.cells = P.cells + 1 ∧ B.slots = P.slots + A.slots.size) := by
  intro m meth c P g ig mk a X hg hsize hdg hW hn hp'
  obtain ⟨rfl, rfl, r1, r2⟩ := hp'
  have al : Z.vm.Alike P.U.vm := hZ.alike.trans X.warmed.alike
  obtain ⟨D, cfV, kV, iV, fV, hD, gV, stV, knV, obV, asV, slV⟩ := id V
  obtain ⟨D', cfC, kC, iC, fC, hD', gC, stC, -, -, asC, slC⟩ := id C
  cases hD.symm.trans hD'
  obtain ⟨D2, kD, e1, e2, e3, e4, e5⟩ := id E
  cases hD.symm.trans e1
  obtain ⟨c2, k2, i1, i2, i3, -⟩ := Cond.instantiable_spec wi
  cases e2.symm.trans i1
  cases e3.symm.trans i2
  obtain ⟨kU, u1, u2⟩ := al.2.2 _ _ e3
  have hB : Blank ST x D P.U := ⟨hD, ⟨knV, fun q hq => by rw [hq] at obV; cases obV⟩, by rw [al.findClass]; exact e2, kU, u1, by rw [u2]; exact i3, by rw [u2]; exact e5 i3⟩
  have F1 : Found ST "value" "[B" fV P.U := ⟨SBG.found_only al ⟨cfV, kV, iV, gV⟩, stV⟩
  have F2 : Found ST "coder" "B" fC P.U := ⟨SBG.found_only al ⟨cfC, kC, iC, gC⟩, stC⟩
  have hA : Ch b A P.U := ⟨⟨K.1, State.isArrayOf_alike al K.2.1, K.2.2, by omega⟩, hty⟩
  have hS : StaticIs P.U ST "COMPACT_STRINGS" "Z" (.int z) := by
    obtain ⟨cfS, iS, kS, fS, st, cS, t1, t2, t3, t4, t5, t6, t7⟩ := S
    exact StaticIs.there (s := { Z with heap := P.U.heap }) ⟨cfS, iS, kS, fS, st, cS, t1, t2, t3, t4, t5, (fun q => by rw [q] at t6; cases t6), t7⟩ al rfl
  obtain ⟨v, B, X', ⟨⟨hv, E', V', q1, q2, q3, q4, q5, q6, q7, q8, q9, q10, q11⟩, hl, hc, hs⟩, st⟩ := New1.pays x D fV fC b A z (tab_of (moved hZ hw)) hfr hlo m meth c P g ig mk _ X hg hsize hdg hW hn ⟨r1, r2, rfl, hB, F1, F2, hA, hS, hz, l0, l2, hp⟩
  have al' : Z.vm.Alike B.U.vm := hZ.alike.trans X'.warmed.alike
  have hsz : E'.slots.size = D.slots.size := by
    obtain ⟨-, -, -, kB, w1, w2, w3⟩ := q1
    obtain ⟨kB', y1, y2⟩ := al'.2.2 _ _ e3
    rw [q2.2.1] at w1
    cases w1.symm.trans y1
    rw [w3, e5 i3, y2]
  refine ⟨v, B, X', ⟨_, ⟨hv, ?_, ⟨by omega, fun y cy hy hn' => q10 y cy (by simpa using hn') hy, fun y cy hy => ?_⟩, q11, ⟨E', _, q1.1, by rw [q2.2.1]; exact e2, by rw [q2.2.1]; exact e3, by rw [q2.1]; exact obV, fun _ => by rw [hsz]; exact e5 i3⟩,
    ⟨E', cfV, kV, iV, fV, q1.1, gV, stV, by rw [q2.1]; exact knV, by rw [q2.1]; exact obV, by rw [q2.2.1]; exact asV, q3⟩, ⟨E', cfC, kC, iC, fC, q1.1, gC, stC, by rw [q2.1]; exact knV, by rw [q2.1]; exact obV, by rw [q2.2.1]; exact asC, q4⟩,
    ⟨V', ⟨q5.1, State.isArrayOf_alike al'.symm q5.2.1, q5.2.2.1⟩, q6, by rw [← al'.findClass]; exact q7, q8, fun j hj => by have := q9 j hj; rwa [Nat.zero_add] at this⟩, fun O n d w F n1 n2 => ?_⟩, hl, hc, hs⟩, st⟩
  · intro y hy
    simp only [List.mem_cons, List.not_mem_nil, or_false] at hy
    rcases hy with rfl | rfl <;> rfl
  · by_cases q : y = x
    · subst q
      cases hD.symm.trans hy
      exact ⟨E', q1.1, q2.2.1, q2.1, hsz⟩
    · exact ⟨cy, q10 y cy q hy, rfl, rfl, rfl⟩
  · obtain ⟨D3, cf, k, i, f, g1, g2, g3, g4, g5, g6, g7⟩ := F
    cases hD.symm.trans g1
    simp only [RoadKit.slotOf, g2, gV, gC, Option.map_some, Option.getD_some] at n1 n2
    exact ⟨E', cf, k, i, f, q1.1, g2, g3, by rw [q2.1]; exact g4, by rw [q2.1]; exact g5, by rw [q2.2.1]; exact g6, by rw [q2.2.2 f.slot (by simp [n1, n2])]; exact g7⟩
end StrChars.Road
namespace StrChars.Road
open Jvm Sem ClassFile Op Lib Jvm.Stand Jvm.Free Jvm.Free.XT
/-- WHAT COMES BACK, the byte[] as a list of values -/
def QA (Z : State) (x : Addr) (zn : Int32) (cs : List Int32) (h : Heap) (v : Option Value) (h' : Heap) (L : List Loc) : Prop := v = none ∧ (∀ y ∈ L, y.base = x) ∧ RoadKit.Keep h h' [x] ∧ h'.size = h.size + 1 ∧ RoadKit.Exa Z h' x ST ∧ RoadKit.Fld Z h' x ST "value" "[B" (.ref h.size) ∧ RoadKit.Fld Z h' x ST "coder" "B" (.int 0) ∧
  (∃ kb, Z.vm.findClass "[B" = some kb ∧ RoadKit.Arv Z h' h.size kb .byte zn (cs.map fun c => .int (lo8 c)) (.int 0)) ∧
  ∀ (O n d : String) (w : Value), RoadKit.Fld Z h x O n d w → RoadKit.slotOf Z O n d ≠ RoadKit.slotOf Z ST "value" "[B" → RoadKit.slotOf Z O n d ≠ RoadKit.slotOf Z ST "coder" "B" → RoadKit.Fld Z h' x O n d w
/-- **new String(chars) AT A CALL, THE ARRAYS AS LISTS**: the char[] at b holds cs, not empty, no char above 255 -/
theorem backArv {p : Program} {l : Launch} {e : Env} {R : Room} {s : State} {args : Array Value} {below : List Frame} {len W : Nat} {Z : State} {a0 : Array Value} {h : Heap} (hZ : Z.Warmed39 s.vm) (hw : ∀ d ∈ words, d.before a0 Z = true) {kI : Nat} (wi : (Jvm.Cond.instantiable ST kI).before a0 Z = true)
    {x b : Addr} {k : ClassId} {zn z : Int32} {cs : List Int32} {dv v0 c0 : Value} (E : RoadKit.Exa Z h x ST) (V : RoadKit.Fld Z h x ST "value" "[B" v0) (C : RoadKit.Fld Z h x ST "coder" "B" c0) (K : RoadKit.Arv Z h b k .char zn (cs.map Value.int) dv) (S : RoadKit.Sta Z h ST "COMPACT_STRINGS" "Z" (.int z)) (hz : ¬ z = 0)
    (hlen : zn.toNatClampNeg = cs.length) (h0 : 0 < cs.length) (hbig : cs.length ≤ 536870912) (hall : ∀ c ∈ cs, ¬ 255 < c) (hfr : 4 ≤ R.frames) (hlo : W + 65 ≤ R.locals) :
    Back l R p e below s args New1.yN len W (fun P a => a = #[.ref x, .ref b] ∧ P.U.heap = h ∧ P.cells + 1 ≤ R.cells ∧ P.slots + cs.length ≤ R.slots)
      (fun P _ v B => ∃ L, QA Z x zn cs h v B.U.heap L ∧ B.locs = P.locs ++ L ∧ B.cells = P.cells + 1 ∧ B.slots = P.slots + cs.length) := by
  obtain ⟨A, K1, K2, K3, K4, K5, K6⟩ := K
  have e : A.slots.size = cs.length := K3.trans hlen
  have hat : ∀ (i : Nat) (hi : i < cs.length), A.slots[i]? = some (.int cs[i]) := fun i hi => by rw [K5 i (by omega)]; simp [List.getD_eq_getElem?_getD, hi]
  have hcv : ∀ (i : Nat) (hi : i < cs.length), cv A i = cs[i] := fun i hi => by unfold cv; rw [hat i hi]
  have hty : Typed .char A := fun i v hv => by
    have hi : i < A.slots.size := (Array.getElem?_eq_some_iff.mp hv).1
    have q := K5 i hi
    rw [hv] at q
    rw [Option.some.inj q]
    exact K6 i hi
  refine Back.mono (back hZ hw wi E V C K1 hty S hz (by omega) (by omega) (fun i hi => by rw [hcv i (by omega)]; exact hall _ (List.getElem_mem _)) hfr hlo) (fun P a hp => ⟨hp.1, hp.2.1, hp.2.2.1, by rw [e]; exact hp.2.2.2⟩) (fun P a v B hp hq => ?_)
  obtain ⟨L, ⟨q1, q2, q3, q4, q5, q6, q7, ⟨V', v1, v2, v3, v4, v5⟩, q9⟩, hl, hc, hs⟩ := hq
  refine ⟨L, ⟨q1, q2, q3, q4, q5, q6, q7, ⟨V'.cls, v3, V', v1, rfl, by rw [v4, e, hlen], K4, fun i hi => ?_, fun i hi => ?_⟩, q9⟩, hl, hc, by rw [hs, e]⟩
  · have hi' : i < cs.length := by omega
    rw [v5 i (by omega), hcv i hi']; simp [List.getD_eq_getElem?_getD, hi']
  · have hi' : i < cs.length := by omega
    simp only [List.getD_eq_getElem?_getD, List.getElem?_map, List.getElem?_eq_getElem hi', Option.map_some, Option.getD_some]
    exact fits_lo8 _
end StrChars.Road
namespace StrChars.Road
open Jvm Sem ClassFile Op Lib Jvm.Stand Jvm.Free Jvm.Free.XT
/-- WHAT COMES BACK, in the writer's own shape -/
def QV (Z : State) (x : Addr) (N : Int32) (bs : List Int32) (h : Heap) (n0 : Nat) (v : Option Value) (h' : Heap) (L : List Loc) : Prop := v = none ∧ RoadKit.Fr n0 L ∧ RoadKit.Keep h h' [x] ∧ RoadKit.Exa Z h' x ST ∧ RoadKit.Fld Z h' x ST "coder" "B" (.int 0) ∧
  ∃ (t : Addr) (kb : ClassId), n0 ≤ t ∧ h.size ≤ t ∧ ¬ t = x ∧ RoadKit.Fld Z h' x ST "value" "[B" (.ref t) ∧ RoadKit.Arv Z h' t kb .byte N (bs.map Value.int) (.int 0)
/-- **new String(chars) AT A CALL, FOR THE WRITER**: a char[] of n known ints, each 0 to 255 -/
theorem backV {p : Program} {l : Launch} {e : Env} {R : Room} {s : State} {args : Array Value} {below : List Frame} {len W : Nat} {Z : State} {a0 : Array Value} {h : Heap} (hZ : Z.Warmed39 s.vm) (hw : ∀ d ∈ words, d.before a0 Z = true) {kI : Nat} (wi : (Jvm.Cond.instantiable ST kI).before a0 Z = true)
    {x b : Addr} {kC : ClassId} {cs bs : List Int32} {d v0 c0 : Value} {z N : Int32} {n n0 : Nat} (hx0 : n0 ≤ x) (hh0 : n0 ≤ h.size) (E : RoadKit.Exa Z h x ST) (V : RoadKit.Fld Z h x ST "value" "[B" v0) (C : RoadKit.Fld Z h x ST "coder" "B" c0) (K : RoadKit.Arv Z h b kC .char N (cs.map Value.int) d) (S : RoadKit.Sta Z h ST "COMPACT_STRINGS" "Z" (.int z)) (hz : ¬ z = 0)
    (hn : cs.length = n) (hN : N = Int32.ofNat n) (l0 : 0 < n) (l2 : n ≤ 4000) (hp : ∀ c ∈ cs, ¬ c < 0 ∧ ¬ (255 : Int32) < c) (hb : bs = cs.map (fun c => c.toInt8.toInt32)) (hfr : 4 ≤ R.frames) (hlo : W + 65 ≤ R.locals) :
    Back l R p e below s args (⟨"java/lang/String", "<init>", "([C)V"⟩ : MethodName) len W (fun P a => a = #[.ref x, .ref b] ∧ P.U.heap = h ∧ P.cells + 1 ≤ R.cells ∧ P.slots + n ≤ R.slots)
      (fun P _ v B => ∃ L, QV Z x N bs h n0 v B.U.heap L ∧ B.locs = P.locs ++ L ∧ B.cells = P.cells + 1 ∧ B.slots = P.slots + n) := by
  subst hn hN hb
  refine Back.mono (backArv hZ hw wi E V C K S hz (n32 (by omega)) l0 (by omega) (fun c hc => (hp c hc).2) hfr hlo) (fun P a hp => hp) (fun P a v B hp hq => ?_)
  obtain ⟨L, ⟨q1, q2, q3, q4, q5, q6, q7, ⟨kb, v1, v2⟩, q9⟩, hl, hc, hs⟩ := hq
  exact ⟨L, ⟨q1, fun y hy => by rw [q2 y hy]; exact hx0, q3, q5, q7, h.size, kb, hh0, Nat.le_refl _, Nat.ne_of_gt E.lt, q6, by rw [List.map_map]; exact v2⟩, hl, hc, hs⟩
end StrChars.Road
end Jvm.Pilot.@@N@@
namespace Jvm.Pilot.@@N@@
open Jvm Jvm.ClassFile Sem Op Lib Jvm.Free Jvm.Stand Jvm.LawKit Jvm.RoadKit Bundle Jvm.Pilot.@@N@@.Jvm.D
abbrev vI (x : Int32) : Slot := .val (.int x)
abbrev vR (x : Addr) : Slot := .val (.ref x)
abbrev vU : Slot := .unset
theorem gm {α : Type} {l : List α} {a : α} (i : Nat) (h : l[i]? = some a) : a ∈ l := List.mem_of_getElem? h
def Rch (p : Program) (e : Env) (below : List Frame) (S0 T : State) (g : JFrame) : Prop := ∀ t, Steps p.tables e below (T.setTop g) t → Steps p.tables e below S0 t
theorem own_le {Z : State} {n0 : Nat} {h : Heap} (O : Old Z n0 h) : n0 ≤ h.size := O.1 ▸ O.2.1
theorem own_ge {Z : State} {n0 : Nat} {h : Heap} {x : Nat} (O : Old Z n0 h) (g : h.size ≤ x) : n0 ≤ x := Nat.le_trans (own_le O) g
theorem own_ne {y x k : Nat} (h : y < k) (g : k ≤ x) : y ≠ x := Nat.ne_of_lt (Nat.lt_of_lt_of_le h g)
section Own
variable {p : Program} {l : Launch} {e : Env} {R : Room} {s : State} {m : MethodId} {args : Array Value} {below : List Frame} {meth : Method} {c : Code} {T : State} {locs : List Loc} {cells slots : Nat}
def Like (X : Stand p l e R s m args below meth c T locs cells slots) (T' : State) : Prop := Stand p l e R s m args below meth c T' locs cells slots
def LikeL (X : Stand p l e R s m args below meth c T locs cells slots) (T' : State) (L' : List Loc) : Prop := Stand p l e R s m args below meth c T' L' cells slots
theorem LikeL.out {X : Stand p l e R s m args below meth c T locs cells slots} {T' : State} {L' : List Loc} (h : LikeL X T' L') : Stand p l e R s m args below meth c T' L' cells slots := h
theorem Like.out {X : Stand p l e R s m args below meth c T locs cells slots} {T' : State} (h : Like X T') : Stand p l e R s m args below meth c T' locs cells slots := h
end Own
theorem own_eqi {args : Array Value} {first s : State} {o : Option Outcome} {idx : List Nat} {a : Term} {n : Int32} (h : (Jvm.Cond.eq a (Jvm.Term.int n)).value args first o s idx = some true) : a.eval args first o idx s = some (.int n) := by
  simp only [Cond.value, Term.int_eval] at h
  cases ha : a.eval args first o idx s with
  | none => simp [ha] at h
  | some x => cases x <;> simp [ha] at h ⊢; exact h
theorem own_eqr {args : Array Value} {first s : State} {o : Option Outcome} {idx : List Nat} {a b : Term} {w : Addr} (eb : b.eval args first o idx s = some (.ref w)) (h : (Jvm.Cond.eq a b).value args first o s idx = some true) : a.eval args first o idx s = some (.ref w) := by
  simp only [Cond.value, eb] at h
  cases ha : a.eval args first o idx s with
  | none => simp [ha] at h
  | some x => cases x <;> simp [ha] at h ⊢; exact h
theorem own_ext {h h' : Heap} (K : Keep h h' []) : Ext h h' := ⟨K.1, fun a c q => K.2.1 a c q nin0⟩
theorem own_safe_null {Z : State} {EL : List (String × Nat)} {vm : Vm} {h : Heap} {x : Addr} {a0 : Array Value} {kI : Nat} (hal : Z.vm.Alike vm) (E : Exa Z h x "java/lang/String") (F : Fld Z h x "java/lang/String" "value" "[B" .null) (wi : (Jvm.Cond.instantiable "java/lang/String" kI).before a0 Z = true) : Safe Z EL vm h x := fun B => by
  obtain ⟨cell, k, e1, e2, e3, -, -⟩ := E
  obtain ⟨p, -, u, a, -, q, -, S, rfl | rfl⟩ := B
  · cases (show h[q.sa]? = some q.sC from S.ha).symm.trans e1
    obtain ⟨cS, ⟨⟨-, -, -, ⟨c, kf, i, ff, -⟩, -, -, -, hv, -⟩, -, -⟩, -⟩ := S
    obtain ⟨cell', cf, k', i', f', g1, g2, g3, g4, g5, g6, g7⟩ := F
    cases e1.symm.trans g1
    obtain ⟨k'', hi, -⟩ := State.fieldFound?_setVm (s := Z) hal g2
    have ff' : (Z.setVm vm).fieldFound? "java/lang/String" "value" "[B" = some (c, kf, i, q.fSV) := ff
    cases ff'.symm.trans hi
    rw [g7] at hv; cases hv
  · cases (show h[q.sd]? = some q.SA from S.hd).symm.trans e1
    obtain ⟨cS, ⟨⟨-, -, -, -, -, -, -, -, -, -, ⟨-, kB, hkB, compB, hkindB⟩, -⟩, -, -⟩, -⟩ := S
    obtain ⟨c2, k2, i1, i2, i3, -⟩ := Cond.instantiable_spec wi
    cases e2.symm.trans i1
    cases e3.symm.trans i2
    obtain ⟨k', hk', ek⟩ := hal.2.2 _ _ e3
    cases (show vm.classes[q.SA.cls]? = some kB from hkB).symm.trans hk'
    rw [ek] at hkindB
    cases (hkindB.symm.trans i3)
theorem own_chr {Z : State} {EL : List (String × Nat)} {vm vm1 vm2 : Vm} {h h1 h2 : Heap} (A : CHr Z EL vm h vm1 h1) (B : CHr Z EL vm1 h1 vm2 h1) (e : h2 = h1) : CHr Z EL vm h vm2 h2 := by
  rw [e]; exact A.trans B
theorem own_255 (x : Int32) : ¬ (x &&& 255) < 0 ∧ ¬ (255 : Int32) < (x &&& 255) := by
  have h := c_mask x 255 8 (by decide) (by decide)
  constructor
  · rw [Int32.lt_iff_toInt_lt]; have e : (0 : Int32).toInt = 0 := by decide
    omega
  · rw [Int32.lt_iff_toInt_lt]; have e : (255 : Int32).toInt = 255 := by decide
    omega
theorem own_nar (c : Int32) (h : ¬ c < 0 ∧ ¬ (255 : Int32) < c) : nar .char c = c ∧ c.toUInt32.toUInt16.toUInt32.toInt32 = c := by
  have e : c.toUInt32.toUInt16.toUInt32.toInt32 = c := by
    apply Int32.toInt_inj.mp
    have q := c_i2c c
    have h0 : (0 : Int32).toInt = 0 := by decide
    have h1 : (255 : Int32).toInt = 255 := by decide
    rw [Int32.lt_iff_toInt_lt, Int32.lt_iff_toInt_lt] at h
    omega
  exact ⟨e, e⟩
theorem own_tn {i : Nat} (h : i < 2147483648) : (Int32.ofNat i).toNatClampNeg = i ∧ (Int32.ofNat i).toInt = i := by
  have e : (Int32.ofNat i).toInt = i := Int32.toInt_ofNat_of_lt h
  exact ⟨by simp only [Int32.toNatClampNeg, e]; rfl, e⟩
theorem own_lt30 {n : Nat} (h : n ≤ 100000) : Int32.ofNat n < (1073741823 : Int32) := by
  have e : (1073741823 : Int32).toInt = 1073741823 := rfl
  rw [Int32.lt_iff_toInt_lt, (own_tn (by omega)).2, e]; omega
theorem own_olt {i n : Nat} (hi : i < 2147483648) (hn : n < 2147483648) : (Int32.ofNat i < Int32.ofNat n) ↔ i < n := by
  rw [Int32.lt_iff_toInt_lt, (own_tn hi).2, (own_tn hn).2]; omega
theorem own_on0 {i : Nat} (hi : i < 2147483648) : ¬ Int32.ofNat i < 0 := by
  rw [Int32.lt_iff_toInt_lt, (own_tn hi).2]; have e : (0 : Int32).toInt = 0 := by decide
  omega
theorem own_inc {i : Nat} (hi : i + 1 < 2147483648) : Int32.ofNat i + 1 = Int32.ofNat (i + 1) := by
  apply Int32.toInt_inj.mp
  have a := c_iadd (Int32.ofNat i) 1
  have e : (1 : Int32).toInt = 1 := by decide
  rw [(own_tn (by omega)).2, e] at a
  rw [(own_tn hi).2]
  have r := rng32 (Int32.ofNat i + 1)
  omega
theorem own_dbl {i : Nat} (hi : 2 * i < 2147483648) : Int32.ofNat i <<< ((1 : Int32) &&& 31) = Int32.ofNat (2 * i) := by
  apply Int32.toInt_inj.mp
  have a := c_ishl (Int32.ofNat i) 1 1 (by decide)
  rw [(own_tn (by omega)).2] at a
  rw [(own_tn hi).2]
  have r := rng32 (Int32.ofNat i <<< ((1 : Int32) &&& 31))
  omega
theorem own_at (cs : List Int32) (i : Nat) (d : Int32) : (cs.map Value.int).getD i (.int d) = .int (cs.getD i d) := by
  simp only [List.getD_eq_getElem?_getD, List.getElem?_map]
  cases cs[i]? <;> rfl
theorem own_inb {i n : Nat} (h : i < n) (hn : n < 2147483648) : ¬ Int32.ofNat i < 0 ∧ Int32.ofNat i < Int32.ofNat n := ⟨own_on0 (by omega), (own_olt (by omega) hn).mpr h⟩
def own_lo (c : Int32) : Int32 := nar .byte ((c >>> ((0 : Int32) &&& 31)).toInt8.toInt32)
def own_hi (c : Int32) : Int32 := nar .byte ((c >>> ((8 : Int32) &&& 31)).toInt8.toInt32)
theorem own_narc (c : Int32) (h : ¬ c < 0 ∧ ¬ (65535 : Int32) < c) : nar .char c = c ∧ c.toUInt32.toUInt16.toUInt32.toInt32 = c := by
  have e : c.toUInt32.toUInt16.toUInt32.toInt32 = c := by
    apply Int32.toInt_inj.mp
    have q := c_i2c c
    have h0 : (0 : Int32).toInt = 0 := by decide
    have h1 : (65535 : Int32).toInt = 65535 := by decide
    rw [Int32.lt_iff_toInt_lt, Int32.lt_iff_toInt_lt] at h
    omega
  exact ⟨e, e⟩
theorem own_pair (c : Int32) (h : ¬ c < 0 ∧ ¬ (65535 : Int32) < c) : (((own_lo c &&& (255 : Int32)) <<< ((0 : Int32) &&& 31)) ||| ((own_hi c &&& (255 : Int32)) <<< ((8 : Int32) &&& 31))).toUInt32.toUInt16.toUInt32.toInt32 = c := by
  have h0 : (0 : Int32).toInt = 0 := by decide
  have h1 : (65535 : Int32).toInt = 65535 := by decide
  rw [Int32.lt_iff_toInt_lt, Int32.lt_iff_toInt_lt] at h
  have s0 := c_ishr c 0 0 (by decide)
  have s8 := c_ishr c 8 8 (by decide)
  have b0 := c_i2b (c >>> ((0 : Int32) &&& 31))
  have b8 := c_i2b (c >>> ((8 : Int32) &&& 31))
  have b0' := c_i2b ((c >>> ((0 : Int32) &&& 31)).toInt8.toInt32)
  have b8' := c_i2b ((c >>> ((8 : Int32) &&& 31)).toInt8.toInt32)
  have m0 := c_mask (own_lo c) 255 8 (by decide) (by decide)
  have m8 := c_mask (own_hi c) 255 8 (by decide) (by decide)
  have l0 : (own_lo c).toInt = ((c >>> ((0 : Int32) &&& 31)).toInt8.toInt32).toInt8.toInt32.toInt := rfl
  have l8 : (own_hi c).toInt = ((c >>> ((8 : Int32) &&& 31)).toInt8.toInt32).toInt8.toInt32.toInt := rfl
  have u0 := c_ishl (own_lo c &&& 255) 0 0 (by decide)
  have u8 := c_ishl (own_hi c &&& 255) 8 8 (by decide)
  have r0 := rng32 ((own_lo c &&& 255) <<< ((0 : Int32) &&& 31))
  have r8 := rng32 ((own_hi c &&& 255) <<< ((8 : Int32) &&& 31))
  have e0 : ((own_lo c &&& 255) <<< ((0 : Int32) &&& 31)).toInt = c.toInt % 256 := by omega
  have e8 : ((own_hi c &&& 255) <<< ((8 : Int32) &&& 31)).toInt = c.toInt / 256 * 256 := by omega
  have o := c_or' ((own_lo c &&& 255) <<< ((0 : Int32) &&& 31)) ((own_hi c &&& 255) <<< ((8 : Int32) &&& 31)) 8 (by decide) 256 (by decide) (by omega) (by omega) (by omega)
  have ro := rng32 (((own_lo c &&& 255) <<< ((0 : Int32) &&& 31)) ||| ((own_hi c &&& 255) <<< ((8 : Int32) &&& 31)))
  have eo : (((own_lo c &&& 255) <<< ((0 : Int32) &&& 31)) ||| ((own_hi c &&& 255) <<< ((8 : Int32) &&& 31))) = c := Int32.toInt_inj.mp (by omega)
  rw [eo]
  exact (own_narc c ⟨by rw [Int32.lt_iff_toInt_lt]; omega, by rw [Int32.lt_iff_toInt_lt]; omega⟩).2
theorem own_first (cs : List Int32) (h : ∃ c ∈ cs, (255 : Int32) < c) : ∃ k, k < cs.length ∧ (∀ i, i < k → ¬ (255 : Int32) < cs.getD i 0) ∧ (255 : Int32) < cs.getD k 0 := by
  induction cs with
  | nil => obtain ⟨c, hc, -⟩ := h; cases hc
  | cons a r ih =>
    by_cases q : (255 : Int32) < a
    · exact ⟨0, by simp, fun i hi => absurd hi (Nat.not_lt_zero _), q⟩
    · obtain ⟨c, hc, hq⟩ := h
      rcases List.mem_cons.mp hc with rfl | hc
      · exact absurd hq q
      · obtain ⟨k, h1, h2, h3⟩ := ih ⟨c, hc, hq⟩
        refine ⟨k + 1, by simpa using h1, fun i hi => ?_, by simpa using h3⟩
        cases i with
        | zero => simpa using q
        | succ i => simpa using h2 i (by omega)
theorem own_memD (cs : List Int32) (P : Int32 → Prop) (h : ∀ c ∈ cs, P c) (i : Nat) (hi : i < cs.length) : P (cs.getD i 0) := by
  rw [List.getD_eq_getElem?_getD, List.getElem?_eq_getElem hi]
  exact h _ (List.getElem_mem hi)
theorem own_coder {n : Nat} (h0 : 0 < n) (hn : n ≤ 4000) : ((Int32.ofNat n - Int32.ofNat (2 * n)).toUInt32 >>> ((31 : Int32) &&& 31).toUInt32).toInt32 = 1 := by
  apply Int32.toInt_inj.mp
  have a := c_iushr (Int32.ofNat n - Int32.ofNat (2 * n)) 31 31 (by decide) (by decide)
  have b := c_isub (Int32.ofNat n) (Int32.ofNat (2 * n))
  have r := rng32 (Int32.ofNat n - Int32.ofNat (2 * n))
  rw [(own_tn (by omega)).2, (own_tn (by omega)).2] at b
  have e : (1 : Int32).toInt = 1 := by decide
  rw [a, e]
  omega
def Q_rmS4 (Z : State) (a1 : Addr) (h0 : Heap) (n0 : Nat) (v : Option Value) (h : Heap) (L : List Loc) : Prop := v = none ∧ Fr n0 L ∧ Keep h0 h [a1] ∧ ∃ t kt, Fld Z h a1 "java/lang/String" "value" "[B" (.ref t) ∧ Fld Z h a1 "java/lang/String" "coder" "B" (.int (0 : Int32)) ∧ Arv Z h t kt .byte (0 : Int32) [] (.int (0 : Int32))
theorem ef_3n (m : MethodId) (x0 : Addr) (x1 : Addr) (x2 : Int32) (x3 : Int32) : entryFrame m #[(.ref x0), (.ref x1), (.int x2), (.int x3), .null] 6 = mkF m 0 #[.val (.ref x0), .val (.ref x1), .val (.int x2), .val (.int x3), .val .null, .unset] [] := by first | (simp [entryFrame, mkF, argsToLocals, Value.category]; done) | rfl
theorem pn_String : plainName "java/lang/String" = true := by first | (simp [plainName, overriddenIn]; done) | decide +kernel
theorem d3_0 : decode jdk_42_method_149_code 0 = .ok (.aload_n 0, 1) := by decide +kernel
theorem d3_1 : decode jdk_42_method_149_code 1 = .ok (.invokespecial 1, 3) := by decide +kernel
theorem d3_4 : decode jdk_42_method_149_code 4 = .ok (.iload_n 3, 1) := by decide +kernel
theorem d3_5 : decode jdk_42_method_149_code 5 = .ok (.ifCond .ne 22, 3) := by decide +kernel
theorem d3_8 : decode jdk_42_method_149_code 8 = .ok (.aload_n 0, 1) := by decide +kernel
theorem d3_9 : decode jdk_42_method_149_code 9 = .ok (.ldc 7, 2) := by decide +kernel
theorem d3_11 : decode jdk_42_method_149_code 11 = .ok (.getfield 9, 3) := by decide +kernel
theorem d3_14 : decode jdk_42_method_149_code 14 = .ok (.putfield 9, 3) := by decide +kernel
theorem d3_17 : decode jdk_42_method_149_code 17 = .ok (.aload_n 0, 1) := by decide +kernel
theorem d3_18 : decode jdk_42_method_149_code 18 = .ok (.ldc 7, 2) := by decide +kernel
theorem d3_20 : decode jdk_42_method_149_code 20 = .ok (.getfield 15, 3) := by decide +kernel
theorem d3_23 : decode jdk_42_method_149_code 23 = .ok (.putfield 15, 3) := by decide +kernel
theorem d3_26 : decode jdk_42_method_149_code 26 = .ok (.return_, 1) := by decide +kernel
set_option maxRecDepth 65536 in
set_option maxHeartbeats 40000000 in
theorem rmS4 (l : Launch) (Z : State) (a0 : Array Value) (hw : ∀ d ∈ tables_1, d.before a0 Z = true) (ws : List Jvm.Cond) (a1 : Addr) (a2 : Addr) (h0 : Heap) (n0 : Nat) (O0 : Old Z n0 h0) (ge_a1 : n0 ≤ a1) (E_a1 : Exa Z h0 a1 "java/lang/String") (F_a1_value : Fld Z h0 a1 "java/lang/String" "value" "[B" .null) (F_a1_coder : Fld Z h0 a1 "java/lang/String" "coder" "B" (.int (0 : Int32))) :
    MetFree l (⟨"java/lang/String", "<init>", "([CIILjava/lang/Void;)V"⟩ : MethodName) (head1 (Jvm.Cond.code (⟨"java/lang/String", "<init>", "([CIILjava/lang/Void;)V"⟩ : MethodName) jdk_42_method_149_code 6 none :: ws) ({ frames := 1, cells := 4, slots := 8, locals := 24 } : Room)) (fun a U => a = #[(.ref a1), (.ref a2), (.int (0 : Int32)), (.int (0 : Int32)), .null] ∧ Z.Warmed39 U.vm ∧ U.heap = h0 ∧ CHv Z consts_1 U.vm h0) (fun _ _ _ _ _ => True) (fun _ U o U' => ∃ v L, o = .returned v ∧ Q_rmS4 Z a1 h0 n0 v U'.heap L ∧ CHr Z consts_1 U.vm U.heap U'.vm U'.heap ∧ ReturnedEndW U o U' L ({ frames := 1, cells := 4, slots := 8, locals := 24 } : Room).cells ({ frames := 1, cells := 4, slots := 8, locals := 24 } : Room).slots) := by
  refine MetFree.of_bodySF (plainFor_of_name pn_String) hisR ?_
  intro p e s m args below meth c s₁ Bd hml0 hP hK
  obtain ⟨rfl, hZ, hh, hC0⟩ := hP
  have hx := Bd.exec
  have hby := Bd.bytes
  have hml : c.maxLocals = 6 := hml0
  have hown : s.vm.findClass "java/lang/String" = some m.cls := findClass_of_methodNamed Bd.named
  have hnm := (name_of_methodNamed Bd.named Bd.method).1
  have X0 : Stand p l e ({ frames := 1, cells := 4, slots := 8, locals := 24 } : Room) (s.setVm s.vm) m #[(.ref a1), (.ref a2), (.int (0 : Int32)), (.int (0 : Int32)), .null] below meth c s₁ [] 0 0 := Stand.of_body Bd
  have e0 : s₁.heap = h0 := by rw [← hh, Bd.state]; rfl
  have N0 := Fr.nil n0
  obtain ⟨S0, hS0⟩ : ∃ z, z = s₁.setTop (entryFrame m #[(.ref a1), (.ref a2), (.int (0 : Int32)), (.int (0 : Int32)), .null] 6) := ⟨_, rfl⟩
  have k0 : Rch p e below S0 s₁ (mkF m 0 #[vR a1, vR a2, vI 0, vI 0, .val .null, vU] []) := fun t kq => hS0 ▸ castTop (ef_3n m a1 a2 (0 : Int32) (0 : Int32)) kq
  have K0 : Keep h0 h0 [a1] := Keep.refl h0 _
  have hS : s.Since s.vm s.heap.size := (State.WarmedH.refl s).since _
  have hk : s.heap.size ≤ h0.size := by rw [← hh]; exact Nat.le_refl _
  have hwS : ∀ d ∈ Bundle.stringAtoms, d.before a0 Z = true := fun d hd => hw d ((by decide +kernel : ∀ d ∈ Bundle.stringAtoms, d ∈ tables_1) d hd)
  have rC0 : CHr Z consts_1 s.vm h0 s.vm h0 := CHr.refl hC0
  have hEL : EW Z a0 consts_1 := (EW.cons (hw _ (gm 19 rfl)) (by decide +kernel) EW.nil)
  have sf_a1 : Safe Z consts_1 s.vm h0 a1 := own_safe_null hZ.alike E_a1 F_a1_value (hw _ (gm 7 rfl))
  have k2 : Rch p e below S0 s₁ (mkF m 1 #[vR a1, vR a2, vI 0, vI 0, .val .null, vU] [(.ref a1)]) := fun t h => k0 t (by
      show Steps p.tables e below (s₁.setTop (mkF m 0 #[vR a1, vR a2, vI 0, vI 0, .val .null, vU] [])) _
      refine XS.aloadN X0.here hx rfl (hb hby d3_0) rfl rfl ?_
      exact h)
  obtain ⟨T1, X1, e1, st1⟩ := initO X0 hx hZ hown (hw _ (gm 16 rfl)) (hw _ (gm 17 rfl)) (hw _ (gm 18 rfl)) e0 (g := (mkF m 1 #[vR a1, vR a2, vI 0, vI 0, .val .null, vU] [(.ref a1)])) rfl (by rw [hml]; rfl) rfl (hb hby d3_1) (by decide) (W := 0) (by show 2 * 0 + _ ≤ _; exact Nat.le_of_eq rfl) (by decide)
  have k3 : Rch p e below S0 T1 (mkF m 4 #[vR a1, vR a2, vI 0, vI 0, .val .null, vU] []) := fun t h => k2 t (st1 t h)
  have k4 : Rch p e below S0 T1 (mkF m 9 #[vR a1, vR a2, vI 0, vI 0, .val .null, vU] [(.ref a1)]) := fun t h => k3 t (by
      show Steps p.tables e below (T1.setTop (mkF m 4 #[vR a1, vR a2, vI 0, vI 0, .val .null, vU] [])) _
      refine XS.iloadN X1.here hx rfl (hb hby d3_4) rfl ?_
      refine XS.ifNo X1.here hx rfl (hb hby d3_5) rfl ((if0 _ _).trans (teq (by decide : (0 : Int32) = (0 : Int32))).2) ?_
      refine XS.aloadN X1.here hx rfl (hb hby d3_8) rfl rfl ?_
      exact h)
  obtain ⟨a5, T5, h5, kk5, t5, kt5, X5, e5, E5, hS5, hk5, hZ5, hown5, Ea5, Ca5, Va5, At5, la5, lt5, hR5, hL5, sfa5, st5⟩ := ldcCH X1 hx hZ hown (hw _ (gm 19 rfl)) hwS e1 hS hk hEL (by decide +kernel) hC0 (vs := []) (z := (0 : Int32)) ⟨by decide +kernel, by decide +kernel⟩ (by decide) (by decide) (g := (mkF m 9 #[vR a1, vR a2, vI 0, vI 0, .val .null, vU] [(.ref a1)])) rfl (hb hby d3_9) (n := 0) (by decide +kernel) (by decide) (by decide) (by decide)
  have k6 : Rch p e below S0 T5 (mkF m 11 #[vR a1, vR a2, vI 0, vI 0, .val .null, vU] [(.ref a5), (.ref a1)]) := fun t h => k4 t (st5 t h)
  replace sf_a1 := hR5.safe E_a1.lt sf_a1
  have hC7 := hR5.1
  have rC7 := rC0.trans hR5
  have O8 := O0.ext E5
  have K9 := K0.ext E5
  replace E_a1 := E_a1.ext E5
  replace F_a1_value := F_a1_value.ext E5
  replace F_a1_coder := F_a1_coder.ext E5
  have ne_a1_a5 : a1 ≠ a5 := (sfa5 a1 sf_a1).1
  have ne_a1_t5 : a1 ≠ t5 := (sfa5 a1 sf_a1).2
  obtain ⟨T10, X10, e10, st10⟩ := getF X5 hx hZ5 hown5 (host := "") (Or.inl (hw _ (gm 25 rfl))) Via.refl e5 Va5 (g := (mkF m 11 #[vR a1, vR a2, vI 0, vI 0, .val .null, vU] [(.ref a5), (.ref a1)])) rfl rfl (hb hby d3_11)
  have k11 : Rch p e below S0 T10 (mkF m 14 #[vR a1, vR a2, vI 0, vI 0, .val .null, vU] [(.ref t5), (.ref a1)]) := fun t h => k6 t (st10 t h)
  obtain ⟨T12, h12, X12, e12, W12, st12⟩ := putF X10 hx hZ5 hown5 (host := "") (Or.inl (hw _ (gm 25 rfl))) Via.refl e10 F_a1_value E_a1 (Or.inr ⟨(hw _ (gm 21 rfl)), rfl, hnm⟩) (hw _ (gm 7 rfl)) (ty := (.array .byte)) (by decide) rfl rfl (g := (mkF m 14 #[vR a1, vR a2, vI 0, vI 0, .val .null, vU] [(.ref t5), (.ref a1)])) rfl rfl (hb hby d3_14)
  have k13 : Rch p e below S0 T12 (mkF m 17 #[vR a1, vR a2, vI 0, vI 0, .val .null, vU] []) := fun t h => k11 t (st12 t h)
  have N12 := Fr.snoc X12 N0 ge_a1
  replace F_a1_value := F_a1_value.same W12
  have hC14 := hC7.wr W12 sf_a1
  have rC14 := rC7.trans (CHr.wr W12 sf_a1 hC7)
  replace sf_a1 := Safe.wr W12 sf_a1 hC7 sf_a1
  have O15 := O8.wr W12 ge_a1
  have K16 := K9.wr W12 (Or.inl (gm 0 rfl))
  replace E_a1 := E_a1.wr W12
  replace F_a1_coder := F_a1_coder.other W12 (Or.inr (slot_ne (Or.inr (hw _ (gm 22 rfl))) (Or.inr (hw _ (gm 21 rfl))) (by decide) (t := .byte) (t' := (.array .byte)) (by decide) (by decide)))
  replace Ea5 := Ea5.wr W12
  replace Ca5 := Ca5.other W12 (Or.inl (Ne.symm ne_a1_a5))
  replace Va5 := Va5.other W12 (Or.inl (Ne.symm ne_a1_a5))
  replace At5 := At5.other W12 (Ne.symm ne_a1_t5)
  have hkk17 := Nat.le_trans hk5 (Keep.of_wr W12).1
  have k18 : Rch p e below S0 T12 (mkF m 18 #[vR a1, vR a2, vI 0, vI 0, .val .null, vU] [(.ref a1)]) := fun t h => k13 t (by
      show Steps p.tables e below (T12.setTop (mkF m 17 #[vR a1, vR a2, vI 0, vI 0, .val .null, vU] [])) _
      refine XS.aloadN X12.here hx rfl (hb hby d3_17) rfl rfl ?_
      exact h)
  obtain ⟨a19, T19, h19, kk19, t19, kt19, X19, e19, E19, hS19, hk19, hZ19, hown19, Ea19, Ca19, Va19, At19, la19, lt19, hR19, hL19, sfa19, st19⟩ := ldcCH X12 hx hZ5 hown5 (hw _ (gm 19 rfl)) hwS e12 hS5 hkk17 hEL (by decide +kernel) hC14 (vs := []) (z := (0 : Int32)) ⟨by decide +kernel, by decide +kernel⟩ (by decide) (by decide) (g := (mkF m 18 #[vR a1, vR a2, vI 0, vI 0, .val .null, vU] [(.ref a1)])) rfl (hb hby d3_18) (n := 0) (by decide +kernel) (by decide) (by decide) (by decide)
  have k20 : Rch p e below S0 T19 (mkF m 20 #[vR a1, vR a2, vI 0, vI 0, .val .null, vU] [(.ref a19), (.ref a1)]) := fun t h => k18 t (st19 t h)
  replace sf_a1 := hR19.safe E_a1.lt sf_a1
  have hC21 := hR19.1
  have rC21 := rC14.trans hR19
  have O22 := O15.ext E19
  have K23 := K16.ext E19
  replace E_a1 := E_a1.ext E19
  replace F_a1_coder := F_a1_coder.ext E19
  replace F_a1_value := F_a1_value.ext E19
  replace Ea5 := Ea5.ext E19
  replace Ca5 := Ca5.ext E19
  replace Va5 := Va5.ext E19
  replace At5 := At5.ext E19
  have ne_a1_a19 : a1 ≠ a19 := (sfa19 a1 sf_a1).1
  have ne_a1_t19 : a1 ≠ t19 := (sfa19 a1 sf_a1).2
  obtain ⟨T24, X24, e24, st24⟩ := getF X19 hx hZ19 hown19 (host := "") (Or.inl (hw _ (gm 26 rfl))) Via.refl e19 Ca19 (g := (mkF m 20 #[vR a1, vR a2, vI 0, vI 0, .val .null, vU] [(.ref a19), (.ref a1)])) rfl rfl (hb hby d3_20)
  have k25 : Rch p e below S0 T24 (mkF m 23 #[vR a1, vR a2, vI 0, vI 0, .val .null, vU] [(.int (0 : Int32)), (.ref a1)]) := fun t h => k20 t (st24 t h)
  obtain ⟨T26, h26, X26, e26, W26, st26⟩ := putFN X24 hx hZ19 hown19 (hw _ (gm 26 rfl)) Via.refl e24 F_a1_coder E_a1 (Or.inr ⟨(hw _ (gm 22 rfl)), rfl, hnm⟩) (hw _ (gm 7 rfl)) (ty := .byte) (v' := (.int (0 : Int32))) (by decide) (by decide) (by decide) (g := (mkF m 23 #[vR a1, vR a2, vI 0, vI 0, .val .null, vU] [(.int (0 : Int32)), (.ref a1)])) rfl rfl (hb hby d3_23)
  have k27 : Rch p e below S0 T26 (mkF m 26 #[vR a1, vR a2, vI 0, vI 0, .val .null, vU] []) := fun t h => k25 t (st26 t h)
  have N26 := Fr.snoc X26 N12 ge_a1
  replace F_a1_coder := F_a1_coder.same W26
  have hC28 := hC21.wr W26 sf_a1
  have rC28 := rC21.trans (CHr.wr W26 sf_a1 hC21)
  replace sf_a1 := Safe.wr W26 sf_a1 hC21 sf_a1
  have O29 := O22.wr W26 ge_a1
  have K30 := K23.wr W26 (Or.inl (gm 0 rfl))
  replace E_a1 := E_a1.wr W26
  replace F_a1_value := F_a1_value.other W26 (Or.inr (slot_ne (Or.inr (hw _ (gm 21 rfl))) (Or.inr (hw _ (gm 22 rfl))) (by decide) (t := (.array .byte)) (t' := .byte) (by decide) (by decide)))
  replace Ea5 := Ea5.wr W26
  replace Ca5 := Ca5.other W26 (Or.inl (Ne.symm ne_a1_a5))
  replace Va5 := Va5.other W26 (Or.inl (Ne.symm ne_a1_a5))
  replace At5 := At5.other W26 (Ne.symm ne_a1_t5)
  replace Ea19 := Ea19.wr W26
  replace Ca19 := Ca19.other W26 (Or.inl (Ne.symm ne_a1_a19))
  replace Va19 := Va19.other W26 (Or.inl (Ne.symm ne_a1_a19))
  replace At19 := At19.other W26 (Ne.symm ne_a1_t19)
  have hkk31 := Nat.le_trans hk19 (Keep.of_wr W26).1
  obtain ⟨fs, hr, hrun, hended, hfin⟩ := X26.leaveW hS19 (by rw [e26]; exact hkk31) (v := none) (fun _ => rfl)
  refine ⟨_, _, ?_, hrun, hended, _, _, rfl, ?_, (by rw [hh]; have q := own_chr rC28 (CHv.at X26 hZ19 hEL hC28) e26; exact q), hfin.1, hfin.2.1, hfin.2.2.1, hfin.2.2.2.mono (by decide) (by decide)⟩
  · rw [← hS0]
    refine k27 _ ?_
    show Steps p.tables e below (T26.setTop (mkF m 26 #[vR a1, vR a2, vI 0, vI 0, .val .null, vU] [])) _
    exact X26.returnOut hx Bd.returns (hb hby d3_26) hr
  · show Q_rmS4 Z a1 h0 n0 _ T26.heap _
    rw [e26]
    exact ⟨rfl, N26, K30, _, _, F_a1_value, F_a1_coder, At5⟩
def Q_rmS0 (Z : State) (a1 : Addr) (h0 : Heap) (n0 : Nat) (v : Option Value) (h : Heap) (L : List Loc) : Prop := v = none ∧ Fr n0 L ∧ Keep h0 h [a1] ∧ ∃ t kt, Fld Z h a1 "java/lang/String" "value" "[B" (.ref t) ∧ Fld Z h a1 "java/lang/String" "coder" "B" (.int (0 : Int32)) ∧ Arv Z h t kt .byte (0 : Int32) [] (.int (0 : Int32))
theorem ef_2 (m : MethodId) (x0 : Addr) (x1 : Addr) : entryFrame m #[(.ref x0), (.ref x1)] 2 = mkF m 0 #[.val (.ref x0), .val (.ref x1)] [] := by first | (simp [entryFrame, mkF, argsToLocals, Value.category]; done) | rfl
theorem d2_0 : decode jdk_42_method_3_code 0 = .ok (.aload_n 0, 1) := by decide +kernel
theorem d2_1 : decode jdk_42_method_3_code 1 = .ok (.aload_n 1, 1) := by decide +kernel
theorem d2_2 : decode jdk_42_method_3_code 2 = .ok (.iconst 0, 1) := by decide +kernel
theorem d2_3 : decode jdk_42_method_3_code 3 = .ok (.aload_n 1, 1) := by decide +kernel
theorem d2_4 : decode jdk_42_method_3_code 4 = .ok (.arraylength, 1) := by decide +kernel
theorem d2_5 : decode jdk_42_method_3_code 5 = .ok (.aconst_null, 1) := by decide +kernel
theorem pd_2 : parseMethodDescriptor "([CIILjava/lang/Void;)V" = some ⟨[(.array .char), .int, .int, (.object "java/lang/Void")], none⟩ := by decide +kernel
theorem d2_6 : decode jdk_42_method_3_code 6 = .ok (.invokespecial 27, 3) := by decide +kernel
theorem d2_9 : decode jdk_42_method_3_code 9 = .ok (.return_, 1) := by decide +kernel
set_option maxRecDepth 65536 in
set_option maxHeartbeats 40000000 in
theorem rmS0 (l : Launch) (Z : State) (a0 : Array Value) (hw : ∀ d ∈ tables_1, d.before a0 Z = true) (ws : List Jvm.Cond) (a1 : Addr) (a2 : Addr) (ka : ClassId) (h0 : Heap) (n0 : Nat) (O0 : Old Z n0 h0) (ge_a1 : n0 ≤ a1) (E_a1 : Exa Z h0 a1 "java/lang/String") (F_a1_value : Fld Z h0 a1 "java/lang/String" "value" "[B" .null) (F_a1_coder : Fld Z h0 a1 "java/lang/String" "coder" "B" (.int (0 : Int32))) (Va : Arv Z h0 a2 ka .char (0 : Int32) [] (.int (0 : Int32))) :
    MetFree l (⟨"java/lang/String", "<init>", "([C)V"⟩ : MethodName) (head1 (Jvm.Cond.code (⟨"java/lang/String", "<init>", "([C)V"⟩ : MethodName) jdk_42_method_3_code 2 none :: ws) ({ frames := 2, cells := 4, slots := 8, locals := 48 } : Room)) (fun a U => a = #[(.ref a1), (.ref a2)] ∧ Z.Warmed39 U.vm ∧ U.heap = h0 ∧ CHv Z consts_1 U.vm h0) (fun _ _ _ _ _ => True) (fun _ U o U' => ∃ v L, o = .returned v ∧ Q_rmS0 Z a1 h0 n0 v U'.heap L ∧ CHr Z consts_1 U.vm U.heap U'.vm U'.heap ∧ ReturnedEndW U o U' L ({ frames := 2, cells := 4, slots := 8, locals := 48 } : Room).cells ({ frames := 2, cells := 4, slots := 8, locals := 48 } : Room).slots) := by
  refine MetFree.of_bodySF (plainFor_of_name pn_String) hisR ?_
  intro p e s m args below meth c s₁ Bd hml0 hP hK
  obtain ⟨rfl, hZ, hh, hC0⟩ := hP
  have hx := Bd.exec
  have hby := Bd.bytes
  have hml : c.maxLocals = 2 := hml0
  have hown : s.vm.findClass "java/lang/String" = some m.cls := findClass_of_methodNamed Bd.named
  have hnm := (name_of_methodNamed Bd.named Bd.method).1
  have X0 : Stand p l e ({ frames := 2, cells := 4, slots := 8, locals := 48 } : Room) (s.setVm s.vm) m #[(.ref a1), (.ref a2)] below meth c s₁ [] 0 0 := Stand.of_body Bd
  have e0 : s₁.heap = h0 := by rw [← hh, Bd.state]; rfl
  have N0 := Fr.nil n0
  obtain ⟨S0, hS0⟩ : ∃ z, z = s₁.setTop (entryFrame m #[(.ref a1), (.ref a2)] 2) := ⟨_, rfl⟩
  have k0 : Rch p e below S0 s₁ (mkF m 0 #[vR a1, vR a2] []) := fun t kq => hS0 ▸ castTop (ef_2 m a1 a2) kq
  have K0 : Keep h0 h0 [a1] := Keep.refl h0 _
  have hS : s.Since s.vm s.heap.size := (State.WarmedH.refl s).since _
  have hk : s.heap.size ≤ h0.size := by rw [← hh]; exact Nat.le_refl _
  have hwS : ∀ d ∈ Bundle.stringAtoms, d.before a0 Z = true := fun d hd => hw d ((by decide +kernel : ∀ d ∈ Bundle.stringAtoms, d ∈ tables_1) d hd)
  have rC0 : CHr Z consts_1 s.vm h0 s.vm h0 := CHr.refl hC0
  have hEL : EW Z a0 consts_1 := (EW.cons (hw _ (gm 19 rfl)) (by decide +kernel) EW.nil)
  have sf_a1 : Safe Z consts_1 s.vm h0 a1 := own_safe_null hZ.alike E_a1 F_a1_value (hw _ (gm 7 rfl))
  have k33 : Rch p e below S0 s₁ (mkF m 4 #[vR a1, vR a2] [(.ref a2), (.int (0 : Int32)), (.ref a2), (.ref a1)]) := fun t h => k0 t (by
      show Steps p.tables e below (s₁.setTop (mkF m 0 #[vR a1, vR a2] [])) _
      refine XS.aloadN X0.here hx rfl (hb hby d2_0) rfl rfl ?_
      refine XS.aloadN X0.here hx rfl (hb hby d2_1) rfl rfl ?_
      refine XS.iconst X0.here hx rfl (hb hby d2_2) ?_
      refine XS.aloadN X0.here hx rfl (hb hby d2_3) rfl rfl ?_
      exact h)
  obtain ⟨cl32, Ar32, q32, Sz32, Ng32, Hs32, G32⟩ := id Va
  have k34 : Rch p e below S0 s₁ (mkF m 6 #[vR a1, vR a2] [.null, (.int (0 : Int32)), (.int (0 : Int32)), (.ref a2), (.ref a1)]) := fun t h => k33 t (by
      show Steps p.tables e below (s₁.setTop (mkF m 4 #[vR a1, vR a2] [(.ref a2), (.int (0 : Int32)), (.ref a2), (.ref a1)])) _
      refine X0.arraylength hx (by rw [e0]; exact Ar32.1) (State.isArrayOf_alike hZ.alike Ar32.2.1) (g := (mkF m 4 #[vR a1, vR a2] [(.ref a2), (.int (0 : Int32)), (.ref a2), (.ref a1)])) rfl rfl (hb hby d2_4) _ ?_
      rw [len_of Sz32 Ng32]
      refine XS.aconstNull X0.here hx rfl (hb hby d2_5) ?_
      exact h)
  obtain ⟨_, _, ⟨T35, L35, kk35, n35⟩, -, X35, hS35, gr35, ⟨Lc35, hQ35, l35, y35, z35, hR35⟩, st35⟩ := X0.specialBackS hx (y := (⟨"java/lang/String", "<init>", "([CIILjava/lang/Void;)V"⟩ : MethodName)) rfl hown (mvT hZ (hw _ (gm 12 rfl))) (mvT hZ (hw _ (gm 13 rfl))) (mvT hZ (hw _ (gm 15 rfl))) (by decide) (backOfSH (W := 0) (rmS4 l Z a0 hw [] a1 a2  h0 n0 O0 ge_a1 E_a1 F_a1_value F_a1_coder) hZ (hw _ (gm 15 rfl)) (hw _ (gm 8 rfl)) (by decide) (by decide) hEL hC0) (g := (mkF m 6 #[vR a1, vR a2] [.null, (.int (0 : Int32)), (.int (0 : Int32)), (.ref a2), (.ref a1)])) rfl (by rw [hml]; rfl) (Steps.refl _) (a := a1) (argsL := [(.ref a2), (.int (0 : Int32)), (.int (0 : Int32)), .null]) (rest := []) (lenOf pd_2 rfl) rfl (by show 2 * 0 + _ ≤ _; exact Nat.le_of_eq rfl) (hb hby d2_6) (fun _ _ => ⟨rfl, e0, (by decide : 0 + 4 ≤ _), (by decide : 0 + 8 ≤ _)⟩)
  dsimp only [Pt.U, Pt.locs, Pt.cells, Pt.slots] at X35 l35 y35 z35 st35 hQ35 hS35 gr35 hR35
  subst l35 y35 z35
  have hZ35 : Z.Warmed39 (s.setVm T35.vm).vm := State.Warmed39.trans (t := (s.setVm s.vm)) hZ hS35.1
  have hown35 : (s.setVm T35.vm).vm.findClass "java/lang/String" = some m.cls := by rw [show (s.setVm T35.vm).vm = T35.vm from rfl, hS35.1.alike.findClass]; exact hown
  replace hS35 := foldS hS (by rw [e0]; exact hk) hS35 gr35
  have hk35 := Nat.le_refl T35.heap.size
  replace X35 : Stand p l e ({ frames := 2, cells := 4, slots := 8, locals := 48 } : Room) (s.setVm T35.vm) m #[(.ref a1), (.ref a2)] below meth c T35 _ _ _ := X35
  obtain ⟨rfl, Nq35, K35, t35, kt35, Fv35, Fc35, At35⟩ := hQ35
  have N35 := Fr.app N0 Nq35
  have k36 : Rch p e below S0 T35 (mkF m 9 #[vR a1, vR a2] []) := fun t h => k34 t (st35.trans h)
  have hC37 := hR35.1
  have rC37 := rC0.trans hR35
  have O38 := O0.keep K35 (allS ge_a1 all0)
  have K39 := K0.trans K35 (allS (Or.inl (gm 0 rfl)) all0)
  replace E_a1 := E_a1.keep K35
  obtain ⟨fs, hr, hrun, hended, hfin⟩ := X35.leaveW hS35 (by exact hk35) (v := none) (fun _ => rfl)
  refine ⟨_, _, ?_, hrun, hended, _, _, rfl, ?_, (by rw [hh]; have q := own_chr rC37 (CHv.at X35 hZ35 hEL hC37) rfl; exact q), hfin.1, hfin.2.1, hfin.2.2.1, hfin.2.2.2.mono (by decide) (by decide)⟩
  · rw [← hS0]
    refine k36 _ ?_
    show Steps p.tables e below (T35.setTop (mkF m 9 #[vR a1, vR a2] [])) _
    exact X35.returnOut hx Bd.returns (hb hby d2_9) hr
  · show Q_rmS0 Z a1 h0 n0 _ T35.heap _
    exact ⟨rfl, N35, K39, _, _, Fv35, Fc35, At35⟩
def Q_rmCO (Z : State) (cd : Int32) (h0 : Heap) (n0 : Nat) (v : Option Value) (h : Heap) (L : List Loc) : Prop := v = some (.int (nar .byte cd)) ∧ Fr n0 L ∧ h = h0
theorem ef_9 (m : MethodId) (x0 : Addr) : entryFrame m #[(.ref x0)] 1 = mkF m 0 #[.val (.ref x0)] [] := by first | (simp [entryFrame, mkF, argsToLocals, Value.category]; done) | rfl
theorem d9_0 : decode jdk_42_method_152_code 0 = .ok (.getstatic 38, 3) := by decide +kernel
theorem d9_3 : decode jdk_42_method_152_code 3 = .ok (.ifCond .eq 10, 3) := by decide +kernel
theorem d9_6 : decode jdk_42_method_152_code 6 = .ok (.aload_n 0, 1) := by decide +kernel
theorem d9_7 : decode jdk_42_method_152_code 7 = .ok (.getfield 15, 3) := by decide +kernel
theorem d9_10 : decode jdk_42_method_152_code 10 = .ok (.goto 4, 3) := by decide +kernel
theorem d9_14 : decode jdk_42_method_152_code 14 = .ok (.ireturn, 1) := by decide +kernel
set_option maxRecDepth 65536 in
set_option maxHeartbeats 40000000 in
theorem rmCO (l : Launch) (Z : State) (a0 : Array Value) (hw : ∀ d ∈ tables_1, d.before a0 Z = true) (ws : List Jvm.Cond) (a1 : Addr) (cd : Int32) (zC : Int32) (h0 : Heap) (n0 : Nat) (O0 : Old Z n0 h0) (SC : Sta Z Z.heap "java/lang/String" "COMPACT_STRINGS" "Z" (.int zC)) (hzC : ¬ zC = 0) (Fc : Fld Z h0 a1 "java/lang/String" "coder" "B" (.int cd)) :
    MetFree l (⟨"java/lang/String", "coder", "()B"⟩ : MethodName) (head1 (Jvm.Cond.code (⟨"java/lang/String", "coder", "()B"⟩ : MethodName) jdk_42_method_152_code 1 (some .byte) :: ws) ({ frames := 0, cells := 0, slots := 0, locals := 0 } : Room)) (fun a U => a = #[(.ref a1)] ∧ Z.Warmed39 U.vm ∧ U.heap = h0) (fun _ _ _ _ _ => True) (fun _ U o U' => ∃ v L, o = .returned v ∧ Q_rmCO Z cd h0 n0 v U'.heap L ∧ FrameEnd U o U' L ({ frames := 0, cells := 0, slots := 0, locals := 0 } : Room).cells ({ frames := 0, cells := 0, slots := 0, locals := 0 } : Room).slots) := by
  refine MetFree.of_bodySF (plainFor_of_name pn_String) hisR ?_
  intro p e s m args below meth c s₁ Bd hml0 hP hK
  obtain ⟨rfl, hZ, hh⟩ := hP
  have hx := Bd.exec
  have hby := Bd.bytes
  have hml : c.maxLocals = 1 := hml0
  have hown : s.vm.findClass "java/lang/String" = some m.cls := findClass_of_methodNamed Bd.named
  have hnm := (name_of_methodNamed Bd.named Bd.method).1
  have X0 : Stand p l e ({ frames := 0, cells := 0, slots := 0, locals := 0 } : Room) s m #[(.ref a1)] below meth c s₁ [] 0 0 := Stand.of_body Bd
  have e0 : s₁.heap = h0 := by rw [← hh, Bd.state]; rfl
  have N0 := Fr.nil n0
  obtain ⟨S0, hS0⟩ : ∃ z, z = s₁.setTop (entryFrame m #[(.ref a1)] 1) := ⟨_, rfl⟩
  have k0 : Rch p e below S0 s₁ (mkF m 0 #[vR a1] []) := fun t kq => hS0 ▸ castTop (ef_9 m a1) kq
  obtain ⟨T40, X40, e40, st40⟩ := getS2 X0 hx hZ hown (host := "") (Or.inl (hw _ (gm 49 rfl))) Via.refl e0 (SC.ext O0.2) (g := (mkF m 0 #[vR a1] [])) rfl (hb hby d9_0)
  have k41 : Rch p e below S0 T40 (mkF m 3 #[vR a1] [(.int zC)]) := fun t h => k0 t (st40 t h)
  have k43 : Rch p e below S0 T40 (mkF m 7 #[vR a1] [(.ref a1)]) := fun t h => k41 t (by
      show Steps p.tables e below (T40.setTop (mkF m 3 #[vR a1] [(.int zC)])) _
      refine XS.ifNo X40.here hx rfl (hb hby d9_3) rfl ((if0 _ _).trans (feq (hzC : ¬ (zC = (0 : Int32)))).1) ?_
      refine XS.aloadN X40.here hx rfl (hb hby d9_6) rfl rfl ?_
      exact h)
  obtain ⟨T42, X42, e42, st42⟩ := getF X40 hx hZ hown (host := "") (Or.inl (hw _ (gm 26 rfl))) Via.refl e40 Fc (g := (mkF m 7 #[vR a1] [(.ref a1)])) rfl rfl (hb hby d9_7)
  have k44 : Rch p e below S0 T42 (mkF m 10 #[vR a1] [(.int cd)]) := fun t h => k43 t (st42 t h)
  have k45 : Rch p e below S0 T42 (mkF m 14 #[vR a1] [(.int cd)]) := fun t h => k44 t (by
      show Steps p.tables e below (T42.setTop (mkF m 10 #[vR a1] [(.int cd)])) _
      refine XS.goto X42.here hx rfl (pc0 := 10) (pc' := 14) rfl (hb hby d9_10) (by decide) (by decide) ?_
      exact h)
  obtain ⟨fs, hr, hrun, hended, hW, hsame⟩ := X42.leave (v := (some (.int (nar .byte cd)))) (fun h => by rw [Bd.returns] at h; cases h)
  refine ⟨_, _, ?_, hrun, hended, _, _, rfl, ?_, ⟨_, rfl⟩, hW, hsame.mono (by decide) (by decide)⟩
  · rw [← hS0]
    refine k45 _ ?_
    show Steps p.tables e below (T42.setTop (mkF m 14 #[vR a1] [(.int cd)])) _
    exact retN X42 hx (t := .byte) Bd.returns (by simp) (hb hby d9_14) hr
  · show Q_rmCO Z cd h0 n0 _ T42.heap _
    rw [e42]
    exact ⟨rfl, N0, rfl⟩
def Q_rmLE (Z : State) (LN : Int32) (h0 : Heap) (n0 : Nat) (v : Option Value) (h : Heap) (L : List Loc) : Prop := v = some (.int LN) ∧ Fr n0 L ∧ h = h0
theorem ef_8 (m : MethodId) (x0 : Addr) : entryFrame m #[(.ref x0)] 1 = mkF m 0 #[.val (.ref x0)] [] := by first | (simp [entryFrame, mkF, argsToLocals, Value.category]; done) | rfl
theorem d8_0 : decode jdk_42_method_54_code 0 = .ok (.aload_n 0, 1) := by decide +kernel
theorem d8_1 : decode jdk_42_method_54_code 1 = .ok (.getfield 9, 3) := by decide +kernel
theorem d8_4 : decode jdk_42_method_54_code 4 = .ok (.arraylength, 1) := by decide +kernel
theorem d8_5 : decode jdk_42_method_54_code 5 = .ok (.aload_n 0, 1) := by decide +kernel
theorem pd_8 : parseMethodDescriptor "()B" = some ⟨[], some .byte⟩ := by decide +kernel
theorem d8_6 : decode jdk_42_method_54_code 6 = .ok (.invokevirtual 335, 3) := by decide +kernel
theorem d8_9 : decode jdk_42_method_54_code 9 = .ok (.ishr, 1) := by decide +kernel
theorem d8_10 : decode jdk_42_method_54_code 10 = .ok (.ireturn, 1) := by decide +kernel
set_option maxRecDepth 65536 in
set_option maxHeartbeats 40000000 in
theorem rmLE (l : Launch) (Z : State) (a0 : Array Value) (hw : ∀ d ∈ tables_1, d.before a0 Z = true) (ws : List Jvm.Cond) (a1 : Addr) (tt : Addr) (kt : ClassId) (N2 : Int32) (vs : List Value) (cd : Int32) (zC : Int32) (LN : Int32) (h0 : Heap) (n0 : Nat) (O0 : Old Z n0 h0) (SC : Sta Z Z.heap "java/lang/String" "COMPACT_STRINGS" "Z" (.int zC)) (hzC : ¬ zC = 0) (Ex : Exa Z h0 a1 "java/lang/String") (Fv : Fld Z h0 a1 "java/lang/String" "value" "[B" (.ref tt)) (Fc : Fld Z h0 a1 "java/lang/String" "coder" "B" (.int cd)) (Vt : Arv Z h0 tt kt .byte N2 vs (.int (0 : Int32))) (hL : (N2 >>> (nar .byte cd &&& 31)) = LN) :
    MetFree l (⟨"java/lang/String", "length", "()I"⟩ : MethodName) (head1 (Jvm.Cond.code (⟨"java/lang/String", "length", "()I"⟩ : MethodName) jdk_42_method_54_code 1 (some .int) :: ws) ({ frames := 1, cells := 0, slots := 0, locals := 20 } : Room)) (fun a U => a = #[(.ref a1)] ∧ Z.Warmed39 U.vm ∧ U.heap = h0) (fun _ _ _ _ _ => True) (fun _ U o U' => ∃ v L, o = .returned v ∧ Q_rmLE Z LN h0 n0 v U'.heap L ∧ FrameEnd U o U' L ({ frames := 1, cells := 0, slots := 0, locals := 20 } : Room).cells ({ frames := 1, cells := 0, slots := 0, locals := 20 } : Room).slots) := by
  refine MetFree.of_bodySF (plainFor_of_name pn_String) hisR ?_
  intro p e s m args below meth c s₁ Bd hml0 hP hK
  obtain ⟨rfl, hZ, hh⟩ := hP
  have hx := Bd.exec
  have hby := Bd.bytes
  have hml : c.maxLocals = 1 := hml0
  have hown : s.vm.findClass "java/lang/String" = some m.cls := findClass_of_methodNamed Bd.named
  have hnm := (name_of_methodNamed Bd.named Bd.method).1
  have X0 : Stand p l e ({ frames := 1, cells := 0, slots := 0, locals := 20 } : Room) s m #[(.ref a1)] below meth c s₁ [] 0 0 := Stand.of_body Bd
  have e0 : s₁.heap = h0 := by rw [← hh, Bd.state]; rfl
  have N0 := Fr.nil n0
  obtain ⟨S0, hS0⟩ : ∃ z, z = s₁.setTop (entryFrame m #[(.ref a1)] 1) := ⟨_, rfl⟩
  have k0 : Rch p e below S0 s₁ (mkF m 0 #[vR a1] []) := fun t kq => hS0 ▸ castTop (ef_8 m a1) kq
  have k47 : Rch p e below S0 s₁ (mkF m 1 #[vR a1] [(.ref a1)]) := fun t h => k0 t (by
      show Steps p.tables e below (s₁.setTop (mkF m 0 #[vR a1] [])) _
      refine XS.aloadN X0.here hx rfl (hb hby d8_0) rfl rfl ?_
      exact h)
  obtain ⟨T46, X46, e46, st46⟩ := getF X0 hx hZ hown (host := "") (Or.inl (hw _ (gm 25 rfl))) Via.refl e0 Fv (g := (mkF m 1 #[vR a1] [(.ref a1)])) rfl rfl (hb hby d8_1)
  have k48 : Rch p e below S0 T46 (mkF m 4 #[vR a1] [(.ref tt)]) := fun t h => k47 t (st46 t h)
  obtain ⟨cl49, Ar49, q49, Sz49, Ng49, Hs49, G49⟩ := id Vt
  have k50 : Rch p e below S0 T46 (mkF m 6 #[vR a1] [(.ref a1), (.int N2)]) := fun t h => k48 t (by
      show Steps p.tables e below (T46.setTop (mkF m 4 #[vR a1] [(.ref tt)])) _
      refine X46.arraylength hx (by rw [e46]; exact Ar49.1) (State.isArrayOf_alike hZ.alike Ar49.2.1) (g := (mkF m 4 #[vR a1] [(.ref tt)])) rfl rfl (hb hby d8_4) _ ?_
      rw [len_of Sz49 Ng49]
      refine XS.aloadN X46.here hx rfl (hb hby d8_5) rfl rfl ?_
      exact h)
  obtain ⟨cq51, kq51, q51a, q51b, q51c⟩ := isOf hZ e46 Ex
  obtain ⟨_, _, ⟨T51, L51, kk51, n51⟩, -, X51, ⟨Lc51, hQ51, l51, y51, z51⟩, st51⟩ := X46.virtualBack hx (y := (⟨"java/lang/String", "coder", "()B"⟩ : MethodName)) (z := (⟨"java/lang/String", "coder", "()B"⟩ : MethodName)) hown (mvT hZ (hw _ (gm 44 rfl))) (mvT hZ (hw _ (gm 45 rfl))) (notFace_of_selects (args := #[]) (mvT hZ (hw _ (gm 47 rfl)))) (mvT hZ (hw _ (gm 47 rfl))) (mvT hZ (hw _ (gm 46 rfl))) (by decide) (backOf (W := 1) (rmCO l Z a0 hw [] a1 cd zC h0 n0 O0 SC hzC Fc) hZ (hw _ (gm 48 rfl)) (hw _ (gm 8 rfl)) (by decide) (by decide)) q51a q51c (g := (mkF m 6 #[vR a1] [(.ref a1), (.int N2)])) rfl (by rw [hml]; rfl) (Steps.refl _) (argsL := []) (rest := [(.int N2)]) (lenOf pd_8 rfl) rfl (by show 2 * 0 + _ ≤ _; exact Nat.le_of_eq rfl) (hb hby d8_6) (fun _ _ => ⟨rfl, e46, (by decide : 0 + 0 ≤ _), (by decide : 0 + 0 ≤ _)⟩)
  dsimp only [Pt.U, Pt.locs, Pt.cells, Pt.slots] at X51 l51 y51 z51 st51 hQ51
  subst l51 y51 z51
  obtain ⟨rfl, Nq51, hh51⟩ := hQ51
  have N51 := Fr.app N0 Nq51
  have k52 : Rch p e below S0 T51 (mkF m 9 #[vR a1] [(.int (nar .byte cd)), (.int N2)]) := fun t h => k50 t (st51.trans h)
  have k53 : Rch p e below S0 T51 (mkF m 10 #[vR a1] [(.int LN)]) := fun t h => k52 t (by
      show Steps p.tables e below (T51.setTop (mkF m 9 #[vR a1] [(.int (nar .byte cd)), (.int N2)])) _
      refine XS.ishr X51.here hx rfl (hb hby d8_9) rfl ?_
      rw [hL]
      exact h)
  obtain ⟨fs, hr, hrun, hended, hW, hsame⟩ := X51.leave (v := (some (.int LN))) (fun h => by rw [Bd.returns] at h; cases h)
  refine ⟨_, _, ?_, hrun, hended, _, _, rfl, ?_, ⟨_, rfl⟩, hW, hsame.mono (by decide) (by decide)⟩
  · rw [← hS0]
    refine k53 _ ?_
    show Steps p.tables e below (T51.setTop (mkF m 10 #[vR a1] [(.int LN)])) _
    exact retI X51 hx Bd.returns (hb hby d8_10) hr
  · show Q_rmLE Z LN h0 n0 _ T51.heap _
    rw [hh51]
    exact ⟨rfl, N51, rfl⟩
def kc (c : Int32) : Nat := if c = 45 then 0 else if ¬ c < 48 ∧ ¬ (57 : Int32) < c then 1 else if ¬ c < 97 ∧ ¬ (102 : Int32) < c then 2 else 3
def own_li (ks : List Nat) : Nat → Option Nat
  | 0 => none
  | k + 1 => if ks.getD k 3 = 0 then some k else own_li ks k
def own_lir (ks : List Nat) (k : Nat) : Int32 := match own_li ks k with
  | none => -1
  | some p => Int32.ofNat p
def own_isd (c rx : Nat) : Bool := c == 1 || (rx == 2 && c == 2)
def own_dg (ks : List Nat) (rx : Nat) : Nat → Nat → Bool
  | _, 0 => true
  | i, k + 1 => own_isd (ks.getD i 3) rx && own_dg ks rx (i + 1) k
def own_mem (ks : List Nat) (n : Nat) : Bool :=
  match own_li ks n with
  | none => false
  | some p => match own_li ks p with
    | none => false
    | some q => decide (q + 1 < p) && decide (p + 1 < n) && own_dg ks 2 (q + 1) (p - (q + 1)) && own_dg ks 1 (p + 1) (n - (p + 1))
def own_stp (s c : Nat) : Nat :=
  if s = 0 then (if c = 1 then 1 else 5) else if s = 1 then (if c = 1 then 1 else if c = 0 then 2 else 5) else if s = 2 then (if c = 1 ∨ c = 2 then 3 else 5) else if s = 3 then (if c = 1 ∨ c = 2 then 3 else if c = 0 then 4 else 5) else s
def own_stI (s : Int32) (c : Nat) : Int32 :=
  if s = 0 then (if c = 1 then 1 else 5) else if s = 1 then (if c = 1 then 1 else if c = 0 then 2 else 5) else if s = 2 then (if c = 1 ∨ c = 2 then 3 else 5) else if s = 3 then (if c = 1 ∨ c = 2 then 3 else if c = 0 then 4 else 5) else s
def own_fs (cs : List Nat) : Nat := cs.foldr (fun c s => own_stp s c) 0
def own_fsI (cs : List Nat) : Int32 := cs.foldr (fun c s => own_stI s c) 0
def own_all4 : Nat → (List Nat → Bool) → Bool
  | 0, f => f []
  | n + 1, f => [0, 1, 2, 3].all fun a => own_all4 n (fun l => f (a :: l))
theorem own_all4_spec : ∀ (n : Nat) (f : List Nat → Bool), own_all4 n f = true → ∀ l : List Nat, l.length = n → (∀ x ∈ l, x < 4) → f l = true
  | 0, f, h, [], _, _ => h
  | 0, _, _, _ :: _, hl, _ => by simp at hl
  | n + 1, _, _, [], hl, _ => by simp at hl
  | n + 1, f, h, b :: r, hl, hx => by
    have hb := hx b (List.mem_cons_self ..)
    have q : own_all4 n (fun l => f (b :: l)) = true := by
      simp only [own_all4, List.all_cons, List.all_nil, Bool.and_eq_true, Bool.and_true] at h
      obtain ⟨h0, h1, h2, h3⟩ := h
      match b, hb with
      | 0, _ => exact h0
      | 1, _ => exact h1
      | 2, _ => exact h2
      | 3, _ => exact h3
    exact own_all4_spec n _ q r (by simpa using hl) (fun x hx' => hx x (List.mem_cons_of_mem _ hx'))
set_option maxRecDepth 65536 in
theorem own_pl0 : own_all4 0 (fun l => own_mem l 0 == (own_fs l == 4)) = true := by decide +kernel
set_option maxRecDepth 65536 in
theorem own_pl1 : own_all4 1 (fun l => own_mem l 1 == (own_fs l == 4)) = true := by decide +kernel
set_option maxRecDepth 65536 in
theorem own_pl2 : own_all4 2 (fun l => own_mem l 2 == (own_fs l == 4)) = true := by decide +kernel
set_option maxRecDepth 65536 in
theorem own_pl3 : own_all4 3 (fun l => own_mem l 3 == (own_fs l == 4)) = true := by decide +kernel
set_option maxRecDepth 65536 in
theorem own_pl4 : own_all4 4 (fun l => own_mem l 4 == (own_fs l == 4)) = true := by decide +kernel
set_option maxRecDepth 65536 in
theorem own_pl5 : own_all4 5 (fun l => own_mem l 5 == (own_fs l == 4)) = true := by decide +kernel
set_option maxRecDepth 65536 in
theorem own_pl6 : own_all4 6 (fun l => own_mem l 6 == (own_fs l == 4)) = true := by decide +kernel
set_option maxRecDepth 65536 in
theorem own_pl7 : own_all4 7 (fun l => own_mem l 7 == (own_fs l == 4)) = true := by decide +kernel
theorem own_st6 : ∀ s < 6, ∀ k < 4, own_stI (Int32.ofNat s) k = Int32.ofNat (own_stp s k) ∧ own_stp s k < 6 := by decide +kernel
theorem own_fsI_eq (l : List Nat) (h : ∀ x ∈ l, x < 4) : own_fsI l = Int32.ofNat (own_fs l) ∧ own_fs l < 6 := by
  induction l with
  | nil => exact ⟨rfl, by decide⟩
  | cons b r ih =>
    obtain ⟨h1, h2⟩ := ih (fun x hx => h x (List.mem_cons_of_mem _ hx))
    have q := own_st6 (own_fs r) h2 b (h b (List.mem_cons_self ..))
    refine ⟨?_, q.2⟩
    show own_stI (own_fsI r) b = _
    rw [h1]; exact q.1
theorem own_plain (l : List Nat) (n : Nat) (hl : l.length = n) (hn : n ≤ 7) (h : ∀ x ∈ l, x < 4) : (own_mem l n = true → own_fsI l = 4) ∧ (own_mem l n = false → ¬ own_fsI l = 4) := by
  have e : own_mem l n = (own_fs l == 4) := by
    match n, hn with
    | 0, _ => exact eq_of_beq (own_all4_spec 0 _ own_pl0 l hl h)
    | 1, _ => exact eq_of_beq (own_all4_spec 1 _ own_pl1 l hl h)
    | 2, _ => exact eq_of_beq (own_all4_spec 2 _ own_pl2 l hl h)
    | 3, _ => exact eq_of_beq (own_all4_spec 3 _ own_pl3 l hl h)
    | 4, _ => exact eq_of_beq (own_all4_spec 4 _ own_pl4 l hl h)
    | 5, _ => exact eq_of_beq (own_all4_spec 5 _ own_pl5 l hl h)
    | 6, _ => exact eq_of_beq (own_all4_spec 6 _ own_pl6 l hl h)
    | 7, _ => exact eq_of_beq (own_all4_spec 7 _ own_pl7 l hl h)
  obtain ⟨e1, e2⟩ := own_fsI_eq l h
  rw [e, e1]
  constructor
  · intro q; rw [eq_of_beq q]; rfl
  · intro q w
    have r := congrArg Int32.toInt w
    rw [(own_tn (by omega)).2, show (4 : Int32).toInt = 4 from by decide] at r
    have : own_fs l = 4 := by omega
    rw [this] at q; exact absurd q (by decide)
theorem kc_lt (c : Int32) : kc c < 4 := by
  unfold kc; repeat' split
  all_goals omega
theorem own_kg (cs : List Int32) (i : Nat) (hi : i < cs.length) : (cs.map kc).getD i 3 = kc (cs.getD i 0) := by
  simp only [List.getD_eq_getElem?_getD, List.getElem?_map, List.getElem?_eq_getElem hi, Option.map_some, Option.getD_some]
theorem own_atb (cs : List Int32) (i : Nat) (hi : i < cs.length) : ((cs.map fun c => c.toInt8.toInt32).map Value.int).getD i (.int (0 : Int32)) = .int ((cs.getD i 0).toInt8.toInt32) := by
  simp only [List.getD_eq_getElem?_getD, List.getElem?_map, List.getElem?_eq_getElem hi, Option.map_some, Option.getD_some]
theorem own_i2b (c : Int32) (h : ¬ c < 0 ∧ ¬ (255 : Int32) < c) : (c.toInt8.toInt32).toInt = if c.toInt < 128 then c.toInt else c.toInt - 256 := by
  have q := c_i2b c
  have h0 : (0 : Int32).toInt = 0 := by decide
  have h1 : (255 : Int32).toInt = 255 := by decide
  rw [Int32.lt_iff_toInt_lt, Int32.lt_iff_toInt_lt] at h
  split <;> omega
theorem own_dash (c : Int32) (h : ¬ c < 0 ∧ ¬ (255 : Int32) < c) : (kc c = 0 → c.toInt8.toInt32 = 45) ∧ (¬ kc c = 0 → ¬ c.toInt8.toInt32 = 45) := by
  have e45 : (45 : Int32).toInt = 45 := by decide
  constructor
  · intro q
    have : c = 45 := by
      unfold kc at q
      by_cases w : c = 45
      · exact w
      · rw [if_neg w] at q; split at q <;> (try split at q) <;> simp at q
    rw [this]; decide
  · intro q w
    apply q
    have r := congrArg Int32.toInt w
    have h' := h
    rw [Int32.lt_iff_toInt_lt, Int32.lt_iff_toInt_lt, show (0 : Int32).toInt = 0 from by decide, show (255 : Int32).toInt = 255 from by decide] at h'
    rw [own_i2b c h, e45] at r
    have : c = 45 := Int32.toInt_inj.mp (by rw [e45]; split at r <;> omega)
    rw [this]; rfl
theorem own_b2c (c : Int32) (h : ¬ c < 0 ∧ ¬ (255 : Int32) < c) : (c.toInt8.toInt32 &&& (255 : Int32)) = c := by
  apply Int32.toInt_inj.mp
  have a := c_mask c.toInt8.toInt32 255 8 (by decide) (by decide)
  have b := own_i2b c h
  have h' := h
  rw [Int32.lt_iff_toInt_lt, Int32.lt_iff_toInt_lt, show (0 : Int32).toInt = 0 from by decide, show (255 : Int32).toInt = 255 from by decide] at h'
  split at b <;> omega
theorem own_ix0 : (Int32.ofNat 0 - (1 : Int32)) < 0 := by decide
theorem own_ixs {j : Nat} (h : j < 100) : Int32.ofNat (j + 1) - (1 : Int32) = Int32.ofNat j := by
  apply Int32.toInt_inj.mp
  have a := c_isub (Int32.ofNat (j + 1)) 1
  have e : (1 : Int32).toInt = 1 := by decide
  rw [(own_tn (by omega)).2, e] at a
  rw [(own_tn (by omega)).2]
  have r := rng32 (Int32.ofNat (j + 1) - 1)
  omega
theorem own_ixd (j : Nat) : Int32.ofNat j + (-1 : Int32) = Int32.ofNat j - (1 : Int32) := by
  rw [Int32.sub_eq_add_neg]
theorem own_ixt {j : Nat} (h : j < 100) : (Int32.ofNat j - (1 : Int32)).toInt = (j : Int) - 1 := by
  have a := c_isub (Int32.ofNat j) 1
  have e : (1 : Int32).toInt = 1 := by decide
  rw [(own_tn (by omega)).2, e] at a
  have r := rng32 (Int32.ofNat j - 1)
  omega
theorem own_sh0 (x : Int32) : x >>> (nar .byte 0 &&& 31) = x := by
  apply Int32.toInt_inj.mp
  have a := c_ishr x (nar .byte 0) 0 (by decide)
  rw [a]; omega
def own_b (b : Bool) : Int32 := if b then 1 else 0
theorem own_d10 (c : Int32) : (¬ c < 48 ∧ ¬ (57 : Int32) < c ∧ own_b (own_isd (kc c) 1) = 1) ∨ (c < 48 ∧ own_b (own_isd (kc c) 1) = 0) ∨ (¬ c < 48 ∧ (57 : Int32) < c ∧ own_b (own_isd (kc c) 1) = 0) := by
  by_cases h1 : c < 48
  · refine Or.inr (Or.inl ⟨h1, ?_⟩)
    unfold kc
    by_cases w : c = 45
    · rw [if_pos w]; rfl
    · rw [if_neg w, if_neg (fun q => q.1 h1)]; split <;> rfl
  · have w : ¬ c = 45 := fun q => h1 (by rw [q]; decide)
    by_cases h2 : (57 : Int32) < c
    · refine Or.inr (Or.inr ⟨h1, h2, ?_⟩)
      unfold kc; rw [if_neg w, if_neg (fun q => q.2 h2)]; split <;> rfl
    · refine Or.inl ⟨h1, h2, ?_⟩
      unfold kc; rw [if_neg w, if_pos ⟨h1, h2⟩]; rfl
theorem own_d16 (c : Int32) : (¬ c < 48 ∧ ¬ (57 : Int32) < c ∧ own_b (own_isd (kc c) 2) = 1) ∨ (¬ c < 48 ∧ (57 : Int32) < c ∧ ¬ c < 97 ∧ ¬ (102 : Int32) < c ∧ own_b (own_isd (kc c) 2) = 1) ∨ (c < 48 ∧ c < 97 ∧ own_b (own_isd (kc c) 2) = 0) ∨ (¬ c < 48 ∧ (57 : Int32) < c ∧ c < 97 ∧ own_b (own_isd (kc c) 2) = 0) ∨ (¬ c < 48 ∧ (57 : Int32) < c ∧ ¬ c < 97 ∧ (102 : Int32) < c ∧ own_b (own_isd (kc c) 2) = 0) := by
  by_cases h1 : c < 48
  · have h9 : c < 97 := Int32.lt_trans h1 (by decide)
    refine Or.inr (Or.inr (Or.inl ⟨h1, h9, ?_⟩))
    unfold kc
    by_cases w : c = 45
    · rw [if_pos w]; rfl
    · rw [if_neg w, if_neg (fun q => q.1 h1), if_neg (fun q => q.1 h9)]; rfl
  · have w : ¬ c = 45 := fun q => h1 (by rw [q]; decide)
    by_cases h2 : (57 : Int32) < c
    · by_cases h3 : c < 97
      · refine Or.inr (Or.inr (Or.inr (Or.inl ⟨h1, h2, h3, ?_⟩)))
        unfold kc; rw [if_neg w, if_neg (fun q => q.2 h2), if_neg (fun q => q.1 h3)]; rfl
      · by_cases h4 : (102 : Int32) < c
        · refine Or.inr (Or.inr (Or.inr (Or.inr ⟨h1, h2, h3, h4, ?_⟩)))
          unfold kc; rw [if_neg w, if_neg (fun q => q.2 h2), if_neg (fun q => q.2 h4)]; rfl
        · refine Or.inr (Or.inl ⟨h1, h2, h3, h4, ?_⟩)
          unfold kc; rw [if_neg w, if_neg (fun q => q.2 h2), if_pos ⟨h3, h4⟩]; rfl
    · refine Or.inl ⟨h1, h2, ?_⟩
      unfold kc; rw [if_neg w, if_pos ⟨h1, h2⟩]; rfl
theorem own_k4 (c : Int32) : (c < 48 ∧ c < 97 ∧ c = 45 ∧ kc c = 0) ∨ (¬ c < 48 ∧ ¬ (57 : Int32) < c ∧ ¬ c = 45 ∧ kc c = 1) ∨ (¬ c < 48 ∧ (57 : Int32) < c ∧ ¬ c < 97 ∧ ¬ (102 : Int32) < c ∧ ¬ c = 45 ∧ kc c = 2) ∨ (c < 48 ∧ c < 97 ∧ ¬ c = 45 ∧ kc c = 3) ∨ (¬ c < 48 ∧ (57 : Int32) < c ∧ c < 97 ∧ ¬ c = 45 ∧ kc c = 3) ∨ (¬ c < 48 ∧ (57 : Int32) < c ∧ ¬ c < 97 ∧ (102 : Int32) < c ∧ ¬ c = 45 ∧ kc c = 3) := by
  by_cases w : c = 45
  · exact Or.inl ⟨by rw [w]; decide, by rw [w]; decide, w, by rw [w]; rfl⟩
  · refine Or.inr ?_
    by_cases h1 : c < 48
    · have h9 : c < 97 := Int32.lt_trans h1 (by decide)
      exact Or.inr (Or.inr (Or.inl ⟨h1, h9, w, by unfold kc; rw [if_neg w, if_neg (fun q => q.1 h1), if_neg (fun q => q.1 h9)]⟩))
    · by_cases h2 : (57 : Int32) < c
      · refine Or.inr ?_
        by_cases h3 : c < 97
        · exact Or.inr (Or.inr (Or.inl ⟨h1, h2, h3, w, by unfold kc; rw [if_neg w, if_neg (fun q => q.2 h2), if_neg (fun q => q.1 h3)]⟩))
        · by_cases h4 : (102 : Int32) < c
          · exact Or.inr (Or.inr (Or.inr ⟨h1, h2, h3, h4, w, by unfold kc; rw [if_neg w, if_neg (fun q => q.2 h2), if_neg (fun q => q.2 h4)]⟩))
          · exact Or.inl ⟨h1, h2, h3, h4, w, by unfold kc; rw [if_neg w, if_neg (fun q => q.2 h2), if_pos ⟨h3, h4⟩]⟩
      · exact Or.inl ⟨h1, h2, w, by unfold kc; rw [if_neg w, if_pos ⟨h1, h2⟩]⟩
theorem own_chb (c : Int32) (h : ¬ c < 0 ∧ ¬ (255 : Int32) < c) : ¬ nar .char c < 0 ∧ ¬ (255 : Int32) < nar .char c := by
  rw [(own_nar c h).1]; exact h
theorem own_ch (y : Int32) (d b : Int32) (di bi : Int) (hd : d.toInt = di) (hb : b.toInt = bi) (h1 : 0 < di) (h2 : 0 ≤ bi) (h3 : bi + di ≤ 256) : ¬ (b + (y &&& (255 : Int32)) % d) < 0 ∧ ¬ (255 : Int32) < (b + (y &&& (255 : Int32)) % d) := by
  have a := c_mask y 255 8 (by decide) (by decide)
  have q := (c_irem (y &&& 255) d di hd).1 (by omega)
  have r := c_iadd b ((y &&& 255) % d)
  have s := rng32 (b + (y &&& 255) % d)
  have t := Int.emod_nonneg (y &&& 255).toInt (b := di) (by omega)
  have t2 := Int.emod_lt_of_pos (y &&& 255).toInt h1
  rw [Int32.lt_iff_toInt_lt, Int32.lt_iff_toInt_lt, show (0 : Int32).toInt = 0 from by decide, show (255 : Int32).toInt = 255 from by decide]
  omega
def Q_rmCh (Z : State)  (h0 : Heap) (n0 : Nat) (v : Option Value) (h : Heap) (L : List Loc) : Prop := ∃ ch, v = some (.int ch) ∧ Fr n0 L ∧ h = h0 ∧ (¬ ch < 0 ∧ ¬ (255 : Int32) < ch)
theorem ef_1 (m : MethodId) (x0 : Int64) : entryFrame m #[(.long x0)] 5 = mkF m 0 #[.val (.long x0), .second, .unset, .unset, .unset] [] := by first | (simp [entryFrame, mkF, argsToLocals, Value.category]; done) | rfl
theorem pn_EntryNameIsMemberPinLaw : plainName "com/example/nuthatch/nuthatch/EntryNameIsMemberPinLaw" = true := by first | (simp [plainName, overriddenIn]; done) | decide +kernel
theorem d1_0 : decode method_3_code 0 = .ok (.lload_n 0, 1) := by decide +kernel
theorem d1_1 : decode method_3_code 1 = .ok (.ldc2_w 28, 3) := by decide +kernel
theorem d1_4 : decode method_3_code 4 = .ok (.land, 1) := by decide +kernel
theorem d1_5 : decode method_3_code 5 = .ok (.l2i, 1) := by decide +kernel
theorem d1_6 : decode method_3_code 6 = .ok (.istore_n 2, 1) := by decide +kernel
theorem d1_7 : decode method_3_code 7 = .ok (.iload_n 2, 1) := by decide +kernel
theorem d1_8 : decode method_3_code 8 = .ok (.bipush 8, 2) := by decide +kernel
theorem d1_10 : decode method_3_code 10 = .ok (.iushr, 1) := by decide +kernel
theorem d1_11 : decode method_3_code 11 = .ok (.istore_n 3, 1) := by decide +kernel
theorem d1_12 : decode method_3_code 12 = .ok (.iload_n 2, 1) := by decide +kernel
theorem d1_13 : decode method_3_code 13 = .ok (.sipush 255, 3) := by decide +kernel
theorem d1_16 : decode method_3_code 16 = .ok (.iand, 1) := by decide +kernel
theorem d1_17 : decode method_3_code 17 = .ok (.istore 4, 2) := by decide +kernel
theorem d1_19 : decode method_3_code 19 = .ok (.iload_n 3, 1) := by decide +kernel
theorem d1_20 : decode method_3_code 20 = .ok (.ifCond .ne 6, 3) := by decide +kernel
theorem d1_23 : decode method_3_code 23 = .ok (.bipush 45, 2) := by decide +kernel
theorem d1_25 : decode method_3_code 25 = .ok (.ireturn, 1) := by decide +kernel
theorem d1_26 : decode method_3_code 26 = .ok (.iload_n 3, 1) := by decide +kernel
theorem d1_27 : decode method_3_code 27 = .ok (.iconst 1, 1) := by decide +kernel
theorem d1_28 : decode method_3_code 28 = .ok (.if_icmp .ne 13, 3) := by decide +kernel
theorem d1_31 : decode method_3_code 31 = .ok (.bipush 48, 2) := by decide +kernel
theorem d1_33 : decode method_3_code 33 = .ok (.iload 4, 2) := by decide +kernel
theorem d1_35 : decode method_3_code 35 = .ok (.bipush 10, 2) := by decide +kernel
theorem d1_37 : decode method_3_code 37 = .ok (.irem, 1) := by decide +kernel
theorem d1_38 : decode method_3_code 38 = .ok (.iadd, 1) := by decide +kernel
theorem d1_39 : decode method_3_code 39 = .ok (.i2c, 1) := by decide +kernel
theorem d1_40 : decode method_3_code 40 = .ok (.ireturn, 1) := by decide +kernel
theorem d1_41 : decode method_3_code 41 = .ok (.iload_n 3, 1) := by decide +kernel
theorem d1_42 : decode method_3_code 42 = .ok (.iconst 2, 1) := by decide +kernel
theorem d1_43 : decode method_3_code 43 = .ok (.if_icmp .ne 13, 3) := by decide +kernel
theorem d1_46 : decode method_3_code 46 = .ok (.bipush 97, 2) := by decide +kernel
theorem d1_48 : decode method_3_code 48 = .ok (.iload 4, 2) := by decide +kernel
theorem d1_50 : decode method_3_code 50 = .ok (.bipush 6, 2) := by decide +kernel
theorem d1_52 : decode method_3_code 52 = .ok (.irem, 1) := by decide +kernel
theorem d1_53 : decode method_3_code 53 = .ok (.iadd, 1) := by decide +kernel
theorem d1_54 : decode method_3_code 54 = .ok (.i2c, 1) := by decide +kernel
theorem d1_55 : decode method_3_code 55 = .ok (.ireturn, 1) := by decide +kernel
theorem d1_56 : decode method_3_code 56 = .ok (.iload 4, 2) := by decide +kernel
theorem d1_58 : decode method_3_code 58 = .ok (.i2c, 1) := by decide +kernel
theorem d1_59 : decode method_3_code 59 = .ok (.ireturn, 1) := by decide +kernel
set_option maxRecDepth 65536 in
set_option maxHeartbeats 40000000 in
theorem rmCh (l : Launch) (Z : State) (a0 : Array Value) (hw : ∀ d ∈ tables_1, d.before a0 Z = true) (ws : List Jvm.Cond) (bt : Int64) (h0 : Heap) (n0 : Nat) (O0 : Old Z n0 h0) :
    MetFree l (⟨"com/example/nuthatch/nuthatch/EntryNameIsMemberPinLaw", "ch", "(J)C"⟩ : MethodName) (head1 (Jvm.Cond.code (⟨"com/example/nuthatch/nuthatch/EntryNameIsMemberPinLaw", "ch", "(J)C"⟩ : MethodName) method_3_code 5 (some .char) :: ws) ({ frames := 0, cells := 0, slots := 0, locals := 0 } : Room)) (fun a U => a = #[(.long bt)] ∧ Z.Warmed39 U.vm ∧ U.heap = h0) (fun _ _ _ _ _ => True) (fun _ U o U' => ∃ v L, o = .returned v ∧ Q_rmCh Z  h0 n0 v U'.heap L ∧ FrameEnd U o U' L ({ frames := 0, cells := 0, slots := 0, locals := 0 } : Room).cells ({ frames := 0, cells := 0, slots := 0, locals := 0 } : Room).slots) := by
  refine MetFree.of_bodySF (plainFor_of_name pn_EntryNameIsMemberPinLaw) hisR ?_
  intro p e s m args below meth c s₁ Bd hml0 hP hK
  obtain ⟨rfl, hZ, hh⟩ := hP
  have hx := Bd.exec
  have hby := Bd.bytes
  have hml : c.maxLocals = 5 := hml0
  have hown : s.vm.findClass "com/example/nuthatch/nuthatch/EntryNameIsMemberPinLaw" = some m.cls := findClass_of_methodNamed Bd.named
  have hnm := (name_of_methodNamed Bd.named Bd.method).1
  have X0 : Stand p l e ({ frames := 0, cells := 0, slots := 0, locals := 0 } : Room) s m #[(.long bt)] below meth c s₁ [] 0 0 := Stand.of_body Bd
  have e0 : s₁.heap = h0 := by rw [← hh, Bd.state]; rfl
  have N0 := Fr.nil n0
  obtain ⟨S0, hS0⟩ : ∃ z, z = s₁.setTop (entryFrame m #[(.long bt)] 5) := ⟨_, rfl⟩
  have k0 : Rch p e below S0 s₁ (mkF m 0 #[.val (.long bt), .second, vU, vU, vU] []) := fun t kq => hS0 ▸ castTop (ef_1 m bt) kq
  by_cases g0 : ((((bt &&& (1023 : Int64)).toInt32).toUInt32 >>> ((8 : Int32) &&& 31).toUInt32).toInt32) = 0
  · have k54 : Rch p e below S0 s₁ (mkF m 25 #[.val (.long bt), .second, vI ((bt &&& (1023 : Int64)).toInt32), vI ((((bt &&& (1023 : Int64)).toInt32).toUInt32 >>> ((8 : Int32) &&& 31).toUInt32).toInt32), vI (((bt &&& (1023 : Int64)).toInt32) &&& (255 : Int32))] [(.int (45 : Int32))]) := fun t h => k0 t (by
        show Steps p.tables e below (s₁.setTop (mkF m 0 #[.val (.long bt), .second, vU, vU, vU] [])) _
        refine XS.lloadN X0.here hx rfl (hb hby d1_0) rfl ?_
        refine X0.ldc2Long hx hown (mvT hZ (hw _ (gm 5 rfl))) (g := (mkF m 1 #[.val (.long bt), .second, vU, vU, vU] [(.long bt)])) rfl (hb hby d1_1) _ ?_
        refine XS.land X0.here hx rfl (hb hby d1_4) rfl ?_
        refine XS.l2i X0.here hx rfl (hb hby d1_5) rfl ?_
        refine XS.istoreN X0.here hx rfl (hb hby d1_6) rfl (l' := #[.val (.long bt), .second, vI ((bt &&& (1023 : Int64)).toInt32), vU, vU]) rfl ?_
        refine XS.iloadN X0.here hx rfl (hb hby d1_7) rfl ?_
        refine XS.bipush X0.here hx rfl (hb hby d1_8) ?_
        refine XS.iushr X0.here hx rfl (hb hby d1_10) rfl ?_
        refine XS.istoreN X0.here hx rfl (hb hby d1_11) rfl (l' := #[.val (.long bt), .second, vI ((bt &&& (1023 : Int64)).toInt32), vI ((((bt &&& (1023 : Int64)).toInt32).toUInt32 >>> ((8 : Int32) &&& 31).toUInt32).toInt32), vU]) rfl ?_
        refine XS.iloadN X0.here hx rfl (hb hby d1_12) rfl ?_
        refine XS.sipush X0.here hx rfl (hb hby d1_13) ?_
        refine XS.iand X0.here hx rfl (hb hby d1_16) rfl ?_
        refine XS.istore X0.here hx rfl (hb hby d1_17) rfl (l' := #[.val (.long bt), .second, vI ((bt &&& (1023 : Int64)).toInt32), vI ((((bt &&& (1023 : Int64)).toInt32).toUInt32 >>> ((8 : Int32) &&& 31).toUInt32).toInt32), vI (((bt &&& (1023 : Int64)).toInt32) &&& (255 : Int32))]) rfl ?_
        refine XS.iloadN X0.here hx rfl (hb hby d1_19) rfl ?_
        refine XS.ifNo X0.here hx rfl (hb hby d1_20) rfl ((if0 _ _).trans (teq (g0 : ((((bt &&& (1023 : Int64)).toInt32).toUInt32 >>> ((8 : Int32) &&& 31).toUInt32).toInt32) = (0 : Int32))).2) ?_
        refine XS.bipush X0.here hx rfl (hb hby d1_23) ?_
        exact h)
    obtain ⟨fs, hr, hrun, hended, hW, hsame⟩ := X0.leave (v := (some (.int (nar .char (45 : Int32))))) (fun h => by rw [Bd.returns] at h; cases h)
    refine ⟨_, _, ?_, hrun, hended, _, _, rfl, ?_, ⟨_, rfl⟩, hW, hsame.mono (by decide) (by decide)⟩
    · rw [← hS0]
      refine k54 _ ?_
      show Steps p.tables e below (s₁.setTop (mkF m 25 #[.val (.long bt), .second, vI ((bt &&& (1023 : Int64)).toInt32), vI ((((bt &&& (1023 : Int64)).toInt32).toUInt32 >>> ((8 : Int32) &&& 31).toUInt32).toInt32), vI (((bt &&& (1023 : Int64)).toInt32) &&& (255 : Int32))] [(.int (45 : Int32))])) _
      exact retN X0 hx (t := .char) Bd.returns (by simp) (hb hby d1_25) hr
    · show Q_rmCh Z  h0 n0 _ s₁.heap _
      rw [e0]
      exact ⟨_, rfl, N0, rfl, own_chb _ (by decide)⟩
  · by_cases g1 : ((((bt &&& (1023 : Int64)).toInt32).toUInt32 >>> ((8 : Int32) &&& 31).toUInt32).toInt32) = 1
    · have k55 : Rch p e below S0 s₁ (mkF m 40 #[.val (.long bt), .second, vI ((bt &&& (1023 : Int64)).toInt32), vI ((((bt &&& (1023 : Int64)).toInt32).toUInt32 >>> ((8 : Int32) &&& 31).toUInt32).toInt32), vI (((bt &&& (1023 : Int64)).toInt32) &&& (255 : Int32))] [(.int ((48 : Int32) + ((((bt &&& (1023 : Int64)).toInt32) &&& (255 : Int32)) % (10 : Int32))))]) := fun t h => k0 t (by
          show Steps p.tables e below (s₁.setTop (mkF m 0 #[.val (.long bt), .second, vU, vU, vU] [])) _
          refine XS.lloadN X0.here hx rfl (hb hby d1_0) rfl ?_
          refine X0.ldc2Long hx hown (mvT hZ (hw _ (gm 5 rfl))) (g := (mkF m 1 #[.val (.long bt), .second, vU, vU, vU] [(.long bt)])) rfl (hb hby d1_1) _ ?_
          refine XS.land X0.here hx rfl (hb hby d1_4) rfl ?_
          refine XS.l2i X0.here hx rfl (hb hby d1_5) rfl ?_
          refine XS.istoreN X0.here hx rfl (hb hby d1_6) rfl (l' := #[.val (.long bt), .second, vI ((bt &&& (1023 : Int64)).toInt32), vU, vU]) rfl ?_
          refine XS.iloadN X0.here hx rfl (hb hby d1_7) rfl ?_
          refine XS.bipush X0.here hx rfl (hb hby d1_8) ?_
          refine XS.iushr X0.here hx rfl (hb hby d1_10) rfl ?_
          refine XS.istoreN X0.here hx rfl (hb hby d1_11) rfl (l' := #[.val (.long bt), .second, vI ((bt &&& (1023 : Int64)).toInt32), vI ((((bt &&& (1023 : Int64)).toInt32).toUInt32 >>> ((8 : Int32) &&& 31).toUInt32).toInt32), vU]) rfl ?_
          refine XS.iloadN X0.here hx rfl (hb hby d1_12) rfl ?_
          refine XS.sipush X0.here hx rfl (hb hby d1_13) ?_
          refine XS.iand X0.here hx rfl (hb hby d1_16) rfl ?_
          refine XS.istore X0.here hx rfl (hb hby d1_17) rfl (l' := #[.val (.long bt), .second, vI ((bt &&& (1023 : Int64)).toInt32), vI ((((bt &&& (1023 : Int64)).toInt32).toUInt32 >>> ((8 : Int32) &&& 31).toUInt32).toInt32), vI (((bt &&& (1023 : Int64)).toInt32) &&& (255 : Int32))]) rfl ?_
          refine XS.iloadN X0.here hx rfl (hb hby d1_19) rfl ?_
          refine XS.ifYes X0.here hx rfl (pc0 := 20) (pc' := 26) rfl (hb hby d1_20) rfl ((if0 _ _).trans (feq (g0 : ¬ (((((bt &&& (1023 : Int64)).toInt32).toUInt32 >>> ((8 : Int32) &&& 31).toUInt32).toInt32) = (0 : Int32)))).2) (by decide) (by decide) ?_
          refine XS.iloadN X0.here hx rfl (hb hby d1_26) rfl ?_
          refine XS.iconst X0.here hx rfl (hb hby d1_27) ?_
          refine XS.icmpNo X0.here hx rfl (hb hby d1_28) rfl (teq (g1 : ((((bt &&& (1023 : Int64)).toInt32).toUInt32 >>> ((8 : Int32) &&& 31).toUInt32).toInt32) = (1 : Int32))).2 ?_
          refine XS.bipush X0.here hx rfl (hb hby d1_31) ?_
          refine XS.iload X0.here hx rfl (hb hby d1_33) rfl ?_
          refine XS.bipush X0.here hx rfl (hb hby d1_35) ?_
          refine iremM X0 hx rfl (hb hby d1_37) rfl (by decide) ?_
          refine XS.iadd X0.here hx rfl (hb hby d1_38) rfl ?_
          show Steps p.tables e below (s₁.setTop (mkF m 39 #[.val (.long bt), .second, vI ((bt &&& (1023 : Int64)).toInt32), vI ((((bt &&& (1023 : Int64)).toInt32).toUInt32 >>> ((8 : Int32) &&& 31).toUInt32).toInt32), vI (((bt &&& (1023 : Int64)).toInt32) &&& (255 : Int32))] [(.int ((48 : Int32) + ((((bt &&& (1023 : Int64)).toInt32) &&& (255 : Int32)) % (10 : Int32))))])) _
          refine XS.i2c X0.here hx rfl (hb hby d1_39) rfl ?_
          rw [(own_nar ((48 : Int32) + ((((bt &&& (1023 : Int64)).toInt32) &&& (255 : Int32)) % (10 : Int32))) (own_ch ((bt &&& (1023 : Int64)).toInt32) 10 48 10 48 (by decide) (by decide) (by decide) (by decide) (by decide))).2]
          exact h)
      obtain ⟨fs, hr, hrun, hended, hW, hsame⟩ := X0.leave (v := (some (.int (nar .char ((48 : Int32) + ((((bt &&& (1023 : Int64)).toInt32) &&& (255 : Int32)) % (10 : Int32))))))) (fun h => by rw [Bd.returns] at h; cases h)
      refine ⟨_, _, ?_, hrun, hended, _, _, rfl, ?_, ⟨_, rfl⟩, hW, hsame.mono (by decide) (by decide)⟩
      · rw [← hS0]
        refine k55 _ ?_
        show Steps p.tables e below (s₁.setTop (mkF m 40 #[.val (.long bt), .second, vI ((bt &&& (1023 : Int64)).toInt32), vI ((((bt &&& (1023 : Int64)).toInt32).toUInt32 >>> ((8 : Int32) &&& 31).toUInt32).toInt32), vI (((bt &&& (1023 : Int64)).toInt32) &&& (255 : Int32))] [(.int ((48 : Int32) + ((((bt &&& (1023 : Int64)).toInt32) &&& (255 : Int32)) % (10 : Int32))))])) _
        exact retN X0 hx (t := .char) Bd.returns (by simp) (hb hby d1_40) hr
      · show Q_rmCh Z  h0 n0 _ s₁.heap _
        rw [e0]
        exact ⟨_, rfl, N0, rfl, own_chb _ (own_ch ((bt &&& (1023 : Int64)).toInt32) 10 48 10 48 (by decide) (by decide) (by decide) (by decide) (by decide))⟩
    · by_cases g2 : ((((bt &&& (1023 : Int64)).toInt32).toUInt32 >>> ((8 : Int32) &&& 31).toUInt32).toInt32) = 2
      · have k56 : Rch p e below S0 s₁ (mkF m 55 #[.val (.long bt), .second, vI ((bt &&& (1023 : Int64)).toInt32), vI ((((bt &&& (1023 : Int64)).toInt32).toUInt32 >>> ((8 : Int32) &&& 31).toUInt32).toInt32), vI (((bt &&& (1023 : Int64)).toInt32) &&& (255 : Int32))] [(.int ((97 : Int32) + ((((bt &&& (1023 : Int64)).toInt32) &&& (255 : Int32)) % (6 : Int32))))]) := fun t h => k0 t (by
            show Steps p.tables e below (s₁.setTop (mkF m 0 #[.val (.long bt), .second, vU, vU, vU] [])) _
            refine XS.lloadN X0.here hx rfl (hb hby d1_0) rfl ?_
            refine X0.ldc2Long hx hown (mvT hZ (hw _ (gm 5 rfl))) (g := (mkF m 1 #[.val (.long bt), .second, vU, vU, vU] [(.long bt)])) rfl (hb hby d1_1) _ ?_
            refine XS.land X0.here hx rfl (hb hby d1_4) rfl ?_
            refine XS.l2i X0.here hx rfl (hb hby d1_5) rfl ?_
            refine XS.istoreN X0.here hx rfl (hb hby d1_6) rfl (l' := #[.val (.long bt), .second, vI ((bt &&& (1023 : Int64)).toInt32), vU, vU]) rfl ?_
            refine XS.iloadN X0.here hx rfl (hb hby d1_7) rfl ?_
            refine XS.bipush X0.here hx rfl (hb hby d1_8) ?_
            refine XS.iushr X0.here hx rfl (hb hby d1_10) rfl ?_
            refine XS.istoreN X0.here hx rfl (hb hby d1_11) rfl (l' := #[.val (.long bt), .second, vI ((bt &&& (1023 : Int64)).toInt32), vI ((((bt &&& (1023 : Int64)).toInt32).toUInt32 >>> ((8 : Int32) &&& 31).toUInt32).toInt32), vU]) rfl ?_
            refine XS.iloadN X0.here hx rfl (hb hby d1_12) rfl ?_
            refine XS.sipush X0.here hx rfl (hb hby d1_13) ?_
            refine XS.iand X0.here hx rfl (hb hby d1_16) rfl ?_
            refine XS.istore X0.here hx rfl (hb hby d1_17) rfl (l' := #[.val (.long bt), .second, vI ((bt &&& (1023 : Int64)).toInt32), vI ((((bt &&& (1023 : Int64)).toInt32).toUInt32 >>> ((8 : Int32) &&& 31).toUInt32).toInt32), vI (((bt &&& (1023 : Int64)).toInt32) &&& (255 : Int32))]) rfl ?_
            refine XS.iloadN X0.here hx rfl (hb hby d1_19) rfl ?_
            refine XS.ifYes X0.here hx rfl (pc0 := 20) (pc' := 26) rfl (hb hby d1_20) rfl ((if0 _ _).trans (feq (g0 : ¬ (((((bt &&& (1023 : Int64)).toInt32).toUInt32 >>> ((8 : Int32) &&& 31).toUInt32).toInt32) = (0 : Int32)))).2) (by decide) (by decide) ?_
            refine XS.iloadN X0.here hx rfl (hb hby d1_26) rfl ?_
            refine XS.iconst X0.here hx rfl (hb hby d1_27) ?_
            refine XS.icmpYes X0.here hx rfl (pc0 := 28) (pc' := 41) rfl (hb hby d1_28) rfl (feq (g1 : ¬ (((((bt &&& (1023 : Int64)).toInt32).toUInt32 >>> ((8 : Int32) &&& 31).toUInt32).toInt32) = (1 : Int32)))).2 (by decide) (by decide) ?_
            refine XS.iloadN X0.here hx rfl (hb hby d1_41) rfl ?_
            refine XS.iconst X0.here hx rfl (hb hby d1_42) ?_
            refine XS.icmpNo X0.here hx rfl (hb hby d1_43) rfl (teq (g2 : ((((bt &&& (1023 : Int64)).toInt32).toUInt32 >>> ((8 : Int32) &&& 31).toUInt32).toInt32) = (2 : Int32))).2 ?_
            refine XS.bipush X0.here hx rfl (hb hby d1_46) ?_
            refine XS.iload X0.here hx rfl (hb hby d1_48) rfl ?_
            refine XS.bipush X0.here hx rfl (hb hby d1_50) ?_
            refine iremM X0 hx rfl (hb hby d1_52) rfl (by decide) ?_
            refine XS.iadd X0.here hx rfl (hb hby d1_53) rfl ?_
            show Steps p.tables e below (s₁.setTop (mkF m 54 #[.val (.long bt), .second, vI ((bt &&& (1023 : Int64)).toInt32), vI ((((bt &&& (1023 : Int64)).toInt32).toUInt32 >>> ((8 : Int32) &&& 31).toUInt32).toInt32), vI (((bt &&& (1023 : Int64)).toInt32) &&& (255 : Int32))] [(.int ((97 : Int32) + ((((bt &&& (1023 : Int64)).toInt32) &&& (255 : Int32)) % (6 : Int32))))])) _
            refine XS.i2c X0.here hx rfl (hb hby d1_54) rfl ?_
            rw [(own_nar ((97 : Int32) + ((((bt &&& (1023 : Int64)).toInt32) &&& (255 : Int32)) % (6 : Int32))) (own_ch ((bt &&& (1023 : Int64)).toInt32) 6 97 6 97 (by decide) (by decide) (by decide) (by decide) (by decide))).2]
            exact h)
        obtain ⟨fs, hr, hrun, hended, hW, hsame⟩ := X0.leave (v := (some (.int (nar .char ((97 : Int32) + ((((bt &&& (1023 : Int64)).toInt32) &&& (255 : Int32)) % (6 : Int32))))))) (fun h => by rw [Bd.returns] at h; cases h)
        refine ⟨_, _, ?_, hrun, hended, _, _, rfl, ?_, ⟨_, rfl⟩, hW, hsame.mono (by decide) (by decide)⟩
        · rw [← hS0]
          refine k56 _ ?_
          show Steps p.tables e below (s₁.setTop (mkF m 55 #[.val (.long bt), .second, vI ((bt &&& (1023 : Int64)).toInt32), vI ((((bt &&& (1023 : Int64)).toInt32).toUInt32 >>> ((8 : Int32) &&& 31).toUInt32).toInt32), vI (((bt &&& (1023 : Int64)).toInt32) &&& (255 : Int32))] [(.int ((97 : Int32) + ((((bt &&& (1023 : Int64)).toInt32) &&& (255 : Int32)) % (6 : Int32))))])) _
          exact retN X0 hx (t := .char) Bd.returns (by simp) (hb hby d1_55) hr
        · show Q_rmCh Z  h0 n0 _ s₁.heap _
          rw [e0]
          exact ⟨_, rfl, N0, rfl, own_chb _ (own_ch ((bt &&& (1023 : Int64)).toInt32) 6 97 6 97 (by decide) (by decide) (by decide) (by decide) (by decide))⟩
      · have k57 : Rch p e below S0 s₁ (mkF m 59 #[.val (.long bt), .second, vI ((bt &&& (1023 : Int64)).toInt32), vI ((((bt &&& (1023 : Int64)).toInt32).toUInt32 >>> ((8 : Int32) &&& 31).toUInt32).toInt32), vI (((bt &&& (1023 : Int64)).toInt32) &&& (255 : Int32))] [(.int (((bt &&& (1023 : Int64)).toInt32) &&& (255 : Int32)))]) := fun t h => k0 t (by
            show Steps p.tables e below (s₁.setTop (mkF m 0 #[.val (.long bt), .second, vU, vU, vU] [])) _
            refine XS.lloadN X0.here hx rfl (hb hby d1_0) rfl ?_
            refine X0.ldc2Long hx hown (mvT hZ (hw _ (gm 5 rfl))) (g := (mkF m 1 #[.val (.long bt), .second, vU, vU, vU] [(.long bt)])) rfl (hb hby d1_1) _ ?_
            refine XS.land X0.here hx rfl (hb hby d1_4) rfl ?_
            refine XS.l2i X0.here hx rfl (hb hby d1_5) rfl ?_
            refine XS.istoreN X0.here hx rfl (hb hby d1_6) rfl (l' := #[.val (.long bt), .second, vI ((bt &&& (1023 : Int64)).toInt32), vU, vU]) rfl ?_
            refine XS.iloadN X0.here hx rfl (hb hby d1_7) rfl ?_
            refine XS.bipush X0.here hx rfl (hb hby d1_8) ?_
            refine XS.iushr X0.here hx rfl (hb hby d1_10) rfl ?_
            refine XS.istoreN X0.here hx rfl (hb hby d1_11) rfl (l' := #[.val (.long bt), .second, vI ((bt &&& (1023 : Int64)).toInt32), vI ((((bt &&& (1023 : Int64)).toInt32).toUInt32 >>> ((8 : Int32) &&& 31).toUInt32).toInt32), vU]) rfl ?_
            refine XS.iloadN X0.here hx rfl (hb hby d1_12) rfl ?_
            refine XS.sipush X0.here hx rfl (hb hby d1_13) ?_
            refine XS.iand X0.here hx rfl (hb hby d1_16) rfl ?_
            refine XS.istore X0.here hx rfl (hb hby d1_17) rfl (l' := #[.val (.long bt), .second, vI ((bt &&& (1023 : Int64)).toInt32), vI ((((bt &&& (1023 : Int64)).toInt32).toUInt32 >>> ((8 : Int32) &&& 31).toUInt32).toInt32), vI (((bt &&& (1023 : Int64)).toInt32) &&& (255 : Int32))]) rfl ?_
            refine XS.iloadN X0.here hx rfl (hb hby d1_19) rfl ?_
            refine XS.ifYes X0.here hx rfl (pc0 := 20) (pc' := 26) rfl (hb hby d1_20) rfl ((if0 _ _).trans (feq (g0 : ¬ (((((bt &&& (1023 : Int64)).toInt32).toUInt32 >>> ((8 : Int32) &&& 31).toUInt32).toInt32) = (0 : Int32)))).2) (by decide) (by decide) ?_
            refine XS.iloadN X0.here hx rfl (hb hby d1_26) rfl ?_
            refine XS.iconst X0.here hx rfl (hb hby d1_27) ?_
            refine XS.icmpYes X0.here hx rfl (pc0 := 28) (pc' := 41) rfl (hb hby d1_28) rfl (feq (g1 : ¬ (((((bt &&& (1023 : Int64)).toInt32).toUInt32 >>> ((8 : Int32) &&& 31).toUInt32).toInt32) = (1 : Int32)))).2 (by decide) (by decide) ?_
            refine XS.iloadN X0.here hx rfl (hb hby d1_41) rfl ?_
            refine XS.iconst X0.here hx rfl (hb hby d1_42) ?_
            refine XS.icmpYes X0.here hx rfl (pc0 := 43) (pc' := 56) rfl (hb hby d1_43) rfl (feq (g2 : ¬ (((((bt &&& (1023 : Int64)).toInt32).toUInt32 >>> ((8 : Int32) &&& 31).toUInt32).toInt32) = (2 : Int32)))).2 (by decide) (by decide) ?_
            refine XS.iload X0.here hx rfl (hb hby d1_56) rfl ?_
            show Steps p.tables e below (s₁.setTop (mkF m 58 #[.val (.long bt), .second, vI ((bt &&& (1023 : Int64)).toInt32), vI ((((bt &&& (1023 : Int64)).toInt32).toUInt32 >>> ((8 : Int32) &&& 31).toUInt32).toInt32), vI (((bt &&& (1023 : Int64)).toInt32) &&& (255 : Int32))] [(.int (((bt &&& (1023 : Int64)).toInt32) &&& (255 : Int32)))])) _
            refine XS.i2c X0.here hx rfl (hb hby d1_58) rfl ?_
            rw [(own_nar (((bt &&& (1023 : Int64)).toInt32) &&& (255 : Int32)) (own_255 ((bt &&& (1023 : Int64)).toInt32))).2]
            exact h)
        obtain ⟨fs, hr, hrun, hended, hW, hsame⟩ := X0.leave (v := (some (.int (nar .char (((bt &&& (1023 : Int64)).toInt32) &&& (255 : Int32)))))) (fun h => by rw [Bd.returns] at h; cases h)
        refine ⟨_, _, ?_, hrun, hended, _, _, rfl, ?_, ⟨_, rfl⟩, hW, hsame.mono (by decide) (by decide)⟩
        · rw [← hS0]
          refine k57 _ ?_
          show Steps p.tables e below (s₁.setTop (mkF m 59 #[.val (.long bt), .second, vI ((bt &&& (1023 : Int64)).toInt32), vI ((((bt &&& (1023 : Int64)).toInt32).toUInt32 >>> ((8 : Int32) &&& 31).toUInt32).toInt32), vI (((bt &&& (1023 : Int64)).toInt32) &&& (255 : Int32))] [(.int (((bt &&& (1023 : Int64)).toInt32) &&& (255 : Int32)))])) _
          exact retN X0 hx (t := .char) Bd.returns (by simp) (hb hby d1_59) hr
        · show Q_rmCh Z  h0 n0 _ s₁.heap _
          rw [e0]
          exact ⟨_, rfl, N0, rfl, own_chb _ (own_255 ((bt &&& (1023 : Int64)).toInt32))⟩
def Q_rmST (Z : State) (s0 : Int32) (ch : Int32) (h0 : Heap) (n0 : Nat) (v : Option Value) (h : Heap) (L : List Loc) : Prop := v = some (.int (own_stI s0 (kc ch))) ∧ Fr n0 L ∧ h = h0
theorem ef_15 (m : MethodId) (x0 : Int32) (x1 : Int32) : entryFrame m #[(.int x0), (.int x1)] 5 = mkF m 0 #[.val (.int x0), .val (.int x1), .unset, .unset, .unset] [] := by first | (simp [entryFrame, mkF, argsToLocals, Value.category]; done) | rfl
theorem d15_0 : decode method_4_code 0 = .ok (.iload_n 1, 1) := by decide +kernel
theorem d15_1 : decode method_4_code 1 = .ok (.bipush 48, 2) := by decide +kernel
theorem d15_3 : decode method_4_code 3 = .ok (.if_icmp .lt 13, 3) := by decide +kernel
theorem d15_16 : decode method_4_code 16 = .ok (.iconst 0, 1) := by decide +kernel
theorem d15_17 : decode method_4_code 17 = .ok (.istore_n 2, 1) := by decide +kernel
theorem d15_18 : decode method_4_code 18 = .ok (.iload_n 2, 1) := by decide +kernel
theorem d15_19 : decode method_4_code 19 = .ok (.ifCond .ne 15, 3) := by decide +kernel
theorem d15_22 : decode method_4_code 22 = .ok (.iload_n 1, 1) := by decide +kernel
theorem d15_23 : decode method_4_code 23 = .ok (.bipush 97, 2) := by decide +kernel
theorem d15_25 : decode method_4_code 25 = .ok (.if_icmp .lt 13, 3) := by decide +kernel
theorem d15_38 : decode method_4_code 38 = .ok (.iconst 0, 1) := by decide +kernel
theorem d15_39 : decode method_4_code 39 = .ok (.istore_n 3, 1) := by decide +kernel
theorem d15_40 : decode method_4_code 40 = .ok (.iload_n 1, 1) := by decide +kernel
theorem d15_41 : decode method_4_code 41 = .ok (.bipush 45, 2) := by decide +kernel
theorem d15_43 : decode method_4_code 43 = .ok (.if_icmp .ne 7, 3) := by decide +kernel
theorem d15_46 : decode method_4_code 46 = .ok (.iconst 1, 1) := by decide +kernel
theorem d15_47 : decode method_4_code 47 = .ok (.goto 4, 3) := by decide +kernel
theorem d15_51 : decode method_4_code 51 = .ok (.istore 4, 2) := by decide +kernel
theorem d15_53 : decode method_4_code 53 = .ok (.iload_n 0, 1) := by decide +kernel
theorem d15_54 : decode method_4_code 54 = .ok (.ifCond .ne 13, 3) := by decide +kernel
theorem d15_57 : decode method_4_code 57 = .ok (.iload_n 2, 1) := by decide +kernel
theorem d15_58 : decode method_4_code 58 = .ok (.ifCond .eq 7, 3) := by decide +kernel
theorem d15_65 : decode method_4_code 65 = .ok (.iconst 5, 1) := by decide +kernel
theorem d15_66 : decode method_4_code 66 = .ok (.ireturn, 1) := by decide +kernel
theorem d15_67 : decode method_4_code 67 = .ok (.iload_n 0, 1) := by decide +kernel
theorem d15_68 : decode method_4_code 68 = .ok (.iconst 1, 1) := by decide +kernel
theorem d15_69 : decode method_4_code 69 = .ok (.if_icmp .ne 22, 3) := by decide +kernel
theorem d15_72 : decode method_4_code 72 = .ok (.iload_n 2, 1) := by decide +kernel
theorem d15_73 : decode method_4_code 73 = .ok (.ifCond .eq 7, 3) := by decide +kernel
theorem d15_80 : decode method_4_code 80 = .ok (.iload 4, 2) := by decide +kernel
theorem d15_82 : decode method_4_code 82 = .ok (.ifCond .eq 7, 3) := by decide +kernel
theorem d15_85 : decode method_4_code 85 = .ok (.iconst 2, 1) := by decide +kernel
theorem d15_86 : decode method_4_code 86 = .ok (.goto 4, 3) := by decide +kernel
theorem d15_90 : decode method_4_code 90 = .ok (.ireturn, 1) := by decide +kernel
theorem d15_91 : decode method_4_code 91 = .ok (.iload_n 0, 1) := by decide +kernel
theorem d15_92 : decode method_4_code 92 = .ok (.iconst 2, 1) := by decide +kernel
theorem d15_93 : decode method_4_code 93 = .ok (.if_icmp .ne 13, 3) := by decide +kernel
theorem d15_96 : decode method_4_code 96 = .ok (.iload_n 3, 1) := by decide +kernel
theorem d15_97 : decode method_4_code 97 = .ok (.ifCond .eq 7, 3) := by decide +kernel
theorem d15_104 : decode method_4_code 104 = .ok (.iconst 5, 1) := by decide +kernel
theorem d15_105 : decode method_4_code 105 = .ok (.ireturn, 1) := by decide +kernel
theorem d15_106 : decode method_4_code 106 = .ok (.iload_n 0, 1) := by decide +kernel
theorem d15_107 : decode method_4_code 107 = .ok (.iconst 3, 1) := by decide +kernel
theorem d15_108 : decode method_4_code 108 = .ok (.if_icmp .ne 22, 3) := by decide +kernel
theorem d15_111 : decode method_4_code 111 = .ok (.iload_n 3, 1) := by decide +kernel
theorem d15_112 : decode method_4_code 112 = .ok (.ifCond .eq 7, 3) := by decide +kernel
theorem d15_119 : decode method_4_code 119 = .ok (.iload 4, 2) := by decide +kernel
theorem d15_121 : decode method_4_code 121 = .ok (.ifCond .eq 7, 3) := by decide +kernel
theorem d15_124 : decode method_4_code 124 = .ok (.iconst 4, 1) := by decide +kernel
theorem d15_125 : decode method_4_code 125 = .ok (.goto 4, 3) := by decide +kernel
theorem d15_129 : decode method_4_code 129 = .ok (.ireturn, 1) := by decide +kernel
theorem d15_130 : decode method_4_code 130 = .ok (.iload_n 0, 1) := by decide +kernel
theorem d15_131 : decode method_4_code 131 = .ok (.ireturn, 1) := by decide +kernel
theorem d15_6 : decode method_4_code 6 = .ok (.iload_n 1, 1) := by decide +kernel
theorem d15_7 : decode method_4_code 7 = .ok (.bipush 57, 2) := by decide +kernel
theorem d15_9 : decode method_4_code 9 = .ok (.if_icmp .gt 7, 3) := by decide +kernel
theorem d15_12 : decode method_4_code 12 = .ok (.iconst 1, 1) := by decide +kernel
theorem d15_13 : decode method_4_code 13 = .ok (.goto 4, 3) := by decide +kernel
theorem d15_34 : decode method_4_code 34 = .ok (.iconst 1, 1) := by decide +kernel
theorem d15_35 : decode method_4_code 35 = .ok (.goto 4, 3) := by decide +kernel
theorem d15_50 : decode method_4_code 50 = .ok (.iconst 0, 1) := by decide +kernel
theorem d15_61 : decode method_4_code 61 = .ok (.iconst 1, 1) := by decide +kernel
theorem d15_62 : decode method_4_code 62 = .ok (.goto 4, 3) := by decide +kernel
theorem d15_76 : decode method_4_code 76 = .ok (.iconst 1, 1) := by decide +kernel
theorem d15_77 : decode method_4_code 77 = .ok (.goto 13, 3) := by decide +kernel
theorem d15_100 : decode method_4_code 100 = .ok (.iconst 3, 1) := by decide +kernel
theorem d15_101 : decode method_4_code 101 = .ok (.goto 4, 3) := by decide +kernel
theorem d15_115 : decode method_4_code 115 = .ok (.iconst 3, 1) := by decide +kernel
theorem d15_116 : decode method_4_code 116 = .ok (.goto 13, 3) := by decide +kernel
theorem d15_28 : decode method_4_code 28 = .ok (.iload_n 1, 1) := by decide +kernel
theorem d15_29 : decode method_4_code 29 = .ok (.bipush 102, 2) := by decide +kernel
theorem d15_31 : decode method_4_code 31 = .ok (.if_icmp .gt 7, 3) := by decide +kernel
theorem d15_89 : decode method_4_code 89 = .ok (.iconst 5, 1) := by decide +kernel
theorem d15_128 : decode method_4_code 128 = .ok (.iconst 5, 1) := by decide +kernel
set_option maxRecDepth 65536 in
set_option maxHeartbeats 40000000 in
theorem rmST (l : Launch) (Z : State) (a0 : Array Value) (hw : ∀ d ∈ tables_1, d.before a0 Z = true) (ws : List Jvm.Cond) (s0 : Int32) (ch : Int32) (h0 : Heap) (n0 : Nat) (O0 : Old Z n0 h0) :
    MetFree l (⟨"com/example/nuthatch/nuthatch/EntryNameIsMemberPinLaw", "step", "(IC)I"⟩ : MethodName) (head1 (Jvm.Cond.code (⟨"com/example/nuthatch/nuthatch/EntryNameIsMemberPinLaw", "step", "(IC)I"⟩ : MethodName) method_4_code 5 (some .int) :: ws) ({ frames := 0, cells := 0, slots := 0, locals := 0 } : Room)) (fun a U => a = #[(.int s0), (.int ch)] ∧ Z.Warmed39 U.vm ∧ U.heap = h0) (fun _ _ _ _ _ => True) (fun _ U o U' => ∃ v L, o = .returned v ∧ Q_rmST Z s0 ch h0 n0 v U'.heap L ∧ FrameEnd U o U' L ({ frames := 0, cells := 0, slots := 0, locals := 0 } : Room).cells ({ frames := 0, cells := 0, slots := 0, locals := 0 } : Room).slots) := by
  refine MetFree.of_bodySF (plainFor_of_name pn_EntryNameIsMemberPinLaw) hisR ?_
  intro p e s m args below meth c s₁ Bd hml0 hP hK
  obtain ⟨rfl, hZ, hh⟩ := hP
  have hx := Bd.exec
  have hby := Bd.bytes
  have hml : c.maxLocals = 5 := hml0
  have hown : s.vm.findClass "com/example/nuthatch/nuthatch/EntryNameIsMemberPinLaw" = some m.cls := findClass_of_methodNamed Bd.named
  have hnm := (name_of_methodNamed Bd.named Bd.method).1
  have X0 : Stand p l e ({ frames := 0, cells := 0, slots := 0, locals := 0 } : Room) s m #[(.int s0), (.int ch)] below meth c s₁ [] 0 0 := Stand.of_body Bd
  have e0 : s₁.heap = h0 := by rw [← hh, Bd.state]; rfl
  have N0 := Fr.nil n0
  obtain ⟨S0, hS0⟩ : ∃ z, z = s₁.setTop (entryFrame m #[(.int s0), (.int ch)] 5) := ⟨_, rfl⟩
  have k0 : Rch p e below S0 s₁ (mkF m 0 #[vI s0, vI ch, vU, vU, vU] []) := fun t kq => hS0 ▸ castTop (ef_15 m s0 ch) kq
  rcases own_k4 ch with ⟨c1, c2, c3, ck⟩ | ⟨c1, c2, c3, ck⟩ | ⟨c1, c2, c3, c4, c5, ck⟩ | ⟨c1, c2, c3, ck⟩ | ⟨c1, c2, c3, c5, ck⟩ | ⟨c1, c2, c3, c4, c5, ck⟩
  · have k58 : Rch p e below S0 s₁ (mkF m 53 #[vI s0, vI ch, vI 0, vI 0, vI 1] []) := fun t h => k0 t (by
        show Steps p.tables e below (s₁.setTop (mkF m 0 #[vI s0, vI ch, vU, vU, vU] [])) _
        refine XS.iloadN X0.here hx rfl (hb hby d15_0) rfl ?_
        refine XS.bipush X0.here hx rfl (hb hby d15_1) ?_
        refine XS.icmpYes X0.here hx rfl (pc0 := 3) (pc' := 16) rfl (hb hby d15_3) rfl (tlt (c1 : ch < (48 : Int32))).1 (by decide) (by decide) ?_
        refine XS.iconst X0.here hx rfl (hb hby d15_16) ?_
        refine XS.istoreN X0.here hx rfl (hb hby d15_17) rfl (l' := #[vI s0, vI ch, vI 0, vU, vU]) rfl ?_
        refine XS.iloadN X0.here hx rfl (hb hby d15_18) rfl ?_
        refine XS.ifNo X0.here hx rfl (hb hby d15_19) rfl ((if0 _ _).trans (teq (by decide : (0 : Int32) = (0 : Int32))).2) ?_
        refine XS.iloadN X0.here hx rfl (hb hby d15_22) rfl ?_
        refine XS.bipush X0.here hx rfl (hb hby d15_23) ?_
        refine XS.icmpYes X0.here hx rfl (pc0 := 25) (pc' := 38) rfl (hb hby d15_25) rfl (tlt (c2 : ch < (97 : Int32))).1 (by decide) (by decide) ?_
        refine XS.iconst X0.here hx rfl (hb hby d15_38) ?_
        refine XS.istoreN X0.here hx rfl (hb hby d15_39) rfl (l' := #[vI s0, vI ch, vI 0, vI 0, vU]) rfl ?_
        refine XS.iloadN X0.here hx rfl (hb hby d15_40) rfl ?_
        refine XS.bipush X0.here hx rfl (hb hby d15_41) ?_
        refine XS.icmpNo X0.here hx rfl (hb hby d15_43) rfl (teq (c3 : ch = (45 : Int32))).2 ?_
        refine XS.iconst X0.here hx rfl (hb hby d15_46) ?_
        refine XS.goto X0.here hx rfl (pc0 := 47) (pc' := 51) rfl (hb hby d15_47) (by decide) (by decide) ?_
        refine XS.istore X0.here hx rfl (hb hby d15_51) rfl (l' := #[vI s0, vI ch, vI 0, vI 0, vI 1]) rfl ?_
        exact h)
    by_cases g0 : s0 = 0
    · have k59 : Rch p e below S0 s₁ (mkF m 66 #[vI s0, vI ch, vI 0, vI 0, vI 1] [(.int (5 : Int32))]) := fun t h => k58 t (by
          show Steps p.tables e below (s₁.setTop (mkF m 53 #[vI s0, vI ch, vI 0, vI 0, vI 1] [])) _
          refine XS.iloadN X0.here hx rfl (hb hby d15_53) rfl ?_
          refine XS.ifNo X0.here hx rfl (hb hby d15_54) rfl ((if0 _ _).trans (teq (g0 : s0 = (0 : Int32))).2) ?_
          refine XS.iloadN X0.here hx rfl (hb hby d15_57) rfl ?_
          refine XS.ifYes X0.here hx rfl (pc0 := 58) (pc' := 65) rfl (hb hby d15_58) rfl ((if0 _ _).trans (teq (by decide : (0 : Int32) = (0 : Int32))).1) (by decide) (by decide) ?_
          refine XS.iconst X0.here hx rfl (hb hby d15_65) ?_
          exact h)
      obtain ⟨fs, hr, hrun, hended, hW, hsame⟩ := X0.leave (v := (some (.int (5 : Int32)))) (fun h => by rw [Bd.returns] at h; cases h)
      refine ⟨_, _, ?_, hrun, hended, _, _, rfl, ?_, ⟨_, rfl⟩, hW, hsame.mono (by decide) (by decide)⟩
      · rw [← hS0]
        refine k59 _ ?_
        show Steps p.tables e below (s₁.setTop (mkF m 66 #[vI s0, vI ch, vI 0, vI 0, vI 1] [(.int (5 : Int32))])) _
        exact retI X0 hx Bd.returns (hb hby d15_66) hr
      · show Q_rmST Z s0 ch h0 n0 _ s₁.heap _
        rw [e0]
        exact ⟨by rw [g0, ck]; rfl, N0, rfl⟩
    · by_cases g1 : s0 = 1
      · have k60 : Rch p e below S0 s₁ (mkF m 90 #[vI s0, vI ch, vI 0, vI 0, vI 1] [(.int (2 : Int32))]) := fun t h => k58 t (by
            show Steps p.tables e below (s₁.setTop (mkF m 53 #[vI s0, vI ch, vI 0, vI 0, vI 1] [])) _
            refine XS.iloadN X0.here hx rfl (hb hby d15_53) rfl ?_
            refine XS.ifYes X0.here hx rfl (pc0 := 54) (pc' := 67) rfl (hb hby d15_54) rfl ((if0 _ _).trans (feq (g0 : ¬ (s0 = (0 : Int32)))).2) (by decide) (by decide) ?_
            refine XS.iloadN X0.here hx rfl (hb hby d15_67) rfl ?_
            refine XS.iconst X0.here hx rfl (hb hby d15_68) ?_
            refine XS.icmpNo X0.here hx rfl (hb hby d15_69) rfl (teq (g1 : s0 = (1 : Int32))).2 ?_
            refine XS.iloadN X0.here hx rfl (hb hby d15_72) rfl ?_
            refine XS.ifYes X0.here hx rfl (pc0 := 73) (pc' := 80) rfl (hb hby d15_73) rfl ((if0 _ _).trans (teq (by decide : (0 : Int32) = (0 : Int32))).1) (by decide) (by decide) ?_
            refine XS.iload X0.here hx rfl (hb hby d15_80) rfl ?_
            refine XS.ifNo X0.here hx rfl (hb hby d15_82) rfl ((if0 _ _).trans (feq (by decide : ¬ ((1 : Int32) = (0 : Int32)))).1) ?_
            refine XS.iconst X0.here hx rfl (hb hby d15_85) ?_
            refine XS.goto X0.here hx rfl (pc0 := 86) (pc' := 90) rfl (hb hby d15_86) (by decide) (by decide) ?_
            exact h)
        obtain ⟨fs, hr, hrun, hended, hW, hsame⟩ := X0.leave (v := (some (.int (2 : Int32)))) (fun h => by rw [Bd.returns] at h; cases h)
        refine ⟨_, _, ?_, hrun, hended, _, _, rfl, ?_, ⟨_, rfl⟩, hW, hsame.mono (by decide) (by decide)⟩
        · rw [← hS0]
          refine k60 _ ?_
          show Steps p.tables e below (s₁.setTop (mkF m 90 #[vI s0, vI ch, vI 0, vI 0, vI 1] [(.int (2 : Int32))])) _
          exact retI X0 hx Bd.returns (hb hby d15_90) hr
        · show Q_rmST Z s0 ch h0 n0 _ s₁.heap _
          rw [e0]
          exact ⟨by rw [g1, ck]; rfl, N0, rfl⟩
      · by_cases g2 : s0 = 2
        · have k61 : Rch p e below S0 s₁ (mkF m 105 #[vI s0, vI ch, vI 0, vI 0, vI 1] [(.int (5 : Int32))]) := fun t h => k58 t (by
              show Steps p.tables e below (s₁.setTop (mkF m 53 #[vI s0, vI ch, vI 0, vI 0, vI 1] [])) _
              refine XS.iloadN X0.here hx rfl (hb hby d15_53) rfl ?_
              refine XS.ifYes X0.here hx rfl (pc0 := 54) (pc' := 67) rfl (hb hby d15_54) rfl ((if0 _ _).trans (feq (g0 : ¬ (s0 = (0 : Int32)))).2) (by decide) (by decide) ?_
              refine XS.iloadN X0.here hx rfl (hb hby d15_67) rfl ?_
              refine XS.iconst X0.here hx rfl (hb hby d15_68) ?_
              refine XS.icmpYes X0.here hx rfl (pc0 := 69) (pc' := 91) rfl (hb hby d15_69) rfl (feq (g1 : ¬ (s0 = (1 : Int32)))).2 (by decide) (by decide) ?_
              refine XS.iloadN X0.here hx rfl (hb hby d15_91) rfl ?_
              refine XS.iconst X0.here hx rfl (hb hby d15_92) ?_
              refine XS.icmpNo X0.here hx rfl (hb hby d15_93) rfl (teq (g2 : s0 = (2 : Int32))).2 ?_
              refine XS.iloadN X0.here hx rfl (hb hby d15_96) rfl ?_
              refine XS.ifYes X0.here hx rfl (pc0 := 97) (pc' := 104) rfl (hb hby d15_97) rfl ((if0 _ _).trans (teq (by decide : (0 : Int32) = (0 : Int32))).1) (by decide) (by decide) ?_
              refine XS.iconst X0.here hx rfl (hb hby d15_104) ?_
              exact h)
          obtain ⟨fs, hr, hrun, hended, hW, hsame⟩ := X0.leave (v := (some (.int (5 : Int32)))) (fun h => by rw [Bd.returns] at h; cases h)
          refine ⟨_, _, ?_, hrun, hended, _, _, rfl, ?_, ⟨_, rfl⟩, hW, hsame.mono (by decide) (by decide)⟩
          · rw [← hS0]
            refine k61 _ ?_
            show Steps p.tables e below (s₁.setTop (mkF m 105 #[vI s0, vI ch, vI 0, vI 0, vI 1] [(.int (5 : Int32))])) _
            exact retI X0 hx Bd.returns (hb hby d15_105) hr
          · show Q_rmST Z s0 ch h0 n0 _ s₁.heap _
            rw [e0]
            exact ⟨by rw [g2, ck]; rfl, N0, rfl⟩
        · by_cases g3 : s0 = 3
          · have k62 : Rch p e below S0 s₁ (mkF m 129 #[vI s0, vI ch, vI 0, vI 0, vI 1] [(.int (4 : Int32))]) := fun t h => k58 t (by
                show Steps p.tables e below (s₁.setTop (mkF m 53 #[vI s0, vI ch, vI 0, vI 0, vI 1] [])) _
                refine XS.iloadN X0.here hx rfl (hb hby d15_53) rfl ?_
                refine XS.ifYes X0.here hx rfl (pc0 := 54) (pc' := 67) rfl (hb hby d15_54) rfl ((if0 _ _).trans (feq (g0 : ¬ (s0 = (0 : Int32)))).2) (by decide) (by decide) ?_
                refine XS.iloadN X0.here hx rfl (hb hby d15_67) rfl ?_
                refine XS.iconst X0.here hx rfl (hb hby d15_68) ?_
                refine XS.icmpYes X0.here hx rfl (pc0 := 69) (pc' := 91) rfl (hb hby d15_69) rfl (feq (g1 : ¬ (s0 = (1 : Int32)))).2 (by decide) (by decide) ?_
                refine XS.iloadN X0.here hx rfl (hb hby d15_91) rfl ?_
                refine XS.iconst X0.here hx rfl (hb hby d15_92) ?_
                refine XS.icmpYes X0.here hx rfl (pc0 := 93) (pc' := 106) rfl (hb hby d15_93) rfl (feq (g2 : ¬ (s0 = (2 : Int32)))).2 (by decide) (by decide) ?_
                refine XS.iloadN X0.here hx rfl (hb hby d15_106) rfl ?_
                refine XS.iconst X0.here hx rfl (hb hby d15_107) ?_
                refine XS.icmpNo X0.here hx rfl (hb hby d15_108) rfl (teq (g3 : s0 = (3 : Int32))).2 ?_
                refine XS.iloadN X0.here hx rfl (hb hby d15_111) rfl ?_
                refine XS.ifYes X0.here hx rfl (pc0 := 112) (pc' := 119) rfl (hb hby d15_112) rfl ((if0 _ _).trans (teq (by decide : (0 : Int32) = (0 : Int32))).1) (by decide) (by decide) ?_
                refine XS.iload X0.here hx rfl (hb hby d15_119) rfl ?_
                refine XS.ifNo X0.here hx rfl (hb hby d15_121) rfl ((if0 _ _).trans (feq (by decide : ¬ ((1 : Int32) = (0 : Int32)))).1) ?_
                refine XS.iconst X0.here hx rfl (hb hby d15_124) ?_
                refine XS.goto X0.here hx rfl (pc0 := 125) (pc' := 129) rfl (hb hby d15_125) (by decide) (by decide) ?_
                exact h)
            obtain ⟨fs, hr, hrun, hended, hW, hsame⟩ := X0.leave (v := (some (.int (4 : Int32)))) (fun h => by rw [Bd.returns] at h; cases h)
            refine ⟨_, _, ?_, hrun, hended, _, _, rfl, ?_, ⟨_, rfl⟩, hW, hsame.mono (by decide) (by decide)⟩
            · rw [← hS0]
              refine k62 _ ?_
              show Steps p.tables e below (s₁.setTop (mkF m 129 #[vI s0, vI ch, vI 0, vI 0, vI 1] [(.int (4 : Int32))])) _
              exact retI X0 hx Bd.returns (hb hby d15_129) hr
            · show Q_rmST Z s0 ch h0 n0 _ s₁.heap _
              rw [e0]
              exact ⟨by rw [g3, ck]; rfl, N0, rfl⟩
          · have k63 : Rch p e below S0 s₁ (mkF m 131 #[vI s0, vI ch, vI 0, vI 0, vI 1] [(.int s0)]) := fun t h => k58 t (by
                show Steps p.tables e below (s₁.setTop (mkF m 53 #[vI s0, vI ch, vI 0, vI 0, vI 1] [])) _
                refine XS.iloadN X0.here hx rfl (hb hby d15_53) rfl ?_
                refine XS.ifYes X0.here hx rfl (pc0 := 54) (pc' := 67) rfl (hb hby d15_54) rfl ((if0 _ _).trans (feq (g0 : ¬ (s0 = (0 : Int32)))).2) (by decide) (by decide) ?_
                refine XS.iloadN X0.here hx rfl (hb hby d15_67) rfl ?_
                refine XS.iconst X0.here hx rfl (hb hby d15_68) ?_
                refine XS.icmpYes X0.here hx rfl (pc0 := 69) (pc' := 91) rfl (hb hby d15_69) rfl (feq (g1 : ¬ (s0 = (1 : Int32)))).2 (by decide) (by decide) ?_
                refine XS.iloadN X0.here hx rfl (hb hby d15_91) rfl ?_
                refine XS.iconst X0.here hx rfl (hb hby d15_92) ?_
                refine XS.icmpYes X0.here hx rfl (pc0 := 93) (pc' := 106) rfl (hb hby d15_93) rfl (feq (g2 : ¬ (s0 = (2 : Int32)))).2 (by decide) (by decide) ?_
                refine XS.iloadN X0.here hx rfl (hb hby d15_106) rfl ?_
                refine XS.iconst X0.here hx rfl (hb hby d15_107) ?_
                refine XS.icmpYes X0.here hx rfl (pc0 := 108) (pc' := 130) rfl (hb hby d15_108) rfl (feq (g3 : ¬ (s0 = (3 : Int32)))).2 (by decide) (by decide) ?_
                refine XS.iloadN X0.here hx rfl (hb hby d15_130) rfl ?_
                exact h)
            obtain ⟨fs, hr, hrun, hended, hW, hsame⟩ := X0.leave (v := (some (.int s0))) (fun h => by rw [Bd.returns] at h; cases h)
            refine ⟨_, _, ?_, hrun, hended, _, _, rfl, ?_, ⟨_, rfl⟩, hW, hsame.mono (by decide) (by decide)⟩
            · rw [← hS0]
              refine k63 _ ?_
              show Steps p.tables e below (s₁.setTop (mkF m 131 #[vI s0, vI ch, vI 0, vI 0, vI 1] [(.int s0)])) _
              exact retI X0 hx Bd.returns (hb hby d15_131) hr
            · show Q_rmST Z s0 ch h0 n0 _ s₁.heap _
              rw [e0]
              exact ⟨by rw [show own_stI s0 (kc ch) = s0 from by simp [own_stI, g0, g1, g2, g3]], N0, rfl⟩
  · have k64 : Rch p e below S0 s₁ (mkF m 53 #[vI s0, vI ch, vI 1, vI 1, vI 0] []) := fun t h => k0 t (by
        show Steps p.tables e below (s₁.setTop (mkF m 0 #[vI s0, vI ch, vU, vU, vU] [])) _
        refine XS.iloadN X0.here hx rfl (hb hby d15_0) rfl ?_
        refine XS.bipush X0.here hx rfl (hb hby d15_1) ?_
        refine XS.icmpNo X0.here hx rfl (hb hby d15_3) rfl (flt (c1 : ¬ (ch < (48 : Int32)))).1 ?_
        refine XS.iloadN X0.here hx rfl (hb hby d15_6) rfl ?_
        refine XS.bipush X0.here hx rfl (hb hby d15_7) ?_
        refine XS.icmpNo X0.here hx rfl (hb hby d15_9) rfl (flt (c2 : ¬ ((57 : Int32) < ch))).2.2.1 ?_
        refine XS.iconst X0.here hx rfl (hb hby d15_12) ?_
        refine XS.goto X0.here hx rfl (pc0 := 13) (pc' := 17) rfl (hb hby d15_13) (by decide) (by decide) ?_
        refine XS.istoreN X0.here hx rfl (hb hby d15_17) rfl (l' := #[vI s0, vI ch, vI 1, vU, vU]) rfl ?_
        refine XS.iloadN X0.here hx rfl (hb hby d15_18) rfl ?_
        refine XS.ifYes X0.here hx rfl (pc0 := 19) (pc' := 34) rfl (hb hby d15_19) rfl ((if0 _ _).trans (feq (by decide : ¬ ((1 : Int32) = (0 : Int32)))).2) (by decide) (by decide) ?_
        refine XS.iconst X0.here hx rfl (hb hby d15_34) ?_
        refine XS.goto X0.here hx rfl (pc0 := 35) (pc' := 39) rfl (hb hby d15_35) (by decide) (by decide) ?_
        refine XS.istoreN X0.here hx rfl (hb hby d15_39) rfl (l' := #[vI s0, vI ch, vI 1, vI 1, vU]) rfl ?_
        refine XS.iloadN X0.here hx rfl (hb hby d15_40) rfl ?_
        refine XS.bipush X0.here hx rfl (hb hby d15_41) ?_
        refine XS.icmpYes X0.here hx rfl (pc0 := 43) (pc' := 50) rfl (hb hby d15_43) rfl (feq (c3 : ¬ (ch = (45 : Int32)))).2 (by decide) (by decide) ?_
        refine XS.iconst X0.here hx rfl (hb hby d15_50) ?_
        refine XS.istore X0.here hx rfl (hb hby d15_51) rfl (l' := #[vI s0, vI ch, vI 1, vI 1, vI 0]) rfl ?_
        exact h)
    by_cases g0 : s0 = 0
    · have k65 : Rch p e below S0 s₁ (mkF m 66 #[vI s0, vI ch, vI 1, vI 1, vI 0] [(.int (1 : Int32))]) := fun t h => k64 t (by
          show Steps p.tables e below (s₁.setTop (mkF m 53 #[vI s0, vI ch, vI 1, vI 1, vI 0] [])) _
          refine XS.iloadN X0.here hx rfl (hb hby d15_53) rfl ?_
          refine XS.ifNo X0.here hx rfl (hb hby d15_54) rfl ((if0 _ _).trans (teq (g0 : s0 = (0 : Int32))).2) ?_
          refine XS.iloadN X0.here hx rfl (hb hby d15_57) rfl ?_
          refine XS.ifNo X0.here hx rfl (hb hby d15_58) rfl ((if0 _ _).trans (feq (by decide : ¬ ((1 : Int32) = (0 : Int32)))).1) ?_
          refine XS.iconst X0.here hx rfl (hb hby d15_61) ?_
          refine XS.goto X0.here hx rfl (pc0 := 62) (pc' := 66) rfl (hb hby d15_62) (by decide) (by decide) ?_
          exact h)
      obtain ⟨fs, hr, hrun, hended, hW, hsame⟩ := X0.leave (v := (some (.int (1 : Int32)))) (fun h => by rw [Bd.returns] at h; cases h)
      refine ⟨_, _, ?_, hrun, hended, _, _, rfl, ?_, ⟨_, rfl⟩, hW, hsame.mono (by decide) (by decide)⟩
      · rw [← hS0]
        refine k65 _ ?_
        show Steps p.tables e below (s₁.setTop (mkF m 66 #[vI s0, vI ch, vI 1, vI 1, vI 0] [(.int (1 : Int32))])) _
        exact retI X0 hx Bd.returns (hb hby d15_66) hr
      · show Q_rmST Z s0 ch h0 n0 _ s₁.heap _
        rw [e0]
        exact ⟨by rw [g0, ck]; rfl, N0, rfl⟩
    · by_cases g1 : s0 = 1
      · have k66 : Rch p e below S0 s₁ (mkF m 90 #[vI s0, vI ch, vI 1, vI 1, vI 0] [(.int (1 : Int32))]) := fun t h => k64 t (by
            show Steps p.tables e below (s₁.setTop (mkF m 53 #[vI s0, vI ch, vI 1, vI 1, vI 0] [])) _
            refine XS.iloadN X0.here hx rfl (hb hby d15_53) rfl ?_
            refine XS.ifYes X0.here hx rfl (pc0 := 54) (pc' := 67) rfl (hb hby d15_54) rfl ((if0 _ _).trans (feq (g0 : ¬ (s0 = (0 : Int32)))).2) (by decide) (by decide) ?_
            refine XS.iloadN X0.here hx rfl (hb hby d15_67) rfl ?_
            refine XS.iconst X0.here hx rfl (hb hby d15_68) ?_
            refine XS.icmpNo X0.here hx rfl (hb hby d15_69) rfl (teq (g1 : s0 = (1 : Int32))).2 ?_
            refine XS.iloadN X0.here hx rfl (hb hby d15_72) rfl ?_
            refine XS.ifNo X0.here hx rfl (hb hby d15_73) rfl ((if0 _ _).trans (feq (by decide : ¬ ((1 : Int32) = (0 : Int32)))).1) ?_
            refine XS.iconst X0.here hx rfl (hb hby d15_76) ?_
            refine XS.goto X0.here hx rfl (pc0 := 77) (pc' := 90) rfl (hb hby d15_77) (by decide) (by decide) ?_
            exact h)
        obtain ⟨fs, hr, hrun, hended, hW, hsame⟩ := X0.leave (v := (some (.int (1 : Int32)))) (fun h => by rw [Bd.returns] at h; cases h)
        refine ⟨_, _, ?_, hrun, hended, _, _, rfl, ?_, ⟨_, rfl⟩, hW, hsame.mono (by decide) (by decide)⟩
        · rw [← hS0]
          refine k66 _ ?_
          show Steps p.tables e below (s₁.setTop (mkF m 90 #[vI s0, vI ch, vI 1, vI 1, vI 0] [(.int (1 : Int32))])) _
          exact retI X0 hx Bd.returns (hb hby d15_90) hr
        · show Q_rmST Z s0 ch h0 n0 _ s₁.heap _
          rw [e0]
          exact ⟨by rw [g1, ck]; rfl, N0, rfl⟩
      · by_cases g2 : s0 = 2
        · have k67 : Rch p e below S0 s₁ (mkF m 105 #[vI s0, vI ch, vI 1, vI 1, vI 0] [(.int (3 : Int32))]) := fun t h => k64 t (by
              show Steps p.tables e below (s₁.setTop (mkF m 53 #[vI s0, vI ch, vI 1, vI 1, vI 0] [])) _
              refine XS.iloadN X0.here hx rfl (hb hby d15_53) rfl ?_
              refine XS.ifYes X0.here hx rfl (pc0 := 54) (pc' := 67) rfl (hb hby d15_54) rfl ((if0 _ _).trans (feq (g0 : ¬ (s0 = (0 : Int32)))).2) (by decide) (by decide) ?_
              refine XS.iloadN X0.here hx rfl (hb hby d15_67) rfl ?_
              refine XS.iconst X0.here hx rfl (hb hby d15_68) ?_
              refine XS.icmpYes X0.here hx rfl (pc0 := 69) (pc' := 91) rfl (hb hby d15_69) rfl (feq (g1 : ¬ (s0 = (1 : Int32)))).2 (by decide) (by decide) ?_
              refine XS.iloadN X0.here hx rfl (hb hby d15_91) rfl ?_
              refine XS.iconst X0.here hx rfl (hb hby d15_92) ?_
              refine XS.icmpNo X0.here hx rfl (hb hby d15_93) rfl (teq (g2 : s0 = (2 : Int32))).2 ?_
              refine XS.iloadN X0.here hx rfl (hb hby d15_96) rfl ?_
              refine XS.ifNo X0.here hx rfl (hb hby d15_97) rfl ((if0 _ _).trans (feq (by decide : ¬ ((1 : Int32) = (0 : Int32)))).1) ?_
              refine XS.iconst X0.here hx rfl (hb hby d15_100) ?_
              refine XS.goto X0.here hx rfl (pc0 := 101) (pc' := 105) rfl (hb hby d15_101) (by decide) (by decide) ?_
              exact h)
          obtain ⟨fs, hr, hrun, hended, hW, hsame⟩ := X0.leave (v := (some (.int (3 : Int32)))) (fun h => by rw [Bd.returns] at h; cases h)
          refine ⟨_, _, ?_, hrun, hended, _, _, rfl, ?_, ⟨_, rfl⟩, hW, hsame.mono (by decide) (by decide)⟩
          · rw [← hS0]
            refine k67 _ ?_
            show Steps p.tables e below (s₁.setTop (mkF m 105 #[vI s0, vI ch, vI 1, vI 1, vI 0] [(.int (3 : Int32))])) _
            exact retI X0 hx Bd.returns (hb hby d15_105) hr
          · show Q_rmST Z s0 ch h0 n0 _ s₁.heap _
            rw [e0]
            exact ⟨by rw [g2, ck]; rfl, N0, rfl⟩
        · by_cases g3 : s0 = 3
          · have k68 : Rch p e below S0 s₁ (mkF m 129 #[vI s0, vI ch, vI 1, vI 1, vI 0] [(.int (3 : Int32))]) := fun t h => k64 t (by
                show Steps p.tables e below (s₁.setTop (mkF m 53 #[vI s0, vI ch, vI 1, vI 1, vI 0] [])) _
                refine XS.iloadN X0.here hx rfl (hb hby d15_53) rfl ?_
                refine XS.ifYes X0.here hx rfl (pc0 := 54) (pc' := 67) rfl (hb hby d15_54) rfl ((if0 _ _).trans (feq (g0 : ¬ (s0 = (0 : Int32)))).2) (by decide) (by decide) ?_
                refine XS.iloadN X0.here hx rfl (hb hby d15_67) rfl ?_
                refine XS.iconst X0.here hx rfl (hb hby d15_68) ?_
                refine XS.icmpYes X0.here hx rfl (pc0 := 69) (pc' := 91) rfl (hb hby d15_69) rfl (feq (g1 : ¬ (s0 = (1 : Int32)))).2 (by decide) (by decide) ?_
                refine XS.iloadN X0.here hx rfl (hb hby d15_91) rfl ?_
                refine XS.iconst X0.here hx rfl (hb hby d15_92) ?_
                refine XS.icmpYes X0.here hx rfl (pc0 := 93) (pc' := 106) rfl (hb hby d15_93) rfl (feq (g2 : ¬ (s0 = (2 : Int32)))).2 (by decide) (by decide) ?_
                refine XS.iloadN X0.here hx rfl (hb hby d15_106) rfl ?_
                refine XS.iconst X0.here hx rfl (hb hby d15_107) ?_
                refine XS.icmpNo X0.here hx rfl (hb hby d15_108) rfl (teq (g3 : s0 = (3 : Int32))).2 ?_
                refine XS.iloadN X0.here hx rfl (hb hby d15_111) rfl ?_
                refine XS.ifNo X0.here hx rfl (hb hby d15_112) rfl ((if0 _ _).trans (feq (by decide : ¬ ((1 : Int32) = (0 : Int32)))).1) ?_
                refine XS.iconst X0.here hx rfl (hb hby d15_115) ?_
                refine XS.goto X0.here hx rfl (pc0 := 116) (pc' := 129) rfl (hb hby d15_116) (by decide) (by decide) ?_
                exact h)
            obtain ⟨fs, hr, hrun, hended, hW, hsame⟩ := X0.leave (v := (some (.int (3 : Int32)))) (fun h => by rw [Bd.returns] at h; cases h)
            refine ⟨_, _, ?_, hrun, hended, _, _, rfl, ?_, ⟨_, rfl⟩, hW, hsame.mono (by decide) (by decide)⟩
            · rw [← hS0]
              refine k68 _ ?_
              show Steps p.tables e below (s₁.setTop (mkF m 129 #[vI s0, vI ch, vI 1, vI 1, vI 0] [(.int (3 : Int32))])) _
              exact retI X0 hx Bd.returns (hb hby d15_129) hr
            · show Q_rmST Z s0 ch h0 n0 _ s₁.heap _
              rw [e0]
              exact ⟨by rw [g3, ck]; rfl, N0, rfl⟩
          · have k69 : Rch p e below S0 s₁ (mkF m 131 #[vI s0, vI ch, vI 1, vI 1, vI 0] [(.int s0)]) := fun t h => k64 t (by
                show Steps p.tables e below (s₁.setTop (mkF m 53 #[vI s0, vI ch, vI 1, vI 1, vI 0] [])) _
                refine XS.iloadN X0.here hx rfl (hb hby d15_53) rfl ?_
                refine XS.ifYes X0.here hx rfl (pc0 := 54) (pc' := 67) rfl (hb hby d15_54) rfl ((if0 _ _).trans (feq (g0 : ¬ (s0 = (0 : Int32)))).2) (by decide) (by decide) ?_
                refine XS.iloadN X0.here hx rfl (hb hby d15_67) rfl ?_
                refine XS.iconst X0.here hx rfl (hb hby d15_68) ?_
                refine XS.icmpYes X0.here hx rfl (pc0 := 69) (pc' := 91) rfl (hb hby d15_69) rfl (feq (g1 : ¬ (s0 = (1 : Int32)))).2 (by decide) (by decide) ?_
                refine XS.iloadN X0.here hx rfl (hb hby d15_91) rfl ?_
                refine XS.iconst X0.here hx rfl (hb hby d15_92) ?_
                refine XS.icmpYes X0.here hx rfl (pc0 := 93) (pc' := 106) rfl (hb hby d15_93) rfl (feq (g2 : ¬ (s0 = (2 : Int32)))).2 (by decide) (by decide) ?_
                refine XS.iloadN X0.here hx rfl (hb hby d15_106) rfl ?_
                refine XS.iconst X0.here hx rfl (hb hby d15_107) ?_
                refine XS.icmpYes X0.here hx rfl (pc0 := 108) (pc' := 130) rfl (hb hby d15_108) rfl (feq (g3 : ¬ (s0 = (3 : Int32)))).2 (by decide) (by decide) ?_
                refine XS.iloadN X0.here hx rfl (hb hby d15_130) rfl ?_
                exact h)
            obtain ⟨fs, hr, hrun, hended, hW, hsame⟩ := X0.leave (v := (some (.int s0))) (fun h => by rw [Bd.returns] at h; cases h)
            refine ⟨_, _, ?_, hrun, hended, _, _, rfl, ?_, ⟨_, rfl⟩, hW, hsame.mono (by decide) (by decide)⟩
            · rw [← hS0]
              refine k69 _ ?_
              show Steps p.tables e below (s₁.setTop (mkF m 131 #[vI s0, vI ch, vI 1, vI 1, vI 0] [(.int s0)])) _
              exact retI X0 hx Bd.returns (hb hby d15_131) hr
            · show Q_rmST Z s0 ch h0 n0 _ s₁.heap _
              rw [e0]
              exact ⟨by rw [show own_stI s0 (kc ch) = s0 from by simp [own_stI, g0, g1, g2, g3]], N0, rfl⟩
  · have k70 : Rch p e below S0 s₁ (mkF m 53 #[vI s0, vI ch, vI 0, vI 1, vI 0] []) := fun t h => k0 t (by
        show Steps p.tables e below (s₁.setTop (mkF m 0 #[vI s0, vI ch, vU, vU, vU] [])) _
        refine XS.iloadN X0.here hx rfl (hb hby d15_0) rfl ?_
        refine XS.bipush X0.here hx rfl (hb hby d15_1) ?_
        refine XS.icmpNo X0.here hx rfl (hb hby d15_3) rfl (flt (c1 : ¬ (ch < (48 : Int32)))).1 ?_
        refine XS.iloadN X0.here hx rfl (hb hby d15_6) rfl ?_
        refine XS.bipush X0.here hx rfl (hb hby d15_7) ?_
        refine XS.icmpYes X0.here hx rfl (pc0 := 9) (pc' := 16) rfl (hb hby d15_9) rfl (tlt (c2 : (57 : Int32) < ch)).2.2.1 (by decide) (by decide) ?_
        refine XS.iconst X0.here hx rfl (hb hby d15_16) ?_
        refine XS.istoreN X0.here hx rfl (hb hby d15_17) rfl (l' := #[vI s0, vI ch, vI 0, vU, vU]) rfl ?_
        refine XS.iloadN X0.here hx rfl (hb hby d15_18) rfl ?_
        refine XS.ifNo X0.here hx rfl (hb hby d15_19) rfl ((if0 _ _).trans (teq (by decide : (0 : Int32) = (0 : Int32))).2) ?_
        refine XS.iloadN X0.here hx rfl (hb hby d15_22) rfl ?_
        refine XS.bipush X0.here hx rfl (hb hby d15_23) ?_
        refine XS.icmpNo X0.here hx rfl (hb hby d15_25) rfl (flt (c3 : ¬ (ch < (97 : Int32)))).1 ?_
        refine XS.iloadN X0.here hx rfl (hb hby d15_28) rfl ?_
        refine XS.bipush X0.here hx rfl (hb hby d15_29) ?_
        refine XS.icmpNo X0.here hx rfl (hb hby d15_31) rfl (flt (c4 : ¬ ((102 : Int32) < ch))).2.2.1 ?_
        refine XS.iconst X0.here hx rfl (hb hby d15_34) ?_
        refine XS.goto X0.here hx rfl (pc0 := 35) (pc' := 39) rfl (hb hby d15_35) (by decide) (by decide) ?_
        refine XS.istoreN X0.here hx rfl (hb hby d15_39) rfl (l' := #[vI s0, vI ch, vI 0, vI 1, vU]) rfl ?_
        refine XS.iloadN X0.here hx rfl (hb hby d15_40) rfl ?_
        refine XS.bipush X0.here hx rfl (hb hby d15_41) ?_
        refine XS.icmpYes X0.here hx rfl (pc0 := 43) (pc' := 50) rfl (hb hby d15_43) rfl (feq (c5 : ¬ (ch = (45 : Int32)))).2 (by decide) (by decide) ?_
        refine XS.iconst X0.here hx rfl (hb hby d15_50) ?_
        refine XS.istore X0.here hx rfl (hb hby d15_51) rfl (l' := #[vI s0, vI ch, vI 0, vI 1, vI 0]) rfl ?_
        exact h)
    by_cases g0 : s0 = 0
    · have k71 : Rch p e below S0 s₁ (mkF m 66 #[vI s0, vI ch, vI 0, vI 1, vI 0] [(.int (5 : Int32))]) := fun t h => k70 t (by
          show Steps p.tables e below (s₁.setTop (mkF m 53 #[vI s0, vI ch, vI 0, vI 1, vI 0] [])) _
          refine XS.iloadN X0.here hx rfl (hb hby d15_53) rfl ?_
          refine XS.ifNo X0.here hx rfl (hb hby d15_54) rfl ((if0 _ _).trans (teq (g0 : s0 = (0 : Int32))).2) ?_
          refine XS.iloadN X0.here hx rfl (hb hby d15_57) rfl ?_
          refine XS.ifYes X0.here hx rfl (pc0 := 58) (pc' := 65) rfl (hb hby d15_58) rfl ((if0 _ _).trans (teq (by decide : (0 : Int32) = (0 : Int32))).1) (by decide) (by decide) ?_
          refine XS.iconst X0.here hx rfl (hb hby d15_65) ?_
          exact h)
      obtain ⟨fs, hr, hrun, hended, hW, hsame⟩ := X0.leave (v := (some (.int (5 : Int32)))) (fun h => by rw [Bd.returns] at h; cases h)
      refine ⟨_, _, ?_, hrun, hended, _, _, rfl, ?_, ⟨_, rfl⟩, hW, hsame.mono (by decide) (by decide)⟩
      · rw [← hS0]
        refine k71 _ ?_
        show Steps p.tables e below (s₁.setTop (mkF m 66 #[vI s0, vI ch, vI 0, vI 1, vI 0] [(.int (5 : Int32))])) _
        exact retI X0 hx Bd.returns (hb hby d15_66) hr
      · show Q_rmST Z s0 ch h0 n0 _ s₁.heap _
        rw [e0]
        exact ⟨by rw [g0, ck]; rfl, N0, rfl⟩
    · by_cases g1 : s0 = 1
      · have k72 : Rch p e below S0 s₁ (mkF m 90 #[vI s0, vI ch, vI 0, vI 1, vI 0] [(.int (5 : Int32))]) := fun t h => k70 t (by
            show Steps p.tables e below (s₁.setTop (mkF m 53 #[vI s0, vI ch, vI 0, vI 1, vI 0] [])) _
            refine XS.iloadN X0.here hx rfl (hb hby d15_53) rfl ?_
            refine XS.ifYes X0.here hx rfl (pc0 := 54) (pc' := 67) rfl (hb hby d15_54) rfl ((if0 _ _).trans (feq (g0 : ¬ (s0 = (0 : Int32)))).2) (by decide) (by decide) ?_
            refine XS.iloadN X0.here hx rfl (hb hby d15_67) rfl ?_
            refine XS.iconst X0.here hx rfl (hb hby d15_68) ?_
            refine XS.icmpNo X0.here hx rfl (hb hby d15_69) rfl (teq (g1 : s0 = (1 : Int32))).2 ?_
            refine XS.iloadN X0.here hx rfl (hb hby d15_72) rfl ?_
            refine XS.ifYes X0.here hx rfl (pc0 := 73) (pc' := 80) rfl (hb hby d15_73) rfl ((if0 _ _).trans (teq (by decide : (0 : Int32) = (0 : Int32))).1) (by decide) (by decide) ?_
            refine XS.iload X0.here hx rfl (hb hby d15_80) rfl ?_
            refine XS.ifYes X0.here hx rfl (pc0 := 82) (pc' := 89) rfl (hb hby d15_82) rfl ((if0 _ _).trans (teq (by decide : (0 : Int32) = (0 : Int32))).1) (by decide) (by decide) ?_
            refine XS.iconst X0.here hx rfl (hb hby d15_89) ?_
            exact h)
        obtain ⟨fs, hr, hrun, hended, hW, hsame⟩ := X0.leave (v := (some (.int (5 : Int32)))) (fun h => by rw [Bd.returns] at h; cases h)
        refine ⟨_, _, ?_, hrun, hended, _, _, rfl, ?_, ⟨_, rfl⟩, hW, hsame.mono (by decide) (by decide)⟩
        · rw [← hS0]
          refine k72 _ ?_
          show Steps p.tables e below (s₁.setTop (mkF m 90 #[vI s0, vI ch, vI 0, vI 1, vI 0] [(.int (5 : Int32))])) _
          exact retI X0 hx Bd.returns (hb hby d15_90) hr
        · show Q_rmST Z s0 ch h0 n0 _ s₁.heap _
          rw [e0]
          exact ⟨by rw [g1, ck]; rfl, N0, rfl⟩
      · by_cases g2 : s0 = 2
        · have k73 : Rch p e below S0 s₁ (mkF m 105 #[vI s0, vI ch, vI 0, vI 1, vI 0] [(.int (3 : Int32))]) := fun t h => k70 t (by
              show Steps p.tables e below (s₁.setTop (mkF m 53 #[vI s0, vI ch, vI 0, vI 1, vI 0] [])) _
              refine XS.iloadN X0.here hx rfl (hb hby d15_53) rfl ?_
              refine XS.ifYes X0.here hx rfl (pc0 := 54) (pc' := 67) rfl (hb hby d15_54) rfl ((if0 _ _).trans (feq (g0 : ¬ (s0 = (0 : Int32)))).2) (by decide) (by decide) ?_
              refine XS.iloadN X0.here hx rfl (hb hby d15_67) rfl ?_
              refine XS.iconst X0.here hx rfl (hb hby d15_68) ?_
              refine XS.icmpYes X0.here hx rfl (pc0 := 69) (pc' := 91) rfl (hb hby d15_69) rfl (feq (g1 : ¬ (s0 = (1 : Int32)))).2 (by decide) (by decide) ?_
              refine XS.iloadN X0.here hx rfl (hb hby d15_91) rfl ?_
              refine XS.iconst X0.here hx rfl (hb hby d15_92) ?_
              refine XS.icmpNo X0.here hx rfl (hb hby d15_93) rfl (teq (g2 : s0 = (2 : Int32))).2 ?_
              refine XS.iloadN X0.here hx rfl (hb hby d15_96) rfl ?_
              refine XS.ifNo X0.here hx rfl (hb hby d15_97) rfl ((if0 _ _).trans (feq (by decide : ¬ ((1 : Int32) = (0 : Int32)))).1) ?_
              refine XS.iconst X0.here hx rfl (hb hby d15_100) ?_
              refine XS.goto X0.here hx rfl (pc0 := 101) (pc' := 105) rfl (hb hby d15_101) (by decide) (by decide) ?_
              exact h)
          obtain ⟨fs, hr, hrun, hended, hW, hsame⟩ := X0.leave (v := (some (.int (3 : Int32)))) (fun h => by rw [Bd.returns] at h; cases h)
          refine ⟨_, _, ?_, hrun, hended, _, _, rfl, ?_, ⟨_, rfl⟩, hW, hsame.mono (by decide) (by decide)⟩
          · rw [← hS0]
            refine k73 _ ?_
            show Steps p.tables e below (s₁.setTop (mkF m 105 #[vI s0, vI ch, vI 0, vI 1, vI 0] [(.int (3 : Int32))])) _
            exact retI X0 hx Bd.returns (hb hby d15_105) hr
          · show Q_rmST Z s0 ch h0 n0 _ s₁.heap _
            rw [e0]
            exact ⟨by rw [g2, ck]; rfl, N0, rfl⟩
        · by_cases g3 : s0 = 3
          · have k74 : Rch p e below S0 s₁ (mkF m 129 #[vI s0, vI ch, vI 0, vI 1, vI 0] [(.int (3 : Int32))]) := fun t h => k70 t (by
                show Steps p.tables e below (s₁.setTop (mkF m 53 #[vI s0, vI ch, vI 0, vI 1, vI 0] [])) _
                refine XS.iloadN X0.here hx rfl (hb hby d15_53) rfl ?_
                refine XS.ifYes X0.here hx rfl (pc0 := 54) (pc' := 67) rfl (hb hby d15_54) rfl ((if0 _ _).trans (feq (g0 : ¬ (s0 = (0 : Int32)))).2) (by decide) (by decide) ?_
                refine XS.iloadN X0.here hx rfl (hb hby d15_67) rfl ?_
                refine XS.iconst X0.here hx rfl (hb hby d15_68) ?_
                refine XS.icmpYes X0.here hx rfl (pc0 := 69) (pc' := 91) rfl (hb hby d15_69) rfl (feq (g1 : ¬ (s0 = (1 : Int32)))).2 (by decide) (by decide) ?_
                refine XS.iloadN X0.here hx rfl (hb hby d15_91) rfl ?_
                refine XS.iconst X0.here hx rfl (hb hby d15_92) ?_
                refine XS.icmpYes X0.here hx rfl (pc0 := 93) (pc' := 106) rfl (hb hby d15_93) rfl (feq (g2 : ¬ (s0 = (2 : Int32)))).2 (by decide) (by decide) ?_
                refine XS.iloadN X0.here hx rfl (hb hby d15_106) rfl ?_
                refine XS.iconst X0.here hx rfl (hb hby d15_107) ?_
                refine XS.icmpNo X0.here hx rfl (hb hby d15_108) rfl (teq (g3 : s0 = (3 : Int32))).2 ?_
                refine XS.iloadN X0.here hx rfl (hb hby d15_111) rfl ?_
                refine XS.ifNo X0.here hx rfl (hb hby d15_112) rfl ((if0 _ _).trans (feq (by decide : ¬ ((1 : Int32) = (0 : Int32)))).1) ?_
                refine XS.iconst X0.here hx rfl (hb hby d15_115) ?_
                refine XS.goto X0.here hx rfl (pc0 := 116) (pc' := 129) rfl (hb hby d15_116) (by decide) (by decide) ?_
                exact h)
            obtain ⟨fs, hr, hrun, hended, hW, hsame⟩ := X0.leave (v := (some (.int (3 : Int32)))) (fun h => by rw [Bd.returns] at h; cases h)
            refine ⟨_, _, ?_, hrun, hended, _, _, rfl, ?_, ⟨_, rfl⟩, hW, hsame.mono (by decide) (by decide)⟩
            · rw [← hS0]
              refine k74 _ ?_
              show Steps p.tables e below (s₁.setTop (mkF m 129 #[vI s0, vI ch, vI 0, vI 1, vI 0] [(.int (3 : Int32))])) _
              exact retI X0 hx Bd.returns (hb hby d15_129) hr
            · show Q_rmST Z s0 ch h0 n0 _ s₁.heap _
              rw [e0]
              exact ⟨by rw [g3, ck]; rfl, N0, rfl⟩
          · have k75 : Rch p e below S0 s₁ (mkF m 131 #[vI s0, vI ch, vI 0, vI 1, vI 0] [(.int s0)]) := fun t h => k70 t (by
                show Steps p.tables e below (s₁.setTop (mkF m 53 #[vI s0, vI ch, vI 0, vI 1, vI 0] [])) _
                refine XS.iloadN X0.here hx rfl (hb hby d15_53) rfl ?_
                refine XS.ifYes X0.here hx rfl (pc0 := 54) (pc' := 67) rfl (hb hby d15_54) rfl ((if0 _ _).trans (feq (g0 : ¬ (s0 = (0 : Int32)))).2) (by decide) (by decide) ?_
                refine XS.iloadN X0.here hx rfl (hb hby d15_67) rfl ?_
                refine XS.iconst X0.here hx rfl (hb hby d15_68) ?_
                refine XS.icmpYes X0.here hx rfl (pc0 := 69) (pc' := 91) rfl (hb hby d15_69) rfl (feq (g1 : ¬ (s0 = (1 : Int32)))).2 (by decide) (by decide) ?_
                refine XS.iloadN X0.here hx rfl (hb hby d15_91) rfl ?_
                refine XS.iconst X0.here hx rfl (hb hby d15_92) ?_
                refine XS.icmpYes X0.here hx rfl (pc0 := 93) (pc' := 106) rfl (hb hby d15_93) rfl (feq (g2 : ¬ (s0 = (2 : Int32)))).2 (by decide) (by decide) ?_
                refine XS.iloadN X0.here hx rfl (hb hby d15_106) rfl ?_
                refine XS.iconst X0.here hx rfl (hb hby d15_107) ?_
                refine XS.icmpYes X0.here hx rfl (pc0 := 108) (pc' := 130) rfl (hb hby d15_108) rfl (feq (g3 : ¬ (s0 = (3 : Int32)))).2 (by decide) (by decide) ?_
                refine XS.iloadN X0.here hx rfl (hb hby d15_130) rfl ?_
                exact h)
            obtain ⟨fs, hr, hrun, hended, hW, hsame⟩ := X0.leave (v := (some (.int s0))) (fun h => by rw [Bd.returns] at h; cases h)
            refine ⟨_, _, ?_, hrun, hended, _, _, rfl, ?_, ⟨_, rfl⟩, hW, hsame.mono (by decide) (by decide)⟩
            · rw [← hS0]
              refine k75 _ ?_
              show Steps p.tables e below (s₁.setTop (mkF m 131 #[vI s0, vI ch, vI 0, vI 1, vI 0] [(.int s0)])) _
              exact retI X0 hx Bd.returns (hb hby d15_131) hr
            · show Q_rmST Z s0 ch h0 n0 _ s₁.heap _
              rw [e0]
              exact ⟨by rw [show own_stI s0 (kc ch) = s0 from by simp [own_stI, g0, g1, g2, g3]], N0, rfl⟩
  · have k76 : Rch p e below S0 s₁ (mkF m 53 #[vI s0, vI ch, vI 0, vI 0, vI 0] []) := fun t h => k0 t (by
        show Steps p.tables e below (s₁.setTop (mkF m 0 #[vI s0, vI ch, vU, vU, vU] [])) _
        refine XS.iloadN X0.here hx rfl (hb hby d15_0) rfl ?_
        refine XS.bipush X0.here hx rfl (hb hby d15_1) ?_
        refine XS.icmpYes X0.here hx rfl (pc0 := 3) (pc' := 16) rfl (hb hby d15_3) rfl (tlt (c1 : ch < (48 : Int32))).1 (by decide) (by decide) ?_
        refine XS.iconst X0.here hx rfl (hb hby d15_16) ?_
        refine XS.istoreN X0.here hx rfl (hb hby d15_17) rfl (l' := #[vI s0, vI ch, vI 0, vU, vU]) rfl ?_
        refine XS.iloadN X0.here hx rfl (hb hby d15_18) rfl ?_
        refine XS.ifNo X0.here hx rfl (hb hby d15_19) rfl ((if0 _ _).trans (teq (by decide : (0 : Int32) = (0 : Int32))).2) ?_
        refine XS.iloadN X0.here hx rfl (hb hby d15_22) rfl ?_
        refine XS.bipush X0.here hx rfl (hb hby d15_23) ?_
        refine XS.icmpYes X0.here hx rfl (pc0 := 25) (pc' := 38) rfl (hb hby d15_25) rfl (tlt (c2 : ch < (97 : Int32))).1 (by decide) (by decide) ?_
        refine XS.iconst X0.here hx rfl (hb hby d15_38) ?_
        refine XS.istoreN X0.here hx rfl (hb hby d15_39) rfl (l' := #[vI s0, vI ch, vI 0, vI 0, vU]) rfl ?_
        refine XS.iloadN X0.here hx rfl (hb hby d15_40) rfl ?_
        refine XS.bipush X0.here hx rfl (hb hby d15_41) ?_
        refine XS.icmpYes X0.here hx rfl (pc0 := 43) (pc' := 50) rfl (hb hby d15_43) rfl (feq (c3 : ¬ (ch = (45 : Int32)))).2 (by decide) (by decide) ?_
        refine XS.iconst X0.here hx rfl (hb hby d15_50) ?_
        refine XS.istore X0.here hx rfl (hb hby d15_51) rfl (l' := #[vI s0, vI ch, vI 0, vI 0, vI 0]) rfl ?_
        exact h)
    by_cases g0 : s0 = 0
    · have k77 : Rch p e below S0 s₁ (mkF m 66 #[vI s0, vI ch, vI 0, vI 0, vI 0] [(.int (5 : Int32))]) := fun t h => k76 t (by
          show Steps p.tables e below (s₁.setTop (mkF m 53 #[vI s0, vI ch, vI 0, vI 0, vI 0] [])) _
          refine XS.iloadN X0.here hx rfl (hb hby d15_53) rfl ?_
          refine XS.ifNo X0.here hx rfl (hb hby d15_54) rfl ((if0 _ _).trans (teq (g0 : s0 = (0 : Int32))).2) ?_
          refine XS.iloadN X0.here hx rfl (hb hby d15_57) rfl ?_
          refine XS.ifYes X0.here hx rfl (pc0 := 58) (pc' := 65) rfl (hb hby d15_58) rfl ((if0 _ _).trans (teq (by decide : (0 : Int32) = (0 : Int32))).1) (by decide) (by decide) ?_
          refine XS.iconst X0.here hx rfl (hb hby d15_65) ?_
          exact h)
      obtain ⟨fs, hr, hrun, hended, hW, hsame⟩ := X0.leave (v := (some (.int (5 : Int32)))) (fun h => by rw [Bd.returns] at h; cases h)
      refine ⟨_, _, ?_, hrun, hended, _, _, rfl, ?_, ⟨_, rfl⟩, hW, hsame.mono (by decide) (by decide)⟩
      · rw [← hS0]
        refine k77 _ ?_
        show Steps p.tables e below (s₁.setTop (mkF m 66 #[vI s0, vI ch, vI 0, vI 0, vI 0] [(.int (5 : Int32))])) _
        exact retI X0 hx Bd.returns (hb hby d15_66) hr
      · show Q_rmST Z s0 ch h0 n0 _ s₁.heap _
        rw [e0]
        exact ⟨by rw [g0, ck]; rfl, N0, rfl⟩
    · by_cases g1 : s0 = 1
      · have k78 : Rch p e below S0 s₁ (mkF m 90 #[vI s0, vI ch, vI 0, vI 0, vI 0] [(.int (5 : Int32))]) := fun t h => k76 t (by
            show Steps p.tables e below (s₁.setTop (mkF m 53 #[vI s0, vI ch, vI 0, vI 0, vI 0] [])) _
            refine XS.iloadN X0.here hx rfl (hb hby d15_53) rfl ?_
            refine XS.ifYes X0.here hx rfl (pc0 := 54) (pc' := 67) rfl (hb hby d15_54) rfl ((if0 _ _).trans (feq (g0 : ¬ (s0 = (0 : Int32)))).2) (by decide) (by decide) ?_
            refine XS.iloadN X0.here hx rfl (hb hby d15_67) rfl ?_
            refine XS.iconst X0.here hx rfl (hb hby d15_68) ?_
            refine XS.icmpNo X0.here hx rfl (hb hby d15_69) rfl (teq (g1 : s0 = (1 : Int32))).2 ?_
            refine XS.iloadN X0.here hx rfl (hb hby d15_72) rfl ?_
            refine XS.ifYes X0.here hx rfl (pc0 := 73) (pc' := 80) rfl (hb hby d15_73) rfl ((if0 _ _).trans (teq (by decide : (0 : Int32) = (0 : Int32))).1) (by decide) (by decide) ?_
            refine XS.iload X0.here hx rfl (hb hby d15_80) rfl ?_
            refine XS.ifYes X0.here hx rfl (pc0 := 82) (pc' := 89) rfl (hb hby d15_82) rfl ((if0 _ _).trans (teq (by decide : (0 : Int32) = (0 : Int32))).1) (by decide) (by decide) ?_
            refine XS.iconst X0.here hx rfl (hb hby d15_89) ?_
            exact h)
        obtain ⟨fs, hr, hrun, hended, hW, hsame⟩ := X0.leave (v := (some (.int (5 : Int32)))) (fun h => by rw [Bd.returns] at h; cases h)
        refine ⟨_, _, ?_, hrun, hended, _, _, rfl, ?_, ⟨_, rfl⟩, hW, hsame.mono (by decide) (by decide)⟩
        · rw [← hS0]
          refine k78 _ ?_
          show Steps p.tables e below (s₁.setTop (mkF m 90 #[vI s0, vI ch, vI 0, vI 0, vI 0] [(.int (5 : Int32))])) _
          exact retI X0 hx Bd.returns (hb hby d15_90) hr
        · show Q_rmST Z s0 ch h0 n0 _ s₁.heap _
          rw [e0]
          exact ⟨by rw [g1, ck]; rfl, N0, rfl⟩
      · by_cases g2 : s0 = 2
        · have k79 : Rch p e below S0 s₁ (mkF m 105 #[vI s0, vI ch, vI 0, vI 0, vI 0] [(.int (5 : Int32))]) := fun t h => k76 t (by
              show Steps p.tables e below (s₁.setTop (mkF m 53 #[vI s0, vI ch, vI 0, vI 0, vI 0] [])) _
              refine XS.iloadN X0.here hx rfl (hb hby d15_53) rfl ?_
              refine XS.ifYes X0.here hx rfl (pc0 := 54) (pc' := 67) rfl (hb hby d15_54) rfl ((if0 _ _).trans (feq (g0 : ¬ (s0 = (0 : Int32)))).2) (by decide) (by decide) ?_
              refine XS.iloadN X0.here hx rfl (hb hby d15_67) rfl ?_
              refine XS.iconst X0.here hx rfl (hb hby d15_68) ?_
              refine XS.icmpYes X0.here hx rfl (pc0 := 69) (pc' := 91) rfl (hb hby d15_69) rfl (feq (g1 : ¬ (s0 = (1 : Int32)))).2 (by decide) (by decide) ?_
              refine XS.iloadN X0.here hx rfl (hb hby d15_91) rfl ?_
              refine XS.iconst X0.here hx rfl (hb hby d15_92) ?_
              refine XS.icmpNo X0.here hx rfl (hb hby d15_93) rfl (teq (g2 : s0 = (2 : Int32))).2 ?_
              refine XS.iloadN X0.here hx rfl (hb hby d15_96) rfl ?_
              refine XS.ifYes X0.here hx rfl (pc0 := 97) (pc' := 104) rfl (hb hby d15_97) rfl ((if0 _ _).trans (teq (by decide : (0 : Int32) = (0 : Int32))).1) (by decide) (by decide) ?_
              refine XS.iconst X0.here hx rfl (hb hby d15_104) ?_
              exact h)
          obtain ⟨fs, hr, hrun, hended, hW, hsame⟩ := X0.leave (v := (some (.int (5 : Int32)))) (fun h => by rw [Bd.returns] at h; cases h)
          refine ⟨_, _, ?_, hrun, hended, _, _, rfl, ?_, ⟨_, rfl⟩, hW, hsame.mono (by decide) (by decide)⟩
          · rw [← hS0]
            refine k79 _ ?_
            show Steps p.tables e below (s₁.setTop (mkF m 105 #[vI s0, vI ch, vI 0, vI 0, vI 0] [(.int (5 : Int32))])) _
            exact retI X0 hx Bd.returns (hb hby d15_105) hr
          · show Q_rmST Z s0 ch h0 n0 _ s₁.heap _
            rw [e0]
            exact ⟨by rw [g2, ck]; rfl, N0, rfl⟩
        · by_cases g3 : s0 = 3
          · have k80 : Rch p e below S0 s₁ (mkF m 129 #[vI s0, vI ch, vI 0, vI 0, vI 0] [(.int (5 : Int32))]) := fun t h => k76 t (by
                show Steps p.tables e below (s₁.setTop (mkF m 53 #[vI s0, vI ch, vI 0, vI 0, vI 0] [])) _
                refine XS.iloadN X0.here hx rfl (hb hby d15_53) rfl ?_
                refine XS.ifYes X0.here hx rfl (pc0 := 54) (pc' := 67) rfl (hb hby d15_54) rfl ((if0 _ _).trans (feq (g0 : ¬ (s0 = (0 : Int32)))).2) (by decide) (by decide) ?_
                refine XS.iloadN X0.here hx rfl (hb hby d15_67) rfl ?_
                refine XS.iconst X0.here hx rfl (hb hby d15_68) ?_
                refine XS.icmpYes X0.here hx rfl (pc0 := 69) (pc' := 91) rfl (hb hby d15_69) rfl (feq (g1 : ¬ (s0 = (1 : Int32)))).2 (by decide) (by decide) ?_
                refine XS.iloadN X0.here hx rfl (hb hby d15_91) rfl ?_
                refine XS.iconst X0.here hx rfl (hb hby d15_92) ?_
                refine XS.icmpYes X0.here hx rfl (pc0 := 93) (pc' := 106) rfl (hb hby d15_93) rfl (feq (g2 : ¬ (s0 = (2 : Int32)))).2 (by decide) (by decide) ?_
                refine XS.iloadN X0.here hx rfl (hb hby d15_106) rfl ?_
                refine XS.iconst X0.here hx rfl (hb hby d15_107) ?_
                refine XS.icmpNo X0.here hx rfl (hb hby d15_108) rfl (teq (g3 : s0 = (3 : Int32))).2 ?_
                refine XS.iloadN X0.here hx rfl (hb hby d15_111) rfl ?_
                refine XS.ifYes X0.here hx rfl (pc0 := 112) (pc' := 119) rfl (hb hby d15_112) rfl ((if0 _ _).trans (teq (by decide : (0 : Int32) = (0 : Int32))).1) (by decide) (by decide) ?_
                refine XS.iload X0.here hx rfl (hb hby d15_119) rfl ?_
                refine XS.ifYes X0.here hx rfl (pc0 := 121) (pc' := 128) rfl (hb hby d15_121) rfl ((if0 _ _).trans (teq (by decide : (0 : Int32) = (0 : Int32))).1) (by decide) (by decide) ?_
                refine XS.iconst X0.here hx rfl (hb hby d15_128) ?_
                exact h)
            obtain ⟨fs, hr, hrun, hended, hW, hsame⟩ := X0.leave (v := (some (.int (5 : Int32)))) (fun h => by rw [Bd.returns] at h; cases h)
            refine ⟨_, _, ?_, hrun, hended, _, _, rfl, ?_, ⟨_, rfl⟩, hW, hsame.mono (by decide) (by decide)⟩
            · rw [← hS0]
              refine k80 _ ?_
              show Steps p.tables e below (s₁.setTop (mkF m 129 #[vI s0, vI ch, vI 0, vI 0, vI 0] [(.int (5 : Int32))])) _
              exact retI X0 hx Bd.returns (hb hby d15_129) hr
            · show Q_rmST Z s0 ch h0 n0 _ s₁.heap _
              rw [e0]
              exact ⟨by rw [g3, ck]; rfl, N0, rfl⟩
          · have k81 : Rch p e below S0 s₁ (mkF m 131 #[vI s0, vI ch, vI 0, vI 0, vI 0] [(.int s0)]) := fun t h => k76 t (by
                show Steps p.tables e below (s₁.setTop (mkF m 53 #[vI s0, vI ch, vI 0, vI 0, vI 0] [])) _
                refine XS.iloadN X0.here hx rfl (hb hby d15_53) rfl ?_
                refine XS.ifYes X0.here hx rfl (pc0 := 54) (pc' := 67) rfl (hb hby d15_54) rfl ((if0 _ _).trans (feq (g0 : ¬ (s0 = (0 : Int32)))).2) (by decide) (by decide) ?_
                refine XS.iloadN X0.here hx rfl (hb hby d15_67) rfl ?_
                refine XS.iconst X0.here hx rfl (hb hby d15_68) ?_
                refine XS.icmpYes X0.here hx rfl (pc0 := 69) (pc' := 91) rfl (hb hby d15_69) rfl (feq (g1 : ¬ (s0 = (1 : Int32)))).2 (by decide) (by decide) ?_
                refine XS.iloadN X0.here hx rfl (hb hby d15_91) rfl ?_
                refine XS.iconst X0.here hx rfl (hb hby d15_92) ?_
                refine XS.icmpYes X0.here hx rfl (pc0 := 93) (pc' := 106) rfl (hb hby d15_93) rfl (feq (g2 : ¬ (s0 = (2 : Int32)))).2 (by decide) (by decide) ?_
                refine XS.iloadN X0.here hx rfl (hb hby d15_106) rfl ?_
                refine XS.iconst X0.here hx rfl (hb hby d15_107) ?_
                refine XS.icmpYes X0.here hx rfl (pc0 := 108) (pc' := 130) rfl (hb hby d15_108) rfl (feq (g3 : ¬ (s0 = (3 : Int32)))).2 (by decide) (by decide) ?_
                refine XS.iloadN X0.here hx rfl (hb hby d15_130) rfl ?_
                exact h)
            obtain ⟨fs, hr, hrun, hended, hW, hsame⟩ := X0.leave (v := (some (.int s0))) (fun h => by rw [Bd.returns] at h; cases h)
            refine ⟨_, _, ?_, hrun, hended, _, _, rfl, ?_, ⟨_, rfl⟩, hW, hsame.mono (by decide) (by decide)⟩
            · rw [← hS0]
              refine k81 _ ?_
              show Steps p.tables e below (s₁.setTop (mkF m 131 #[vI s0, vI ch, vI 0, vI 0, vI 0] [(.int s0)])) _
              exact retI X0 hx Bd.returns (hb hby d15_131) hr
            · show Q_rmST Z s0 ch h0 n0 _ s₁.heap _
              rw [e0]
              exact ⟨by rw [show own_stI s0 (kc ch) = s0 from by simp [own_stI, g0, g1, g2, g3]], N0, rfl⟩
  · have k82 : Rch p e below S0 s₁ (mkF m 53 #[vI s0, vI ch, vI 0, vI 0, vI 0] []) := fun t h => k0 t (by
        show Steps p.tables e below (s₁.setTop (mkF m 0 #[vI s0, vI ch, vU, vU, vU] [])) _
        refine XS.iloadN X0.here hx rfl (hb hby d15_0) rfl ?_
        refine XS.bipush X0.here hx rfl (hb hby d15_1) ?_
        refine XS.icmpNo X0.here hx rfl (hb hby d15_3) rfl (flt (c1 : ¬ (ch < (48 : Int32)))).1 ?_
        refine XS.iloadN X0.here hx rfl (hb hby d15_6) rfl ?_
        refine XS.bipush X0.here hx rfl (hb hby d15_7) ?_
        refine XS.icmpYes X0.here hx rfl (pc0 := 9) (pc' := 16) rfl (hb hby d15_9) rfl (tlt (c2 : (57 : Int32) < ch)).2.2.1 (by decide) (by decide) ?_
        refine XS.iconst X0.here hx rfl (hb hby d15_16) ?_
        refine XS.istoreN X0.here hx rfl (hb hby d15_17) rfl (l' := #[vI s0, vI ch, vI 0, vU, vU]) rfl ?_
        refine XS.iloadN X0.here hx rfl (hb hby d15_18) rfl ?_
        refine XS.ifNo X0.here hx rfl (hb hby d15_19) rfl ((if0 _ _).trans (teq (by decide : (0 : Int32) = (0 : Int32))).2) ?_
        refine XS.iloadN X0.here hx rfl (hb hby d15_22) rfl ?_
        refine XS.bipush X0.here hx rfl (hb hby d15_23) ?_
        refine XS.icmpYes X0.here hx rfl (pc0 := 25) (pc' := 38) rfl (hb hby d15_25) rfl (tlt (c3 : ch < (97 : Int32))).1 (by decide) (by decide) ?_
        refine XS.iconst X0.here hx rfl (hb hby d15_38) ?_
        refine XS.istoreN X0.here hx rfl (hb hby d15_39) rfl (l' := #[vI s0, vI ch, vI 0, vI 0, vU]) rfl ?_
        refine XS.iloadN X0.here hx rfl (hb hby d15_40) rfl ?_
        refine XS.bipush X0.here hx rfl (hb hby d15_41) ?_
        refine XS.icmpYes X0.here hx rfl (pc0 := 43) (pc' := 50) rfl (hb hby d15_43) rfl (feq (c5 : ¬ (ch = (45 : Int32)))).2 (by decide) (by decide) ?_
        refine XS.iconst X0.here hx rfl (hb hby d15_50) ?_
        refine XS.istore X0.here hx rfl (hb hby d15_51) rfl (l' := #[vI s0, vI ch, vI 0, vI 0, vI 0]) rfl ?_
        exact h)
    by_cases g0 : s0 = 0
    · have k83 : Rch p e below S0 s₁ (mkF m 66 #[vI s0, vI ch, vI 0, vI 0, vI 0] [(.int (5 : Int32))]) := fun t h => k82 t (by
          show Steps p.tables e below (s₁.setTop (mkF m 53 #[vI s0, vI ch, vI 0, vI 0, vI 0] [])) _
          refine XS.iloadN X0.here hx rfl (hb hby d15_53) rfl ?_
          refine XS.ifNo X0.here hx rfl (hb hby d15_54) rfl ((if0 _ _).trans (teq (g0 : s0 = (0 : Int32))).2) ?_
          refine XS.iloadN X0.here hx rfl (hb hby d15_57) rfl ?_
          refine XS.ifYes X0.here hx rfl (pc0 := 58) (pc' := 65) rfl (hb hby d15_58) rfl ((if0 _ _).trans (teq (by decide : (0 : Int32) = (0 : Int32))).1) (by decide) (by decide) ?_
          refine XS.iconst X0.here hx rfl (hb hby d15_65) ?_
          exact h)
      obtain ⟨fs, hr, hrun, hended, hW, hsame⟩ := X0.leave (v := (some (.int (5 : Int32)))) (fun h => by rw [Bd.returns] at h; cases h)
      refine ⟨_, _, ?_, hrun, hended, _, _, rfl, ?_, ⟨_, rfl⟩, hW, hsame.mono (by decide) (by decide)⟩
      · rw [← hS0]
        refine k83 _ ?_
        show Steps p.tables e below (s₁.setTop (mkF m 66 #[vI s0, vI ch, vI 0, vI 0, vI 0] [(.int (5 : Int32))])) _
        exact retI X0 hx Bd.returns (hb hby d15_66) hr
      · show Q_rmST Z s0 ch h0 n0 _ s₁.heap _
        rw [e0]
        exact ⟨by rw [g0, ck]; rfl, N0, rfl⟩
    · by_cases g1 : s0 = 1
      · have k84 : Rch p e below S0 s₁ (mkF m 90 #[vI s0, vI ch, vI 0, vI 0, vI 0] [(.int (5 : Int32))]) := fun t h => k82 t (by
            show Steps p.tables e below (s₁.setTop (mkF m 53 #[vI s0, vI ch, vI 0, vI 0, vI 0] [])) _
            refine XS.iloadN X0.here hx rfl (hb hby d15_53) rfl ?_
            refine XS.ifYes X0.here hx rfl (pc0 := 54) (pc' := 67) rfl (hb hby d15_54) rfl ((if0 _ _).trans (feq (g0 : ¬ (s0 = (0 : Int32)))).2) (by decide) (by decide) ?_
            refine XS.iloadN X0.here hx rfl (hb hby d15_67) rfl ?_
            refine XS.iconst X0.here hx rfl (hb hby d15_68) ?_
            refine XS.icmpNo X0.here hx rfl (hb hby d15_69) rfl (teq (g1 : s0 = (1 : Int32))).2 ?_
            refine XS.iloadN X0.here hx rfl (hb hby d15_72) rfl ?_
            refine XS.ifYes X0.here hx rfl (pc0 := 73) (pc' := 80) rfl (hb hby d15_73) rfl ((if0 _ _).trans (teq (by decide : (0 : Int32) = (0 : Int32))).1) (by decide) (by decide) ?_
            refine XS.iload X0.here hx rfl (hb hby d15_80) rfl ?_
            refine XS.ifYes X0.here hx rfl (pc0 := 82) (pc' := 89) rfl (hb hby d15_82) rfl ((if0 _ _).trans (teq (by decide : (0 : Int32) = (0 : Int32))).1) (by decide) (by decide) ?_
            refine XS.iconst X0.here hx rfl (hb hby d15_89) ?_
            exact h)
        obtain ⟨fs, hr, hrun, hended, hW, hsame⟩ := X0.leave (v := (some (.int (5 : Int32)))) (fun h => by rw [Bd.returns] at h; cases h)
        refine ⟨_, _, ?_, hrun, hended, _, _, rfl, ?_, ⟨_, rfl⟩, hW, hsame.mono (by decide) (by decide)⟩
        · rw [← hS0]
          refine k84 _ ?_
          show Steps p.tables e below (s₁.setTop (mkF m 90 #[vI s0, vI ch, vI 0, vI 0, vI 0] [(.int (5 : Int32))])) _
          exact retI X0 hx Bd.returns (hb hby d15_90) hr
        · show Q_rmST Z s0 ch h0 n0 _ s₁.heap _
          rw [e0]
          exact ⟨by rw [g1, ck]; rfl, N0, rfl⟩
      · by_cases g2 : s0 = 2
        · have k85 : Rch p e below S0 s₁ (mkF m 105 #[vI s0, vI ch, vI 0, vI 0, vI 0] [(.int (5 : Int32))]) := fun t h => k82 t (by
              show Steps p.tables e below (s₁.setTop (mkF m 53 #[vI s0, vI ch, vI 0, vI 0, vI 0] [])) _
              refine XS.iloadN X0.here hx rfl (hb hby d15_53) rfl ?_
              refine XS.ifYes X0.here hx rfl (pc0 := 54) (pc' := 67) rfl (hb hby d15_54) rfl ((if0 _ _).trans (feq (g0 : ¬ (s0 = (0 : Int32)))).2) (by decide) (by decide) ?_
              refine XS.iloadN X0.here hx rfl (hb hby d15_67) rfl ?_
              refine XS.iconst X0.here hx rfl (hb hby d15_68) ?_
              refine XS.icmpYes X0.here hx rfl (pc0 := 69) (pc' := 91) rfl (hb hby d15_69) rfl (feq (g1 : ¬ (s0 = (1 : Int32)))).2 (by decide) (by decide) ?_
              refine XS.iloadN X0.here hx rfl (hb hby d15_91) rfl ?_
              refine XS.iconst X0.here hx rfl (hb hby d15_92) ?_
              refine XS.icmpNo X0.here hx rfl (hb hby d15_93) rfl (teq (g2 : s0 = (2 : Int32))).2 ?_
              refine XS.iloadN X0.here hx rfl (hb hby d15_96) rfl ?_
              refine XS.ifYes X0.here hx rfl (pc0 := 97) (pc' := 104) rfl (hb hby d15_97) rfl ((if0 _ _).trans (teq (by decide : (0 : Int32) = (0 : Int32))).1) (by decide) (by decide) ?_
              refine XS.iconst X0.here hx rfl (hb hby d15_104) ?_
              exact h)
          obtain ⟨fs, hr, hrun, hended, hW, hsame⟩ := X0.leave (v := (some (.int (5 : Int32)))) (fun h => by rw [Bd.returns] at h; cases h)
          refine ⟨_, _, ?_, hrun, hended, _, _, rfl, ?_, ⟨_, rfl⟩, hW, hsame.mono (by decide) (by decide)⟩
          · rw [← hS0]
            refine k85 _ ?_
            show Steps p.tables e below (s₁.setTop (mkF m 105 #[vI s0, vI ch, vI 0, vI 0, vI 0] [(.int (5 : Int32))])) _
            exact retI X0 hx Bd.returns (hb hby d15_105) hr
          · show Q_rmST Z s0 ch h0 n0 _ s₁.heap _
            rw [e0]
            exact ⟨by rw [g2, ck]; rfl, N0, rfl⟩
        · by_cases g3 : s0 = 3
          · have k86 : Rch p e below S0 s₁ (mkF m 129 #[vI s0, vI ch, vI 0, vI 0, vI 0] [(.int (5 : Int32))]) := fun t h => k82 t (by
                show Steps p.tables e below (s₁.setTop (mkF m 53 #[vI s0, vI ch, vI 0, vI 0, vI 0] [])) _
                refine XS.iloadN X0.here hx rfl (hb hby d15_53) rfl ?_
                refine XS.ifYes X0.here hx rfl (pc0 := 54) (pc' := 67) rfl (hb hby d15_54) rfl ((if0 _ _).trans (feq (g0 : ¬ (s0 = (0 : Int32)))).2) (by decide) (by decide) ?_
                refine XS.iloadN X0.here hx rfl (hb hby d15_67) rfl ?_
                refine XS.iconst X0.here hx rfl (hb hby d15_68) ?_
                refine XS.icmpYes X0.here hx rfl (pc0 := 69) (pc' := 91) rfl (hb hby d15_69) rfl (feq (g1 : ¬ (s0 = (1 : Int32)))).2 (by decide) (by decide) ?_
                refine XS.iloadN X0.here hx rfl (hb hby d15_91) rfl ?_
                refine XS.iconst X0.here hx rfl (hb hby d15_92) ?_
                refine XS.icmpYes X0.here hx rfl (pc0 := 93) (pc' := 106) rfl (hb hby d15_93) rfl (feq (g2 : ¬ (s0 = (2 : Int32)))).2 (by decide) (by decide) ?_
                refine XS.iloadN X0.here hx rfl (hb hby d15_106) rfl ?_
                refine XS.iconst X0.here hx rfl (hb hby d15_107) ?_
                refine XS.icmpNo X0.here hx rfl (hb hby d15_108) rfl (teq (g3 : s0 = (3 : Int32))).2 ?_
                refine XS.iloadN X0.here hx rfl (hb hby d15_111) rfl ?_
                refine XS.ifYes X0.here hx rfl (pc0 := 112) (pc' := 119) rfl (hb hby d15_112) rfl ((if0 _ _).trans (teq (by decide : (0 : Int32) = (0 : Int32))).1) (by decide) (by decide) ?_
                refine XS.iload X0.here hx rfl (hb hby d15_119) rfl ?_
                refine XS.ifYes X0.here hx rfl (pc0 := 121) (pc' := 128) rfl (hb hby d15_121) rfl ((if0 _ _).trans (teq (by decide : (0 : Int32) = (0 : Int32))).1) (by decide) (by decide) ?_
                refine XS.iconst X0.here hx rfl (hb hby d15_128) ?_
                exact h)
            obtain ⟨fs, hr, hrun, hended, hW, hsame⟩ := X0.leave (v := (some (.int (5 : Int32)))) (fun h => by rw [Bd.returns] at h; cases h)
            refine ⟨_, _, ?_, hrun, hended, _, _, rfl, ?_, ⟨_, rfl⟩, hW, hsame.mono (by decide) (by decide)⟩
            · rw [← hS0]
              refine k86 _ ?_
              show Steps p.tables e below (s₁.setTop (mkF m 129 #[vI s0, vI ch, vI 0, vI 0, vI 0] [(.int (5 : Int32))])) _
              exact retI X0 hx Bd.returns (hb hby d15_129) hr
            · show Q_rmST Z s0 ch h0 n0 _ s₁.heap _
              rw [e0]
              exact ⟨by rw [g3, ck]; rfl, N0, rfl⟩
          · have k87 : Rch p e below S0 s₁ (mkF m 131 #[vI s0, vI ch, vI 0, vI 0, vI 0] [(.int s0)]) := fun t h => k82 t (by
                show Steps p.tables e below (s₁.setTop (mkF m 53 #[vI s0, vI ch, vI 0, vI 0, vI 0] [])) _
                refine XS.iloadN X0.here hx rfl (hb hby d15_53) rfl ?_
                refine XS.ifYes X0.here hx rfl (pc0 := 54) (pc' := 67) rfl (hb hby d15_54) rfl ((if0 _ _).trans (feq (g0 : ¬ (s0 = (0 : Int32)))).2) (by decide) (by decide) ?_
                refine XS.iloadN X0.here hx rfl (hb hby d15_67) rfl ?_
                refine XS.iconst X0.here hx rfl (hb hby d15_68) ?_
                refine XS.icmpYes X0.here hx rfl (pc0 := 69) (pc' := 91) rfl (hb hby d15_69) rfl (feq (g1 : ¬ (s0 = (1 : Int32)))).2 (by decide) (by decide) ?_
                refine XS.iloadN X0.here hx rfl (hb hby d15_91) rfl ?_
                refine XS.iconst X0.here hx rfl (hb hby d15_92) ?_
                refine XS.icmpYes X0.here hx rfl (pc0 := 93) (pc' := 106) rfl (hb hby d15_93) rfl (feq (g2 : ¬ (s0 = (2 : Int32)))).2 (by decide) (by decide) ?_
                refine XS.iloadN X0.here hx rfl (hb hby d15_106) rfl ?_
                refine XS.iconst X0.here hx rfl (hb hby d15_107) ?_
                refine XS.icmpYes X0.here hx rfl (pc0 := 108) (pc' := 130) rfl (hb hby d15_108) rfl (feq (g3 : ¬ (s0 = (3 : Int32)))).2 (by decide) (by decide) ?_
                refine XS.iloadN X0.here hx rfl (hb hby d15_130) rfl ?_
                exact h)
            obtain ⟨fs, hr, hrun, hended, hW, hsame⟩ := X0.leave (v := (some (.int s0))) (fun h => by rw [Bd.returns] at h; cases h)
            refine ⟨_, _, ?_, hrun, hended, _, _, rfl, ?_, ⟨_, rfl⟩, hW, hsame.mono (by decide) (by decide)⟩
            · rw [← hS0]
              refine k87 _ ?_
              show Steps p.tables e below (s₁.setTop (mkF m 131 #[vI s0, vI ch, vI 0, vI 0, vI 0] [(.int s0)])) _
              exact retI X0 hx Bd.returns (hb hby d15_131) hr
            · show Q_rmST Z s0 ch h0 n0 _ s₁.heap _
              rw [e0]
              exact ⟨by rw [show own_stI s0 (kc ch) = s0 from by simp [own_stI, g0, g1, g2, g3]], N0, rfl⟩
  · have k88 : Rch p e below S0 s₁ (mkF m 53 #[vI s0, vI ch, vI 0, vI 0, vI 0] []) := fun t h => k0 t (by
        show Steps p.tables e below (s₁.setTop (mkF m 0 #[vI s0, vI ch, vU, vU, vU] [])) _
        refine XS.iloadN X0.here hx rfl (hb hby d15_0) rfl ?_
        refine XS.bipush X0.here hx rfl (hb hby d15_1) ?_
        refine XS.icmpNo X0.here hx rfl (hb hby d15_3) rfl (flt (c1 : ¬ (ch < (48 : Int32)))).1 ?_
        refine XS.iloadN X0.here hx rfl (hb hby d15_6) rfl ?_
        refine XS.bipush X0.here hx rfl (hb hby d15_7) ?_
        refine XS.icmpYes X0.here hx rfl (pc0 := 9) (pc' := 16) rfl (hb hby d15_9) rfl (tlt (c2 : (57 : Int32) < ch)).2.2.1 (by decide) (by decide) ?_
        refine XS.iconst X0.here hx rfl (hb hby d15_16) ?_
        refine XS.istoreN X0.here hx rfl (hb hby d15_17) rfl (l' := #[vI s0, vI ch, vI 0, vU, vU]) rfl ?_
        refine XS.iloadN X0.here hx rfl (hb hby d15_18) rfl ?_
        refine XS.ifNo X0.here hx rfl (hb hby d15_19) rfl ((if0 _ _).trans (teq (by decide : (0 : Int32) = (0 : Int32))).2) ?_
        refine XS.iloadN X0.here hx rfl (hb hby d15_22) rfl ?_
        refine XS.bipush X0.here hx rfl (hb hby d15_23) ?_
        refine XS.icmpNo X0.here hx rfl (hb hby d15_25) rfl (flt (c3 : ¬ (ch < (97 : Int32)))).1 ?_
        refine XS.iloadN X0.here hx rfl (hb hby d15_28) rfl ?_
        refine XS.bipush X0.here hx rfl (hb hby d15_29) ?_
        refine XS.icmpYes X0.here hx rfl (pc0 := 31) (pc' := 38) rfl (hb hby d15_31) rfl (tlt (c4 : (102 : Int32) < ch)).2.2.1 (by decide) (by decide) ?_
        refine XS.iconst X0.here hx rfl (hb hby d15_38) ?_
        refine XS.istoreN X0.here hx rfl (hb hby d15_39) rfl (l' := #[vI s0, vI ch, vI 0, vI 0, vU]) rfl ?_
        refine XS.iloadN X0.here hx rfl (hb hby d15_40) rfl ?_
        refine XS.bipush X0.here hx rfl (hb hby d15_41) ?_
        refine XS.icmpYes X0.here hx rfl (pc0 := 43) (pc' := 50) rfl (hb hby d15_43) rfl (feq (c5 : ¬ (ch = (45 : Int32)))).2 (by decide) (by decide) ?_
        refine XS.iconst X0.here hx rfl (hb hby d15_50) ?_
        refine XS.istore X0.here hx rfl (hb hby d15_51) rfl (l' := #[vI s0, vI ch, vI 0, vI 0, vI 0]) rfl ?_
        exact h)
    by_cases g0 : s0 = 0
    · have k89 : Rch p e below S0 s₁ (mkF m 66 #[vI s0, vI ch, vI 0, vI 0, vI 0] [(.int (5 : Int32))]) := fun t h => k88 t (by
          show Steps p.tables e below (s₁.setTop (mkF m 53 #[vI s0, vI ch, vI 0, vI 0, vI 0] [])) _
          refine XS.iloadN X0.here hx rfl (hb hby d15_53) rfl ?_
          refine XS.ifNo X0.here hx rfl (hb hby d15_54) rfl ((if0 _ _).trans (teq (g0 : s0 = (0 : Int32))).2) ?_
          refine XS.iloadN X0.here hx rfl (hb hby d15_57) rfl ?_
          refine XS.ifYes X0.here hx rfl (pc0 := 58) (pc' := 65) rfl (hb hby d15_58) rfl ((if0 _ _).trans (teq (by decide : (0 : Int32) = (0 : Int32))).1) (by decide) (by decide) ?_
          refine XS.iconst X0.here hx rfl (hb hby d15_65) ?_
          exact h)
      obtain ⟨fs, hr, hrun, hended, hW, hsame⟩ := X0.leave (v := (some (.int (5 : Int32)))) (fun h => by rw [Bd.returns] at h; cases h)
      refine ⟨_, _, ?_, hrun, hended, _, _, rfl, ?_, ⟨_, rfl⟩, hW, hsame.mono (by decide) (by decide)⟩
      · rw [← hS0]
        refine k89 _ ?_
        show Steps p.tables e below (s₁.setTop (mkF m 66 #[vI s0, vI ch, vI 0, vI 0, vI 0] [(.int (5 : Int32))])) _
        exact retI X0 hx Bd.returns (hb hby d15_66) hr
      · show Q_rmST Z s0 ch h0 n0 _ s₁.heap _
        rw [e0]
        exact ⟨by rw [g0, ck]; rfl, N0, rfl⟩
    · by_cases g1 : s0 = 1
      · have k90 : Rch p e below S0 s₁ (mkF m 90 #[vI s0, vI ch, vI 0, vI 0, vI 0] [(.int (5 : Int32))]) := fun t h => k88 t (by
            show Steps p.tables e below (s₁.setTop (mkF m 53 #[vI s0, vI ch, vI 0, vI 0, vI 0] [])) _
            refine XS.iloadN X0.here hx rfl (hb hby d15_53) rfl ?_
            refine XS.ifYes X0.here hx rfl (pc0 := 54) (pc' := 67) rfl (hb hby d15_54) rfl ((if0 _ _).trans (feq (g0 : ¬ (s0 = (0 : Int32)))).2) (by decide) (by decide) ?_
            refine XS.iloadN X0.here hx rfl (hb hby d15_67) rfl ?_
            refine XS.iconst X0.here hx rfl (hb hby d15_68) ?_
            refine XS.icmpNo X0.here hx rfl (hb hby d15_69) rfl (teq (g1 : s0 = (1 : Int32))).2 ?_
            refine XS.iloadN X0.here hx rfl (hb hby d15_72) rfl ?_
            refine XS.ifYes X0.here hx rfl (pc0 := 73) (pc' := 80) rfl (hb hby d15_73) rfl ((if0 _ _).trans (teq (by decide : (0 : Int32) = (0 : Int32))).1) (by decide) (by decide) ?_
            refine XS.iload X0.here hx rfl (hb hby d15_80) rfl ?_
            refine XS.ifYes X0.here hx rfl (pc0 := 82) (pc' := 89) rfl (hb hby d15_82) rfl ((if0 _ _).trans (teq (by decide : (0 : Int32) = (0 : Int32))).1) (by decide) (by decide) ?_
            refine XS.iconst X0.here hx rfl (hb hby d15_89) ?_
            exact h)
        obtain ⟨fs, hr, hrun, hended, hW, hsame⟩ := X0.leave (v := (some (.int (5 : Int32)))) (fun h => by rw [Bd.returns] at h; cases h)
        refine ⟨_, _, ?_, hrun, hended, _, _, rfl, ?_, ⟨_, rfl⟩, hW, hsame.mono (by decide) (by decide)⟩
        · rw [← hS0]
          refine k90 _ ?_
          show Steps p.tables e below (s₁.setTop (mkF m 90 #[vI s0, vI ch, vI 0, vI 0, vI 0] [(.int (5 : Int32))])) _
          exact retI X0 hx Bd.returns (hb hby d15_90) hr
        · show Q_rmST Z s0 ch h0 n0 _ s₁.heap _
          rw [e0]
          exact ⟨by rw [g1, ck]; rfl, N0, rfl⟩
      · by_cases g2 : s0 = 2
        · have k91 : Rch p e below S0 s₁ (mkF m 105 #[vI s0, vI ch, vI 0, vI 0, vI 0] [(.int (5 : Int32))]) := fun t h => k88 t (by
              show Steps p.tables e below (s₁.setTop (mkF m 53 #[vI s0, vI ch, vI 0, vI 0, vI 0] [])) _
              refine XS.iloadN X0.here hx rfl (hb hby d15_53) rfl ?_
              refine XS.ifYes X0.here hx rfl (pc0 := 54) (pc' := 67) rfl (hb hby d15_54) rfl ((if0 _ _).trans (feq (g0 : ¬ (s0 = (0 : Int32)))).2) (by decide) (by decide) ?_
              refine XS.iloadN X0.here hx rfl (hb hby d15_67) rfl ?_
              refine XS.iconst X0.here hx rfl (hb hby d15_68) ?_
              refine XS.icmpYes X0.here hx rfl (pc0 := 69) (pc' := 91) rfl (hb hby d15_69) rfl (feq (g1 : ¬ (s0 = (1 : Int32)))).2 (by decide) (by decide) ?_
              refine XS.iloadN X0.here hx rfl (hb hby d15_91) rfl ?_
              refine XS.iconst X0.here hx rfl (hb hby d15_92) ?_
              refine XS.icmpNo X0.here hx rfl (hb hby d15_93) rfl (teq (g2 : s0 = (2 : Int32))).2 ?_
              refine XS.iloadN X0.here hx rfl (hb hby d15_96) rfl ?_
              refine XS.ifYes X0.here hx rfl (pc0 := 97) (pc' := 104) rfl (hb hby d15_97) rfl ((if0 _ _).trans (teq (by decide : (0 : Int32) = (0 : Int32))).1) (by decide) (by decide) ?_
              refine XS.iconst X0.here hx rfl (hb hby d15_104) ?_
              exact h)
          obtain ⟨fs, hr, hrun, hended, hW, hsame⟩ := X0.leave (v := (some (.int (5 : Int32)))) (fun h => by rw [Bd.returns] at h; cases h)
          refine ⟨_, _, ?_, hrun, hended, _, _, rfl, ?_, ⟨_, rfl⟩, hW, hsame.mono (by decide) (by decide)⟩
          · rw [← hS0]
            refine k91 _ ?_
            show Steps p.tables e below (s₁.setTop (mkF m 105 #[vI s0, vI ch, vI 0, vI 0, vI 0] [(.int (5 : Int32))])) _
            exact retI X0 hx Bd.returns (hb hby d15_105) hr
          · show Q_rmST Z s0 ch h0 n0 _ s₁.heap _
            rw [e0]
            exact ⟨by rw [g2, ck]; rfl, N0, rfl⟩
        · by_cases g3 : s0 = 3
          · have k92 : Rch p e below S0 s₁ (mkF m 129 #[vI s0, vI ch, vI 0, vI 0, vI 0] [(.int (5 : Int32))]) := fun t h => k88 t (by
                show Steps p.tables e below (s₁.setTop (mkF m 53 #[vI s0, vI ch, vI 0, vI 0, vI 0] [])) _
                refine XS.iloadN X0.here hx rfl (hb hby d15_53) rfl ?_
                refine XS.ifYes X0.here hx rfl (pc0 := 54) (pc' := 67) rfl (hb hby d15_54) rfl ((if0 _ _).trans (feq (g0 : ¬ (s0 = (0 : Int32)))).2) (by decide) (by decide) ?_
                refine XS.iloadN X0.here hx rfl (hb hby d15_67) rfl ?_
                refine XS.iconst X0.here hx rfl (hb hby d15_68) ?_
                refine XS.icmpYes X0.here hx rfl (pc0 := 69) (pc' := 91) rfl (hb hby d15_69) rfl (feq (g1 : ¬ (s0 = (1 : Int32)))).2 (by decide) (by decide) ?_
                refine XS.iloadN X0.here hx rfl (hb hby d15_91) rfl ?_
                refine XS.iconst X0.here hx rfl (hb hby d15_92) ?_
                refine XS.icmpYes X0.here hx rfl (pc0 := 93) (pc' := 106) rfl (hb hby d15_93) rfl (feq (g2 : ¬ (s0 = (2 : Int32)))).2 (by decide) (by decide) ?_
                refine XS.iloadN X0.here hx rfl (hb hby d15_106) rfl ?_
                refine XS.iconst X0.here hx rfl (hb hby d15_107) ?_
                refine XS.icmpNo X0.here hx rfl (hb hby d15_108) rfl (teq (g3 : s0 = (3 : Int32))).2 ?_
                refine XS.iloadN X0.here hx rfl (hb hby d15_111) rfl ?_
                refine XS.ifYes X0.here hx rfl (pc0 := 112) (pc' := 119) rfl (hb hby d15_112) rfl ((if0 _ _).trans (teq (by decide : (0 : Int32) = (0 : Int32))).1) (by decide) (by decide) ?_
                refine XS.iload X0.here hx rfl (hb hby d15_119) rfl ?_
                refine XS.ifYes X0.here hx rfl (pc0 := 121) (pc' := 128) rfl (hb hby d15_121) rfl ((if0 _ _).trans (teq (by decide : (0 : Int32) = (0 : Int32))).1) (by decide) (by decide) ?_
                refine XS.iconst X0.here hx rfl (hb hby d15_128) ?_
                exact h)
            obtain ⟨fs, hr, hrun, hended, hW, hsame⟩ := X0.leave (v := (some (.int (5 : Int32)))) (fun h => by rw [Bd.returns] at h; cases h)
            refine ⟨_, _, ?_, hrun, hended, _, _, rfl, ?_, ⟨_, rfl⟩, hW, hsame.mono (by decide) (by decide)⟩
            · rw [← hS0]
              refine k92 _ ?_
              show Steps p.tables e below (s₁.setTop (mkF m 129 #[vI s0, vI ch, vI 0, vI 0, vI 0] [(.int (5 : Int32))])) _
              exact retI X0 hx Bd.returns (hb hby d15_129) hr
            · show Q_rmST Z s0 ch h0 n0 _ s₁.heap _
              rw [e0]
              exact ⟨by rw [g3, ck]; rfl, N0, rfl⟩
          · have k93 : Rch p e below S0 s₁ (mkF m 131 #[vI s0, vI ch, vI 0, vI 0, vI 0] [(.int s0)]) := fun t h => k88 t (by
                show Steps p.tables e below (s₁.setTop (mkF m 53 #[vI s0, vI ch, vI 0, vI 0, vI 0] [])) _
                refine XS.iloadN X0.here hx rfl (hb hby d15_53) rfl ?_
                refine XS.ifYes X0.here hx rfl (pc0 := 54) (pc' := 67) rfl (hb hby d15_54) rfl ((if0 _ _).trans (feq (g0 : ¬ (s0 = (0 : Int32)))).2) (by decide) (by decide) ?_
                refine XS.iloadN X0.here hx rfl (hb hby d15_67) rfl ?_
                refine XS.iconst X0.here hx rfl (hb hby d15_68) ?_
                refine XS.icmpYes X0.here hx rfl (pc0 := 69) (pc' := 91) rfl (hb hby d15_69) rfl (feq (g1 : ¬ (s0 = (1 : Int32)))).2 (by decide) (by decide) ?_
                refine XS.iloadN X0.here hx rfl (hb hby d15_91) rfl ?_
                refine XS.iconst X0.here hx rfl (hb hby d15_92) ?_
                refine XS.icmpYes X0.here hx rfl (pc0 := 93) (pc' := 106) rfl (hb hby d15_93) rfl (feq (g2 : ¬ (s0 = (2 : Int32)))).2 (by decide) (by decide) ?_
                refine XS.iloadN X0.here hx rfl (hb hby d15_106) rfl ?_
                refine XS.iconst X0.here hx rfl (hb hby d15_107) ?_
                refine XS.icmpYes X0.here hx rfl (pc0 := 108) (pc' := 130) rfl (hb hby d15_108) rfl (feq (g3 : ¬ (s0 = (3 : Int32)))).2 (by decide) (by decide) ?_
                refine XS.iloadN X0.here hx rfl (hb hby d15_130) rfl ?_
                exact h)
            obtain ⟨fs, hr, hrun, hended, hW, hsame⟩ := X0.leave (v := (some (.int s0))) (fun h => by rw [Bd.returns] at h; cases h)
            refine ⟨_, _, ?_, hrun, hended, _, _, rfl, ?_, ⟨_, rfl⟩, hW, hsame.mono (by decide) (by decide)⟩
            · rw [← hS0]
              refine k93 _ ?_
              show Steps p.tables e below (s₁.setTop (mkF m 131 #[vI s0, vI ch, vI 0, vI 0, vI 0] [(.int s0)])) _
              exact retI X0 hx Bd.returns (hb hby d15_131) hr
            · show Q_rmST Z s0 ch h0 n0 _ s₁.heap _
              rw [e0]
              exact ⟨by rw [show own_stI s0 (kc ch) = s0 from by simp [own_stI, g0, g1, g2, g3]], N0, rfl⟩
def Q_rmIL (Z : State)  (h0 : Heap) (n0 : Nat) (v : Option Value) (h : Heap) (L : List Loc) : Prop := v = some (.int (1 : Int32)) ∧ Fr n0 L ∧ h = h0
theorem ef_11 (m : MethodId) (x0 : Addr) : entryFrame m #[(.ref x0)] 1 = mkF m 0 #[.val (.ref x0)] [] := by first | (simp [entryFrame, mkF, argsToLocals, Value.category]; done) | rfl
theorem d11_0 : decode jdk_42_method_154_code 0 = .ok (.getstatic 38, 3) := by decide +kernel
theorem d11_3 : decode jdk_42_method_154_code 3 = .ok (.ifCond .eq 14, 3) := by decide +kernel
theorem d11_6 : decode jdk_42_method_154_code 6 = .ok (.aload_n 0, 1) := by decide +kernel
theorem d11_7 : decode jdk_42_method_154_code 7 = .ok (.getfield 15, 3) := by decide +kernel
theorem d11_10 : decode jdk_42_method_154_code 10 = .ok (.ifCond .ne 7, 3) := by decide +kernel
theorem d11_13 : decode jdk_42_method_154_code 13 = .ok (.iconst 1, 1) := by decide +kernel
theorem d11_14 : decode jdk_42_method_154_code 14 = .ok (.goto 4, 3) := by decide +kernel
theorem d11_18 : decode jdk_42_method_154_code 18 = .ok (.ireturn, 1) := by decide +kernel
set_option maxRecDepth 65536 in
set_option maxHeartbeats 40000000 in
theorem rmIL (l : Launch) (Z : State) (a0 : Array Value) (hw : ∀ d ∈ tables_1, d.before a0 Z = true) (ws : List Jvm.Cond) (a1 : Addr) (zC : Int32) (h0 : Heap) (n0 : Nat) (O0 : Old Z n0 h0) (SC : Sta Z Z.heap "java/lang/String" "COMPACT_STRINGS" "Z" (.int zC)) (hzC : ¬ zC = 0) (Fc : Fld Z h0 a1 "java/lang/String" "coder" "B" (.int (0 : Int32))) :
    MetFree l (⟨"java/lang/String", "isLatin1", "()Z"⟩ : MethodName) (head1 (Jvm.Cond.code (⟨"java/lang/String", "isLatin1", "()Z"⟩ : MethodName) jdk_42_method_154_code 1 (some .boolean) :: ws) ({ frames := 0, cells := 0, slots := 0, locals := 0 } : Room)) (fun a U => a = #[(.ref a1)] ∧ Z.Warmed39 U.vm ∧ U.heap = h0) (fun _ _ _ _ _ => True) (fun _ U o U' => ∃ v L, o = .returned v ∧ Q_rmIL Z  h0 n0 v U'.heap L ∧ FrameEnd U o U' L ({ frames := 0, cells := 0, slots := 0, locals := 0 } : Room).cells ({ frames := 0, cells := 0, slots := 0, locals := 0 } : Room).slots) := by
  refine MetFree.of_bodySF (plainFor_of_name pn_String) hisR ?_
  intro p e s m args below meth c s₁ Bd hml0 hP hK
  obtain ⟨rfl, hZ, hh⟩ := hP
  have hx := Bd.exec
  have hby := Bd.bytes
  have hml : c.maxLocals = 1 := hml0
  have hown : s.vm.findClass "java/lang/String" = some m.cls := findClass_of_methodNamed Bd.named
  have hnm := (name_of_methodNamed Bd.named Bd.method).1
  have X0 : Stand p l e ({ frames := 0, cells := 0, slots := 0, locals := 0 } : Room) s m #[(.ref a1)] below meth c s₁ [] 0 0 := Stand.of_body Bd
  have e0 : s₁.heap = h0 := by rw [← hh, Bd.state]; rfl
  have N0 := Fr.nil n0
  obtain ⟨S0, hS0⟩ : ∃ z, z = s₁.setTop (entryFrame m #[(.ref a1)] 1) := ⟨_, rfl⟩
  have k0 : Rch p e below S0 s₁ (mkF m 0 #[vR a1] []) := fun t kq => hS0 ▸ castTop (ef_11 m a1) kq
  obtain ⟨T94, X94, e94, st94⟩ := getS2 X0 hx hZ hown (host := "") (Or.inl (hw _ (gm 49 rfl))) Via.refl e0 (SC.ext O0.2) (g := (mkF m 0 #[vR a1] [])) rfl (hb hby d11_0)
  have k95 : Rch p e below S0 T94 (mkF m 3 #[vR a1] [(.int zC)]) := fun t h => k0 t (st94 t h)
  have k97 : Rch p e below S0 T94 (mkF m 7 #[vR a1] [(.ref a1)]) := fun t h => k95 t (by
      show Steps p.tables e below (T94.setTop (mkF m 3 #[vR a1] [(.int zC)])) _
      refine XS.ifNo X94.here hx rfl (hb hby d11_3) rfl ((if0 _ _).trans (feq (hzC : ¬ (zC = (0 : Int32)))).1) ?_
      refine XS.aloadN X94.here hx rfl (hb hby d11_6) rfl rfl ?_
      exact h)
  obtain ⟨T96, X96, e96, st96⟩ := getF X94 hx hZ hown (host := "") (Or.inl (hw _ (gm 26 rfl))) Via.refl e94 Fc (g := (mkF m 7 #[vR a1] [(.ref a1)])) rfl rfl (hb hby d11_7)
  have k98 : Rch p e below S0 T96 (mkF m 10 #[vR a1] [(.int (0 : Int32))]) := fun t h => k97 t (st96 t h)
  have k99 : Rch p e below S0 T96 (mkF m 18 #[vR a1] [(.int (1 : Int32))]) := fun t h => k98 t (by
      show Steps p.tables e below (T96.setTop (mkF m 10 #[vR a1] [(.int (0 : Int32))])) _
      refine XS.ifNo X96.here hx rfl (hb hby d11_10) rfl ((if0 _ _).trans (teq (by decide : (0 : Int32) = (0 : Int32))).2) ?_
      refine XS.iconst X96.here hx rfl (hb hby d11_13) ?_
      refine XS.goto X96.here hx rfl (pc0 := 14) (pc' := 18) rfl (hb hby d11_14) (by decide) (by decide) ?_
      exact h)
  obtain ⟨fs, hr, hrun, hended, hW, hsame⟩ := X96.leave (v := (some (.int (1 : Int32)))) (fun h => by rw [Bd.returns] at h; cases h)
  refine ⟨_, _, ?_, hrun, hended, _, _, rfl, ?_, ⟨_, rfl⟩, hW, hsame.mono (by decide) (by decide)⟩
  · rw [← hS0]
    refine k99 _ ?_
    show Steps p.tables e below (T96.setTop (mkF m 18 #[vR a1] [(.int (1 : Int32))])) _
    exact retN X96 hx (t := .boolean) Bd.returns (by simp) (hb hby d11_18) hr
  · show Q_rmIL Z  h0 n0 _ T96.heap _
    rw [e96]
    exact ⟨rfl, N0, rfl⟩
def Q_rmCE (Z : State)  (h0 : Heap) (n0 : Nat) (v : Option Value) (h : Heap) (L : List Loc) : Prop := v = some (.int (1 : Int32)) ∧ Fr n0 L ∧ h = h0
theorem ef_13 (m : MethodId) (x0 : Int32) : entryFrame m #[(.int x0)] 1 = mkF m 0 #[.val (.int x0)] [] := by first | (simp [entryFrame, mkF, argsToLocals, Value.category]; done) | rfl
theorem pn_StringLatin1 : plainName "java/lang/StringLatin1" = true := by first | (simp [plainName, overriddenIn]; done) | decide +kernel
theorem d13_0 : decode jdk_43_method_4_code 0 = .ok (.iload_n 0, 1) := by decide +kernel
theorem d13_1 : decode jdk_43_method_4_code 1 = .ok (.ifCond .lt 14, 3) := by decide +kernel
theorem d13_4 : decode jdk_43_method_4_code 4 = .ok (.iload_n 0, 1) := by decide +kernel
theorem d13_5 : decode jdk_43_method_4_code 5 = .ok (.sipush 255, 3) := by decide +kernel
theorem d13_8 : decode jdk_43_method_4_code 8 = .ok (.if_icmp .gt 7, 3) := by decide +kernel
theorem d13_11 : decode jdk_43_method_4_code 11 = .ok (.iconst 1, 1) := by decide +kernel
theorem d13_12 : decode jdk_43_method_4_code 12 = .ok (.goto 4, 3) := by decide +kernel
theorem d13_16 : decode jdk_43_method_4_code 16 = .ok (.ireturn, 1) := by decide +kernel
set_option maxRecDepth 65536 in
set_option maxHeartbeats 40000000 in
theorem rmCE (l : Launch) (Z : State) (a0 : Array Value) (hw : ∀ d ∈ tables_1, d.before a0 Z = true) (ws : List Jvm.Cond)  (h0 : Heap) (n0 : Nat) (O0 : Old Z n0 h0) :
    MetFree l (⟨"java/lang/StringLatin1", "canEncode", "(I)Z"⟩ : MethodName) (head1 (Jvm.Cond.code (⟨"java/lang/StringLatin1", "canEncode", "(I)Z"⟩ : MethodName) jdk_43_method_4_code 1 (some .boolean) :: ws) ({ frames := 0, cells := 0, slots := 0, locals := 0 } : Room)) (fun a U => a = #[(.int (45 : Int32))] ∧ Z.Warmed39 U.vm ∧ U.heap = h0) (fun _ _ _ _ _ => True) (fun _ U o U' => ∃ v L, o = .returned v ∧ Q_rmCE Z  h0 n0 v U'.heap L ∧ FrameEnd U o U' L ({ frames := 0, cells := 0, slots := 0, locals := 0 } : Room).cells ({ frames := 0, cells := 0, slots := 0, locals := 0 } : Room).slots) := by
  refine MetFree.of_bodySF (plainFor_of_name pn_StringLatin1) hisR ?_
  intro p e s m args below meth c s₁ Bd hml0 hP hK
  obtain ⟨rfl, hZ, hh⟩ := hP
  have hx := Bd.exec
  have hby := Bd.bytes
  have hml : c.maxLocals = 1 := hml0
  have hown : s.vm.findClass "java/lang/StringLatin1" = some m.cls := findClass_of_methodNamed Bd.named
  have hnm := (name_of_methodNamed Bd.named Bd.method).1
  have X0 : Stand p l e ({ frames := 0, cells := 0, slots := 0, locals := 0 } : Room) s m #[(.int (45 : Int32))] below meth c s₁ [] 0 0 := Stand.of_body Bd
  have e0 : s₁.heap = h0 := by rw [← hh, Bd.state]; rfl
  have N0 := Fr.nil n0
  obtain ⟨S0, hS0⟩ : ∃ z, z = s₁.setTop (entryFrame m #[(.int (45 : Int32))] 1) := ⟨_, rfl⟩
  have k0 : Rch p e below S0 s₁ (mkF m 0 #[vI 45] []) := fun t kq => hS0 ▸ castTop (ef_13 m (45 : Int32)) kq
  have k100 : Rch p e below S0 s₁ (mkF m 16 #[vI 45] [(.int (1 : Int32))]) := fun t h => k0 t (by
      show Steps p.tables e below (s₁.setTop (mkF m 0 #[vI 45] [])) _
      refine XS.iloadN X0.here hx rfl (hb hby d13_0) rfl ?_
      refine XS.ifNo X0.here hx rfl (hb hby d13_1) rfl ((if0 _ _).trans (flt (by decide : ¬ ((45 : Int32) < (0 : Int32)))).1) ?_
      refine XS.iloadN X0.here hx rfl (hb hby d13_4) rfl ?_
      refine XS.sipush X0.here hx rfl (hb hby d13_5) ?_
      refine XS.icmpNo X0.here hx rfl (hb hby d13_8) rfl (flt (by decide : ¬ ((255 : Int32) < (45 : Int32)))).2.2.1 ?_
      refine XS.iconst X0.here hx rfl (hb hby d13_11) ?_
      refine XS.goto X0.here hx rfl (pc0 := 12) (pc' := 16) rfl (hb hby d13_12) (by decide) (by decide) ?_
      exact h)
  obtain ⟨fs, hr, hrun, hended, hW, hsame⟩ := X0.leave (v := (some (.int (1 : Int32)))) (fun h => by rw [Bd.returns] at h; cases h)
  refine ⟨_, _, ?_, hrun, hended, _, _, rfl, ?_, ⟨_, rfl⟩, hW, hsame.mono (by decide) (by decide)⟩
  · rw [← hS0]
    refine k100 _ ?_
    show Steps p.tables e below (s₁.setTop (mkF m 16 #[vI 45] [(.int (1 : Int32))])) _
    exact retN X0 hx (t := .boolean) Bd.returns (by simp) (hb hby d13_16) hr
  · show Q_rmCE Z  h0 n0 _ s₁.heap _
    rw [e0]
    exact ⟨rfl, N0, rfl⟩
def Q_rmMN (Z : State) (d1 : Int32) (h0 : Heap) (n0 : Nat) (v : Option Value) (h : Heap) (L : List Loc) : Prop := v = some (.int d1) ∧ Fr n0 L ∧ h = h0
theorem ef_14 (m : MethodId) (x0 : Int32) (x1 : Int32) : entryFrame m #[(.int x0), (.int x1)] 2 = mkF m 0 #[.val (.int x0), .val (.int x1)] [] := by first | (simp [entryFrame, mkF, argsToLocals, Value.category]; done) | rfl
theorem d14_0 : decode jdk_29_method_69_code 0 = .ok (.iload_n 0, 1) := by decide +kernel
theorem d14_1 : decode jdk_29_method_69_code 1 = .ok (.iload_n 1, 1) := by decide +kernel
theorem d14_2 : decode jdk_29_method_69_code 2 = .ok (.if_icmp .gt 7, 3) := by decide +kernel
theorem d14_5 : decode jdk_29_method_69_code 5 = .ok (.iload_n 0, 1) := by decide +kernel
theorem d14_6 : decode jdk_29_method_69_code 6 = .ok (.goto 4, 3) := by decide +kernel
theorem d14_10 : decode jdk_29_method_69_code 10 = .ok (.ireturn, 1) := by decide +kernel
set_option maxRecDepth 65536 in
set_option maxHeartbeats 40000000 in
theorem rmMN (l : Launch) (Z : State) (a0 : Array Value) (hw : ∀ d ∈ tables_1, d.before a0 Z = true) (ws : List Jvm.Cond) (d1 : Int32) (d2 : Int32) (h0 : Heap) (n0 : Nat) (O0 : Old Z n0 h0) (hq : ¬ d2 < d1) :
    MetFree l (⟨"java/lang/Math", "min", "(II)I"⟩ : MethodName) (head1 (Jvm.Cond.code (⟨"java/lang/Math", "min", "(II)I"⟩ : MethodName) jdk_29_method_69_code 2 (some .int) :: ws) ({ frames := 0, cells := 0, slots := 0, locals := 0 } : Room)) (fun a U => a = #[(.int d1), (.int d2)] ∧ Z.Warmed39 U.vm ∧ U.heap = h0) (fun _ _ _ _ _ => True) (fun _ U o U' => ∃ v L, o = .returned v ∧ Q_rmMN Z d1 h0 n0 v U'.heap L ∧ FrameEnd U o U' L ({ frames := 0, cells := 0, slots := 0, locals := 0 } : Room).cells ({ frames := 0, cells := 0, slots := 0, locals := 0 } : Room).slots) := by
  refine MetFree.of_bodySF (Jvm.Free.JP.mathPlain rfl (by decide +kernel)) hisR ?_
  intro p e s m args below meth c s₁ Bd hml0 hP hK
  obtain ⟨rfl, hZ, hh⟩ := hP
  have hx := Bd.exec
  have hby := Bd.bytes
  have hml : c.maxLocals = 2 := hml0
  have hown : s.vm.findClass "java/lang/Math" = some m.cls := findClass_of_methodNamed Bd.named
  have hnm := (name_of_methodNamed Bd.named Bd.method).1
  have X0 : Stand p l e ({ frames := 0, cells := 0, slots := 0, locals := 0 } : Room) s m #[(.int d1), (.int d2)] below meth c s₁ [] 0 0 := Stand.of_body Bd
  have e0 : s₁.heap = h0 := by rw [← hh, Bd.state]; rfl
  have N0 := Fr.nil n0
  obtain ⟨S0, hS0⟩ : ∃ z, z = s₁.setTop (entryFrame m #[(.int d1), (.int d2)] 2) := ⟨_, rfl⟩
  have k0 : Rch p e below S0 s₁ (mkF m 0 #[vI d1, vI d2] []) := fun t kq => hS0 ▸ castTop (ef_14 m d1 d2) kq
  have k101 : Rch p e below S0 s₁ (mkF m 10 #[vI d1, vI d2] [(.int d1)]) := fun t h => k0 t (by
      show Steps p.tables e below (s₁.setTop (mkF m 0 #[vI d1, vI d2] [])) _
      refine XS.iloadN X0.here hx rfl (hb hby d14_0) rfl ?_
      refine XS.iloadN X0.here hx rfl (hb hby d14_1) rfl ?_
      refine XS.icmpNo X0.here hx rfl (hb hby d14_2) rfl (flt (hq : ¬ (d2 < d1))).2.2.1 ?_
      refine XS.iloadN X0.here hx rfl (hb hby d14_5) rfl ?_
      refine XS.goto X0.here hx rfl (pc0 := 6) (pc' := 10) rfl (hb hby d14_6) (by decide) (by decide) ?_
      exact h)
  obtain ⟨fs, hr, hrun, hended, hW, hsame⟩ := X0.leave (v := (some (.int d1))) (fun h => by rw [Bd.returns] at h; cases h)
  refine ⟨_, _, ?_, hrun, hended, _, _, rfl, ?_, ⟨_, rfl⟩, hW, hsame.mono (by decide) (by decide)⟩
  · rw [← hS0]
    refine k101 _ ?_
    show Steps p.tables e below (s₁.setTop (mkF m 10 #[vI d1, vI d2] [(.int d1)])) _
    exact retI X0 hx Bd.returns (hb hby d14_10) hr
  · show Q_rmMN Z d1 h0 n0 _ s₁.heap _
    rw [e0]
    exact ⟨rfl, N0, rfl⟩
def Q_rmLX (Z : State) (cs : List Int32) (k : Nat) (h0 : Heap) (n0 : Nat) (v : Option Value) (h : Heap) (L : List Loc) : Prop := v = some (.int (own_lir (cs.map kc) k)) ∧ Fr n0 L ∧ h = h0
theorem ef_12 (m : MethodId) (x0 : Addr) (x1 : Int32) (x2 : Int32) : entryFrame m #[(.ref x0), (.int x1), (.int x2)] 4 = mkF m 0 #[.val (.ref x0), .val (.int x1), .val (.int x2), .unset] [] := by first | (simp [entryFrame, mkF, argsToLocals, Value.category]; done) | rfl
theorem d12_0 : decode jdk_43_method_27_code 0 = .ok (.iload_n 1, 1) := by decide +kernel
theorem pd_12 : parseMethodDescriptor "(I)Z" = some ⟨[.int], some .boolean⟩ := by decide +kernel
theorem d12_1 : decode jdk_43_method_27_code 1 = .ok (.invokestatic 88, 3) := by decide +kernel
theorem d12_4 : decode jdk_43_method_27_code 4 = .ok (.ifCond .ne 5, 3) := by decide +kernel
theorem d12_9 : decode jdk_43_method_27_code 9 = .ok (.iload_n 2, 1) := by decide +kernel
theorem d12_10 : decode jdk_43_method_27_code 10 = .ok (.aload_n 0, 1) := by decide +kernel
theorem d12_11 : decode jdk_43_method_27_code 11 = .ok (.arraylength, 1) := by decide +kernel
theorem d12_12 : decode jdk_43_method_27_code 12 = .ok (.iconst 1, 1) := by decide +kernel
theorem d12_13 : decode jdk_43_method_27_code 13 = .ok (.isub, 1) := by decide +kernel
theorem pd_9 : parseMethodDescriptor "(II)I" = some ⟨[.int, .int], some .int⟩ := by decide +kernel
theorem d12_14 : decode jdk_43_method_27_code 14 = .ok (.invokestatic 38, 3) := by decide +kernel
theorem d12_17 : decode jdk_43_method_27_code 17 = .ok (.istore_n 3, 1) := by decide +kernel
theorem d12_18 : decode jdk_43_method_27_code 18 = .ok (.iload_n 3, 1) := by decide +kernel
theorem d12_19 : decode jdk_43_method_27_code 19 = .ok (.ifCond .lt 19, 3) := by decide +kernel
theorem d12_38 : decode jdk_43_method_27_code 38 = .ok (.iconst (-1), 1) := by decide +kernel
theorem d12_39 : decode jdk_43_method_27_code 39 = .ok (.ireturn, 1) := by decide +kernel
theorem d12_22 : decode jdk_43_method_27_code 22 = .ok (.aload_n 0, 1) := by decide +kernel
theorem d12_23 : decode jdk_43_method_27_code 23 = .ok (.iload_n 3, 1) := by decide +kernel
theorem d12_24 : decode jdk_43_method_27_code 24 = .ok (.baload, 1) := by decide +kernel
theorem d12_25 : decode jdk_43_method_27_code 25 = .ok (.iload_n 1, 1) := by decide +kernel
theorem d12_26 : decode jdk_43_method_27_code 26 = .ok (.i2b, 1) := by decide +kernel
theorem d12_27 : decode jdk_43_method_27_code 27 = .ok (.if_icmp .ne 5, 3) := by decide +kernel
theorem d12_30 : decode jdk_43_method_27_code 30 = .ok (.iload_n 3, 1) := by decide +kernel
theorem d12_31 : decode jdk_43_method_27_code 31 = .ok (.ireturn, 1) := by decide +kernel
theorem d12_32 : decode jdk_43_method_27_code 32 = .ok (.iinc 3 (-1), 3) := by decide +kernel
theorem d12_35 : decode jdk_43_method_27_code 35 = .ok (.goto (-17), 3) := by decide +kernel
set_option maxRecDepth 65536 in
set_option maxHeartbeats 40000000 in
theorem rmLX (l : Launch) (Z : State) (a0 : Array Value) (hw : ∀ d ∈ tables_1, d.before a0 Z = true) (ws : List Jvm.Cond) (tt : Addr) (kt : ClassId) (n : Nat) (cs : List Int32) (k : Nat) (h0 : Heap) (n0 : Nat) (O0 : Old Z n0 h0) (Vt : Arv Z h0 tt kt .byte (Int32.ofNat n) ((cs.map fun c => c.toInt8.toInt32).map Value.int) (.int (0 : Int32))) (hl : cs.length = n) (hn : n ≤ 7) (hp : ∀ c ∈ cs, ¬ c < 0 ∧ ¬ (255 : Int32) < c) (hkn : k ≤ n) :
    MetFree l (⟨"java/lang/StringLatin1", "lastIndexOf", "([BII)I"⟩ : MethodName) (head1 (Jvm.Cond.code (⟨"java/lang/StringLatin1", "lastIndexOf", "([BII)I"⟩ : MethodName) jdk_43_method_27_code 4 (some .int) :: ws) ({ frames := 1, cells := 0, slots := 0, locals := 26 } : Room)) (fun a U => a = #[(.ref tt), (.int (45 : Int32)), (.int ((Int32.ofNat k) - (1 : Int32)))] ∧ Z.Warmed39 U.vm ∧ U.heap = h0) (fun _ _ _ _ _ => True) (fun _ U o U' => ∃ v L, o = .returned v ∧ Q_rmLX Z cs k h0 n0 v U'.heap L ∧ FrameEnd U o U' L ({ frames := 1, cells := 0, slots := 0, locals := 26 } : Room).cells ({ frames := 1, cells := 0, slots := 0, locals := 26 } : Room).slots) := by
  refine MetFree.of_bodySF (plainFor_of_name pn_StringLatin1) hisR ?_
  intro p e s m args below meth c s₁ Bd hml0 hP hK
  obtain ⟨rfl, hZ, hh⟩ := hP
  have hx := Bd.exec
  have hby := Bd.bytes
  have hml : c.maxLocals = 4 := hml0
  have hown : s.vm.findClass "java/lang/StringLatin1" = some m.cls := findClass_of_methodNamed Bd.named
  have hnm := (name_of_methodNamed Bd.named Bd.method).1
  have X0 : Stand p l e ({ frames := 1, cells := 0, slots := 0, locals := 26 } : Room) s m #[(.ref tt), (.int (45 : Int32)), (.int ((Int32.ofNat k) - (1 : Int32)))] below meth c s₁ [] 0 0 := Stand.of_body Bd
  have e0 : s₁.heap = h0 := by rw [← hh, Bd.state]; rfl
  have N0 := Fr.nil n0
  obtain ⟨S0, hS0⟩ : ∃ z, z = s₁.setTop (entryFrame m #[(.ref tt), (.int (45 : Int32)), (.int ((Int32.ofNat k) - (1 : Int32)))] 4) := ⟨_, rfl⟩
  have k0 : Rch p e below S0 s₁ (mkF m 0 #[vR tt, vI 45, vI ((Int32.ofNat k) - (1 : Int32)), vU] []) := fun t kq => hS0 ▸ castTop (ef_12 m tt (45 : Int32) ((Int32.ofNat k) - (1 : Int32))) kq
  have k102 : Rch p e below S0 s₁ (mkF m 1 #[vR tt, vI 45, vI ((Int32.ofNat k) - (1 : Int32)), vU] [(.int (45 : Int32))]) := fun t h => k0 t (by
      show Steps p.tables e below (s₁.setTop (mkF m 0 #[vR tt, vI 45, vI ((Int32.ofNat k) - (1 : Int32)), vU] [])) _
      refine XS.iloadN X0.here hx rfl (hb hby d12_0) rfl ?_
      exact h)
  obtain ⟨_, _, ⟨T103, L103, kk103, n103⟩, -, X103, ⟨Lc103, hQ103, l103, y103, z103⟩, st103⟩ := Jvm.LawKit.callS X0 hx (y := (⟨"java/lang/StringLatin1", "canEncode", "(I)Z"⟩ : MethodName)) hown (mvT hZ (hw _ (gm 64 rfl))) (mvT hZ (hw _ (gm 65 rfl))) (mvT hZ (hw _ (gm 62 rfl))) (mvT hZ (hw _ (gm 66 rfl))) (by decide) (backOf (W := 0) (rmCE l Z a0 hw []   h0 n0 O0 ) hZ (hw _ (gm 66 rfl)) (hw _ (gm 62 rfl)) (by decide) (by decide)) (g := (mkF m 1 #[vR tt, vI 45, vI ((Int32.ofNat k) - (1 : Int32)), vU] [(.int (45 : Int32))])) rfl (by rw [hml]; rfl) (argsL := [(.int (45 : Int32))]) (rest := []) (lenOf pd_12 rfl) rfl (by show 2 * 0 + _ ≤ _; exact Nat.le_of_eq rfl) (hb hby d12_1) (fun _ _ => ⟨rfl, e0, (by decide : 0 + 0 ≤ _), (by decide : 0 + 0 ≤ _)⟩)
  dsimp only [Pt.U, Pt.locs, Pt.cells, Pt.slots] at X103 l103 y103 z103 st103 hQ103
  subst l103 y103 z103
  obtain ⟨rfl, Nq103, hh103⟩ := hQ103
  have N103 := Fr.app N0 Nq103
  have k104 : Rch p e below S0 T103 (mkF m 4 #[vR tt, vI 45, vI ((Int32.ofNat k) - (1 : Int32)), vU] [(.int (1 : Int32))]) := fun t h => k102 t (st103 t h)
  have k106 : Rch p e below S0 T103 (mkF m 11 #[vR tt, vI 45, vI ((Int32.ofNat k) - (1 : Int32)), vU] [(.ref tt), (.int ((Int32.ofNat k) - (1 : Int32)))]) := fun t h => k104 t (by
      show Steps p.tables e below (T103.setTop (mkF m 4 #[vR tt, vI 45, vI ((Int32.ofNat k) - (1 : Int32)), vU] [(.int (1 : Int32))])) _
      refine XS.ifYes X103.here hx rfl (pc0 := 4) (pc' := 9) rfl (hb hby d12_4) rfl ((if0 _ _).trans (feq (by decide : ¬ ((1 : Int32) = (0 : Int32)))).2) (by decide) (by decide) ?_
      refine XS.iloadN X103.here hx rfl (hb hby d12_9) rfl ?_
      refine XS.aloadN X103.here hx rfl (hb hby d12_10) rfl rfl ?_
      exact h)
  obtain ⟨cl105, Ar105, q105, Sz105, Ng105, Hs105, G105⟩ := id Vt
  have k107 : Rch p e below S0 T103 (mkF m 14 #[vR tt, vI 45, vI ((Int32.ofNat k) - (1 : Int32)), vU] [(.int ((Int32.ofNat n) - (1 : Int32))), (.int ((Int32.ofNat k) - (1 : Int32)))]) := fun t h => k106 t (by
      show Steps p.tables e below (T103.setTop (mkF m 11 #[vR tt, vI 45, vI ((Int32.ofNat k) - (1 : Int32)), vU] [(.ref tt), (.int ((Int32.ofNat k) - (1 : Int32)))])) _
      refine X103.arraylength hx (by rw [hh103]; exact Ar105.1) (State.isArrayOf_alike hZ.alike Ar105.2.1) (g := (mkF m 11 #[vR tt, vI 45, vI ((Int32.ofNat k) - (1 : Int32)), vU] [(.ref tt), (.int ((Int32.ofNat k) - (1 : Int32)))])) rfl rfl (hb hby d12_11) _ ?_
      rw [len_of Sz105 Ng105]
      refine XS.iconst X103.here hx rfl (hb hby d12_12) ?_
      refine XS.isub X103.here hx rfl (hb hby d12_13) rfl ?_
      exact h)
  obtain ⟨_, _, ⟨T108, L108, kk108, n108⟩, -, X108, ⟨Lc108, hQ108, l108, y108, z108⟩, st108⟩ := Jvm.LawKit.callS X103 hx (y := (⟨"java/lang/Math", "min", "(II)I"⟩ : MethodName)) hown (mvT hZ (hw _ (gm 67 rfl))) (mvT hZ (hw _ (gm 68 rfl))) (mvT hZ (hw _ (gm 69 rfl))) (mvT hZ (hw _ (gm 70 rfl))) (by decide) (backOf (W := 0) (rmMN l Z a0 hw [] ((Int32.ofNat k) - (1 : Int32)) ((Int32.ofNat n) - (1 : Int32))  h0 n0 O0 (by rw [Int32.lt_iff_toInt_lt, own_ixt (by omega), own_ixt (by omega)]; omega)) hZ (hw _ (gm 70 rfl)) (hw _ (gm 69 rfl)) (by decide) (by decide)) (g := (mkF m 14 #[vR tt, vI 45, vI ((Int32.ofNat k) - (1 : Int32)), vU] [(.int ((Int32.ofNat n) - (1 : Int32))), (.int ((Int32.ofNat k) - (1 : Int32)))])) rfl (by rw [hml]; rfl) (argsL := [(.int ((Int32.ofNat k) - (1 : Int32))), (.int ((Int32.ofNat n) - (1 : Int32)))]) (rest := []) (lenOf pd_9 rfl) rfl (by show 2 * 0 + _ ≤ _; exact Nat.le_of_eq rfl) (hb hby d12_14) (fun _ _ => ⟨rfl, hh103, (by decide : 0 + 0 ≤ _), (by decide : 0 + 0 ≤ _)⟩)
  dsimp only [Pt.U, Pt.locs, Pt.cells, Pt.slots] at X108 l108 y108 z108 st108 hQ108
  subst l108 y108 z108
  obtain ⟨rfl, Nq108, hh108⟩ := hQ108
  have N108 := Fr.app N103 Nq108
  have k109 : Rch p e below S0 T108 (mkF m 17 #[vR tt, vI 45, vI ((Int32.ofNat k) - (1 : Int32)), vU] [(.int ((Int32.ofNat k) - (1 : Int32)))]) := fun t h => k107 t (st108 t h)
  have k110 : Rch p e below S0 T108 (mkF m 18 #[vR tt, vI 45, vI ((Int32.ofNat k) - (1 : Int32)), vI ((Int32.ofNat k) - (1 : Int32))] []) := fun t h => k109 t (by
      show Steps p.tables e below (T108.setTop (mkF m 17 #[vR tt, vI 45, vI ((Int32.ofNat k) - (1 : Int32)), vU] [(.int ((Int32.ofNat k) - (1 : Int32)))])) _
      refine XS.istoreN X108.here hx rfl (hb hby d12_17) rfl (l' := #[vR tt, vI 45, vI ((Int32.ofNat k) - (1 : Int32)), vI ((Int32.ofNat k) - (1 : Int32))]) rfl ?_
      exact h)
  refine (?_ : ∀ (j : Nat), j ≤ n → own_lir (cs.map kc) j = own_lir (cs.map kc) k → Rch p e below S0 T108 (mkF m 18 #[vR tt, vI 45, vI ((Int32.ofNat k) - (1 : Int32)), vI ((Int32.ofNat j) - (1 : Int32))] []) → _) k hkn rfl k110
  intro j
  induction j with
  | zero =>
    intro hj he kk
    have k111 : Rch p e below S0 T108 (mkF m 39 #[vR tt, vI 45, vI ((Int32.ofNat k) - (1 : Int32)), vI ((Int32.ofNat 0) - (1 : Int32))] [(.int (-1 : Int32))]) := fun t h => kk t (by
        show Steps p.tables e below (T108.setTop (mkF m 18 #[vR tt, vI 45, vI ((Int32.ofNat k) - (1 : Int32)), vI ((Int32.ofNat 0) - (1 : Int32))] [])) _
        refine XS.iloadN X108.here hx rfl (hb hby d12_18) rfl ?_
        refine XS.ifYes X108.here hx rfl (pc0 := 19) (pc' := 38) rfl (hb hby d12_19) rfl ((if0 _ _).trans (tlt (own_ix0 : ((Int32.ofNat 0) - (1 : Int32)) < (0 : Int32))).1) (by decide) (by decide) ?_
        refine XS.iconst X108.here hx rfl (hb hby d12_38) ?_
        exact h)
    obtain ⟨fs, hr, hrun, hended, hW, hsame⟩ := X108.leave (v := (some (.int (-1 : Int32)))) (fun h => by rw [Bd.returns] at h; cases h)
    refine ⟨_, _, ?_, hrun, hended, _, _, rfl, ?_, ⟨_, rfl⟩, hW, hsame.mono (by decide) (by decide)⟩
    · rw [← hS0]
      refine k111 _ ?_
      show Steps p.tables e below (T108.setTop (mkF m 39 #[vR tt, vI 45, vI ((Int32.ofNat k) - (1 : Int32)), vI ((Int32.ofNat 0) - (1 : Int32))] [(.int (-1 : Int32))])) _
      exact retI X108 hx Bd.returns (hb hby d12_39) hr
    · show Q_rmLX Z cs k h0 n0 _ T108.heap _
      rw [hh108]
      exact ⟨by rw [← he]; rfl, N108, rfl⟩
  | succ j ih =>
    intro hj he kk
    have hjc := own_memD cs _ hp j (by omega)
    have kg := own_kg cs j (by omega)
    rw [own_ixs (j := j) (by omega)] at kk
    by_cases hq : (cs.map kc).getD j 3 = 0
    · have k113 : Rch p e below S0 T108 (mkF m 24 #[vR tt, vI 45, vI ((Int32.ofNat k) - (1 : Int32)), vI (Int32.ofNat j)] [(.int (Int32.ofNat j)), (.ref tt)]) := fun t h => kk t (by
          show Steps p.tables e below (T108.setTop (mkF m 18 #[vR tt, vI 45, vI ((Int32.ofNat k) - (1 : Int32)), vI (Int32.ofNat j)] [])) _
          refine XS.iloadN X108.here hx rfl (hb hby d12_18) rfl ?_
          refine XS.ifNo X108.here hx rfl (hb hby d12_19) rfl ((if0 _ _).trans (flt ((own_on0 (by omega)) : ¬ ((Int32.ofNat j) < (0 : Int32)))).1) ?_
          refine XS.aloadN X108.here hx rfl (hb hby d12_22) rfl rfl ?_
          refine XS.iloadN X108.here hx rfl (hb hby d12_23) rfl ?_
          exact h)
      obtain ⟨cl112, Ar112, q112, Sz112, Ng112, Hs112, G112⟩ := id Vt
      have hin112 : ¬ ((Int32.ofNat j) < 0 ∨ cl112.slots.size ≤ ((Int32.ofNat j)).toNatClampNeg) := inb_of Sz112 (own_inb (by omega) (by omega))
      have hat112 : cl112.slots[((Int32.ofNat j)).toNatClampNeg]? = some (.int ((cs.getD j 0).toInt8.toInt32)) := Hs112.at hin112 (by rw [(own_tn (by omega)).1]; exact own_atb cs j (by omega))
      have k114 : Rch p e below S0 T108 (mkF m 31 #[vR tt, vI 45, vI ((Int32.ofNat k) - (1 : Int32)), vI (Int32.ofNat j)] [(.int (Int32.ofNat j))]) := fun t h => k113 t (by
          show Steps p.tables e below (T108.setTop (mkF m 24 #[vR tt, vI 45, vI ((Int32.ofNat k) - (1 : Int32)), vI (Int32.ofNat j)] [(.int (Int32.ofNat j)), (.ref tt)])) _
          refine X108.baloadBytes hx (j := (Int32.ofNat j)) (v := (.int ((cs.getD j 0).toInt8.toInt32))) (by rw [hh108]; exact Ar112.1) (State.isArrayOf_alike hZ.alike Ar112.2.1) Ar112.2.2 hin112 hat112 (g := (mkF m 24 #[vR tt, vI 45, vI ((Int32.ofNat k) - (1 : Int32)), vI (Int32.ofNat j)] [(.int (Int32.ofNat j)), (.ref tt)])) rfl rfl (hb hby d12_24) _ ?_
          refine XS.iloadN X108.here hx rfl (hb hby d12_25) rfl ?_
          show Steps p.tables e below (T108.setTop (mkF m 26 #[vR tt, vI 45, vI ((Int32.ofNat k) - (1 : Int32)), vI (Int32.ofNat j)] [(.int (45 : Int32)), (.int ((cs.getD j 0).toInt8.toInt32))])) _
          refine XS.i2b X108.here hx rfl (hb hby d12_26) rfl ?_
          rw [(by decide : (45 : Int32).toInt8.toInt32 = 45)]
          refine XS.icmpNo X108.here hx rfl (hb hby d12_27) rfl (teq (((own_dash _ hjc).1 (kg ▸ hq)) : ((cs.getD j 0).toInt8.toInt32) = (45 : Int32))).2 ?_
          refine XS.iloadN X108.here hx rfl (hb hby d12_30) rfl ?_
          exact h)
      obtain ⟨fs, hr, hrun, hended, hW, hsame⟩ := X108.leave (v := (some (.int (Int32.ofNat j)))) (fun h => by rw [Bd.returns] at h; cases h)
      refine ⟨_, _, ?_, hrun, hended, _, _, rfl, ?_, ⟨_, rfl⟩, hW, hsame.mono (by decide) (by decide)⟩
      · rw [← hS0]
        refine k114 _ ?_
        show Steps p.tables e below (T108.setTop (mkF m 31 #[vR tt, vI 45, vI ((Int32.ofNat k) - (1 : Int32)), vI (Int32.ofNat j)] [(.int (Int32.ofNat j))])) _
        exact retI X108 hx Bd.returns (hb hby d12_31) hr
      · show Q_rmLX Z cs k h0 n0 _ T108.heap _
        rw [hh108]
        exact ⟨by rw [← he]; simp only [own_lir, own_li, if_pos hq], N108, rfl⟩
    · have k116 : Rch p e below S0 T108 (mkF m 24 #[vR tt, vI 45, vI ((Int32.ofNat k) - (1 : Int32)), vI (Int32.ofNat j)] [(.int (Int32.ofNat j)), (.ref tt)]) := fun t h => kk t (by
          show Steps p.tables e below (T108.setTop (mkF m 18 #[vR tt, vI 45, vI ((Int32.ofNat k) - (1 : Int32)), vI (Int32.ofNat j)] [])) _
          refine XS.iloadN X108.here hx rfl (hb hby d12_18) rfl ?_
          refine XS.ifNo X108.here hx rfl (hb hby d12_19) rfl ((if0 _ _).trans (flt ((own_on0 (by omega)) : ¬ ((Int32.ofNat j) < (0 : Int32)))).1) ?_
          refine XS.aloadN X108.here hx rfl (hb hby d12_22) rfl rfl ?_
          refine XS.iloadN X108.here hx rfl (hb hby d12_23) rfl ?_
          exact h)
      obtain ⟨cl115, Ar115, q115, Sz115, Ng115, Hs115, G115⟩ := id Vt
      have hin115 : ¬ ((Int32.ofNat j) < 0 ∨ cl115.slots.size ≤ ((Int32.ofNat j)).toNatClampNeg) := inb_of Sz115 (own_inb (by omega) (by omega))
      have hat115 : cl115.slots[((Int32.ofNat j)).toNatClampNeg]? = some (.int ((cs.getD j 0).toInt8.toInt32)) := Hs115.at hin115 (by rw [(own_tn (by omega)).1]; exact own_atb cs j (by omega))
      have k117 : Rch p e below S0 T108 (mkF m 18 #[vR tt, vI 45, vI ((Int32.ofNat k) - (1 : Int32)), vI ((Int32.ofNat j) - (1 : Int32))] []) := fun t h => k116 t (by
          show Steps p.tables e below (T108.setTop (mkF m 24 #[vR tt, vI 45, vI ((Int32.ofNat k) - (1 : Int32)), vI (Int32.ofNat j)] [(.int (Int32.ofNat j)), (.ref tt)])) _
          refine X108.baloadBytes hx (j := (Int32.ofNat j)) (v := (.int ((cs.getD j 0).toInt8.toInt32))) (by rw [hh108]; exact Ar115.1) (State.isArrayOf_alike hZ.alike Ar115.2.1) Ar115.2.2 hin115 hat115 (g := (mkF m 24 #[vR tt, vI 45, vI ((Int32.ofNat k) - (1 : Int32)), vI (Int32.ofNat j)] [(.int (Int32.ofNat j)), (.ref tt)])) rfl rfl (hb hby d12_24) _ ?_
          refine XS.iloadN X108.here hx rfl (hb hby d12_25) rfl ?_
          show Steps p.tables e below (T108.setTop (mkF m 26 #[vR tt, vI 45, vI ((Int32.ofNat k) - (1 : Int32)), vI (Int32.ofNat j)] [(.int (45 : Int32)), (.int ((cs.getD j 0).toInt8.toInt32))])) _
          refine XS.i2b X108.here hx rfl (hb hby d12_26) rfl ?_
          rw [(by decide : (45 : Int32).toInt8.toInt32 = 45)]
          refine XS.icmpYes X108.here hx rfl (pc0 := 27) (pc' := 32) rfl (hb hby d12_27) rfl (feq (((own_dash _ hjc).2 (kg ▸ hq)) : ¬ (((cs.getD j 0).toInt8.toInt32) = (45 : Int32)))).2 (by decide) (by decide) ?_
          show Steps p.tables e below (T108.setTop (mkF m 32 #[vR tt, vI 45, vI ((Int32.ofNat k) - (1 : Int32)), vI (Int32.ofNat j)] [])) _
          refine XS.iinc X108.here hx rfl (hb hby d12_32) rfl (l' := #[vR tt, vI 45, vI ((Int32.ofNat k) - (1 : Int32)), vI ((Int32.ofNat j) + (-1 : Int32))]) rfl ?_
          rw [own_ixd j]
          refine XS.goto X108.here hx rfl (pc0 := 35) (pc' := 18) rfl (hb hby d12_35) (by decide) (by decide) ?_
          exact h)
      exact ih (by omega) (by rw [← he]; simp only [own_lir, own_li, if_neg hq]) k117
def Q_rmL2 (Z : State) (cs : List Int32) (k : Nat) (h0 : Heap) (n0 : Nat) (v : Option Value) (h : Heap) (L : List Loc) : Prop := v = some (.int (own_lir (cs.map kc) k)) ∧ Fr n0 L ∧ h = h0
theorem ef_10 (m : MethodId) (x0 : Addr) (x1 : Int32) (x2 : Int32) : entryFrame m #[(.ref x0), (.int x1), (.int x2)] 3 = mkF m 0 #[.val (.ref x0), .val (.int x1), .val (.int x2)] [] := by first | (simp [entryFrame, mkF, argsToLocals, Value.category]; done) | rfl
theorem d10_0 : decode jdk_42_method_83_code 0 = .ok (.aload_n 0, 1) := by decide +kernel
theorem pd_10 : parseMethodDescriptor "()Z" = some ⟨[], some .boolean⟩ := by decide +kernel
theorem d10_1 : decode jdk_42_method_83_code 1 = .ok (.invokevirtual 492, 3) := by decide +kernel
theorem d10_4 : decode jdk_42_method_83_code 4 = .ok (.ifCond .eq 15, 3) := by decide +kernel
theorem d10_7 : decode jdk_42_method_83_code 7 = .ok (.aload_n 0, 1) := by decide +kernel
theorem d10_8 : decode jdk_42_method_83_code 8 = .ok (.getfield 9, 3) := by decide +kernel
theorem d10_11 : decode jdk_42_method_83_code 11 = .ok (.iload_n 1, 1) := by decide +kernel
theorem d10_12 : decode jdk_42_method_83_code 12 = .ok (.iload_n 2, 1) := by decide +kernel
theorem pd_11 : parseMethodDescriptor "([BII)I" = some ⟨[(.array .byte), .int, .int], some .int⟩ := by decide +kernel
theorem d10_13 : decode jdk_42_method_83_code 13 = .ok (.invokestatic 644, 3) := by decide +kernel
theorem d10_16 : decode jdk_42_method_83_code 16 = .ok (.goto 12, 3) := by decide +kernel
theorem d10_28 : decode jdk_42_method_83_code 28 = .ok (.ireturn, 1) := by decide +kernel
set_option maxRecDepth 65536 in
set_option maxHeartbeats 40000000 in
theorem rmL2 (l : Launch) (Z : State) (a0 : Array Value) (hw : ∀ d ∈ tables_1, d.before a0 Z = true) (ws : List Jvm.Cond) (a1 : Addr) (tt : Addr) (kt : ClassId) (n : Nat) (cs : List Int32) (zC : Int32) (k : Nat) (h0 : Heap) (n0 : Nat) (O0 : Old Z n0 h0) (SC : Sta Z Z.heap "java/lang/String" "COMPACT_STRINGS" "Z" (.int zC)) (hzC : ¬ zC = 0) (Ex : Exa Z h0 a1 "java/lang/String") (Fv : Fld Z h0 a1 "java/lang/String" "value" "[B" (.ref tt)) (Fc : Fld Z h0 a1 "java/lang/String" "coder" "B" (.int (0 : Int32))) (Vt : Arv Z h0 tt kt .byte (Int32.ofNat n) ((cs.map fun c => c.toInt8.toInt32).map Value.int) (.int (0 : Int32))) (hl : cs.length = n) (hn : n ≤ 7) (hp : ∀ c ∈ cs, ¬ c < 0 ∧ ¬ (255 : Int32) < c) (hkn : k ≤ n) :
    MetFree l (⟨"java/lang/String", "lastIndexOf", "(II)I"⟩ : MethodName) (head1 (Jvm.Cond.code (⟨"java/lang/String", "lastIndexOf", "(II)I"⟩ : MethodName) jdk_42_method_83_code 3 (some .int) :: ws) ({ frames := 2, cells := 0, slots := 0, locals := 48 } : Room)) (fun a U => a = #[(.ref a1), (.int (45 : Int32)), (.int ((Int32.ofNat k) - (1 : Int32)))] ∧ Z.Warmed39 U.vm ∧ U.heap = h0) (fun _ _ _ _ _ => True) (fun _ U o U' => ∃ v L, o = .returned v ∧ Q_rmL2 Z cs k h0 n0 v U'.heap L ∧ FrameEnd U o U' L ({ frames := 2, cells := 0, slots := 0, locals := 48 } : Room).cells ({ frames := 2, cells := 0, slots := 0, locals := 48 } : Room).slots) := by
  refine MetFree.of_bodySF (plainFor_of_name pn_String) hisR ?_
  intro p e s m args below meth c s₁ Bd hml0 hP hK
  obtain ⟨rfl, hZ, hh⟩ := hP
  have hx := Bd.exec
  have hby := Bd.bytes
  have hml : c.maxLocals = 3 := hml0
  have hown : s.vm.findClass "java/lang/String" = some m.cls := findClass_of_methodNamed Bd.named
  have hnm := (name_of_methodNamed Bd.named Bd.method).1
  have X0 : Stand p l e ({ frames := 2, cells := 0, slots := 0, locals := 48 } : Room) s m #[(.ref a1), (.int (45 : Int32)), (.int ((Int32.ofNat k) - (1 : Int32)))] below meth c s₁ [] 0 0 := Stand.of_body Bd
  have e0 : s₁.heap = h0 := by rw [← hh, Bd.state]; rfl
  have N0 := Fr.nil n0
  obtain ⟨S0, hS0⟩ : ∃ z, z = s₁.setTop (entryFrame m #[(.ref a1), (.int (45 : Int32)), (.int ((Int32.ofNat k) - (1 : Int32)))] 3) := ⟨_, rfl⟩
  have k0 : Rch p e below S0 s₁ (mkF m 0 #[vR a1, vI 45, vI ((Int32.ofNat k) - (1 : Int32))] []) := fun t kq => hS0 ▸ castTop (ef_10 m a1 (45 : Int32) ((Int32.ofNat k) - (1 : Int32))) kq
  have k118 : Rch p e below S0 s₁ (mkF m 1 #[vR a1, vI 45, vI ((Int32.ofNat k) - (1 : Int32))] [(.ref a1)]) := fun t h => k0 t (by
      show Steps p.tables e below (s₁.setTop (mkF m 0 #[vR a1, vI 45, vI ((Int32.ofNat k) - (1 : Int32))] [])) _
      refine XS.aloadN X0.here hx rfl (hb hby d10_0) rfl rfl ?_
      exact h)
  obtain ⟨cq119, kq119, q119a, q119b, q119c⟩ := isOf hZ e0 Ex
  obtain ⟨_, _, ⟨T119, L119, kk119, n119⟩, -, X119, ⟨Lc119, hQ119, l119, y119, z119⟩, st119⟩ := X0.virtualBack hx (y := (⟨"java/lang/String", "isLatin1", "()Z"⟩ : MethodName)) (z := (⟨"java/lang/String", "isLatin1", "()Z"⟩ : MethodName)) hown (mvT hZ (hw _ (gm 55 rfl))) (mvT hZ (hw _ (gm 56 rfl))) (notFace_of_selects (args := #[]) (mvT hZ (hw _ (gm 58 rfl)))) (mvT hZ (hw _ (gm 58 rfl))) (mvT hZ (hw _ (gm 57 rfl))) (by decide) (backOf (W := 0) (rmIL l Z a0 hw [] a1 zC h0 n0 O0 SC hzC Fc) hZ (hw _ (gm 59 rfl)) (hw _ (gm 8 rfl)) (by decide) (by decide)) q119a q119c (g := (mkF m 1 #[vR a1, vI 45, vI ((Int32.ofNat k) - (1 : Int32))] [(.ref a1)])) rfl (by rw [hml]; rfl) (Steps.refl _) (argsL := []) (rest := []) (lenOf pd_10 rfl) rfl (by show 2 * 0 + _ ≤ _; exact Nat.le_of_eq rfl) (hb hby d10_1) (fun _ _ => ⟨rfl, e0, (by decide : 0 + 0 ≤ _), (by decide : 0 + 0 ≤ _)⟩)
  dsimp only [Pt.U, Pt.locs, Pt.cells, Pt.slots] at X119 l119 y119 z119 st119 hQ119
  subst l119 y119 z119
  obtain ⟨rfl, Nq119, hh119⟩ := hQ119
  have N119 := Fr.app N0 Nq119
  have k120 : Rch p e below S0 T119 (mkF m 4 #[vR a1, vI 45, vI ((Int32.ofNat k) - (1 : Int32))] [(.int (1 : Int32))]) := fun t h => k118 t (st119.trans h)
  have k122 : Rch p e below S0 T119 (mkF m 8 #[vR a1, vI 45, vI ((Int32.ofNat k) - (1 : Int32))] [(.ref a1)]) := fun t h => k120 t (by
      show Steps p.tables e below (T119.setTop (mkF m 4 #[vR a1, vI 45, vI ((Int32.ofNat k) - (1 : Int32))] [(.int (1 : Int32))])) _
      refine XS.ifNo X119.here hx rfl (hb hby d10_4) rfl ((if0 _ _).trans (feq (by decide : ¬ ((1 : Int32) = (0 : Int32)))).1) ?_
      refine XS.aloadN X119.here hx rfl (hb hby d10_7) rfl rfl ?_
      exact h)
  obtain ⟨T121, X121, e121, st121⟩ := getF X119 hx hZ hown (host := "") (Or.inl (hw _ (gm 25 rfl))) Via.refl hh119 Fv (g := (mkF m 8 #[vR a1, vI 45, vI ((Int32.ofNat k) - (1 : Int32))] [(.ref a1)])) rfl rfl (hb hby d10_8)
  have k123 : Rch p e below S0 T121 (mkF m 11 #[vR a1, vI 45, vI ((Int32.ofNat k) - (1 : Int32))] [(.ref tt)]) := fun t h => k122 t (st121 t h)
  have k124 : Rch p e below S0 T121 (mkF m 13 #[vR a1, vI 45, vI ((Int32.ofNat k) - (1 : Int32))] [(.int ((Int32.ofNat k) - (1 : Int32))), (.int (45 : Int32)), (.ref tt)]) := fun t h => k123 t (by
      show Steps p.tables e below (T121.setTop (mkF m 11 #[vR a1, vI 45, vI ((Int32.ofNat k) - (1 : Int32))] [(.ref tt)])) _
      refine XS.iloadN X121.here hx rfl (hb hby d10_11) rfl ?_
      refine XS.iloadN X121.here hx rfl (hb hby d10_12) rfl ?_
      exact h)
  obtain ⟨_, _, ⟨T125, L125, kk125, n125⟩, -, X125, ⟨Lc125, hQ125, l125, y125, z125⟩, st125⟩ := Jvm.LawKit.callS X121 hx (y := (⟨"java/lang/StringLatin1", "lastIndexOf", "([BII)I"⟩ : MethodName)) hown (mvT hZ (hw _ (gm 60 rfl))) (mvT hZ (hw _ (gm 61 rfl))) (mvT hZ (hw _ (gm 62 rfl))) (mvT hZ (hw _ (gm 63 rfl))) (by decide) (backOf (W := 0) (rmLX l Z a0 hw []  tt kt n cs k h0 n0 O0 Vt hl hn hp hkn) hZ (hw _ (gm 63 rfl)) (hw _ (gm 62 rfl)) (by decide) (by decide)) (g := (mkF m 13 #[vR a1, vI 45, vI ((Int32.ofNat k) - (1 : Int32))] [(.int ((Int32.ofNat k) - (1 : Int32))), (.int (45 : Int32)), (.ref tt)])) rfl (by rw [hml]; rfl) (argsL := [(.ref tt), (.int (45 : Int32)), (.int ((Int32.ofNat k) - (1 : Int32)))]) (rest := []) (lenOf pd_11 rfl) rfl (by show 2 * 0 + _ ≤ _; exact Nat.le_of_eq rfl) (hb hby d10_13) (fun _ _ => ⟨rfl, e121, (by decide : 0 + 0 ≤ _), (by decide : 0 + 0 ≤ _)⟩)
  dsimp only [Pt.U, Pt.locs, Pt.cells, Pt.slots] at X125 l125 y125 z125 st125 hQ125
  subst l125 y125 z125
  obtain ⟨rfl, Nq125, hh125⟩ := hQ125
  have N125 := Fr.app N119 Nq125
  have k126 : Rch p e below S0 T125 (mkF m 16 #[vR a1, vI 45, vI ((Int32.ofNat k) - (1 : Int32))] [(.int (own_lir (cs.map kc) k))]) := fun t h => k124 t (st125 t h)
  have k127 : Rch p e below S0 T125 (mkF m 28 #[vR a1, vI 45, vI ((Int32.ofNat k) - (1 : Int32))] [(.int (own_lir (cs.map kc) k))]) := fun t h => k126 t (by
      show Steps p.tables e below (T125.setTop (mkF m 16 #[vR a1, vI 45, vI ((Int32.ofNat k) - (1 : Int32))] [(.int (own_lir (cs.map kc) k))])) _
      refine XS.goto X125.here hx rfl (pc0 := 16) (pc' := 28) rfl (hb hby d10_16) (by decide) (by decide) ?_
      exact h)
  obtain ⟨fs, hr, hrun, hended, hW, hsame⟩ := X125.leave (v := (some (.int (own_lir (cs.map kc) k)))) (fun h => by rw [Bd.returns] at h; cases h)
  refine ⟨_, _, ?_, hrun, hended, _, _, rfl, ?_, ⟨_, rfl⟩, hW, hsame.mono (by decide) (by decide)⟩
  · rw [← hS0]
    refine k127 _ ?_
    show Steps p.tables e below (T125.setTop (mkF m 28 #[vR a1, vI 45, vI ((Int32.ofNat k) - (1 : Int32))] [(.int (own_lir (cs.map kc) k))])) _
    exact retI X125 hx Bd.returns (hb hby d10_28) hr
  · show Q_rmL2 Z cs k h0 n0 _ T125.heap _
    rw [hh125]
    exact ⟨rfl, N125, rfl⟩
def Q_rmL1 (Z : State) (n : Nat) (cs : List Int32) (h0 : Heap) (n0 : Nat) (v : Option Value) (h : Heap) (L : List Loc) : Prop := v = some (.int (own_lir (cs.map kc) n)) ∧ Fr n0 L ∧ h = h0
theorem ef_7 (m : MethodId) (x0 : Addr) (x1 : Int32) : entryFrame m #[(.ref x0), (.int x1)] 2 = mkF m 0 #[.val (.ref x0), .val (.int x1)] [] := by first | (simp [entryFrame, mkF, argsToLocals, Value.category]; done) | rfl
theorem d7_0 : decode jdk_42_method_82_code 0 = .ok (.aload_n 0, 1) := by decide +kernel
theorem d7_1 : decode jdk_42_method_82_code 1 = .ok (.iload_n 1, 1) := by decide +kernel
theorem d7_2 : decode jdk_42_method_82_code 2 = .ok (.aload_n 0, 1) := by decide +kernel
theorem pd_7 : parseMethodDescriptor "()I" = some ⟨[], some .int⟩ := by decide +kernel
theorem d7_3 : decode jdk_42_method_82_code 3 = .ok (.invokevirtual 505, 3) := by decide +kernel
theorem d7_6 : decode jdk_42_method_82_code 6 = .ok (.iconst 1, 1) := by decide +kernel
theorem d7_7 : decode jdk_42_method_82_code 7 = .ok (.isub, 1) := by decide +kernel
theorem d7_8 : decode jdk_42_method_82_code 8 = .ok (.invokevirtual 641, 3) := by decide +kernel
theorem d7_11 : decode jdk_42_method_82_code 11 = .ok (.ireturn, 1) := by decide +kernel
set_option maxRecDepth 65536 in
set_option maxHeartbeats 40000000 in
theorem rmL1 (l : Launch) (Z : State) (a0 : Array Value) (hw : ∀ d ∈ tables_1, d.before a0 Z = true) (ws : List Jvm.Cond) (a1 : Addr) (tt : Addr) (kt : ClassId) (n : Nat) (cs : List Int32) (zC : Int32) (h0 : Heap) (n0 : Nat) (O0 : Old Z n0 h0) (SC : Sta Z Z.heap "java/lang/String" "COMPACT_STRINGS" "Z" (.int zC)) (hzC : ¬ zC = 0) (Ex : Exa Z h0 a1 "java/lang/String") (Fv : Fld Z h0 a1 "java/lang/String" "value" "[B" (.ref tt)) (Fc : Fld Z h0 a1 "java/lang/String" "coder" "B" (.int (0 : Int32))) (Vt : Arv Z h0 tt kt .byte (Int32.ofNat n) ((cs.map fun c => c.toInt8.toInt32).map Value.int) (.int (0 : Int32))) (hl : cs.length = n) (hn : n ≤ 7) (hp : ∀ c ∈ cs, ¬ c < 0 ∧ ¬ (255 : Int32) < c) :
    MetFree l (⟨"java/lang/String", "lastIndexOf", "(I)I"⟩ : MethodName) (head1 (Jvm.Cond.code (⟨"java/lang/String", "lastIndexOf", "(I)I"⟩ : MethodName) jdk_42_method_82_code 2 (some .int) :: ws) ({ frames := 3, cells := 0, slots := 0, locals := 70 } : Room)) (fun a U => a = #[(.ref a1), (.int (45 : Int32))] ∧ Z.Warmed39 U.vm ∧ U.heap = h0) (fun _ _ _ _ _ => True) (fun _ U o U' => ∃ v L, o = .returned v ∧ Q_rmL1 Z n cs h0 n0 v U'.heap L ∧ FrameEnd U o U' L ({ frames := 3, cells := 0, slots := 0, locals := 70 } : Room).cells ({ frames := 3, cells := 0, slots := 0, locals := 70 } : Room).slots) := by
  refine MetFree.of_bodySF (plainFor_of_name pn_String) hisR ?_
  intro p e s m args below meth c s₁ Bd hml0 hP hK
  obtain ⟨rfl, hZ, hh⟩ := hP
  have hx := Bd.exec
  have hby := Bd.bytes
  have hml : c.maxLocals = 2 := hml0
  have hown : s.vm.findClass "java/lang/String" = some m.cls := findClass_of_methodNamed Bd.named
  have hnm := (name_of_methodNamed Bd.named Bd.method).1
  have X0 : Stand p l e ({ frames := 3, cells := 0, slots := 0, locals := 70 } : Room) s m #[(.ref a1), (.int (45 : Int32))] below meth c s₁ [] 0 0 := Stand.of_body Bd
  have e0 : s₁.heap = h0 := by rw [← hh, Bd.state]; rfl
  have N0 := Fr.nil n0
  obtain ⟨S0, hS0⟩ : ∃ z, z = s₁.setTop (entryFrame m #[(.ref a1), (.int (45 : Int32))] 2) := ⟨_, rfl⟩
  have k0 : Rch p e below S0 s₁ (mkF m 0 #[vR a1, vI 45] []) := fun t kq => hS0 ▸ castTop (ef_7 m a1 (45 : Int32)) kq
  have k128 : Rch p e below S0 s₁ (mkF m 3 #[vR a1, vI 45] [(.ref a1), (.int (45 : Int32)), (.ref a1)]) := fun t h => k0 t (by
      show Steps p.tables e below (s₁.setTop (mkF m 0 #[vR a1, vI 45] [])) _
      refine XS.aloadN X0.here hx rfl (hb hby d7_0) rfl rfl ?_
      refine XS.iloadN X0.here hx rfl (hb hby d7_1) rfl ?_
      refine XS.aloadN X0.here hx rfl (hb hby d7_2) rfl rfl ?_
      exact h)
  obtain ⟨cq129, kq129, q129a, q129b, q129c⟩ := isOf hZ e0 Ex
  obtain ⟨_, _, ⟨T129, L129, kk129, n129⟩, -, X129, ⟨Lc129, hQ129, l129, y129, z129⟩, st129⟩ := X0.virtualBack hx (y := (⟨"java/lang/String", "length", "()I"⟩ : MethodName)) (z := (⟨"java/lang/String", "length", "()I"⟩ : MethodName)) hown (mvT hZ (hw _ (gm 39 rfl))) (mvT hZ (hw _ (gm 40 rfl))) (notFace_of_selects (args := #[]) (mvT hZ (hw _ (gm 42 rfl)))) (mvT hZ (hw _ (gm 42 rfl))) (mvT hZ (hw _ (gm 41 rfl))) (by decide) (backOf (W := 2) (rmLE l Z a0 hw []  a1 tt kt (Int32.ofNat n) ((cs.map fun c => c.toInt8.toInt32).map Value.int) (0 : Int32) zC (Int32.ofNat n) h0 n0 O0 SC hzC Ex Fv Fc Vt (own_sh0 _)) hZ (hw _ (gm 43 rfl)) (hw _ (gm 8 rfl)) (by decide) (by decide)) q129a q129c (g := (mkF m 3 #[vR a1, vI 45] [(.ref a1), (.int (45 : Int32)), (.ref a1)])) rfl (by rw [hml]; rfl) (Steps.refl _) (argsL := []) (rest := [(.int (45 : Int32)), (.ref a1)]) (lenOf pd_7 rfl) rfl (by show 2 * 0 + _ ≤ _; exact Nat.le_of_eq rfl) (hb hby d7_3) (fun _ _ => ⟨rfl, e0, (by decide : 0 + 0 ≤ _), (by decide : 0 + 0 ≤ _)⟩)
  dsimp only [Pt.U, Pt.locs, Pt.cells, Pt.slots] at X129 l129 y129 z129 st129 hQ129
  subst l129 y129 z129
  obtain ⟨rfl, Nq129, hh129⟩ := hQ129
  have N129 := Fr.app N0 Nq129
  have k130 : Rch p e below S0 T129 (mkF m 6 #[vR a1, vI 45] [(.int (Int32.ofNat n)), (.int (45 : Int32)), (.ref a1)]) := fun t h => k128 t (st129.trans h)
  have k131 : Rch p e below S0 T129 (mkF m 8 #[vR a1, vI 45] [(.int ((Int32.ofNat n) - (1 : Int32))), (.int (45 : Int32)), (.ref a1)]) := fun t h => k130 t (by
      show Steps p.tables e below (T129.setTop (mkF m 6 #[vR a1, vI 45] [(.int (Int32.ofNat n)), (.int (45 : Int32)), (.ref a1)])) _
      refine XS.iconst X129.here hx rfl (hb hby d7_6) ?_
      refine XS.isub X129.here hx rfl (hb hby d7_7) rfl ?_
      exact h)
  obtain ⟨cq132, kq132, q132a, q132b, q132c⟩ := isOf hZ hh129 Ex
  obtain ⟨_, _, ⟨T132, L132, kk132, n132⟩, -, X132, ⟨Lc132, hQ132, l132, y132, z132⟩, st132⟩ := X129.virtualBack hx (y := (⟨"java/lang/String", "lastIndexOf", "(II)I"⟩ : MethodName)) (z := (⟨"java/lang/String", "lastIndexOf", "(II)I"⟩ : MethodName)) hown (mvT hZ (hw _ (gm 50 rfl))) (mvT hZ (hw _ (gm 51 rfl))) (notFace_of_selects (args := #[]) (mvT hZ (hw _ (gm 53 rfl)))) (mvT hZ (hw _ (gm 53 rfl))) (mvT hZ (hw _ (gm 52 rfl))) (by decide) (backOf (W := 0) (rmL2 l Z a0 hw []  a1 tt kt n cs zC n h0 n0 O0 SC hzC Ex Fv Fc Vt hl hn hp (Nat.le_refl n)) hZ (hw _ (gm 54 rfl)) (hw _ (gm 8 rfl)) (by decide) (by decide)) q132a q132c (g := (mkF m 8 #[vR a1, vI 45] [(.int ((Int32.ofNat n) - (1 : Int32))), (.int (45 : Int32)), (.ref a1)])) rfl (by rw [hml]; rfl) (Steps.refl _) (argsL := [(.int (45 : Int32)), (.int ((Int32.ofNat n) - (1 : Int32)))]) (rest := []) (lenOf pd_9 rfl) rfl (by show 2 * 0 + _ ≤ _; exact Nat.le_of_eq rfl) (hb hby d7_8) (fun _ _ => ⟨rfl, hh129, (by decide : 0 + 0 ≤ _), (by decide : 0 + 0 ≤ _)⟩)
  dsimp only [Pt.U, Pt.locs, Pt.cells, Pt.slots] at X132 l132 y132 z132 st132 hQ132
  subst l132 y132 z132
  obtain ⟨rfl, Nq132, hh132⟩ := hQ132
  have N132 := Fr.app N129 Nq132
  have k133 : Rch p e below S0 T132 (mkF m 11 #[vR a1, vI 45] [(.int (own_lir (cs.map kc) n))]) := fun t h => k131 t (st132.trans h)
  obtain ⟨fs, hr, hrun, hended, hW, hsame⟩ := X132.leave (v := (some (.int (own_lir (cs.map kc) n)))) (fun h => by rw [Bd.returns] at h; cases h)
  refine ⟨_, _, ?_, hrun, hended, _, _, rfl, ?_, ⟨_, rfl⟩, hW, hsame.mono (by decide) (by decide)⟩
  · rw [← hS0]
    refine k133 _ ?_
    show Steps p.tables e below (T132.setTop (mkF m 11 #[vR a1, vI 45] [(.int (own_lir (cs.map kc) n))])) _
    exact retI X132 hx Bd.returns (hb hby d7_11) hr
  · show Q_rmL1 Z n cs h0 n0 _ T132.heap _
    rw [hh132]
    exact ⟨rfl, N132, rfl⟩
def Q_rmPIn (Z : State) (i : Nat) (h0 : Heap) (n0 : Nat) (v : Option Value) (h : Heap) (L : List Loc) : Prop := v = some (.int (Int32.ofNat i)) ∧ Fr n0 L ∧ h = h0
theorem ef_23n (m : MethodId) (x0 : Int32) (x1 : Int32) : entryFrame m #[(.int x0), (.int x1), .null] 3 = mkF m 0 #[.val (.int x0), .val (.int x1), .val .null] [] := by first | (simp [entryFrame, mkF, argsToLocals, Value.category]; done) | rfl
theorem pn_Preconditions : plainName "jdk/internal/util/Preconditions" = true := by first | (simp [plainName, overriddenIn]; done) | decide +kernel
theorem d23_0 : decode jdk_41_method_11_code 0 = .ok (.iload_n 0, 1) := by decide +kernel
theorem d23_1 : decode jdk_41_method_11_code 1 = .ok (.ifCond .lt 8, 3) := by decide +kernel
theorem d23_4 : decode jdk_41_method_11_code 4 = .ok (.iload_n 0, 1) := by decide +kernel
theorem d23_5 : decode jdk_41_method_11_code 5 = .ok (.iload_n 1, 1) := by decide +kernel
theorem d23_6 : decode jdk_41_method_11_code 6 = .ok (.if_icmp .lt 10, 3) := by decide +kernel
theorem d23_16 : decode jdk_41_method_11_code 16 = .ok (.iload_n 0, 1) := by decide +kernel
theorem d23_17 : decode jdk_41_method_11_code 17 = .ok (.ireturn, 1) := by decide +kernel
set_option maxRecDepth 65536 in
set_option maxHeartbeats 40000000 in
theorem rmPIn (l : Launch) (Z : State) (a0 : Array Value) (hw : ∀ d ∈ tables_1, d.before a0 Z = true) (ws : List Jvm.Cond) (i : Nat) (n : Nat) (h0 : Heap) (n0 : Nat) (O0 : Old Z n0 h0) (hi : i < n) (hn : n ≤ 7) :
    MetFree l (⟨"jdk/internal/util/Preconditions", "checkIndex", "(IILjava/util/function/BiFunction;)I"⟩ : MethodName) (head1 (Jvm.Cond.code (⟨"jdk/internal/util/Preconditions", "checkIndex", "(IILjava/util/function/BiFunction;)I"⟩ : MethodName) jdk_41_method_11_code 3 (some .int) :: ws) ({ frames := 0, cells := 0, slots := 0, locals := 0 } : Room)) (fun a U => a = #[(.int (Int32.ofNat i)), (.int (Int32.ofNat n)), .null] ∧ Z.Warmed39 U.vm ∧ U.heap = h0) (fun _ _ _ _ _ => True) (fun _ U o U' => ∃ v L, o = .returned v ∧ Q_rmPIn Z i h0 n0 v U'.heap L ∧ FrameEnd U o U' L ({ frames := 0, cells := 0, slots := 0, locals := 0 } : Room).cells ({ frames := 0, cells := 0, slots := 0, locals := 0 } : Room).slots) := by
  refine MetFree.of_bodySF (plainFor_of_name pn_Preconditions) hisR ?_
  intro p e s m args below meth c s₁ Bd hml0 hP hK
  obtain ⟨rfl, hZ, hh⟩ := hP
  have hx := Bd.exec
  have hby := Bd.bytes
  have hml : c.maxLocals = 3 := hml0
  have hown : s.vm.findClass "jdk/internal/util/Preconditions" = some m.cls := findClass_of_methodNamed Bd.named
  have hnm := (name_of_methodNamed Bd.named Bd.method).1
  have X0 : Stand p l e ({ frames := 0, cells := 0, slots := 0, locals := 0 } : Room) s m #[(.int (Int32.ofNat i)), (.int (Int32.ofNat n)), .null] below meth c s₁ [] 0 0 := Stand.of_body Bd
  have e0 : s₁.heap = h0 := by rw [← hh, Bd.state]; rfl
  have N0 := Fr.nil n0
  obtain ⟨S0, hS0⟩ : ∃ z, z = s₁.setTop (entryFrame m #[(.int (Int32.ofNat i)), (.int (Int32.ofNat n)), .null] 3) := ⟨_, rfl⟩
  have k0 : Rch p e below S0 s₁ (mkF m 0 #[vI (Int32.ofNat i), vI (Int32.ofNat n), .val .null] []) := fun t kq => hS0 ▸ castTop (ef_23n m (Int32.ofNat i) (Int32.ofNat n)) kq
  have k134 : Rch p e below S0 s₁ (mkF m 17 #[vI (Int32.ofNat i), vI (Int32.ofNat n), .val .null] [(.int (Int32.ofNat i))]) := fun t h => k0 t (by
      show Steps p.tables e below (s₁.setTop (mkF m 0 #[vI (Int32.ofNat i), vI (Int32.ofNat n), .val .null] [])) _
      refine XS.iloadN X0.here hx rfl (hb hby d23_0) rfl ?_
      refine XS.ifNo X0.here hx rfl (hb hby d23_1) rfl ((if0 _ _).trans (flt ((own_on0 (by omega)) : ¬ ((Int32.ofNat i) < (0 : Int32)))).1) ?_
      refine XS.iloadN X0.here hx rfl (hb hby d23_4) rfl ?_
      refine XS.iloadN X0.here hx rfl (hb hby d23_5) rfl ?_
      refine XS.icmpYes X0.here hx rfl (pc0 := 6) (pc' := 16) rfl (hb hby d23_6) rfl (tlt (((own_olt (by omega) (by omega)).mpr hi) : (Int32.ofNat i) < (Int32.ofNat n))).1 (by decide) (by decide) ?_
      refine XS.iloadN X0.here hx rfl (hb hby d23_16) rfl ?_
      exact h)
  obtain ⟨fs, hr, hrun, hended, hW, hsame⟩ := X0.leave (v := (some (.int (Int32.ofNat i)))) (fun h => by rw [Bd.returns] at h; cases h)
  refine ⟨_, _, ?_, hrun, hended, _, _, rfl, ?_, ⟨_, rfl⟩, hW, hsame.mono (by decide) (by decide)⟩
  · rw [← hS0]
    refine k134 _ ?_
    show Steps p.tables e below (s₁.setTop (mkF m 17 #[vI (Int32.ofNat i), vI (Int32.ofNat n), .val .null] [(.int (Int32.ofNat i))])) _
    exact retI X0 hx Bd.returns (hb hby d23_17) hr
  · show Q_rmPIn Z i h0 n0 _ s₁.heap _
    rw [e0]
    exact ⟨rfl, N0, rfl⟩
def Q_rmXIn (Z : State)  (h0 : Heap) (n0 : Nat) (v : Option Value) (h : Heap) (L : List Loc) : Prop := v = none ∧ Fr n0 L ∧ h = h0
theorem ef_22 (m : MethodId) (x0 : Int32) (x1 : Int32) : entryFrame m #[(.int x0), (.int x1)] 2 = mkF m 0 #[.val (.int x0), .val (.int x1)] [] := by first | (simp [entryFrame, mkF, argsToLocals, Value.category]; done) | rfl
theorem d22_0 : decode jdk_42_method_155_code 0 = .ok (.iload_n 0, 1) := by decide +kernel
theorem d22_1 : decode jdk_42_method_155_code 1 = .ok (.iload_n 1, 1) := by decide +kernel
theorem d22_2 : decode jdk_42_method_155_code 2 = .ok (.getstatic 1053, 3) := by decide +kernel
theorem pd_21 : parseMethodDescriptor "(IILjava/util/function/BiFunction;)I" = some ⟨[.int, .int, (.object "java/util/function/BiFunction")], some .int⟩ := by decide +kernel
theorem d22_5 : decode jdk_42_method_155_code 5 = .ok (.invokestatic 1059, 3) := by decide +kernel
theorem d22_8 : decode jdk_42_method_155_code 8 = .ok (.pop, 1) := by decide +kernel
theorem d22_9 : decode jdk_42_method_155_code 9 = .ok (.return_, 1) := by decide +kernel
set_option maxRecDepth 65536 in
set_option maxHeartbeats 40000000 in
theorem rmXIn (l : Launch) (Z : State) (a0 : Array Value) (hw : ∀ d ∈ tables_1, d.before a0 Z = true) (ws : List Jvm.Cond) (i : Nat) (n : Nat) (h0 : Heap) (n0 : Nat) (O0 : Old Z n0 h0) (SP : Sta Z Z.heap "jdk/internal/util/Preconditions" "SIOOBE_FORMATTER" "Ljava/util/function/BiFunction;" .null) (hi : i < n) (hn : n ≤ 7) :
    MetFree l (⟨"java/lang/String", "checkIndex", "(II)V"⟩ : MethodName) (head1 (Jvm.Cond.code (⟨"java/lang/String", "checkIndex", "(II)V"⟩ : MethodName) jdk_42_method_155_code 2 none :: ws) ({ frames := 1, cells := 0, slots := 0, locals := 24 } : Room)) (fun a U => a = #[(.int (Int32.ofNat i)), (.int (Int32.ofNat n))] ∧ Z.Warmed39 U.vm ∧ U.heap = h0) (fun _ _ _ _ _ => True) (fun _ U o U' => ∃ v L, o = .returned v ∧ Q_rmXIn Z  h0 n0 v U'.heap L ∧ FrameEnd U o U' L ({ frames := 1, cells := 0, slots := 0, locals := 24 } : Room).cells ({ frames := 1, cells := 0, slots := 0, locals := 24 } : Room).slots) := by
  refine MetFree.of_bodySF (plainFor_of_name pn_String) hisR ?_
  intro p e s m args below meth c s₁ Bd hml0 hP hK
  obtain ⟨rfl, hZ, hh⟩ := hP
  have hx := Bd.exec
  have hby := Bd.bytes
  have hml : c.maxLocals = 2 := hml0
  have hown : s.vm.findClass "java/lang/String" = some m.cls := findClass_of_methodNamed Bd.named
  have hnm := (name_of_methodNamed Bd.named Bd.method).1
  have X0 : Stand p l e ({ frames := 1, cells := 0, slots := 0, locals := 24 } : Room) s m #[(.int (Int32.ofNat i)), (.int (Int32.ofNat n))] below meth c s₁ [] 0 0 := Stand.of_body Bd
  have e0 : s₁.heap = h0 := by rw [← hh, Bd.state]; rfl
  have N0 := Fr.nil n0
  obtain ⟨S0, hS0⟩ : ∃ z, z = s₁.setTop (entryFrame m #[(.int (Int32.ofNat i)), (.int (Int32.ofNat n))] 2) := ⟨_, rfl⟩
  have k0 : Rch p e below S0 s₁ (mkF m 0 #[vI (Int32.ofNat i), vI (Int32.ofNat n)] []) := fun t kq => hS0 ▸ castTop (ef_22 m (Int32.ofNat i) (Int32.ofNat n)) kq
  have k136 : Rch p e below S0 s₁ (mkF m 2 #[vI (Int32.ofNat i), vI (Int32.ofNat n)] [(.int (Int32.ofNat n)), (.int (Int32.ofNat i))]) := fun t h => k0 t (by
      show Steps p.tables e below (s₁.setTop (mkF m 0 #[vI (Int32.ofNat i), vI (Int32.ofNat n)] [])) _
      refine XS.iloadN X0.here hx rfl (hb hby d22_0) rfl ?_
      refine XS.iloadN X0.here hx rfl (hb hby d22_1) rfl ?_
      exact h)
  obtain ⟨T135, X135, e135, st135⟩ := getS2 X0 hx hZ hown (host := "") (Or.inl (hw _ (gm 100 rfl))) Via.refl e0 (SP.ext O0.2) (g := (mkF m 2 #[vI (Int32.ofNat i), vI (Int32.ofNat n)] [(.int (Int32.ofNat n)), (.int (Int32.ofNat i))])) rfl (hb hby d22_2)
  have k137 : Rch p e below S0 T135 (mkF m 5 #[vI (Int32.ofNat i), vI (Int32.ofNat n)] [.null, (.int (Int32.ofNat n)), (.int (Int32.ofNat i))]) := fun t h => k136 t (st135 t h)
  obtain ⟨_, _, ⟨T138, L138, kk138, n138⟩, -, X138, ⟨Lc138, hQ138, l138, y138, z138⟩, st138⟩ := Jvm.LawKit.callS X135 hx (y := (⟨"jdk/internal/util/Preconditions", "checkIndex", "(IILjava/util/function/BiFunction;)I"⟩ : MethodName)) hown (mvT hZ (hw _ (gm 102 rfl))) (mvT hZ (hw _ (gm 103 rfl))) (mvT hZ (hw _ (gm 101 rfl))) (mvT hZ (hw _ (gm 104 rfl))) (by decide) (backOf (W := 0) (rmPIn l Z a0 hw [] i n  h0 n0 O0 hi hn) hZ (hw _ (gm 104 rfl)) (hw _ (gm 101 rfl)) (by decide) (by decide)) (g := (mkF m 5 #[vI (Int32.ofNat i), vI (Int32.ofNat n)] [.null, (.int (Int32.ofNat n)), (.int (Int32.ofNat i))])) rfl (by rw [hml]; rfl) (argsL := [(.int (Int32.ofNat i)), (.int (Int32.ofNat n)), .null]) (rest := []) (lenOf pd_21 rfl) rfl (by show 2 * 0 + _ ≤ _; exact Nat.le_of_eq rfl) (hb hby d22_5) (fun _ _ => ⟨rfl, e135, (by decide : 0 + 0 ≤ _), (by decide : 0 + 0 ≤ _)⟩)
  dsimp only [Pt.U, Pt.locs, Pt.cells, Pt.slots] at X138 l138 y138 z138 st138 hQ138
  subst l138 y138 z138
  obtain ⟨rfl, Nq138, hh138⟩ := hQ138
  have N138 := Fr.app N0 Nq138
  have k139 : Rch p e below S0 T138 (mkF m 8 #[vI (Int32.ofNat i), vI (Int32.ofNat n)] [(.int (Int32.ofNat i))]) := fun t h => k137 t (st138 t h)
  have k140 : Rch p e below S0 T138 (mkF m 9 #[vI (Int32.ofNat i), vI (Int32.ofNat n)] []) := fun t h => k139 t (by
      show Steps p.tables e below (T138.setTop (mkF m 8 #[vI (Int32.ofNat i), vI (Int32.ofNat n)] [(.int (Int32.ofNat i))])) _
      refine XS.pop X138.here hx rfl (hb hby d22_8) rfl rfl ?_
      exact h)
  obtain ⟨fs, hr, hrun, hended, hW, hsame⟩ := X138.leave (v := none) (fun _ => rfl)
  refine ⟨_, _, ?_, hrun, hended, _, _, rfl, ?_, ⟨_, rfl⟩, hW, hsame.mono (by decide) (by decide)⟩
  · rw [← hS0]
    refine k140 _ ?_
    show Steps p.tables e below (T138.setTop (mkF m 9 #[vI (Int32.ofNat i), vI (Int32.ofNat n)] [])) _
    exact X138.returnOut hx Bd.returns (hb hby d22_9) hr
  · show Q_rmXIn Z  h0 n0 _ T138.heap _
    rw [hh138]
    exact ⟨rfl, N138, rfl⟩
def Q_rmPIr (Z : State) (i : Nat) (h0 : Heap) (n0 : Nat) (v : Option Value) (h : Heap) (L : List Loc) : Prop := v = some (.int (Int32.ofNat i)) ∧ Fr n0 L ∧ h = h0
theorem ef_23 (m : MethodId) (x0 : Int32) (x1 : Int32) (x2 : Addr) : entryFrame m #[(.int x0), (.int x1), (.ref x2)] 3 = mkF m 0 #[.val (.int x0), .val (.int x1), .val (.ref x2)] [] := by first | (simp [entryFrame, mkF, argsToLocals, Value.category]; done) | rfl
set_option maxRecDepth 65536 in
set_option maxHeartbeats 40000000 in
theorem rmPIr (l : Launch) (Z : State) (a0 : Array Value) (hw : ∀ d ∈ tables_1, d.before a0 Z = true) (ws : List Jvm.Cond) (i : Nat) (n : Nat) (wP : Addr) (h0 : Heap) (n0 : Nat) (O0 : Old Z n0 h0) (hi : i < n) (hn : n ≤ 7) :
    MetFree l (⟨"jdk/internal/util/Preconditions", "checkIndex", "(IILjava/util/function/BiFunction;)I"⟩ : MethodName) (head1 (Jvm.Cond.code (⟨"jdk/internal/util/Preconditions", "checkIndex", "(IILjava/util/function/BiFunction;)I"⟩ : MethodName) jdk_41_method_11_code 3 (some .int) :: ws) ({ frames := 0, cells := 0, slots := 0, locals := 0 } : Room)) (fun a U => a = #[(.int (Int32.ofNat i)), (.int (Int32.ofNat n)), (.ref wP)] ∧ Z.Warmed39 U.vm ∧ U.heap = h0) (fun _ _ _ _ _ => True) (fun _ U o U' => ∃ v L, o = .returned v ∧ Q_rmPIr Z i h0 n0 v U'.heap L ∧ FrameEnd U o U' L ({ frames := 0, cells := 0, slots := 0, locals := 0 } : Room).cells ({ frames := 0, cells := 0, slots := 0, locals := 0 } : Room).slots) := by
  refine MetFree.of_bodySF (plainFor_of_name pn_Preconditions) hisR ?_
  intro p e s m args below meth c s₁ Bd hml0 hP hK
  obtain ⟨rfl, hZ, hh⟩ := hP
  have hx := Bd.exec
  have hby := Bd.bytes
  have hml : c.maxLocals = 3 := hml0
  have hown : s.vm.findClass "jdk/internal/util/Preconditions" = some m.cls := findClass_of_methodNamed Bd.named
  have hnm := (name_of_methodNamed Bd.named Bd.method).1
  have X0 : Stand p l e ({ frames := 0, cells := 0, slots := 0, locals := 0 } : Room) s m #[(.int (Int32.ofNat i)), (.int (Int32.ofNat n)), (.ref wP)] below meth c s₁ [] 0 0 := Stand.of_body Bd
  have e0 : s₁.heap = h0 := by rw [← hh, Bd.state]; rfl
  have N0 := Fr.nil n0
  obtain ⟨S0, hS0⟩ : ∃ z, z = s₁.setTop (entryFrame m #[(.int (Int32.ofNat i)), (.int (Int32.ofNat n)), (.ref wP)] 3) := ⟨_, rfl⟩
  have k0 : Rch p e below S0 s₁ (mkF m 0 #[vI (Int32.ofNat i), vI (Int32.ofNat n), vR wP] []) := fun t kq => hS0 ▸ castTop (ef_23 m (Int32.ofNat i) (Int32.ofNat n) wP) kq
  have k141 : Rch p e below S0 s₁ (mkF m 17 #[vI (Int32.ofNat i), vI (Int32.ofNat n), vR wP] [(.int (Int32.ofNat i))]) := fun t h => k0 t (by
      show Steps p.tables e below (s₁.setTop (mkF m 0 #[vI (Int32.ofNat i), vI (Int32.ofNat n), vR wP] [])) _
      refine XS.iloadN X0.here hx rfl (hb hby d23_0) rfl ?_
      refine XS.ifNo X0.here hx rfl (hb hby d23_1) rfl ((if0 _ _).trans (flt ((own_on0 (by omega)) : ¬ ((Int32.ofNat i) < (0 : Int32)))).1) ?_
      refine XS.iloadN X0.here hx rfl (hb hby d23_4) rfl ?_
      refine XS.iloadN X0.here hx rfl (hb hby d23_5) rfl ?_
      refine XS.icmpYes X0.here hx rfl (pc0 := 6) (pc' := 16) rfl (hb hby d23_6) rfl (tlt (((own_olt (by omega) (by omega)).mpr hi) : (Int32.ofNat i) < (Int32.ofNat n))).1 (by decide) (by decide) ?_
      refine XS.iloadN X0.here hx rfl (hb hby d23_16) rfl ?_
      exact h)
  obtain ⟨fs, hr, hrun, hended, hW, hsame⟩ := X0.leave (v := (some (.int (Int32.ofNat i)))) (fun h => by rw [Bd.returns] at h; cases h)
  refine ⟨_, _, ?_, hrun, hended, _, _, rfl, ?_, ⟨_, rfl⟩, hW, hsame.mono (by decide) (by decide)⟩
  · rw [← hS0]
    refine k141 _ ?_
    show Steps p.tables e below (s₁.setTop (mkF m 17 #[vI (Int32.ofNat i), vI (Int32.ofNat n), vR wP] [(.int (Int32.ofNat i))])) _
    exact retI X0 hx Bd.returns (hb hby d23_17) hr
  · show Q_rmPIr Z i h0 n0 _ s₁.heap _
    rw [e0]
    exact ⟨rfl, N0, rfl⟩
def Q_rmXIr (Z : State)  (h0 : Heap) (n0 : Nat) (v : Option Value) (h : Heap) (L : List Loc) : Prop := v = none ∧ Fr n0 L ∧ h = h0
set_option maxRecDepth 65536 in
set_option maxHeartbeats 40000000 in
theorem rmXIr (l : Launch) (Z : State) (a0 : Array Value) (hw : ∀ d ∈ tables_1, d.before a0 Z = true) (ws : List Jvm.Cond) (i : Nat) (n : Nat) (wP : Addr) (h0 : Heap) (n0 : Nat) (O0 : Old Z n0 h0) (SP : Sta Z Z.heap "jdk/internal/util/Preconditions" "SIOOBE_FORMATTER" "Ljava/util/function/BiFunction;" (.ref wP)) (hi : i < n) (hn : n ≤ 7) :
    MetFree l (⟨"java/lang/String", "checkIndex", "(II)V"⟩ : MethodName) (head1 (Jvm.Cond.code (⟨"java/lang/String", "checkIndex", "(II)V"⟩ : MethodName) jdk_42_method_155_code 2 none :: ws) ({ frames := 1, cells := 0, slots := 0, locals := 24 } : Room)) (fun a U => a = #[(.int (Int32.ofNat i)), (.int (Int32.ofNat n))] ∧ Z.Warmed39 U.vm ∧ U.heap = h0) (fun _ _ _ _ _ => True) (fun _ U o U' => ∃ v L, o = .returned v ∧ Q_rmXIr Z  h0 n0 v U'.heap L ∧ FrameEnd U o U' L ({ frames := 1, cells := 0, slots := 0, locals := 24 } : Room).cells ({ frames := 1, cells := 0, slots := 0, locals := 24 } : Room).slots) := by
  refine MetFree.of_bodySF (plainFor_of_name pn_String) hisR ?_
  intro p e s m args below meth c s₁ Bd hml0 hP hK
  obtain ⟨rfl, hZ, hh⟩ := hP
  have hx := Bd.exec
  have hby := Bd.bytes
  have hml : c.maxLocals = 2 := hml0
  have hown : s.vm.findClass "java/lang/String" = some m.cls := findClass_of_methodNamed Bd.named
  have hnm := (name_of_methodNamed Bd.named Bd.method).1
  have X0 : Stand p l e ({ frames := 1, cells := 0, slots := 0, locals := 24 } : Room) s m #[(.int (Int32.ofNat i)), (.int (Int32.ofNat n))] below meth c s₁ [] 0 0 := Stand.of_body Bd
  have e0 : s₁.heap = h0 := by rw [← hh, Bd.state]; rfl
  have N0 := Fr.nil n0
  obtain ⟨S0, hS0⟩ : ∃ z, z = s₁.setTop (entryFrame m #[(.int (Int32.ofNat i)), (.int (Int32.ofNat n))] 2) := ⟨_, rfl⟩
  have k0 : Rch p e below S0 s₁ (mkF m 0 #[vI (Int32.ofNat i), vI (Int32.ofNat n)] []) := fun t kq => hS0 ▸ castTop (ef_22 m (Int32.ofNat i) (Int32.ofNat n)) kq
  have k143 : Rch p e below S0 s₁ (mkF m 2 #[vI (Int32.ofNat i), vI (Int32.ofNat n)] [(.int (Int32.ofNat n)), (.int (Int32.ofNat i))]) := fun t h => k0 t (by
      show Steps p.tables e below (s₁.setTop (mkF m 0 #[vI (Int32.ofNat i), vI (Int32.ofNat n)] [])) _
      refine XS.iloadN X0.here hx rfl (hb hby d22_0) rfl ?_
      refine XS.iloadN X0.here hx rfl (hb hby d22_1) rfl ?_
      exact h)
  obtain ⟨T142, X142, e142, st142⟩ := getS2 X0 hx hZ hown (host := "") (Or.inl (hw _ (gm 100 rfl))) Via.refl e0 (SP.ext O0.2) (g := (mkF m 2 #[vI (Int32.ofNat i), vI (Int32.ofNat n)] [(.int (Int32.ofNat n)), (.int (Int32.ofNat i))])) rfl (hb hby d22_2)
  have k144 : Rch p e below S0 T142 (mkF m 5 #[vI (Int32.ofNat i), vI (Int32.ofNat n)] [(.ref wP), (.int (Int32.ofNat n)), (.int (Int32.ofNat i))]) := fun t h => k143 t (st142 t h)
  obtain ⟨_, _, ⟨T145, L145, kk145, n145⟩, -, X145, ⟨Lc145, hQ145, l145, y145, z145⟩, st145⟩ := Jvm.LawKit.callS X142 hx (y := (⟨"jdk/internal/util/Preconditions", "checkIndex", "(IILjava/util/function/BiFunction;)I"⟩ : MethodName)) hown (mvT hZ (hw _ (gm 102 rfl))) (mvT hZ (hw _ (gm 103 rfl))) (mvT hZ (hw _ (gm 101 rfl))) (mvT hZ (hw _ (gm 104 rfl))) (by decide) (backOf (W := 0) (rmPIr l Z a0 hw [] i n wP  h0 n0 O0 hi hn) hZ (hw _ (gm 104 rfl)) (hw _ (gm 101 rfl)) (by decide) (by decide)) (g := (mkF m 5 #[vI (Int32.ofNat i), vI (Int32.ofNat n)] [(.ref wP), (.int (Int32.ofNat n)), (.int (Int32.ofNat i))])) rfl (by rw [hml]; rfl) (argsL := [(.int (Int32.ofNat i)), (.int (Int32.ofNat n)), (.ref wP)]) (rest := []) (lenOf pd_21 rfl) rfl (by show 2 * 0 + _ ≤ _; exact Nat.le_of_eq rfl) (hb hby d22_5) (fun _ _ => ⟨rfl, e142, (by decide : 0 + 0 ≤ _), (by decide : 0 + 0 ≤ _)⟩)
  dsimp only [Pt.U, Pt.locs, Pt.cells, Pt.slots] at X145 l145 y145 z145 st145 hQ145
  subst l145 y145 z145
  obtain ⟨rfl, Nq145, hh145⟩ := hQ145
  have N145 := Fr.app N0 Nq145
  have k146 : Rch p e below S0 T145 (mkF m 8 #[vI (Int32.ofNat i), vI (Int32.ofNat n)] [(.int (Int32.ofNat i))]) := fun t h => k144 t (st145 t h)
  have k147 : Rch p e below S0 T145 (mkF m 9 #[vI (Int32.ofNat i), vI (Int32.ofNat n)] []) := fun t h => k146 t (by
      show Steps p.tables e below (T145.setTop (mkF m 8 #[vI (Int32.ofNat i), vI (Int32.ofNat n)] [(.int (Int32.ofNat i))])) _
      refine XS.pop X145.here hx rfl (hb hby d22_8) rfl rfl ?_
      exact h)
  obtain ⟨fs, hr, hrun, hended, hW, hsame⟩ := X145.leave (v := none) (fun _ => rfl)
  refine ⟨_, _, ?_, hrun, hended, _, _, rfl, ?_, ⟨_, rfl⟩, hW, hsame.mono (by decide) (by decide)⟩
  · rw [← hS0]
    refine k147 _ ?_
    show Steps p.tables e below (T145.setTop (mkF m 9 #[vI (Int32.ofNat i), vI (Int32.ofNat n)] [])) _
    exact X145.returnOut hx Bd.returns (hb hby d22_9) hr
  · show Q_rmXIr Z  h0 n0 _ T145.heap _
    rw [hh145]
    exact ⟨rfl, N145, rfl⟩
def Q_rmXI (Z : State) (h0 : Heap) (n0 : Nat) (v : Option Value) (h : Heap) (L : List Loc) : Prop := v = none ∧ Fr n0 L ∧ h = h0
theorem rmXI (l : Launch) (Z : State) (a0 : Array Value) (hw : ∀ d ∈ tables_1, d.before a0 Z = true) (ws : List Jvm.Cond) (i n : Nat) (fm : Value) (h0 : Heap) (n0 : Nat) (O0 : Old Z n0 h0) (SP : Sta Z Z.heap "jdk/internal/util/Preconditions" "SIOOBE_FORMATTER" "Ljava/util/function/BiFunction;" fm) (hfm : fm = .null ∨ ∃ wP, fm = .ref wP) (hi : i < n) (hn : n ≤ 7) :
    MetFree l (⟨"java/lang/String", "checkIndex", "(II)V"⟩ : MethodName) (head1 (Jvm.Cond.code (⟨"java/lang/String", "checkIndex", "(II)V"⟩ : MethodName) jdk_42_method_155_code 2 none :: ws) ({ frames := 1, cells := 0, slots := 0, locals := 24 } : Room)) (fun a U => a = #[(.int (Int32.ofNat i)), (.int (Int32.ofNat n))] ∧ Z.Warmed39 U.vm ∧ U.heap = h0) (fun _ _ _ _ _ => True) (fun _ U o U' => ∃ v L, o = .returned v ∧ Q_rmXI Z h0 n0 v U'.heap L ∧ FrameEnd U o U' L ({ frames := 1, cells := 0, slots := 0, locals := 24 } : Room).cells ({ frames := 1, cells := 0, slots := 0, locals := 24 } : Room).slots) := by
  rcases hfm with rfl | ⟨wP, rfl⟩
  · exact rmXIn l Z a0 hw ws i n h0 n0 O0 SP hi hn
  · exact rmXIr l Z a0 hw ws i n wP h0 n0 O0 SP hi hn
def Q_rmLC (Z : State) (cs : List Int32) (i : Nat) (h0 : Heap) (n0 : Nat) (v : Option Value) (h : Heap) (L : List Loc) : Prop := v = some (.int (cs.getD i 0)) ∧ Fr n0 L ∧ h = h0
theorem ef_21 (m : MethodId) (x0 : Addr) (x1 : Int32) : entryFrame m #[(.ref x0), (.int x1)] 2 = mkF m 0 #[.val (.ref x0), .val (.int x1)] [] := by first | (simp [entryFrame, mkF, argsToLocals, Value.category]; done) | rfl
theorem d21_0 : decode jdk_43_method_2_code 0 = .ok (.iload_n 1, 1) := by decide +kernel
theorem d21_1 : decode jdk_43_method_2_code 1 = .ok (.aload_n 0, 1) := by decide +kernel
theorem d21_2 : decode jdk_43_method_2_code 2 = .ok (.arraylength, 1) := by decide +kernel
theorem pd_20 : parseMethodDescriptor "(II)V" = some ⟨[.int, .int], none⟩ := by decide +kernel
theorem d21_3 : decode jdk_43_method_2_code 3 = .ok (.invokestatic 9, 3) := by decide +kernel
theorem d21_6 : decode jdk_43_method_2_code 6 = .ok (.aload_n 0, 1) := by decide +kernel
theorem d21_7 : decode jdk_43_method_2_code 7 = .ok (.iload_n 1, 1) := by decide +kernel
theorem d21_8 : decode jdk_43_method_2_code 8 = .ok (.baload, 1) := by decide +kernel
theorem d21_9 : decode jdk_43_method_2_code 9 = .ok (.sipush 255, 3) := by decide +kernel
theorem d21_12 : decode jdk_43_method_2_code 12 = .ok (.iand, 1) := by decide +kernel
theorem d21_13 : decode jdk_43_method_2_code 13 = .ok (.i2c, 1) := by decide +kernel
theorem d21_14 : decode jdk_43_method_2_code 14 = .ok (.ireturn, 1) := by decide +kernel
set_option maxRecDepth 65536 in
set_option maxHeartbeats 40000000 in
theorem rmLC (l : Launch) (Z : State) (a0 : Array Value) (hw : ∀ d ∈ tables_1, d.before a0 Z = true) (ws : List Jvm.Cond) (tt : Addr) (kt : ClassId) (n : Nat) (cs : List Int32) (i : Nat) (fm : Value) (h0 : Heap) (n0 : Nat) (O0 : Old Z n0 h0) (SP : Sta Z Z.heap "jdk/internal/util/Preconditions" "SIOOBE_FORMATTER" "Ljava/util/function/BiFunction;" fm) (hfm : fm = .null ∨ ∃ wP, fm = .ref wP) (Vt : Arv Z h0 tt kt .byte (Int32.ofNat n) ((cs.map fun c => c.toInt8.toInt32).map Value.int) (.int (0 : Int32))) (hl : cs.length = n) (hn : n ≤ 7) (hp : ∀ c ∈ cs, ¬ c < 0 ∧ ¬ (255 : Int32) < c) (hi : i < n) :
    MetFree l (⟨"java/lang/StringLatin1", "charAt", "([BI)C"⟩ : MethodName) (head1 (Jvm.Cond.code (⟨"java/lang/StringLatin1", "charAt", "([BI)C"⟩ : MethodName) jdk_43_method_2_code 2 (some .char) :: ws) ({ frames := 2, cells := 0, slots := 0, locals := 46 } : Room)) (fun a U => a = #[(.ref tt), (.int (Int32.ofNat i))] ∧ Z.Warmed39 U.vm ∧ U.heap = h0) (fun _ _ _ _ _ => True) (fun _ U o U' => ∃ v L, o = .returned v ∧ Q_rmLC Z cs i h0 n0 v U'.heap L ∧ FrameEnd U o U' L ({ frames := 2, cells := 0, slots := 0, locals := 46 } : Room).cells ({ frames := 2, cells := 0, slots := 0, locals := 46 } : Room).slots) := by
  refine MetFree.of_bodySF (plainFor_of_name pn_StringLatin1) hisR ?_
  intro p e s m args below meth c s₁ Bd hml0 hP hK
  obtain ⟨rfl, hZ, hh⟩ := hP
  have hx := Bd.exec
  have hby := Bd.bytes
  have hml : c.maxLocals = 2 := hml0
  have hown : s.vm.findClass "java/lang/StringLatin1" = some m.cls := findClass_of_methodNamed Bd.named
  have hnm := (name_of_methodNamed Bd.named Bd.method).1
  have X0 : Stand p l e ({ frames := 2, cells := 0, slots := 0, locals := 46 } : Room) s m #[(.ref tt), (.int (Int32.ofNat i))] below meth c s₁ [] 0 0 := Stand.of_body Bd
  have e0 : s₁.heap = h0 := by rw [← hh, Bd.state]; rfl
  have N0 := Fr.nil n0
  obtain ⟨S0, hS0⟩ : ∃ z, z = s₁.setTop (entryFrame m #[(.ref tt), (.int (Int32.ofNat i))] 2) := ⟨_, rfl⟩
  have k0 : Rch p e below S0 s₁ (mkF m 0 #[vR tt, vI (Int32.ofNat i)] []) := fun t kq => hS0 ▸ castTop (ef_21 m tt (Int32.ofNat i)) kq
  have hic := own_memD cs _ hp i (by omega)
  have k149 : Rch p e below S0 s₁ (mkF m 2 #[vR tt, vI (Int32.ofNat i)] [(.ref tt), (.int (Int32.ofNat i))]) := fun t h => k0 t (by
      show Steps p.tables e below (s₁.setTop (mkF m 0 #[vR tt, vI (Int32.ofNat i)] [])) _
      refine XS.iloadN X0.here hx rfl (hb hby d21_0) rfl ?_
      refine XS.aloadN X0.here hx rfl (hb hby d21_1) rfl rfl ?_
      exact h)
  obtain ⟨cl148, Ar148, q148, Sz148, Ng148, Hs148, G148⟩ := id Vt
  have k150 : Rch p e below S0 s₁ (mkF m 3 #[vR tt, vI (Int32.ofNat i)] [(.int (Int32.ofNat n)), (.int (Int32.ofNat i))]) := fun t h => k149 t (by
      show Steps p.tables e below (s₁.setTop (mkF m 2 #[vR tt, vI (Int32.ofNat i)] [(.ref tt), (.int (Int32.ofNat i))])) _
      refine X0.arraylength hx (by rw [e0]; exact Ar148.1) (State.isArrayOf_alike hZ.alike Ar148.2.1) (g := (mkF m 2 #[vR tt, vI (Int32.ofNat i)] [(.ref tt), (.int (Int32.ofNat i))])) rfl rfl (hb hby d21_2) _ ?_
      rw [len_of Sz148 Ng148]
      exact h)
  obtain ⟨_, _, ⟨T151, L151, kk151, n151⟩, -, X151, ⟨Lc151, hQ151, l151, y151, z151⟩, st151⟩ := Jvm.LawKit.callS X0 hx (y := (⟨"java/lang/String", "checkIndex", "(II)V"⟩ : MethodName)) hown (mvT hZ (hw _ (gm 97 rfl))) (mvT hZ (hw _ (gm 98 rfl))) (mvT hZ (hw _ (gm 8 rfl))) (mvT hZ (hw _ (gm 99 rfl))) (by decide) (backOf (W := 0) (rmXI l Z a0 hw [] i n fm  h0 n0 O0 SP hfm hi hn) hZ (hw _ (gm 99 rfl)) (hw _ (gm 8 rfl)) (by decide) (by decide)) (g := (mkF m 3 #[vR tt, vI (Int32.ofNat i)] [(.int (Int32.ofNat n)), (.int (Int32.ofNat i))])) rfl (by rw [hml]; rfl) (argsL := [(.int (Int32.ofNat i)), (.int (Int32.ofNat n))]) (rest := []) (lenOf pd_20 rfl) rfl (by show 2 * 0 + _ ≤ _; exact Nat.le_of_eq rfl) (hb hby d21_3) (fun _ _ => ⟨rfl, e0, (by decide : 0 + 0 ≤ _), (by decide : 0 + 0 ≤ _)⟩)
  dsimp only [Pt.U, Pt.locs, Pt.cells, Pt.slots] at X151 l151 y151 z151 st151 hQ151
  subst l151 y151 z151
  obtain ⟨rfl, Nq151, hh151⟩ := hQ151
  have N151 := Fr.app N0 Nq151
  have k152 : Rch p e below S0 T151 (mkF m 6 #[vR tt, vI (Int32.ofNat i)] []) := fun t h => k150 t (st151 t h)
  have k154 : Rch p e below S0 T151 (mkF m 8 #[vR tt, vI (Int32.ofNat i)] [(.int (Int32.ofNat i)), (.ref tt)]) := fun t h => k152 t (by
      show Steps p.tables e below (T151.setTop (mkF m 6 #[vR tt, vI (Int32.ofNat i)] [])) _
      refine XS.aloadN X151.here hx rfl (hb hby d21_6) rfl rfl ?_
      refine XS.iloadN X151.here hx rfl (hb hby d21_7) rfl ?_
      exact h)
  obtain ⟨cl153, Ar153, q153, Sz153, Ng153, Hs153, G153⟩ := id Vt
  have hin153 : ¬ ((Int32.ofNat i) < 0 ∨ cl153.slots.size ≤ ((Int32.ofNat i)).toNatClampNeg) := inb_of Sz153 (own_inb (by omega) (by omega))
  have hat153 : cl153.slots[((Int32.ofNat i)).toNatClampNeg]? = some (.int ((cs.getD i 0).toInt8.toInt32)) := Hs153.at hin153 (by rw [(own_tn (by omega)).1]; exact own_atb cs i (by omega))
  have k155 : Rch p e below S0 T151 (mkF m 14 #[vR tt, vI (Int32.ofNat i)] [(.int (cs.getD i 0))]) := fun t h => k154 t (by
      show Steps p.tables e below (T151.setTop (mkF m 8 #[vR tt, vI (Int32.ofNat i)] [(.int (Int32.ofNat i)), (.ref tt)])) _
      refine X151.baloadBytes hx (j := (Int32.ofNat i)) (v := (.int ((cs.getD i 0).toInt8.toInt32))) (by rw [hh151]; exact Ar153.1) (State.isArrayOf_alike hZ.alike Ar153.2.1) Ar153.2.2 hin153 hat153 (g := (mkF m 8 #[vR tt, vI (Int32.ofNat i)] [(.int (Int32.ofNat i)), (.ref tt)])) rfl rfl (hb hby d21_8) _ ?_
      refine XS.sipush X151.here hx rfl (hb hby d21_9) ?_
      show Steps p.tables e below (T151.setTop (mkF m 12 #[vR tt, vI (Int32.ofNat i)] [(.int (255 : Int32)), (.int ((cs.getD i 0).toInt8.toInt32))])) _
      refine XS.iand X151.here hx rfl (hb hby d21_12) rfl ?_
      rw [own_b2c _ hic]
      show Steps p.tables e below (T151.setTop (mkF m 13 #[vR tt, vI (Int32.ofNat i)] [(.int (cs.getD i 0))])) _
      refine XS.i2c X151.here hx rfl (hb hby d21_13) rfl ?_
      rw [(own_nar _ hic).2]
      exact h)
  obtain ⟨fs, hr, hrun, hended, hW, hsame⟩ := X151.leave (v := (some (.int (nar .char (cs.getD i 0))))) (fun h => by rw [Bd.returns] at h; cases h)
  refine ⟨_, _, ?_, hrun, hended, _, _, rfl, ?_, ⟨_, rfl⟩, hW, hsame.mono (by decide) (by decide)⟩
  · rw [← hS0]
    refine k155 _ ?_
    show Steps p.tables e below (T151.setTop (mkF m 14 #[vR tt, vI (Int32.ofNat i)] [(.int (cs.getD i 0))])) _
    exact retN X151 hx (t := .char) Bd.returns (by simp) (hb hby d21_14) hr
  · show Q_rmLC Z cs i h0 n0 _ T151.heap _
    rw [hh151]
    exact ⟨by rw [(own_nar _ hic).1], N151, rfl⟩
def Q_rmCA (Z : State) (cs : List Int32) (i : Nat) (h0 : Heap) (n0 : Nat) (v : Option Value) (h : Heap) (L : List Loc) : Prop := v = some (.int (cs.getD i 0)) ∧ Fr n0 L ∧ h = h0
theorem ef_20 (m : MethodId) (x0 : Addr) (x1 : Int32) : entryFrame m #[(.ref x0), (.int x1)] 2 = mkF m 0 #[.val (.ref x0), .val (.int x1)] [] := by first | (simp [entryFrame, mkF, argsToLocals, Value.category]; done) | rfl
theorem d20_0 : decode jdk_42_method_56_code 0 = .ok (.aload_n 0, 1) := by decide +kernel
theorem d20_1 : decode jdk_42_method_56_code 1 = .ok (.invokevirtual 492, 3) := by decide +kernel
theorem d20_4 : decode jdk_42_method_56_code 4 = .ok (.ifCond .eq 12, 3) := by decide +kernel
theorem d20_7 : decode jdk_42_method_56_code 7 = .ok (.aload_n 0, 1) := by decide +kernel
theorem d20_8 : decode jdk_42_method_56_code 8 = .ok (.getfield 9, 3) := by decide +kernel
theorem d20_11 : decode jdk_42_method_56_code 11 = .ok (.iload_n 1, 1) := by decide +kernel
theorem pd_19 : parseMethodDescriptor "([BI)C" = some ⟨[(.array .byte), .int], some .char⟩ := by decide +kernel
theorem d20_12 : decode jdk_42_method_56_code 12 = .ok (.invokestatic 495, 3) := by decide +kernel
theorem d20_15 : decode jdk_42_method_56_code 15 = .ok (.ireturn, 1) := by decide +kernel
set_option maxRecDepth 65536 in
set_option maxHeartbeats 40000000 in
theorem rmCA (l : Launch) (Z : State) (a0 : Array Value) (hw : ∀ d ∈ tables_1, d.before a0 Z = true) (ws : List Jvm.Cond) (a1 : Addr) (tt : Addr) (kt : ClassId) (n : Nat) (cs : List Int32) (zC : Int32) (i : Nat) (fm : Value) (h0 : Heap) (n0 : Nat) (O0 : Old Z n0 h0) (SC : Sta Z Z.heap "java/lang/String" "COMPACT_STRINGS" "Z" (.int zC)) (hzC : ¬ zC = 0) (Ex : Exa Z h0 a1 "java/lang/String") (Fv : Fld Z h0 a1 "java/lang/String" "value" "[B" (.ref tt)) (Fc : Fld Z h0 a1 "java/lang/String" "coder" "B" (.int (0 : Int32))) (Vt : Arv Z h0 tt kt .byte (Int32.ofNat n) ((cs.map fun c => c.toInt8.toInt32).map Value.int) (.int (0 : Int32))) (hl : cs.length = n) (hn : n ≤ 7) (hp : ∀ c ∈ cs, ¬ c < 0 ∧ ¬ (255 : Int32) < c) (SP : Sta Z Z.heap "jdk/internal/util/Preconditions" "SIOOBE_FORMATTER" "Ljava/util/function/BiFunction;" fm) (hfm : fm = .null ∨ ∃ wP, fm = .ref wP) (hi : i < n) :
    MetFree l (⟨"java/lang/String", "charAt", "(I)C"⟩ : MethodName) (head1 (Jvm.Cond.code (⟨"java/lang/String", "charAt", "(I)C"⟩ : MethodName) jdk_42_method_56_code 2 (some .char) :: ws) ({ frames := 3, cells := 0, slots := 0, locals := 68 } : Room)) (fun a U => a = #[(.ref a1), (.int (Int32.ofNat i))] ∧ Z.Warmed39 U.vm ∧ U.heap = h0) (fun _ _ _ _ _ => True) (fun _ U o U' => ∃ v L, o = .returned v ∧ Q_rmCA Z cs i h0 n0 v U'.heap L ∧ FrameEnd U o U' L ({ frames := 3, cells := 0, slots := 0, locals := 68 } : Room).cells ({ frames := 3, cells := 0, slots := 0, locals := 68 } : Room).slots) := by
  refine MetFree.of_bodySF (plainFor_of_name pn_String) hisR ?_
  intro p e s m args below meth c s₁ Bd hml0 hP hK
  obtain ⟨rfl, hZ, hh⟩ := hP
  have hx := Bd.exec
  have hby := Bd.bytes
  have hml : c.maxLocals = 2 := hml0
  have hown : s.vm.findClass "java/lang/String" = some m.cls := findClass_of_methodNamed Bd.named
  have hnm := (name_of_methodNamed Bd.named Bd.method).1
  have X0 : Stand p l e ({ frames := 3, cells := 0, slots := 0, locals := 68 } : Room) s m #[(.ref a1), (.int (Int32.ofNat i))] below meth c s₁ [] 0 0 := Stand.of_body Bd
  have e0 : s₁.heap = h0 := by rw [← hh, Bd.state]; rfl
  have N0 := Fr.nil n0
  obtain ⟨S0, hS0⟩ : ∃ z, z = s₁.setTop (entryFrame m #[(.ref a1), (.int (Int32.ofNat i))] 2) := ⟨_, rfl⟩
  have k0 : Rch p e below S0 s₁ (mkF m 0 #[vR a1, vI (Int32.ofNat i)] []) := fun t kq => hS0 ▸ castTop (ef_20 m a1 (Int32.ofNat i)) kq
  have hic := own_memD cs _ hp i (by omega)
  have k156 : Rch p e below S0 s₁ (mkF m 1 #[vR a1, vI (Int32.ofNat i)] [(.ref a1)]) := fun t h => k0 t (by
      show Steps p.tables e below (s₁.setTop (mkF m 0 #[vR a1, vI (Int32.ofNat i)] [])) _
      refine XS.aloadN X0.here hx rfl (hb hby d20_0) rfl rfl ?_
      exact h)
  obtain ⟨cq157, kq157, q157a, q157b, q157c⟩ := isOf hZ e0 Ex
  obtain ⟨_, _, ⟨T157, L157, kk157, n157⟩, -, X157, ⟨Lc157, hQ157, l157, y157, z157⟩, st157⟩ := X0.virtualBack hx (y := (⟨"java/lang/String", "isLatin1", "()Z"⟩ : MethodName)) (z := (⟨"java/lang/String", "isLatin1", "()Z"⟩ : MethodName)) hown (mvT hZ (hw _ (gm 55 rfl))) (mvT hZ (hw _ (gm 56 rfl))) (notFace_of_selects (args := #[]) (mvT hZ (hw _ (gm 58 rfl)))) (mvT hZ (hw _ (gm 58 rfl))) (mvT hZ (hw _ (gm 57 rfl))) (by decide) (backOf (W := 0) (rmIL l Z a0 hw [] a1 zC h0 n0 O0 SC hzC Fc) hZ (hw _ (gm 59 rfl)) (hw _ (gm 8 rfl)) (by decide) (by decide)) q157a q157c (g := (mkF m 1 #[vR a1, vI (Int32.ofNat i)] [(.ref a1)])) rfl (by rw [hml]; rfl) (Steps.refl _) (argsL := []) (rest := []) (lenOf pd_10 rfl) rfl (by show 2 * 0 + _ ≤ _; exact Nat.le_of_eq rfl) (hb hby d20_1) (fun _ _ => ⟨rfl, e0, (by decide : 0 + 0 ≤ _), (by decide : 0 + 0 ≤ _)⟩)
  dsimp only [Pt.U, Pt.locs, Pt.cells, Pt.slots] at X157 l157 y157 z157 st157 hQ157
  subst l157 y157 z157
  obtain ⟨rfl, Nq157, hh157⟩ := hQ157
  have N157 := Fr.app N0 Nq157
  have k158 : Rch p e below S0 T157 (mkF m 4 #[vR a1, vI (Int32.ofNat i)] [(.int (1 : Int32))]) := fun t h => k156 t (st157.trans h)
  have k160 : Rch p e below S0 T157 (mkF m 8 #[vR a1, vI (Int32.ofNat i)] [(.ref a1)]) := fun t h => k158 t (by
      show Steps p.tables e below (T157.setTop (mkF m 4 #[vR a1, vI (Int32.ofNat i)] [(.int (1 : Int32))])) _
      refine XS.ifNo X157.here hx rfl (hb hby d20_4) rfl ((if0 _ _).trans (feq (by decide : ¬ ((1 : Int32) = (0 : Int32)))).1) ?_
      refine XS.aloadN X157.here hx rfl (hb hby d20_7) rfl rfl ?_
      exact h)
  obtain ⟨T159, X159, e159, st159⟩ := getF X157 hx hZ hown (host := "") (Or.inl (hw _ (gm 25 rfl))) Via.refl hh157 Fv (g := (mkF m 8 #[vR a1, vI (Int32.ofNat i)] [(.ref a1)])) rfl rfl (hb hby d20_8)
  have k161 : Rch p e below S0 T159 (mkF m 11 #[vR a1, vI (Int32.ofNat i)] [(.ref tt)]) := fun t h => k160 t (st159 t h)
  have k162 : Rch p e below S0 T159 (mkF m 12 #[vR a1, vI (Int32.ofNat i)] [(.int (Int32.ofNat i)), (.ref tt)]) := fun t h => k161 t (by
      show Steps p.tables e below (T159.setTop (mkF m 11 #[vR a1, vI (Int32.ofNat i)] [(.ref tt)])) _
      refine XS.iloadN X159.here hx rfl (hb hby d20_11) rfl ?_
      exact h)
  obtain ⟨_, _, ⟨T163, L163, kk163, n163⟩, -, X163, ⟨Lc163, hQ163, l163, y163, z163⟩, st163⟩ := Jvm.LawKit.callS X159 hx (y := (⟨"java/lang/StringLatin1", "charAt", "([BI)C"⟩ : MethodName)) hown (mvT hZ (hw _ (gm 94 rfl))) (mvT hZ (hw _ (gm 95 rfl))) (mvT hZ (hw _ (gm 62 rfl))) (mvT hZ (hw _ (gm 96 rfl))) (by decide) (backOf (W := 0) (rmLC l Z a0 hw []  tt kt n cs i fm h0 n0 O0 SP hfm Vt hl hn hp hi) hZ (hw _ (gm 96 rfl)) (hw _ (gm 62 rfl)) (by decide) (by decide)) (g := (mkF m 12 #[vR a1, vI (Int32.ofNat i)] [(.int (Int32.ofNat i)), (.ref tt)])) rfl (by rw [hml]; rfl) (argsL := [(.ref tt), (.int (Int32.ofNat i))]) (rest := []) (lenOf pd_19 rfl) rfl (by show 2 * 0 + _ ≤ _; exact Nat.le_of_eq rfl) (hb hby d20_12) (fun _ _ => ⟨rfl, e159, (by decide : 0 + 0 ≤ _), (by decide : 0 + 0 ≤ _)⟩)
  dsimp only [Pt.U, Pt.locs, Pt.cells, Pt.slots] at X163 l163 y163 z163 st163 hQ163
  subst l163 y163 z163
  obtain ⟨rfl, Nq163, hh163⟩ := hQ163
  have N163 := Fr.app N157 Nq163
  have k164 : Rch p e below S0 T163 (mkF m 15 #[vR a1, vI (Int32.ofNat i)] [(.int (cs.getD i 0))]) := fun t h => k162 t (st163 t h)
  obtain ⟨fs, hr, hrun, hended, hW, hsame⟩ := X163.leave (v := (some (.int (nar .char (cs.getD i 0))))) (fun h => by rw [Bd.returns] at h; cases h)
  refine ⟨_, _, ?_, hrun, hended, _, _, rfl, ?_, ⟨_, rfl⟩, hW, hsame.mono (by decide) (by decide)⟩
  · rw [← hS0]
    refine k164 _ ?_
    show Steps p.tables e below (T163.setTop (mkF m 15 #[vR a1, vI (Int32.ofNat i)] [(.int (cs.getD i 0))])) _
    exact retN X163 hx (t := .char) Bd.returns (by simp) (hb hby d20_15) hr
  · show Q_rmCA Z cs i h0 n0 _ T163.heap _
    rw [hh163]
    exact ⟨by rw [(own_nar _ hic).1], N163, rfl⟩
def Q_rmD10 (Z : State) (ch : Int32) (h0 : Heap) (n0 : Nat) (v : Option Value) (h : Heap) (L : List Loc) : Prop := v = some (.int (own_b (own_isd (kc ch) 1))) ∧ Fr n0 L ∧ h = h0
theorem ef_24 (m : MethodId) (x0 : Int32) (x1 : Int32) : entryFrame m #[(.int x0), (.int x1)] 2 = mkF m 0 #[.val (.int x0), .val (.int x1)] [] := by first | (simp [entryFrame, mkF, argsToLocals, Value.category]; done) | rfl
theorem pn_EntryName : plainName "com/example/nuthatch/nuthatch/EntryName" = true := by first | (simp [plainName, overriddenIn]; done) | decide +kernel
theorem d24_0 : decode prog_2_method_17_code 0 = .ok (.iload_n 0, 1) := by decide +kernel
theorem d24_1 : decode prog_2_method_17_code 1 = .ok (.bipush 48, 2) := by decide +kernel
theorem d24_3 : decode prog_2_method_17_code 3 = .ok (.if_icmp .lt 9, 3) := by decide +kernel
theorem d24_6 : decode prog_2_method_17_code 6 = .ok (.iload_n 0, 1) := by decide +kernel
theorem d24_7 : decode prog_2_method_17_code 7 = .ok (.bipush 57, 2) := by decide +kernel
theorem d24_9 : decode prog_2_method_17_code 9 = .ok (.if_icmp .le 21, 3) := by decide +kernel
theorem d24_30 : decode prog_2_method_17_code 30 = .ok (.iconst 1, 1) := by decide +kernel
theorem d24_31 : decode prog_2_method_17_code 31 = .ok (.goto 4, 3) := by decide +kernel
theorem d24_35 : decode prog_2_method_17_code 35 = .ok (.ireturn, 1) := by decide +kernel
theorem d24_12 : decode prog_2_method_17_code 12 = .ok (.iload_n 1, 1) := by decide +kernel
theorem d24_13 : decode prog_2_method_17_code 13 = .ok (.bipush 16, 2) := by decide +kernel
theorem d24_15 : decode prog_2_method_17_code 15 = .ok (.if_icmp .ne 19, 3) := by decide +kernel
theorem d24_34 : decode prog_2_method_17_code 34 = .ok (.iconst 0, 1) := by decide +kernel
set_option maxRecDepth 65536 in
set_option maxHeartbeats 40000000 in
theorem rmD10 (l : Launch) (Z : State) (a0 : Array Value) (hw : ∀ d ∈ tables_1, d.before a0 Z = true) (ws : List Jvm.Cond) (ch : Int32) (h0 : Heap) (n0 : Nat) (O0 : Old Z n0 h0) :
    MetFree l (⟨"com/example/nuthatch/nuthatch/EntryName", "isDigit", "(CI)Z"⟩ : MethodName) (head1 (Jvm.Cond.code (⟨"com/example/nuthatch/nuthatch/EntryName", "isDigit", "(CI)Z"⟩ : MethodName) prog_2_method_17_code 2 (some .boolean) :: ws) ({ frames := 0, cells := 0, slots := 0, locals := 0 } : Room)) (fun a U => a = #[(.int ch), (.int (10 : Int32))] ∧ Z.Warmed39 U.vm ∧ U.heap = h0) (fun _ _ _ _ _ => True) (fun _ U o U' => ∃ v L, o = .returned v ∧ Q_rmD10 Z ch h0 n0 v U'.heap L ∧ FrameEnd U o U' L ({ frames := 0, cells := 0, slots := 0, locals := 0 } : Room).cells ({ frames := 0, cells := 0, slots := 0, locals := 0 } : Room).slots) := by
  refine MetFree.of_bodySF (plainFor_of_name pn_EntryName) hisR ?_
  intro p e s m args below meth c s₁ Bd hml0 hP hK
  obtain ⟨rfl, hZ, hh⟩ := hP
  have hx := Bd.exec
  have hby := Bd.bytes
  have hml : c.maxLocals = 2 := hml0
  have hown : s.vm.findClass "com/example/nuthatch/nuthatch/EntryName" = some m.cls := findClass_of_methodNamed Bd.named
  have hnm := (name_of_methodNamed Bd.named Bd.method).1
  have X0 : Stand p l e ({ frames := 0, cells := 0, slots := 0, locals := 0 } : Room) s m #[(.int ch), (.int (10 : Int32))] below meth c s₁ [] 0 0 := Stand.of_body Bd
  have e0 : s₁.heap = h0 := by rw [← hh, Bd.state]; rfl
  have N0 := Fr.nil n0
  obtain ⟨S0, hS0⟩ : ∃ z, z = s₁.setTop (entryFrame m #[(.int ch), (.int (10 : Int32))] 2) := ⟨_, rfl⟩
  have k0 : Rch p e below S0 s₁ (mkF m 0 #[vI ch, vI 10] []) := fun t kq => hS0 ▸ castTop (ef_24 m ch (10 : Int32)) kq
  rcases own_d10 ch with ⟨c1, c2, cr⟩ | ⟨c1, cr⟩ | ⟨c1, c2, cr⟩
  · have k165 : Rch p e below S0 s₁ (mkF m 35 #[vI ch, vI 10] [(.int (1 : Int32))]) := fun t h => k0 t (by
        show Steps p.tables e below (s₁.setTop (mkF m 0 #[vI ch, vI 10] [])) _
        refine XS.iloadN X0.here hx rfl (hb hby d24_0) rfl ?_
        refine XS.bipush X0.here hx rfl (hb hby d24_1) ?_
        refine XS.icmpNo X0.here hx rfl (hb hby d24_3) rfl (flt (c1 : ¬ (ch < (48 : Int32)))).1 ?_
        refine XS.iloadN X0.here hx rfl (hb hby d24_6) rfl ?_
        refine XS.bipush X0.here hx rfl (hb hby d24_7) ?_
        refine XS.icmpYes X0.here hx rfl (pc0 := 9) (pc' := 30) rfl (hb hby d24_9) rfl (flt (c2 : ¬ ((57 : Int32) < ch))).2.2.2 (by decide) (by decide) ?_
        refine XS.iconst X0.here hx rfl (hb hby d24_30) ?_
        refine XS.goto X0.here hx rfl (pc0 := 31) (pc' := 35) rfl (hb hby d24_31) (by decide) (by decide) ?_
        exact h)
    obtain ⟨fs, hr, hrun, hended, hW, hsame⟩ := X0.leave (v := (some (.int (1 : Int32)))) (fun h => by rw [Bd.returns] at h; cases h)
    refine ⟨_, _, ?_, hrun, hended, _, _, rfl, ?_, ⟨_, rfl⟩, hW, hsame.mono (by decide) (by decide)⟩
    · rw [← hS0]
      refine k165 _ ?_
      show Steps p.tables e below (s₁.setTop (mkF m 35 #[vI ch, vI 10] [(.int (1 : Int32))])) _
      exact retN X0 hx (t := .boolean) Bd.returns (by simp) (hb hby d24_35) hr
    · show Q_rmD10 Z ch h0 n0 _ s₁.heap _
      rw [e0]
      exact ⟨by rw [cr], N0, rfl⟩
  · have k166 : Rch p e below S0 s₁ (mkF m 35 #[vI ch, vI 10] [(.int (0 : Int32))]) := fun t h => k0 t (by
        show Steps p.tables e below (s₁.setTop (mkF m 0 #[vI ch, vI 10] [])) _
        refine XS.iloadN X0.here hx rfl (hb hby d24_0) rfl ?_
        refine XS.bipush X0.here hx rfl (hb hby d24_1) ?_
        refine XS.icmpYes X0.here hx rfl (pc0 := 3) (pc' := 12) rfl (hb hby d24_3) rfl (tlt (c1 : ch < (48 : Int32))).1 (by decide) (by decide) ?_
        refine XS.iloadN X0.here hx rfl (hb hby d24_12) rfl ?_
        refine XS.bipush X0.here hx rfl (hb hby d24_13) ?_
        refine XS.icmpYes X0.here hx rfl (pc0 := 15) (pc' := 34) rfl (hb hby d24_15) rfl (feq (by decide : ¬ ((10 : Int32) = (16 : Int32)))).2 (by decide) (by decide) ?_
        refine XS.iconst X0.here hx rfl (hb hby d24_34) ?_
        exact h)
    obtain ⟨fs, hr, hrun, hended, hW, hsame⟩ := X0.leave (v := (some (.int (0 : Int32)))) (fun h => by rw [Bd.returns] at h; cases h)
    refine ⟨_, _, ?_, hrun, hended, _, _, rfl, ?_, ⟨_, rfl⟩, hW, hsame.mono (by decide) (by decide)⟩
    · rw [← hS0]
      refine k166 _ ?_
      show Steps p.tables e below (s₁.setTop (mkF m 35 #[vI ch, vI 10] [(.int (0 : Int32))])) _
      exact retN X0 hx (t := .boolean) Bd.returns (by simp) (hb hby d24_35) hr
    · show Q_rmD10 Z ch h0 n0 _ s₁.heap _
      rw [e0]
      exact ⟨by rw [cr], N0, rfl⟩
  · have k167 : Rch p e below S0 s₁ (mkF m 35 #[vI ch, vI 10] [(.int (0 : Int32))]) := fun t h => k0 t (by
        show Steps p.tables e below (s₁.setTop (mkF m 0 #[vI ch, vI 10] [])) _
        refine XS.iloadN X0.here hx rfl (hb hby d24_0) rfl ?_
        refine XS.bipush X0.here hx rfl (hb hby d24_1) ?_
        refine XS.icmpNo X0.here hx rfl (hb hby d24_3) rfl (flt (c1 : ¬ (ch < (48 : Int32)))).1 ?_
        refine XS.iloadN X0.here hx rfl (hb hby d24_6) rfl ?_
        refine XS.bipush X0.here hx rfl (hb hby d24_7) ?_
        refine XS.icmpNo X0.here hx rfl (hb hby d24_9) rfl (tlt (c2 : (57 : Int32) < ch)).2.2.2 ?_
        refine XS.iloadN X0.here hx rfl (hb hby d24_12) rfl ?_
        refine XS.bipush X0.here hx rfl (hb hby d24_13) ?_
        refine XS.icmpYes X0.here hx rfl (pc0 := 15) (pc' := 34) rfl (hb hby d24_15) rfl (feq (by decide : ¬ ((10 : Int32) = (16 : Int32)))).2 (by decide) (by decide) ?_
        refine XS.iconst X0.here hx rfl (hb hby d24_34) ?_
        exact h)
    obtain ⟨fs, hr, hrun, hended, hW, hsame⟩ := X0.leave (v := (some (.int (0 : Int32)))) (fun h => by rw [Bd.returns] at h; cases h)
    refine ⟨_, _, ?_, hrun, hended, _, _, rfl, ?_, ⟨_, rfl⟩, hW, hsame.mono (by decide) (by decide)⟩
    · rw [← hS0]
      refine k167 _ ?_
      show Steps p.tables e below (s₁.setTop (mkF m 35 #[vI ch, vI 10] [(.int (0 : Int32))])) _
      exact retN X0 hx (t := .boolean) Bd.returns (by simp) (hb hby d24_35) hr
    · show Q_rmD10 Z ch h0 n0 _ s₁.heap _
      rw [e0]
      exact ⟨by rw [cr], N0, rfl⟩
def Q_rmD16 (Z : State) (ch : Int32) (h0 : Heap) (n0 : Nat) (v : Option Value) (h : Heap) (L : List Loc) : Prop := v = some (.int (own_b (own_isd (kc ch) 2))) ∧ Fr n0 L ∧ h = h0
theorem d24_18 : decode prog_2_method_17_code 18 = .ok (.iload_n 0, 1) := by decide +kernel
theorem d24_19 : decode prog_2_method_17_code 19 = .ok (.bipush 97, 2) := by decide +kernel
theorem d24_21 : decode prog_2_method_17_code 21 = .ok (.if_icmp .lt 13, 3) := by decide +kernel
theorem d24_24 : decode prog_2_method_17_code 24 = .ok (.iload_n 0, 1) := by decide +kernel
theorem d24_25 : decode prog_2_method_17_code 25 = .ok (.bipush 102, 2) := by decide +kernel
theorem d24_27 : decode prog_2_method_17_code 27 = .ok (.if_icmp .gt 7, 3) := by decide +kernel
set_option maxRecDepth 65536 in
set_option maxHeartbeats 40000000 in
theorem rmD16 (l : Launch) (Z : State) (a0 : Array Value) (hw : ∀ d ∈ tables_1, d.before a0 Z = true) (ws : List Jvm.Cond) (ch : Int32) (h0 : Heap) (n0 : Nat) (O0 : Old Z n0 h0) :
    MetFree l (⟨"com/example/nuthatch/nuthatch/EntryName", "isDigit", "(CI)Z"⟩ : MethodName) (head1 (Jvm.Cond.code (⟨"com/example/nuthatch/nuthatch/EntryName", "isDigit", "(CI)Z"⟩ : MethodName) prog_2_method_17_code 2 (some .boolean) :: ws) ({ frames := 0, cells := 0, slots := 0, locals := 0 } : Room)) (fun a U => a = #[(.int ch), (.int (16 : Int32))] ∧ Z.Warmed39 U.vm ∧ U.heap = h0) (fun _ _ _ _ _ => True) (fun _ U o U' => ∃ v L, o = .returned v ∧ Q_rmD16 Z ch h0 n0 v U'.heap L ∧ FrameEnd U o U' L ({ frames := 0, cells := 0, slots := 0, locals := 0 } : Room).cells ({ frames := 0, cells := 0, slots := 0, locals := 0 } : Room).slots) := by
  refine MetFree.of_bodySF (plainFor_of_name pn_EntryName) hisR ?_
  intro p e s m args below meth c s₁ Bd hml0 hP hK
  obtain ⟨rfl, hZ, hh⟩ := hP
  have hx := Bd.exec
  have hby := Bd.bytes
  have hml : c.maxLocals = 2 := hml0
  have hown : s.vm.findClass "com/example/nuthatch/nuthatch/EntryName" = some m.cls := findClass_of_methodNamed Bd.named
  have hnm := (name_of_methodNamed Bd.named Bd.method).1
  have X0 : Stand p l e ({ frames := 0, cells := 0, slots := 0, locals := 0 } : Room) s m #[(.int ch), (.int (16 : Int32))] below meth c s₁ [] 0 0 := Stand.of_body Bd
  have e0 : s₁.heap = h0 := by rw [← hh, Bd.state]; rfl
  have N0 := Fr.nil n0
  obtain ⟨S0, hS0⟩ : ∃ z, z = s₁.setTop (entryFrame m #[(.int ch), (.int (16 : Int32))] 2) := ⟨_, rfl⟩
  have k0 : Rch p e below S0 s₁ (mkF m 0 #[vI ch, vI 16] []) := fun t kq => hS0 ▸ castTop (ef_24 m ch (16 : Int32)) kq
  rcases own_d16 ch with ⟨c1, c2, cr⟩ | ⟨c1, c2, c3, c4, cr⟩ | ⟨c1, c2, cr⟩ | ⟨c1, c2, c3, cr⟩ | ⟨c1, c2, c3, c4, cr⟩
  · have k168 : Rch p e below S0 s₁ (mkF m 35 #[vI ch, vI 16] [(.int (1 : Int32))]) := fun t h => k0 t (by
        show Steps p.tables e below (s₁.setTop (mkF m 0 #[vI ch, vI 16] [])) _
        refine XS.iloadN X0.here hx rfl (hb hby d24_0) rfl ?_
        refine XS.bipush X0.here hx rfl (hb hby d24_1) ?_
        refine XS.icmpNo X0.here hx rfl (hb hby d24_3) rfl (flt (c1 : ¬ (ch < (48 : Int32)))).1 ?_
        refine XS.iloadN X0.here hx rfl (hb hby d24_6) rfl ?_
        refine XS.bipush X0.here hx rfl (hb hby d24_7) ?_
        refine XS.icmpYes X0.here hx rfl (pc0 := 9) (pc' := 30) rfl (hb hby d24_9) rfl (flt (c2 : ¬ ((57 : Int32) < ch))).2.2.2 (by decide) (by decide) ?_
        refine XS.iconst X0.here hx rfl (hb hby d24_30) ?_
        refine XS.goto X0.here hx rfl (pc0 := 31) (pc' := 35) rfl (hb hby d24_31) (by decide) (by decide) ?_
        exact h)
    obtain ⟨fs, hr, hrun, hended, hW, hsame⟩ := X0.leave (v := (some (.int (1 : Int32)))) (fun h => by rw [Bd.returns] at h; cases h)
    refine ⟨_, _, ?_, hrun, hended, _, _, rfl, ?_, ⟨_, rfl⟩, hW, hsame.mono (by decide) (by decide)⟩
    · rw [← hS0]
      refine k168 _ ?_
      show Steps p.tables e below (s₁.setTop (mkF m 35 #[vI ch, vI 16] [(.int (1 : Int32))])) _
      exact retN X0 hx (t := .boolean) Bd.returns (by simp) (hb hby d24_35) hr
    · show Q_rmD16 Z ch h0 n0 _ s₁.heap _
      rw [e0]
      exact ⟨by rw [cr], N0, rfl⟩
  · have k169 : Rch p e below S0 s₁ (mkF m 35 #[vI ch, vI 16] [(.int (1 : Int32))]) := fun t h => k0 t (by
        show Steps p.tables e below (s₁.setTop (mkF m 0 #[vI ch, vI 16] [])) _
        refine XS.iloadN X0.here hx rfl (hb hby d24_0) rfl ?_
        refine XS.bipush X0.here hx rfl (hb hby d24_1) ?_
        refine XS.icmpNo X0.here hx rfl (hb hby d24_3) rfl (flt (c1 : ¬ (ch < (48 : Int32)))).1 ?_
        refine XS.iloadN X0.here hx rfl (hb hby d24_6) rfl ?_
        refine XS.bipush X0.here hx rfl (hb hby d24_7) ?_
        refine XS.icmpNo X0.here hx rfl (hb hby d24_9) rfl (tlt (c2 : (57 : Int32) < ch)).2.2.2 ?_
        refine XS.iloadN X0.here hx rfl (hb hby d24_12) rfl ?_
        refine XS.bipush X0.here hx rfl (hb hby d24_13) ?_
        refine XS.icmpNo X0.here hx rfl (hb hby d24_15) rfl (teq (by decide : (16 : Int32) = (16 : Int32))).2 ?_
        refine XS.iloadN X0.here hx rfl (hb hby d24_18) rfl ?_
        refine XS.bipush X0.here hx rfl (hb hby d24_19) ?_
        refine XS.icmpNo X0.here hx rfl (hb hby d24_21) rfl (flt (c3 : ¬ (ch < (97 : Int32)))).1 ?_
        refine XS.iloadN X0.here hx rfl (hb hby d24_24) rfl ?_
        refine XS.bipush X0.here hx rfl (hb hby d24_25) ?_
        refine XS.icmpNo X0.here hx rfl (hb hby d24_27) rfl (flt (c4 : ¬ ((102 : Int32) < ch))).2.2.1 ?_
        refine XS.iconst X0.here hx rfl (hb hby d24_30) ?_
        refine XS.goto X0.here hx rfl (pc0 := 31) (pc' := 35) rfl (hb hby d24_31) (by decide) (by decide) ?_
        exact h)
    obtain ⟨fs, hr, hrun, hended, hW, hsame⟩ := X0.leave (v := (some (.int (1 : Int32)))) (fun h => by rw [Bd.returns] at h; cases h)
    refine ⟨_, _, ?_, hrun, hended, _, _, rfl, ?_, ⟨_, rfl⟩, hW, hsame.mono (by decide) (by decide)⟩
    · rw [← hS0]
      refine k169 _ ?_
      show Steps p.tables e below (s₁.setTop (mkF m 35 #[vI ch, vI 16] [(.int (1 : Int32))])) _
      exact retN X0 hx (t := .boolean) Bd.returns (by simp) (hb hby d24_35) hr
    · show Q_rmD16 Z ch h0 n0 _ s₁.heap _
      rw [e0]
      exact ⟨by rw [cr], N0, rfl⟩
  · have k170 : Rch p e below S0 s₁ (mkF m 35 #[vI ch, vI 16] [(.int (0 : Int32))]) := fun t h => k0 t (by
        show Steps p.tables e below (s₁.setTop (mkF m 0 #[vI ch, vI 16] [])) _
        refine XS.iloadN X0.here hx rfl (hb hby d24_0) rfl ?_
        refine XS.bipush X0.here hx rfl (hb hby d24_1) ?_
        refine XS.icmpYes X0.here hx rfl (pc0 := 3) (pc' := 12) rfl (hb hby d24_3) rfl (tlt (c1 : ch < (48 : Int32))).1 (by decide) (by decide) ?_
        refine XS.iloadN X0.here hx rfl (hb hby d24_12) rfl ?_
        refine XS.bipush X0.here hx rfl (hb hby d24_13) ?_
        refine XS.icmpNo X0.here hx rfl (hb hby d24_15) rfl (teq (by decide : (16 : Int32) = (16 : Int32))).2 ?_
        refine XS.iloadN X0.here hx rfl (hb hby d24_18) rfl ?_
        refine XS.bipush X0.here hx rfl (hb hby d24_19) ?_
        refine XS.icmpYes X0.here hx rfl (pc0 := 21) (pc' := 34) rfl (hb hby d24_21) rfl (tlt (c2 : ch < (97 : Int32))).1 (by decide) (by decide) ?_
        refine XS.iconst X0.here hx rfl (hb hby d24_34) ?_
        exact h)
    obtain ⟨fs, hr, hrun, hended, hW, hsame⟩ := X0.leave (v := (some (.int (0 : Int32)))) (fun h => by rw [Bd.returns] at h; cases h)
    refine ⟨_, _, ?_, hrun, hended, _, _, rfl, ?_, ⟨_, rfl⟩, hW, hsame.mono (by decide) (by decide)⟩
    · rw [← hS0]
      refine k170 _ ?_
      show Steps p.tables e below (s₁.setTop (mkF m 35 #[vI ch, vI 16] [(.int (0 : Int32))])) _
      exact retN X0 hx (t := .boolean) Bd.returns (by simp) (hb hby d24_35) hr
    · show Q_rmD16 Z ch h0 n0 _ s₁.heap _
      rw [e0]
      exact ⟨by rw [cr], N0, rfl⟩
  · have k171 : Rch p e below S0 s₁ (mkF m 35 #[vI ch, vI 16] [(.int (0 : Int32))]) := fun t h => k0 t (by
        show Steps p.tables e below (s₁.setTop (mkF m 0 #[vI ch, vI 16] [])) _
        refine XS.iloadN X0.here hx rfl (hb hby d24_0) rfl ?_
        refine XS.bipush X0.here hx rfl (hb hby d24_1) ?_
        refine XS.icmpNo X0.here hx rfl (hb hby d24_3) rfl (flt (c1 : ¬ (ch < (48 : Int32)))).1 ?_
        refine XS.iloadN X0.here hx rfl (hb hby d24_6) rfl ?_
        refine XS.bipush X0.here hx rfl (hb hby d24_7) ?_
        refine XS.icmpNo X0.here hx rfl (hb hby d24_9) rfl (tlt (c2 : (57 : Int32) < ch)).2.2.2 ?_
        refine XS.iloadN X0.here hx rfl (hb hby d24_12) rfl ?_
        refine XS.bipush X0.here hx rfl (hb hby d24_13) ?_
        refine XS.icmpNo X0.here hx rfl (hb hby d24_15) rfl (teq (by decide : (16 : Int32) = (16 : Int32))).2 ?_
        refine XS.iloadN X0.here hx rfl (hb hby d24_18) rfl ?_
        refine XS.bipush X0.here hx rfl (hb hby d24_19) ?_
        refine XS.icmpYes X0.here hx rfl (pc0 := 21) (pc' := 34) rfl (hb hby d24_21) rfl (tlt (c3 : ch < (97 : Int32))).1 (by decide) (by decide) ?_
        refine XS.iconst X0.here hx rfl (hb hby d24_34) ?_
        exact h)
    obtain ⟨fs, hr, hrun, hended, hW, hsame⟩ := X0.leave (v := (some (.int (0 : Int32)))) (fun h => by rw [Bd.returns] at h; cases h)
    refine ⟨_, _, ?_, hrun, hended, _, _, rfl, ?_, ⟨_, rfl⟩, hW, hsame.mono (by decide) (by decide)⟩
    · rw [← hS0]
      refine k171 _ ?_
      show Steps p.tables e below (s₁.setTop (mkF m 35 #[vI ch, vI 16] [(.int (0 : Int32))])) _
      exact retN X0 hx (t := .boolean) Bd.returns (by simp) (hb hby d24_35) hr
    · show Q_rmD16 Z ch h0 n0 _ s₁.heap _
      rw [e0]
      exact ⟨by rw [cr], N0, rfl⟩
  · have k172 : Rch p e below S0 s₁ (mkF m 35 #[vI ch, vI 16] [(.int (0 : Int32))]) := fun t h => k0 t (by
        show Steps p.tables e below (s₁.setTop (mkF m 0 #[vI ch, vI 16] [])) _
        refine XS.iloadN X0.here hx rfl (hb hby d24_0) rfl ?_
        refine XS.bipush X0.here hx rfl (hb hby d24_1) ?_
        refine XS.icmpNo X0.here hx rfl (hb hby d24_3) rfl (flt (c1 : ¬ (ch < (48 : Int32)))).1 ?_
        refine XS.iloadN X0.here hx rfl (hb hby d24_6) rfl ?_
        refine XS.bipush X0.here hx rfl (hb hby d24_7) ?_
        refine XS.icmpNo X0.here hx rfl (hb hby d24_9) rfl (tlt (c2 : (57 : Int32) < ch)).2.2.2 ?_
        refine XS.iloadN X0.here hx rfl (hb hby d24_12) rfl ?_
        refine XS.bipush X0.here hx rfl (hb hby d24_13) ?_
        refine XS.icmpNo X0.here hx rfl (hb hby d24_15) rfl (teq (by decide : (16 : Int32) = (16 : Int32))).2 ?_
        refine XS.iloadN X0.here hx rfl (hb hby d24_18) rfl ?_
        refine XS.bipush X0.here hx rfl (hb hby d24_19) ?_
        refine XS.icmpNo X0.here hx rfl (hb hby d24_21) rfl (flt (c3 : ¬ (ch < (97 : Int32)))).1 ?_
        refine XS.iloadN X0.here hx rfl (hb hby d24_24) rfl ?_
        refine XS.bipush X0.here hx rfl (hb hby d24_25) ?_
        refine XS.icmpYes X0.here hx rfl (pc0 := 27) (pc' := 34) rfl (hb hby d24_27) rfl (tlt (c4 : (102 : Int32) < ch)).2.2.1 (by decide) (by decide) ?_
        refine XS.iconst X0.here hx rfl (hb hby d24_34) ?_
        exact h)
    obtain ⟨fs, hr, hrun, hended, hW, hsame⟩ := X0.leave (v := (some (.int (0 : Int32)))) (fun h => by rw [Bd.returns] at h; cases h)
    refine ⟨_, _, ?_, hrun, hended, _, _, rfl, ?_, ⟨_, rfl⟩, hW, hsame.mono (by decide) (by decide)⟩
    · rw [← hS0]
      refine k172 _ ?_
      show Steps p.tables e below (s₁.setTop (mkF m 35 #[vI ch, vI 16] [(.int (0 : Int32))])) _
      exact retN X0 hx (t := .boolean) Bd.returns (by simp) (hb hby d24_35) hr
    · show Q_rmD16 Z ch h0 n0 _ s₁.heap _
      rw [e0]
      exact ⟨by rw [cr], N0, rfl⟩
def Q_rmDG10 (Z : State) (cs : List Int32) (fb : Nat) (te : Nat) (h0 : Heap) (n0 : Nat) (v : Option Value) (h : Heap) (L : List Loc) : Prop := v = some (.int (own_b (own_dg (cs.map kc) 1 fb (te - fb)))) ∧ Fr n0 L ∧ h = h0
theorem ef_19 (m : MethodId) (x0 : Addr) (x1 : Int32) (x2 : Int32) (x3 : Int32) : entryFrame m #[(.ref x0), (.int x1), (.int x2), (.int x3)] 5 = mkF m 0 #[.val (.ref x0), .val (.int x1), .val (.int x2), .val (.int x3), .unset] [] := by first | (simp [entryFrame, mkF, argsToLocals, Value.category]; done) | rfl
theorem d19_0 : decode prog_2_method_15_code 0 = .ok (.iload_n 1, 1) := by decide +kernel
theorem d19_1 : decode prog_2_method_15_code 1 = .ok (.istore 4, 2) := by decide +kernel
theorem d19_3 : decode prog_2_method_15_code 3 = .ok (.iload 4, 2) := by decide +kernel
theorem d19_5 : decode prog_2_method_15_code 5 = .ok (.iload_n 2, 1) := by decide +kernel
theorem d19_6 : decode prog_2_method_15_code 6 = .ok (.if_icmp .ge 24, 3) := by decide +kernel
theorem d19_30 : decode prog_2_method_15_code 30 = .ok (.iconst 1, 1) := by decide +kernel
theorem d19_31 : decode prog_2_method_15_code 31 = .ok (.ireturn, 1) := by decide +kernel
theorem d19_9 : decode prog_2_method_15_code 9 = .ok (.aload_n 0, 1) := by decide +kernel
theorem d19_10 : decode prog_2_method_15_code 10 = .ok (.iload 4, 2) := by decide +kernel
theorem pd_18 : parseMethodDescriptor "(I)C" = some ⟨[.int], some .char⟩ := by decide +kernel
theorem d19_12 : decode prog_2_method_15_code 12 = .ok (.invokevirtual 26, 3) := by decide +kernel
theorem d19_15 : decode prog_2_method_15_code 15 = .ok (.iload_n 3, 1) := by decide +kernel
theorem pd_22 : parseMethodDescriptor "(CI)Z" = some ⟨[.char, .int], some .boolean⟩ := by decide +kernel
theorem d19_16 : decode prog_2_method_15_code 16 = .ok (.invokestatic 69, 3) := by decide +kernel
theorem d19_19 : decode prog_2_method_15_code 19 = .ok (.ifCond .ne 5, 3) := by decide +kernel
theorem d19_24 : decode prog_2_method_15_code 24 = .ok (.iinc 4 1, 3) := by decide +kernel
theorem d19_27 : decode prog_2_method_15_code 27 = .ok (.goto (-24), 3) := by decide +kernel
theorem d19_22 : decode prog_2_method_15_code 22 = .ok (.iconst 0, 1) := by decide +kernel
theorem d19_23 : decode prog_2_method_15_code 23 = .ok (.ireturn, 1) := by decide +kernel
set_option maxRecDepth 65536 in
set_option maxHeartbeats 40000000 in
theorem rmDG10 (l : Launch) (Z : State) (a0 : Array Value) (hw : ∀ d ∈ tables_1, d.before a0 Z = true) (ws : List Jvm.Cond) (a1 : Addr) (tt : Addr) (kt : ClassId) (n : Nat) (cs : List Int32) (zC : Int32) (fb : Nat) (te : Nat) (fm : Value) (h0 : Heap) (n0 : Nat) (O0 : Old Z n0 h0) (SC : Sta Z Z.heap "java/lang/String" "COMPACT_STRINGS" "Z" (.int zC)) (hzC : ¬ zC = 0) (Ex : Exa Z h0 a1 "java/lang/String") (Fv : Fld Z h0 a1 "java/lang/String" "value" "[B" (.ref tt)) (Fc : Fld Z h0 a1 "java/lang/String" "coder" "B" (.int (0 : Int32))) (Vt : Arv Z h0 tt kt .byte (Int32.ofNat n) ((cs.map fun c => c.toInt8.toInt32).map Value.int) (.int (0 : Int32))) (hl : cs.length = n) (hn : n ≤ 7) (hp : ∀ c ∈ cs, ¬ c < 0 ∧ ¬ (255 : Int32) < c) (SP : Sta Z Z.heap "jdk/internal/util/Preconditions" "SIOOBE_FORMATTER" "Ljava/util/function/BiFunction;" fm) (hfm : fm = .null ∨ ∃ wP, fm = .ref wP) (hft : fb ≤ te) (htn : te ≤ n) :
    MetFree l (⟨"com/example/nuthatch/nuthatch/EntryName", "digits", "(Ljava/lang/String;III)Z"⟩ : MethodName) (head1 (Jvm.Cond.code (⟨"com/example/nuthatch/nuthatch/EntryName", "digits", "(Ljava/lang/String;III)Z"⟩ : MethodName) prog_2_method_15_code 5 (some .boolean) :: ws) ({ frames := 4, cells := 0, slots := 0, locals := 92 } : Room)) (fun a U => a = #[(.ref a1), (.int (Int32.ofNat fb)), (.int (Int32.ofNat te)), (.int (10 : Int32))] ∧ Z.Warmed39 U.vm ∧ U.heap = h0) (fun _ _ _ _ _ => True) (fun _ U o U' => ∃ v L, o = .returned v ∧ Q_rmDG10 Z cs fb te h0 n0 v U'.heap L ∧ FrameEnd U o U' L ({ frames := 4, cells := 0, slots := 0, locals := 92 } : Room).cells ({ frames := 4, cells := 0, slots := 0, locals := 92 } : Room).slots) := by
  refine MetFree.of_bodySF (plainFor_of_name pn_EntryName) hisR ?_
  intro p e s m args below meth c s₁ Bd hml0 hP hK
  obtain ⟨rfl, hZ, hh⟩ := hP
  have hx := Bd.exec
  have hby := Bd.bytes
  have hml : c.maxLocals = 5 := hml0
  have hown : s.vm.findClass "com/example/nuthatch/nuthatch/EntryName" = some m.cls := findClass_of_methodNamed Bd.named
  have hnm := (name_of_methodNamed Bd.named Bd.method).1
  have X0 : Stand p l e ({ frames := 4, cells := 0, slots := 0, locals := 92 } : Room) s m #[(.ref a1), (.int (Int32.ofNat fb)), (.int (Int32.ofNat te)), (.int (10 : Int32))] below meth c s₁ [] 0 0 := Stand.of_body Bd
  have e0 : s₁.heap = h0 := by rw [← hh, Bd.state]; rfl
  have N0 := Fr.nil n0
  obtain ⟨S0, hS0⟩ : ∃ z, z = s₁.setTop (entryFrame m #[(.ref a1), (.int (Int32.ofNat fb)), (.int (Int32.ofNat te)), (.int (10 : Int32))] 5) := ⟨_, rfl⟩
  have k0 : Rch p e below S0 s₁ (mkF m 0 #[vR a1, vI (Int32.ofNat fb), vI (Int32.ofNat te), vI 10, vU] []) := fun t kq => hS0 ▸ castTop (ef_19 m a1 (Int32.ofNat fb) (Int32.ofNat te) (10 : Int32)) kq
  have k173 : Rch p e below S0 s₁ (mkF m 3 #[vR a1, vI (Int32.ofNat fb), vI (Int32.ofNat te), vI 10, vI (Int32.ofNat fb)] []) := fun t h => k0 t (by
      show Steps p.tables e below (s₁.setTop (mkF m 0 #[vR a1, vI (Int32.ofNat fb), vI (Int32.ofNat te), vI 10, vU] [])) _
      refine XS.iloadN X0.here hx rfl (hb hby d19_0) rfl ?_
      refine XS.istore X0.here hx rfl (hb hby d19_1) rfl (l' := #[vR a1, vI (Int32.ofNat fb), vI (Int32.ofNat te), vI 10, vI (Int32.ofNat fb)]) rfl ?_
      exact h)
  refine (?_ : ∀ (k i : Nat), i + k = te → own_dg (cs.map kc) 1 i k = (own_dg (cs.map kc) 1 fb (te - fb)) → ∀ (T : State) (lo : List Loc), Stand p l e ({ frames := 4, cells := 0, slots := 0, locals := 92 } : Room) s m #[(.ref a1), (.int (Int32.ofNat fb)), (.int (Int32.ofNat te)), (.int (10 : Int32))] below meth c T lo 0 0 → T.heap = h0 → Fr n0 lo → Rch p e below S0 T (mkF m 3 #[vR a1, vI (Int32.ofNat fb), vI (Int32.ofNat te), vI 10, vI (Int32.ofNat i)] []) → _) (te - fb) fb (by omega) rfl _ _ X0 e0 N0 k173
  intro k
  induction k with
  | zero =>
    intro i hi he T lo X eT NN kk
    have hie : i = te := by omega
    rw [hie] at kk
    have k174 : Rch p e below S0 T (mkF m 31 #[vR a1, vI (Int32.ofNat fb), vI (Int32.ofNat te), vI 10, vI (Int32.ofNat te)] [(.int (1 : Int32))]) := fun t h => kk t (by
        show Steps p.tables e below (T.setTop (mkF m 3 #[vR a1, vI (Int32.ofNat fb), vI (Int32.ofNat te), vI 10, vI (Int32.ofNat te)] [])) _
        refine XS.iload X.here hx rfl (hb hby d19_3) rfl ?_
        refine XS.iloadN X.here hx rfl (hb hby d19_5) rfl ?_
        refine XS.icmpYes X.here hx rfl (pc0 := 6) (pc' := 30) rfl (hb hby d19_6) rfl (flt ((fun q => Nat.lt_irrefl _ ((own_olt (by omega) (by omega)).mp q)) : ¬ ((Int32.ofNat te) < (Int32.ofNat te)))).2.1 (by decide) (by decide) ?_
        refine XS.iconst X.here hx rfl (hb hby d19_30) ?_
        exact h)
    obtain ⟨fs, hr, hrun, hended, hW, hsame⟩ := X.leave (v := (some (.int (1 : Int32)))) (fun h => by rw [Bd.returns] at h; cases h)
    refine ⟨_, _, ?_, hrun, hended, _, _, rfl, ?_, ⟨_, rfl⟩, hW, hsame.mono (by decide) (by decide)⟩
    · rw [← hS0]
      refine k174 _ ?_
      show Steps p.tables e below (T.setTop (mkF m 31 #[vR a1, vI (Int32.ofNat fb), vI (Int32.ofNat te), vI 10, vI (Int32.ofNat te)] [(.int (1 : Int32))])) _
      exact retN X hx (t := .boolean) Bd.returns (by simp) (hb hby d19_31) hr
    · show Q_rmDG10 Z cs fb te h0 n0 _ T.heap _
      rw [eT]
      exact ⟨by rw [← he]; rfl, NN, rfl⟩
  | succ k ih =>
    intro i hi he T lo X eT NN kk
    have kg := own_kg cs i (by omega)
    have k175 : Rch p e below S0 T (mkF m 12 #[vR a1, vI (Int32.ofNat fb), vI (Int32.ofNat te), vI 10, vI (Int32.ofNat i)] [(.int (Int32.ofNat i)), (.ref a1)]) := fun t h => kk t (by
        show Steps p.tables e below (T.setTop (mkF m 3 #[vR a1, vI (Int32.ofNat fb), vI (Int32.ofNat te), vI 10, vI (Int32.ofNat i)] [])) _
        refine XS.iload X.here hx rfl (hb hby d19_3) rfl ?_
        refine XS.iloadN X.here hx rfl (hb hby d19_5) rfl ?_
        refine XS.icmpNo X.here hx rfl (hb hby d19_6) rfl (tlt (((own_olt (by omega) (by omega)).mpr (by omega)) : (Int32.ofNat i) < (Int32.ofNat te))).2.1 ?_
        refine XS.aloadN X.here hx rfl (hb hby d19_9) rfl rfl ?_
        refine XS.iload X.here hx rfl (hb hby d19_10) rfl ?_
        exact h)
    obtain ⟨cq176, kq176, q176a, q176b, q176c⟩ := isOf hZ eT Ex
    obtain ⟨_, _, ⟨T176, L176, kk176, n176⟩, -, X176, ⟨Lc176, hQ176, l176, y176, z176⟩, st176⟩ := X.virtualBack hx (y := (⟨"java/lang/String", "charAt", "(I)C"⟩ : MethodName)) (z := (⟨"java/lang/String", "charAt", "(I)C"⟩ : MethodName)) hown (mvT hZ (hw _ (gm 89 rfl))) (mvT hZ (hw _ (gm 90 rfl))) (notFace_of_selects (args := #[]) (mvT hZ (hw _ (gm 92 rfl)))) (mvT hZ (hw _ (gm 92 rfl))) (mvT hZ (hw _ (gm 91 rfl))) (by decide) (backOf (W := 0) (rmCA l Z a0 hw []  a1 tt kt n cs zC i fm h0 n0 O0 SC hzC Ex Fv Fc Vt hl hn hp SP hfm (by omega)) hZ (hw _ (gm 93 rfl)) (hw _ (gm 8 rfl)) (by decide) (by decide)) q176a q176c (g := (mkF m 12 #[vR a1, vI (Int32.ofNat fb), vI (Int32.ofNat te), vI 10, vI (Int32.ofNat i)] [(.int (Int32.ofNat i)), (.ref a1)])) rfl (by rw [hml]; rfl) (Steps.refl _) (argsL := [(.int (Int32.ofNat i))]) (rest := []) (lenOf pd_18 rfl) rfl (by show 2 * 0 + _ ≤ _; exact Nat.le_of_eq rfl) (hb hby d19_12) (fun _ _ => ⟨rfl, eT, (by decide : 0 + 0 ≤ _), (by decide : 0 + 0 ≤ _)⟩)
    dsimp only [Pt.U, Pt.locs, Pt.cells, Pt.slots] at X176 l176 y176 z176 st176 hQ176
    subst l176 y176 z176
    obtain ⟨rfl, Nq176, hh176⟩ := hQ176
    have N176 := Fr.app NN Nq176
    have k177 : Rch p e below S0 T176 (mkF m 15 #[vR a1, vI (Int32.ofNat fb), vI (Int32.ofNat te), vI 10, vI (Int32.ofNat i)] [(.int (cs.getD i 0))]) := fun t h => k175 t (st176.trans h)
    have k178 : Rch p e below S0 T176 (mkF m 16 #[vR a1, vI (Int32.ofNat fb), vI (Int32.ofNat te), vI 10, vI (Int32.ofNat i)] [(.int (10 : Int32)), (.int (cs.getD i 0))]) := fun t h => k177 t (by
        show Steps p.tables e below (T176.setTop (mkF m 15 #[vR a1, vI (Int32.ofNat fb), vI (Int32.ofNat te), vI 10, vI (Int32.ofNat i)] [(.int (cs.getD i 0))])) _
        refine XS.iloadN X176.here hx rfl (hb hby d19_15) rfl ?_
        exact h)
    obtain ⟨_, _, ⟨T179, L179, kk179, n179⟩, -, X179, ⟨Lc179, hQ179, l179, y179, z179⟩, st179⟩ := Jvm.LawKit.callS X176 hx (y := (⟨"com/example/nuthatch/nuthatch/EntryName", "isDigit", "(CI)Z"⟩ : MethodName)) hown (mvT hZ (hw _ (gm 105 rfl))) (mvT hZ (hw _ (gm 106 rfl))) (mvT hZ (hw _ (gm 29 rfl))) (mvT hZ (hw _ (gm 107 rfl))) (by decide) (backOf (W := 0) (rmD10 l Z a0 hw [] (cs.getD i 0)  h0 n0 O0 ) hZ (hw _ (gm 107 rfl)) (hw _ (gm 29 rfl)) (by decide) (by decide)) (g := (mkF m 16 #[vR a1, vI (Int32.ofNat fb), vI (Int32.ofNat te), vI 10, vI (Int32.ofNat i)] [(.int (10 : Int32)), (.int (cs.getD i 0))])) rfl (by rw [hml]; rfl) (argsL := [(.int (cs.getD i 0)), (.int (10 : Int32))]) (rest := []) (lenOf pd_22 rfl) rfl (by show 2 * 0 + _ ≤ _; exact Nat.le_of_eq rfl) (hb hby d19_16) (fun _ _ => ⟨rfl, hh176, (by decide : 0 + 0 ≤ _), (by decide : 0 + 0 ≤ _)⟩)
    dsimp only [Pt.U, Pt.locs, Pt.cells, Pt.slots] at X179 l179 y179 z179 st179 hQ179
    subst l179 y179 z179
    obtain ⟨rfl, Nq179, hh179⟩ := hQ179
    have N179 := Fr.app N176 Nq179
    have k180 : Rch p e below S0 T179 (mkF m 19 #[vR a1, vI (Int32.ofNat fb), vI (Int32.ofNat te), vI 10, vI (Int32.ofNat i)] [(.int (own_b (own_isd (kc (cs.getD i 0)) 1)))]) := fun t h => k178 t (st179 t h)
    by_cases hd : (own_isd (kc (cs.getD i 0)) 1) = true
    · have k181 : Rch p e below S0 T179 (mkF m 3 #[vR a1, vI (Int32.ofNat fb), vI (Int32.ofNat te), vI 10, vI (Int32.ofNat (i + 1))] []) := fun t h => k180 t (by
          show Steps p.tables e below (T179.setTop (mkF m 19 #[vR a1, vI (Int32.ofNat fb), vI (Int32.ofNat te), vI 10, vI (Int32.ofNat i)] [(.int (own_b (own_isd (kc (cs.getD i 0)) 1)))])) _
          refine XS.ifYes X179.here hx rfl (pc0 := 19) (pc' := 24) rfl (hb hby d19_19) rfl ((if0 _ _).trans (feq ((by rw [hd]; decide) : ¬ ((own_b (own_isd (kc (cs.getD i 0)) 1)) = (0 : Int32)))).2) (by decide) (by decide) ?_
          show Steps p.tables e below (T179.setTop (mkF m 24 #[vR a1, vI (Int32.ofNat fb), vI (Int32.ofNat te), vI 10, vI (Int32.ofNat i)] [])) _
          refine XS.iinc X179.here hx rfl (hb hby d19_24) rfl (l' := #[vR a1, vI (Int32.ofNat fb), vI (Int32.ofNat te), vI 10, vI ((Int32.ofNat i) + (1 : Int32))]) rfl ?_
          rw [own_inc (i := i) (by omega)]
          refine XS.goto X179.here hx rfl (pc0 := 27) (pc' := 3) rfl (hb hby d19_27) (by decide) (by decide) ?_
          exact h)
      exact ih (i + 1) (by omega) (by rw [← he]; simp only [own_dg, kg, hd, Bool.true_and]) _ _ X179 hh179 N179 k181
    · have k182 : Rch p e below S0 T179 (mkF m 23 #[vR a1, vI (Int32.ofNat fb), vI (Int32.ofNat te), vI 10, vI (Int32.ofNat i)] [(.int (0 : Int32))]) := fun t h => k180 t (by
          show Steps p.tables e below (T179.setTop (mkF m 19 #[vR a1, vI (Int32.ofNat fb), vI (Int32.ofNat te), vI 10, vI (Int32.ofNat i)] [(.int (own_b (own_isd (kc (cs.getD i 0)) 1)))])) _
          refine XS.ifNo X179.here hx rfl (hb hby d19_19) rfl ((if0 _ _).trans (teq ((by rw [eq_false_of_ne_true hd]; rfl) : (own_b (own_isd (kc (cs.getD i 0)) 1)) = (0 : Int32))).2) ?_
          refine XS.iconst X179.here hx rfl (hb hby d19_22) ?_
          exact h)
      obtain ⟨fs, hr, hrun, hended, hW, hsame⟩ := X179.leave (v := (some (.int (0 : Int32)))) (fun h => by rw [Bd.returns] at h; cases h)
      refine ⟨_, _, ?_, hrun, hended, _, _, rfl, ?_, ⟨_, rfl⟩, hW, hsame.mono (by decide) (by decide)⟩
      · rw [← hS0]
        refine k182 _ ?_
        show Steps p.tables e below (T179.setTop (mkF m 23 #[vR a1, vI (Int32.ofNat fb), vI (Int32.ofNat te), vI 10, vI (Int32.ofNat i)] [(.int (0 : Int32))])) _
        exact retN X179 hx (t := .boolean) Bd.returns (by simp) (hb hby d19_23) hr
      · show Q_rmDG10 Z cs fb te h0 n0 _ T179.heap _
        rw [hh179]
        exact ⟨by rw [← he]; simp only [own_dg, kg, eq_false_of_ne_true hd, Bool.false_and]; rfl, N179, rfl⟩
def Q_rmDG16 (Z : State) (cs : List Int32) (fb : Nat) (te : Nat) (h0 : Heap) (n0 : Nat) (v : Option Value) (h : Heap) (L : List Loc) : Prop := v = some (.int (own_b (own_dg (cs.map kc) 2 fb (te - fb)))) ∧ Fr n0 L ∧ h = h0
set_option maxRecDepth 65536 in
set_option maxHeartbeats 40000000 in
theorem rmDG16 (l : Launch) (Z : State) (a0 : Array Value) (hw : ∀ d ∈ tables_1, d.before a0 Z = true) (ws : List Jvm.Cond) (a1 : Addr) (tt : Addr) (kt : ClassId) (n : Nat) (cs : List Int32) (zC : Int32) (fb : Nat) (te : Nat) (fm : Value) (h0 : Heap) (n0 : Nat) (O0 : Old Z n0 h0) (SC : Sta Z Z.heap "java/lang/String" "COMPACT_STRINGS" "Z" (.int zC)) (hzC : ¬ zC = 0) (Ex : Exa Z h0 a1 "java/lang/String") (Fv : Fld Z h0 a1 "java/lang/String" "value" "[B" (.ref tt)) (Fc : Fld Z h0 a1 "java/lang/String" "coder" "B" (.int (0 : Int32))) (Vt : Arv Z h0 tt kt .byte (Int32.ofNat n) ((cs.map fun c => c.toInt8.toInt32).map Value.int) (.int (0 : Int32))) (hl : cs.length = n) (hn : n ≤ 7) (hp : ∀ c ∈ cs, ¬ c < 0 ∧ ¬ (255 : Int32) < c) (SP : Sta Z Z.heap "jdk/internal/util/Preconditions" "SIOOBE_FORMATTER" "Ljava/util/function/BiFunction;" fm) (hfm : fm = .null ∨ ∃ wP, fm = .ref wP) (hft : fb ≤ te) (htn : te ≤ n) :
    MetFree l (⟨"com/example/nuthatch/nuthatch/EntryName", "digits", "(Ljava/lang/String;III)Z"⟩ : MethodName) (head1 (Jvm.Cond.code (⟨"com/example/nuthatch/nuthatch/EntryName", "digits", "(Ljava/lang/String;III)Z"⟩ : MethodName) prog_2_method_15_code 5 (some .boolean) :: ws) ({ frames := 4, cells := 0, slots := 0, locals := 92 } : Room)) (fun a U => a = #[(.ref a1), (.int (Int32.ofNat fb)), (.int (Int32.ofNat te)), (.int (16 : Int32))] ∧ Z.Warmed39 U.vm ∧ U.heap = h0) (fun _ _ _ _ _ => True) (fun _ U o U' => ∃ v L, o = .returned v ∧ Q_rmDG16 Z cs fb te h0 n0 v U'.heap L ∧ FrameEnd U o U' L ({ frames := 4, cells := 0, slots := 0, locals := 92 } : Room).cells ({ frames := 4, cells := 0, slots := 0, locals := 92 } : Room).slots) := by
  refine MetFree.of_bodySF (plainFor_of_name pn_EntryName) hisR ?_
  intro p e s m args below meth c s₁ Bd hml0 hP hK
  obtain ⟨rfl, hZ, hh⟩ := hP
  have hx := Bd.exec
  have hby := Bd.bytes
  have hml : c.maxLocals = 5 := hml0
  have hown : s.vm.findClass "com/example/nuthatch/nuthatch/EntryName" = some m.cls := findClass_of_methodNamed Bd.named
  have hnm := (name_of_methodNamed Bd.named Bd.method).1
  have X0 : Stand p l e ({ frames := 4, cells := 0, slots := 0, locals := 92 } : Room) s m #[(.ref a1), (.int (Int32.ofNat fb)), (.int (Int32.ofNat te)), (.int (16 : Int32))] below meth c s₁ [] 0 0 := Stand.of_body Bd
  have e0 : s₁.heap = h0 := by rw [← hh, Bd.state]; rfl
  have N0 := Fr.nil n0
  obtain ⟨S0, hS0⟩ : ∃ z, z = s₁.setTop (entryFrame m #[(.ref a1), (.int (Int32.ofNat fb)), (.int (Int32.ofNat te)), (.int (16 : Int32))] 5) := ⟨_, rfl⟩
  have k0 : Rch p e below S0 s₁ (mkF m 0 #[vR a1, vI (Int32.ofNat fb), vI (Int32.ofNat te), vI 16, vU] []) := fun t kq => hS0 ▸ castTop (ef_19 m a1 (Int32.ofNat fb) (Int32.ofNat te) (16 : Int32)) kq
  have k183 : Rch p e below S0 s₁ (mkF m 3 #[vR a1, vI (Int32.ofNat fb), vI (Int32.ofNat te), vI 16, vI (Int32.ofNat fb)] []) := fun t h => k0 t (by
      show Steps p.tables e below (s₁.setTop (mkF m 0 #[vR a1, vI (Int32.ofNat fb), vI (Int32.ofNat te), vI 16, vU] [])) _
      refine XS.iloadN X0.here hx rfl (hb hby d19_0) rfl ?_
      refine XS.istore X0.here hx rfl (hb hby d19_1) rfl (l' := #[vR a1, vI (Int32.ofNat fb), vI (Int32.ofNat te), vI 16, vI (Int32.ofNat fb)]) rfl ?_
      exact h)
  refine (?_ : ∀ (k i : Nat), i + k = te → own_dg (cs.map kc) 2 i k = (own_dg (cs.map kc) 2 fb (te - fb)) → ∀ (T : State) (lo : List Loc), Stand p l e ({ frames := 4, cells := 0, slots := 0, locals := 92 } : Room) s m #[(.ref a1), (.int (Int32.ofNat fb)), (.int (Int32.ofNat te)), (.int (16 : Int32))] below meth c T lo 0 0 → T.heap = h0 → Fr n0 lo → Rch p e below S0 T (mkF m 3 #[vR a1, vI (Int32.ofNat fb), vI (Int32.ofNat te), vI 16, vI (Int32.ofNat i)] []) → _) (te - fb) fb (by omega) rfl _ _ X0 e0 N0 k183
  intro k
  induction k with
  | zero =>
    intro i hi he T lo X eT NN kk
    have hie : i = te := by omega
    rw [hie] at kk
    have k184 : Rch p e below S0 T (mkF m 31 #[vR a1, vI (Int32.ofNat fb), vI (Int32.ofNat te), vI 16, vI (Int32.ofNat te)] [(.int (1 : Int32))]) := fun t h => kk t (by
        show Steps p.tables e below (T.setTop (mkF m 3 #[vR a1, vI (Int32.ofNat fb), vI (Int32.ofNat te), vI 16, vI (Int32.ofNat te)] [])) _
        refine XS.iload X.here hx rfl (hb hby d19_3) rfl ?_
        refine XS.iloadN X.here hx rfl (hb hby d19_5) rfl ?_
        refine XS.icmpYes X.here hx rfl (pc0 := 6) (pc' := 30) rfl (hb hby d19_6) rfl (flt ((fun q => Nat.lt_irrefl _ ((own_olt (by omega) (by omega)).mp q)) : ¬ ((Int32.ofNat te) < (Int32.ofNat te)))).2.1 (by decide) (by decide) ?_
        refine XS.iconst X.here hx rfl (hb hby d19_30) ?_
        exact h)
    obtain ⟨fs, hr, hrun, hended, hW, hsame⟩ := X.leave (v := (some (.int (1 : Int32)))) (fun h => by rw [Bd.returns] at h; cases h)
    refine ⟨_, _, ?_, hrun, hended, _, _, rfl, ?_, ⟨_, rfl⟩, hW, hsame.mono (by decide) (by decide)⟩
    · rw [← hS0]
      refine k184 _ ?_
      show Steps p.tables e below (T.setTop (mkF m 31 #[vR a1, vI (Int32.ofNat fb), vI (Int32.ofNat te), vI 16, vI (Int32.ofNat te)] [(.int (1 : Int32))])) _
      exact retN X hx (t := .boolean) Bd.returns (by simp) (hb hby d19_31) hr
    · show Q_rmDG16 Z cs fb te h0 n0 _ T.heap _
      rw [eT]
      exact ⟨by rw [← he]; rfl, NN, rfl⟩
  | succ k ih =>
    intro i hi he T lo X eT NN kk
    have kg := own_kg cs i (by omega)
    have k185 : Rch p e below S0 T (mkF m 12 #[vR a1, vI (Int32.ofNat fb), vI (Int32.ofNat te), vI 16, vI (Int32.ofNat i)] [(.int (Int32.ofNat i)), (.ref a1)]) := fun t h => kk t (by
        show Steps p.tables e below (T.setTop (mkF m 3 #[vR a1, vI (Int32.ofNat fb), vI (Int32.ofNat te), vI 16, vI (Int32.ofNat i)] [])) _
        refine XS.iload X.here hx rfl (hb hby d19_3) rfl ?_
        refine XS.iloadN X.here hx rfl (hb hby d19_5) rfl ?_
        refine XS.icmpNo X.here hx rfl (hb hby d19_6) rfl (tlt (((own_olt (by omega) (by omega)).mpr (by omega)) : (Int32.ofNat i) < (Int32.ofNat te))).2.1 ?_
        refine XS.aloadN X.here hx rfl (hb hby d19_9) rfl rfl ?_
        refine XS.iload X.here hx rfl (hb hby d19_10) rfl ?_
        exact h)
    obtain ⟨cq186, kq186, q186a, q186b, q186c⟩ := isOf hZ eT Ex
    obtain ⟨_, _, ⟨T186, L186, kk186, n186⟩, -, X186, ⟨Lc186, hQ186, l186, y186, z186⟩, st186⟩ := X.virtualBack hx (y := (⟨"java/lang/String", "charAt", "(I)C"⟩ : MethodName)) (z := (⟨"java/lang/String", "charAt", "(I)C"⟩ : MethodName)) hown (mvT hZ (hw _ (gm 89 rfl))) (mvT hZ (hw _ (gm 90 rfl))) (notFace_of_selects (args := #[]) (mvT hZ (hw _ (gm 92 rfl)))) (mvT hZ (hw _ (gm 92 rfl))) (mvT hZ (hw _ (gm 91 rfl))) (by decide) (backOf (W := 0) (rmCA l Z a0 hw []  a1 tt kt n cs zC i fm h0 n0 O0 SC hzC Ex Fv Fc Vt hl hn hp SP hfm (by omega)) hZ (hw _ (gm 93 rfl)) (hw _ (gm 8 rfl)) (by decide) (by decide)) q186a q186c (g := (mkF m 12 #[vR a1, vI (Int32.ofNat fb), vI (Int32.ofNat te), vI 16, vI (Int32.ofNat i)] [(.int (Int32.ofNat i)), (.ref a1)])) rfl (by rw [hml]; rfl) (Steps.refl _) (argsL := [(.int (Int32.ofNat i))]) (rest := []) (lenOf pd_18 rfl) rfl (by show 2 * 0 + _ ≤ _; exact Nat.le_of_eq rfl) (hb hby d19_12) (fun _ _ => ⟨rfl, eT, (by decide : 0 + 0 ≤ _), (by decide : 0 + 0 ≤ _)⟩)
    dsimp only [Pt.U, Pt.locs, Pt.cells, Pt.slots] at X186 l186 y186 z186 st186 hQ186
    subst l186 y186 z186
    obtain ⟨rfl, Nq186, hh186⟩ := hQ186
    have N186 := Fr.app NN Nq186
    have k187 : Rch p e below S0 T186 (mkF m 15 #[vR a1, vI (Int32.ofNat fb), vI (Int32.ofNat te), vI 16, vI (Int32.ofNat i)] [(.int (cs.getD i 0))]) := fun t h => k185 t (st186.trans h)
    have k188 : Rch p e below S0 T186 (mkF m 16 #[vR a1, vI (Int32.ofNat fb), vI (Int32.ofNat te), vI 16, vI (Int32.ofNat i)] [(.int (16 : Int32)), (.int (cs.getD i 0))]) := fun t h => k187 t (by
        show Steps p.tables e below (T186.setTop (mkF m 15 #[vR a1, vI (Int32.ofNat fb), vI (Int32.ofNat te), vI 16, vI (Int32.ofNat i)] [(.int (cs.getD i 0))])) _
        refine XS.iloadN X186.here hx rfl (hb hby d19_15) rfl ?_
        exact h)
    obtain ⟨_, _, ⟨T189, L189, kk189, n189⟩, -, X189, ⟨Lc189, hQ189, l189, y189, z189⟩, st189⟩ := Jvm.LawKit.callS X186 hx (y := (⟨"com/example/nuthatch/nuthatch/EntryName", "isDigit", "(CI)Z"⟩ : MethodName)) hown (mvT hZ (hw _ (gm 105 rfl))) (mvT hZ (hw _ (gm 106 rfl))) (mvT hZ (hw _ (gm 29 rfl))) (mvT hZ (hw _ (gm 107 rfl))) (by decide) (backOf (W := 0) (rmD16 l Z a0 hw [] (cs.getD i 0)  h0 n0 O0 ) hZ (hw _ (gm 107 rfl)) (hw _ (gm 29 rfl)) (by decide) (by decide)) (g := (mkF m 16 #[vR a1, vI (Int32.ofNat fb), vI (Int32.ofNat te), vI 16, vI (Int32.ofNat i)] [(.int (16 : Int32)), (.int (cs.getD i 0))])) rfl (by rw [hml]; rfl) (argsL := [(.int (cs.getD i 0)), (.int (16 : Int32))]) (rest := []) (lenOf pd_22 rfl) rfl (by show 2 * 0 + _ ≤ _; exact Nat.le_of_eq rfl) (hb hby d19_16) (fun _ _ => ⟨rfl, hh186, (by decide : 0 + 0 ≤ _), (by decide : 0 + 0 ≤ _)⟩)
    dsimp only [Pt.U, Pt.locs, Pt.cells, Pt.slots] at X189 l189 y189 z189 st189 hQ189
    subst l189 y189 z189
    obtain ⟨rfl, Nq189, hh189⟩ := hQ189
    have N189 := Fr.app N186 Nq189
    have k190 : Rch p e below S0 T189 (mkF m 19 #[vR a1, vI (Int32.ofNat fb), vI (Int32.ofNat te), vI 16, vI (Int32.ofNat i)] [(.int (own_b (own_isd (kc (cs.getD i 0)) 2)))]) := fun t h => k188 t (st189 t h)
    by_cases hd : (own_isd (kc (cs.getD i 0)) 2) = true
    · have k191 : Rch p e below S0 T189 (mkF m 3 #[vR a1, vI (Int32.ofNat fb), vI (Int32.ofNat te), vI 16, vI (Int32.ofNat (i + 1))] []) := fun t h => k190 t (by
          show Steps p.tables e below (T189.setTop (mkF m 19 #[vR a1, vI (Int32.ofNat fb), vI (Int32.ofNat te), vI 16, vI (Int32.ofNat i)] [(.int (own_b (own_isd (kc (cs.getD i 0)) 2)))])) _
          refine XS.ifYes X189.here hx rfl (pc0 := 19) (pc' := 24) rfl (hb hby d19_19) rfl ((if0 _ _).trans (feq ((by rw [hd]; decide) : ¬ ((own_b (own_isd (kc (cs.getD i 0)) 2)) = (0 : Int32)))).2) (by decide) (by decide) ?_
          show Steps p.tables e below (T189.setTop (mkF m 24 #[vR a1, vI (Int32.ofNat fb), vI (Int32.ofNat te), vI 16, vI (Int32.ofNat i)] [])) _
          refine XS.iinc X189.here hx rfl (hb hby d19_24) rfl (l' := #[vR a1, vI (Int32.ofNat fb), vI (Int32.ofNat te), vI 16, vI ((Int32.ofNat i) + (1 : Int32))]) rfl ?_
          rw [own_inc (i := i) (by omega)]
          refine XS.goto X189.here hx rfl (pc0 := 27) (pc' := 3) rfl (hb hby d19_27) (by decide) (by decide) ?_
          exact h)
      exact ih (i + 1) (by omega) (by rw [← he]; simp only [own_dg, kg, hd, Bool.true_and]) _ _ X189 hh189 N189 k191
    · have k192 : Rch p e below S0 T189 (mkF m 23 #[vR a1, vI (Int32.ofNat fb), vI (Int32.ofNat te), vI 16, vI (Int32.ofNat i)] [(.int (0 : Int32))]) := fun t h => k190 t (by
          show Steps p.tables e below (T189.setTop (mkF m 19 #[vR a1, vI (Int32.ofNat fb), vI (Int32.ofNat te), vI 16, vI (Int32.ofNat i)] [(.int (own_b (own_isd (kc (cs.getD i 0)) 2)))])) _
          refine XS.ifNo X189.here hx rfl (hb hby d19_19) rfl ((if0 _ _).trans (teq ((by rw [eq_false_of_ne_true hd]; rfl) : (own_b (own_isd (kc (cs.getD i 0)) 2)) = (0 : Int32))).2) ?_
          refine XS.iconst X189.here hx rfl (hb hby d19_22) ?_
          exact h)
      obtain ⟨fs, hr, hrun, hended, hW, hsame⟩ := X189.leave (v := (some (.int (0 : Int32)))) (fun h => by rw [Bd.returns] at h; cases h)
      refine ⟨_, _, ?_, hrun, hended, _, _, rfl, ?_, ⟨_, rfl⟩, hW, hsame.mono (by decide) (by decide)⟩
      · rw [← hS0]
        refine k192 _ ?_
        show Steps p.tables e below (T189.setTop (mkF m 23 #[vR a1, vI (Int32.ofNat fb), vI (Int32.ofNat te), vI 16, vI (Int32.ofNat i)] [(.int (0 : Int32))])) _
        exact retN X189 hx (t := .boolean) Bd.returns (by simp) (hb hby d19_23) hr
      · show Q_rmDG16 Z cs fb te h0 n0 _ T189.heap _
        rw [hh189]
        exact ⟨by rw [← he]; simp only [own_dg, kg, eq_false_of_ne_true hd, Bool.false_and]; rfl, N189, rfl⟩
def Q_rmUS (Z : State) (n : Nat) (cs : List Int32) (h0 : Heap) (n0 : Nat) (v : Option Value) (h : Heap) (L : List Loc) : Prop := ∃ r, v = some (.int r) ∧ Fr n0 L ∧ h = h0 ∧ (own_mem (cs.map kc) n = true → ¬ r < 0) ∧ (own_mem (cs.map kc) n = false → r < 0)
theorem ef_6 (m : MethodId) (x0 : Addr) : entryFrame m #[(.ref x0)] 4 = mkF m 0 #[.val (.ref x0), .unset, .unset, .unset] [] := by first | (simp [entryFrame, mkF, argsToLocals, Value.category]; done) | rfl
theorem d6_0 : decode prog_2_method_6_code 0 = .ok (.aload_n 0, 1) := by decide +kernel
theorem d6_1 : decode prog_2_method_6_code 1 = .ok (.bipush 45, 2) := by decide +kernel
theorem pd_6 : parseMethodDescriptor "(I)I" = some ⟨[.int], some .int⟩ := by decide +kernel
theorem d6_3 : decode prog_2_method_6_code 3 = .ok (.invokevirtual 54, 3) := by decide +kernel
theorem d6_6 : decode prog_2_method_6_code 6 = .ok (.istore_n 1, 1) := by decide +kernel
theorem d6_7 : decode prog_2_method_6_code 7 = .ok (.iload_n 1, 1) := by decide +kernel
theorem d6_8 : decode prog_2_method_6_code 8 = .ok (.ifCond .ge 7, 3) := by decide +kernel
theorem d6_11 : decode prog_2_method_6_code 11 = .ok (.iconst (-1), 1) := by decide +kernel
theorem d6_12 : decode prog_2_method_6_code 12 = .ok (.goto 12, 3) := by decide +kernel
theorem d6_24 : decode prog_2_method_6_code 24 = .ok (.istore_n 2, 1) := by decide +kernel
theorem d6_25 : decode prog_2_method_6_code 25 = .ok (.iload_n 2, 1) := by decide +kernel
theorem d6_26 : decode prog_2_method_6_code 26 = .ok (.ifCond .lt 53, 3) := by decide +kernel
theorem d6_79 : decode prog_2_method_6_code 79 = .ok (.iconst 0, 1) := by decide +kernel
theorem d6_80 : decode prog_2_method_6_code 80 = .ok (.istore_n 3, 1) := by decide +kernel
theorem d6_81 : decode prog_2_method_6_code 81 = .ok (.iload_n 3, 1) := by decide +kernel
theorem d6_82 : decode prog_2_method_6_code 82 = .ok (.ifCond .eq 9, 3) := by decide +kernel
theorem d6_91 : decode prog_2_method_6_code 91 = .ok (.iconst (-1), 1) := by decide +kernel
theorem d6_92 : decode prog_2_method_6_code 92 = .ok (.ireturn, 1) := by decide +kernel
theorem d6_15 : decode prog_2_method_6_code 15 = .ok (.aload_n 0, 1) := by decide +kernel
theorem d6_16 : decode prog_2_method_6_code 16 = .ok (.bipush 45, 2) := by decide +kernel
theorem d6_18 : decode prog_2_method_6_code 18 = .ok (.iload_n 1, 1) := by decide +kernel
theorem d6_19 : decode prog_2_method_6_code 19 = .ok (.iconst 1, 1) := by decide +kernel
theorem d6_20 : decode prog_2_method_6_code 20 = .ok (.isub, 1) := by decide +kernel
theorem d6_21 : decode prog_2_method_6_code 21 = .ok (.invokevirtual 58, 3) := by decide +kernel
theorem d6_29 : decode prog_2_method_6_code 29 = .ok (.iload_n 1, 1) := by decide +kernel
theorem d6_30 : decode prog_2_method_6_code 30 = .ok (.iload_n 2, 1) := by decide +kernel
theorem d6_31 : decode prog_2_method_6_code 31 = .ok (.iconst 1, 1) := by decide +kernel
theorem d6_32 : decode prog_2_method_6_code 32 = .ok (.iadd, 1) := by decide +kernel
theorem d6_33 : decode prog_2_method_6_code 33 = .ok (.if_icmp .le 46, 3) := by decide +kernel
theorem d6_36 : decode prog_2_method_6_code 36 = .ok (.iload_n 1, 1) := by decide +kernel
theorem d6_37 : decode prog_2_method_6_code 37 = .ok (.aload_n 0, 1) := by decide +kernel
theorem d6_38 : decode prog_2_method_6_code 38 = .ok (.invokevirtual 20, 3) := by decide +kernel
theorem d6_41 : decode prog_2_method_6_code 41 = .ok (.iconst 1, 1) := by decide +kernel
theorem d6_42 : decode prog_2_method_6_code 42 = .ok (.isub, 1) := by decide +kernel
theorem d6_43 : decode prog_2_method_6_code 43 = .ok (.if_icmp .ge 36, 3) := by decide +kernel
theorem d6_46 : decode prog_2_method_6_code 46 = .ok (.aload_n 0, 1) := by decide +kernel
theorem d6_47 : decode prog_2_method_6_code 47 = .ok (.iload_n 2, 1) := by decide +kernel
theorem d6_48 : decode prog_2_method_6_code 48 = .ok (.iconst 1, 1) := by decide +kernel
theorem d6_49 : decode prog_2_method_6_code 49 = .ok (.iadd, 1) := by decide +kernel
theorem d6_50 : decode prog_2_method_6_code 50 = .ok (.iload_n 1, 1) := by decide +kernel
theorem d6_51 : decode prog_2_method_6_code 51 = .ok (.bipush 16, 2) := by decide +kernel
theorem pd_17 : parseMethodDescriptor "(Ljava/lang/String;III)Z" = some ⟨[(.object "java/lang/String"), .int, .int, .int], some .boolean⟩ := by decide +kernel
theorem d6_53 : decode prog_2_method_6_code 53 = .ok (.invokestatic 61, 3) := by decide +kernel
theorem d6_56 : decode prog_2_method_6_code 56 = .ok (.ifCond .eq 23, 3) := by decide +kernel
theorem d6_59 : decode prog_2_method_6_code 59 = .ok (.aload_n 0, 1) := by decide +kernel
theorem d6_60 : decode prog_2_method_6_code 60 = .ok (.iload_n 1, 1) := by decide +kernel
theorem d6_61 : decode prog_2_method_6_code 61 = .ok (.iconst 1, 1) := by decide +kernel
theorem d6_62 : decode prog_2_method_6_code 62 = .ok (.iadd, 1) := by decide +kernel
theorem d6_63 : decode prog_2_method_6_code 63 = .ok (.aload_n 0, 1) := by decide +kernel
theorem d6_64 : decode prog_2_method_6_code 64 = .ok (.invokevirtual 20, 3) := by decide +kernel
theorem d6_67 : decode prog_2_method_6_code 67 = .ok (.bipush 10, 2) := by decide +kernel
theorem d6_69 : decode prog_2_method_6_code 69 = .ok (.invokestatic 61, 3) := by decide +kernel
theorem d6_72 : decode prog_2_method_6_code 72 = .ok (.ifCond .eq 7, 3) := by decide +kernel
theorem d6_75 : decode prog_2_method_6_code 75 = .ok (.iconst 1, 1) := by decide +kernel
theorem d6_76 : decode prog_2_method_6_code 76 = .ok (.goto 4, 3) := by decide +kernel
theorem d6_85 : decode prog_2_method_6_code 85 = .ok (.iload_n 2, 1) := by decide +kernel
theorem d6_86 : decode prog_2_method_6_code 86 = .ok (.iconst 1, 1) := by decide +kernel
theorem d6_87 : decode prog_2_method_6_code 87 = .ok (.iadd, 1) := by decide +kernel
theorem d6_88 : decode prog_2_method_6_code 88 = .ok (.goto 4, 3) := by decide +kernel
theorem own_li_lt {ks : List Nat} {k p : Nat} (h : own_li ks k = some p) : p < k := by
  induction k with
  | zero => cases h
  | succ k ih =>
    simp only [own_li] at h
    split at h
    · cases h; omega
    · exact Nat.lt_succ_of_lt (ih h)
set_option maxRecDepth 65536 in
set_option maxHeartbeats 40000000 in
theorem rmUS (l : Launch) (Z : State) (a0 : Array Value) (hw : ∀ d ∈ tables_1, d.before a0 Z = true) (ws : List Jvm.Cond) (a1 : Addr) (tt : Addr) (kt : ClassId) (n : Nat) (cs : List Int32) (zC : Int32) (fm : Value) (h0 : Heap) (n0 : Nat) (O0 : Old Z n0 h0) (SC : Sta Z Z.heap "java/lang/String" "COMPACT_STRINGS" "Z" (.int zC)) (hzC : ¬ zC = 0) (Ex : Exa Z h0 a1 "java/lang/String") (Fv : Fld Z h0 a1 "java/lang/String" "value" "[B" (.ref tt)) (Fc : Fld Z h0 a1 "java/lang/String" "coder" "B" (.int (0 : Int32))) (Vt : Arv Z h0 tt kt .byte (Int32.ofNat n) ((cs.map fun c => c.toInt8.toInt32).map Value.int) (.int (0 : Int32))) (hl : cs.length = n) (hn : n ≤ 7) (hp : ∀ c ∈ cs, ¬ c < 0 ∧ ¬ (255 : Int32) < c) (SP : Sta Z Z.heap "jdk/internal/util/Preconditions" "SIOOBE_FORMATTER" "Ljava/util/function/BiFunction;" fm) (hfm : fm = .null ∨ ∃ wP, fm = .ref wP) :
    MetFree l (⟨"com/example/nuthatch/nuthatch/EntryName", "uniqueStart", "(Ljava/lang/String;)I"⟩ : MethodName) (head1 (Jvm.Cond.code (⟨"com/example/nuthatch/nuthatch/EntryName", "uniqueStart", "(Ljava/lang/String;)I"⟩ : MethodName) prog_2_method_6_code 4 (some .int) :: ws) ({ frames := 5, cells := 0, slots := 0, locals := 118 } : Room)) (fun a U => a = #[(.ref a1)] ∧ Z.Warmed39 U.vm ∧ U.heap = h0) (fun _ _ _ _ _ => True) (fun _ U o U' => ∃ v L, o = .returned v ∧ Q_rmUS Z n cs h0 n0 v U'.heap L ∧ FrameEnd U o U' L ({ frames := 5, cells := 0, slots := 0, locals := 118 } : Room).cells ({ frames := 5, cells := 0, slots := 0, locals := 118 } : Room).slots) := by
  refine MetFree.of_bodySF (plainFor_of_name pn_EntryName) hisR ?_
  intro p e s m args below meth c s₁ Bd hml0 hP hK
  obtain ⟨rfl, hZ, hh⟩ := hP
  have hx := Bd.exec
  have hby := Bd.bytes
  have hml : c.maxLocals = 4 := hml0
  have hown : s.vm.findClass "com/example/nuthatch/nuthatch/EntryName" = some m.cls := findClass_of_methodNamed Bd.named
  have hnm := (name_of_methodNamed Bd.named Bd.method).1
  have X0 : Stand p l e ({ frames := 5, cells := 0, slots := 0, locals := 118 } : Room) s m #[(.ref a1)] below meth c s₁ [] 0 0 := Stand.of_body Bd
  have e0 : s₁.heap = h0 := by rw [← hh, Bd.state]; rfl
  have N0 := Fr.nil n0
  obtain ⟨S0, hS0⟩ : ∃ z, z = s₁.setTop (entryFrame m #[(.ref a1)] 4) := ⟨_, rfl⟩
  have k0 : Rch p e below S0 s₁ (mkF m 0 #[vR a1, vU, vU, vU] []) := fun t kq => hS0 ▸ castTop (ef_6 m a1) kq
  cases h1 : own_li (cs.map kc) n with
  | none =>
    have r1 : own_lir (cs.map kc) n = -1 := by simp only [own_lir, h1]
    have hM : own_mem (cs.map kc) n = false := by simp only [own_mem, h1]
    have k193 : Rch p e below S0 s₁ (mkF m 3 #[vR a1, vU, vU, vU] [(.int (45 : Int32)), (.ref a1)]) := fun t h => k0 t (by
        show Steps p.tables e below (s₁.setTop (mkF m 0 #[vR a1, vU, vU, vU] [])) _
        refine XS.aloadN X0.here hx rfl (hb hby d6_0) rfl rfl ?_
        refine XS.bipush X0.here hx rfl (hb hby d6_1) ?_
        exact h)
    obtain ⟨cq194, kq194, q194a, q194b, q194c⟩ := isOf hZ e0 Ex
    obtain ⟨_, _, ⟨T194, L194, kk194, n194⟩, -, X194, ⟨Lc194, hQ194, l194, y194, z194⟩, st194⟩ := X0.virtualBack hx (y := (⟨"java/lang/String", "lastIndexOf", "(I)I"⟩ : MethodName)) (z := (⟨"java/lang/String", "lastIndexOf", "(I)I"⟩ : MethodName)) hown (mvT hZ (hw _ (gm 34 rfl))) (mvT hZ (hw _ (gm 35 rfl))) (notFace_of_selects (args := #[]) (mvT hZ (hw _ (gm 37 rfl)))) (mvT hZ (hw _ (gm 37 rfl))) (mvT hZ (hw _ (gm 36 rfl))) (by decide) (backOf (W := 0) (rmL1 l Z a0 hw []  a1 tt kt n cs zC h0 n0 O0 SC hzC Ex Fv Fc Vt hl hn hp) hZ (hw _ (gm 38 rfl)) (hw _ (gm 8 rfl)) (by decide) (by decide)) q194a q194c (g := (mkF m 3 #[vR a1, vU, vU, vU] [(.int (45 : Int32)), (.ref a1)])) rfl (by rw [hml]; rfl) (Steps.refl _) (argsL := [(.int (45 : Int32))]) (rest := []) (lenOf pd_6 rfl) rfl (by show 2 * 0 + _ ≤ _; exact Nat.le_of_eq rfl) (hb hby d6_3) (fun _ _ => ⟨rfl, e0, (by decide : 0 + 0 ≤ _), (by decide : 0 + 0 ≤ _)⟩)
    dsimp only [Pt.U, Pt.locs, Pt.cells, Pt.slots] at X194 l194 y194 z194 st194 hQ194
    subst l194 y194 z194
    obtain ⟨rfl, Nq194, hh194⟩ := hQ194
    have N194 := Fr.app N0 Nq194
    have k195 : Rch p e below S0 T194 (mkF m 6 #[vR a1, vU, vU, vU] [(.int (-1 : Int32))]) := fun t h => k193 t (st194.trans (by rw [r1]; exact h))
    have k196 : Rch p e below S0 T194 (mkF m 92 #[vR a1, vI (-1), vI (-1), vI 0] [(.int (-1 : Int32))]) := fun t h => k195 t (by
        show Steps p.tables e below (T194.setTop (mkF m 6 #[vR a1, vU, vU, vU] [(.int (-1 : Int32))])) _
        refine XS.istoreN X194.here hx rfl (hb hby d6_6) rfl (l' := #[vR a1, vI (-1), vU, vU]) rfl ?_
        refine XS.iloadN X194.here hx rfl (hb hby d6_7) rfl ?_
        refine XS.ifNo X194.here hx rfl (hb hby d6_8) rfl ((if0 _ _).trans (tlt (by decide : (-1 : Int32) < (0 : Int32))).2.1) ?_
        refine XS.iconst X194.here hx rfl (hb hby d6_11) ?_
        refine XS.goto X194.here hx rfl (pc0 := 12) (pc' := 24) rfl (hb hby d6_12) (by decide) (by decide) ?_
        refine XS.istoreN X194.here hx rfl (hb hby d6_24) rfl (l' := #[vR a1, vI (-1), vI (-1), vU]) rfl ?_
        refine XS.iloadN X194.here hx rfl (hb hby d6_25) rfl ?_
        refine XS.ifYes X194.here hx rfl (pc0 := 26) (pc' := 79) rfl (hb hby d6_26) rfl ((if0 _ _).trans (tlt (by decide : (-1 : Int32) < (0 : Int32))).1) (by decide) (by decide) ?_
        refine XS.iconst X194.here hx rfl (hb hby d6_79) ?_
        refine XS.istoreN X194.here hx rfl (hb hby d6_80) rfl (l' := #[vR a1, vI (-1), vI (-1), vI 0]) rfl ?_
        refine XS.iloadN X194.here hx rfl (hb hby d6_81) rfl ?_
        refine XS.ifYes X194.here hx rfl (pc0 := 82) (pc' := 91) rfl (hb hby d6_82) rfl ((if0 _ _).trans (teq (by decide : (0 : Int32) = (0 : Int32))).1) (by decide) (by decide) ?_
        refine XS.iconst X194.here hx rfl (hb hby d6_91) ?_
        exact h)
    obtain ⟨fs, hr, hrun, hended, hW, hsame⟩ := X194.leave (v := (some (.int (-1 : Int32)))) (fun h => by rw [Bd.returns] at h; cases h)
    refine ⟨_, _, ?_, hrun, hended, _, _, rfl, ?_, ⟨_, rfl⟩, hW, hsame.mono (by decide) (by decide)⟩
    · rw [← hS0]
      refine k196 _ ?_
      show Steps p.tables e below (T194.setTop (mkF m 92 #[vR a1, vI (-1), vI (-1), vI 0] [(.int (-1 : Int32))])) _
      exact retI X194 hx Bd.returns (hb hby d6_92) hr
    · show Q_rmUS Z n cs h0 n0 _ T194.heap _
      rw [hh194]
      exact ⟨_, rfl, N194, rfl, fun q => absurd q (by rw [hM]; decide), fun _ => by decide⟩
  | some p1 =>
    have r1 : own_lir (cs.map kc) n = Int32.ofNat p1 := by simp only [own_lir, h1]
    have hp1 : p1 < n := own_li_lt h1
    have k197 : Rch p e below S0 s₁ (mkF m 3 #[vR a1, vU, vU, vU] [(.int (45 : Int32)), (.ref a1)]) := fun t h => k0 t (by
        show Steps p.tables e below (s₁.setTop (mkF m 0 #[vR a1, vU, vU, vU] [])) _
        refine XS.aloadN X0.here hx rfl (hb hby d6_0) rfl rfl ?_
        refine XS.bipush X0.here hx rfl (hb hby d6_1) ?_
        exact h)
    obtain ⟨cq198, kq198, q198a, q198b, q198c⟩ := isOf hZ e0 Ex
    obtain ⟨_, _, ⟨T198, L198, kk198, n198⟩, -, X198, ⟨Lc198, hQ198, l198, y198, z198⟩, st198⟩ := X0.virtualBack hx (y := (⟨"java/lang/String", "lastIndexOf", "(I)I"⟩ : MethodName)) (z := (⟨"java/lang/String", "lastIndexOf", "(I)I"⟩ : MethodName)) hown (mvT hZ (hw _ (gm 34 rfl))) (mvT hZ (hw _ (gm 35 rfl))) (notFace_of_selects (args := #[]) (mvT hZ (hw _ (gm 37 rfl)))) (mvT hZ (hw _ (gm 37 rfl))) (mvT hZ (hw _ (gm 36 rfl))) (by decide) (backOf (W := 0) (rmL1 l Z a0 hw []  a1 tt kt n cs zC h0 n0 O0 SC hzC Ex Fv Fc Vt hl hn hp) hZ (hw _ (gm 38 rfl)) (hw _ (gm 8 rfl)) (by decide) (by decide)) q198a q198c (g := (mkF m 3 #[vR a1, vU, vU, vU] [(.int (45 : Int32)), (.ref a1)])) rfl (by rw [hml]; rfl) (Steps.refl _) (argsL := [(.int (45 : Int32))]) (rest := []) (lenOf pd_6 rfl) rfl (by show 2 * 0 + _ ≤ _; exact Nat.le_of_eq rfl) (hb hby d6_3) (fun _ _ => ⟨rfl, e0, (by decide : 0 + 0 ≤ _), (by decide : 0 + 0 ≤ _)⟩)
    dsimp only [Pt.U, Pt.locs, Pt.cells, Pt.slots] at X198 l198 y198 z198 st198 hQ198
    subst l198 y198 z198
    obtain ⟨rfl, Nq198, hh198⟩ := hQ198
    have N198 := Fr.app N0 Nq198
    have k199 : Rch p e below S0 T198 (mkF m 6 #[vR a1, vU, vU, vU] [(.int (Int32.ofNat p1))]) := fun t h => k197 t (st198.trans (by rw [r1]; exact h))
    have k200 : Rch p e below S0 T198 (mkF m 15 #[vR a1, vI (Int32.ofNat p1), vU, vU] []) := fun t h => k199 t (by
        show Steps p.tables e below (T198.setTop (mkF m 6 #[vR a1, vU, vU, vU] [(.int (Int32.ofNat p1))])) _
        refine XS.istoreN X198.here hx rfl (hb hby d6_6) rfl (l' := #[vR a1, vI (Int32.ofNat p1), vU, vU]) rfl ?_
        refine XS.iloadN X198.here hx rfl (hb hby d6_7) rfl ?_
        refine XS.ifYes X198.here hx rfl (pc0 := 8) (pc' := 15) rfl (hb hby d6_8) rfl ((if0 _ _).trans (flt ((own_on0 (by omega)) : ¬ ((Int32.ofNat p1) < (0 : Int32)))).2.1) (by decide) (by decide) ?_
        exact h)
    cases h2 : own_li (cs.map kc) p1 with
    | none =>
      have r2 : own_lir (cs.map kc) p1 = -1 := by simp only [own_lir, h2]
      have hM : own_mem (cs.map kc) n = false := by simp only [own_mem, h1, h2]
      have k201 : Rch p e below S0 T198 (mkF m 21 #[vR a1, vI (Int32.ofNat p1), vU, vU] [(.int ((Int32.ofNat p1) - (1 : Int32))), (.int (45 : Int32)), (.ref a1)]) := fun t h => k200 t (by
          show Steps p.tables e below (T198.setTop (mkF m 15 #[vR a1, vI (Int32.ofNat p1), vU, vU] [])) _
          refine XS.aloadN X198.here hx rfl (hb hby d6_15) rfl rfl ?_
          refine XS.bipush X198.here hx rfl (hb hby d6_16) ?_
          refine XS.iloadN X198.here hx rfl (hb hby d6_18) rfl ?_
          refine XS.iconst X198.here hx rfl (hb hby d6_19) ?_
          refine XS.isub X198.here hx rfl (hb hby d6_20) rfl ?_
          exact h)
      obtain ⟨cq202, kq202, q202a, q202b, q202c⟩ := isOf hZ hh198 Ex
      obtain ⟨_, _, ⟨T202, L202, kk202, n202⟩, -, X202, ⟨Lc202, hQ202, l202, y202, z202⟩, st202⟩ := X198.virtualBack hx (y := (⟨"java/lang/String", "lastIndexOf", "(II)I"⟩ : MethodName)) (z := (⟨"java/lang/String", "lastIndexOf", "(II)I"⟩ : MethodName)) hown (mvT hZ (hw _ (gm 84 rfl))) (mvT hZ (hw _ (gm 51 rfl))) (notFace_of_selects (args := #[]) (mvT hZ (hw _ (gm 53 rfl)))) (mvT hZ (hw _ (gm 53 rfl))) (mvT hZ (hw _ (gm 52 rfl))) (by decide) (backOf (W := 0) (rmL2 l Z a0 hw []  a1 tt kt n cs zC p1 h0 n0 O0 SC hzC Ex Fv Fc Vt hl hn hp (by omega)) hZ (hw _ (gm 54 rfl)) (hw _ (gm 8 rfl)) (by decide) (by decide)) q202a q202c (g := (mkF m 21 #[vR a1, vI (Int32.ofNat p1), vU, vU] [(.int ((Int32.ofNat p1) - (1 : Int32))), (.int (45 : Int32)), (.ref a1)])) rfl (by rw [hml]; rfl) (Steps.refl _) (argsL := [(.int (45 : Int32)), (.int ((Int32.ofNat p1) - (1 : Int32)))]) (rest := []) (lenOf pd_9 rfl) rfl (by show 2 * 0 + _ ≤ _; exact Nat.le_of_eq rfl) (hb hby d6_21) (fun _ _ => ⟨rfl, hh198, (by decide : 0 + 0 ≤ _), (by decide : 0 + 0 ≤ _)⟩)
      dsimp only [Pt.U, Pt.locs, Pt.cells, Pt.slots] at X202 l202 y202 z202 st202 hQ202
      subst l202 y202 z202
      obtain ⟨rfl, Nq202, hh202⟩ := hQ202
      have N202 := Fr.app N198 Nq202
      have k203 : Rch p e below S0 T202 (mkF m 24 #[vR a1, vI (Int32.ofNat p1), vU, vU] [(.int (-1 : Int32))]) := fun t h => k201 t (st202.trans (by rw [r2]; exact h))
      have k204 : Rch p e below S0 T202 (mkF m 92 #[vR a1, vI (Int32.ofNat p1), vI (-1), vI 0] [(.int (-1 : Int32))]) := fun t h => k203 t (by
          show Steps p.tables e below (T202.setTop (mkF m 24 #[vR a1, vI (Int32.ofNat p1), vU, vU] [(.int (-1 : Int32))])) _
          refine XS.istoreN X202.here hx rfl (hb hby d6_24) rfl (l' := #[vR a1, vI (Int32.ofNat p1), vI (-1), vU]) rfl ?_
          refine XS.iloadN X202.here hx rfl (hb hby d6_25) rfl ?_
          refine XS.ifYes X202.here hx rfl (pc0 := 26) (pc' := 79) rfl (hb hby d6_26) rfl ((if0 _ _).trans (tlt (by decide : (-1 : Int32) < (0 : Int32))).1) (by decide) (by decide) ?_
          refine XS.iconst X202.here hx rfl (hb hby d6_79) ?_
          refine XS.istoreN X202.here hx rfl (hb hby d6_80) rfl (l' := #[vR a1, vI (Int32.ofNat p1), vI (-1), vI 0]) rfl ?_
          refine XS.iloadN X202.here hx rfl (hb hby d6_81) rfl ?_
          refine XS.ifYes X202.here hx rfl (pc0 := 82) (pc' := 91) rfl (hb hby d6_82) rfl ((if0 _ _).trans (teq (by decide : (0 : Int32) = (0 : Int32))).1) (by decide) (by decide) ?_
          refine XS.iconst X202.here hx rfl (hb hby d6_91) ?_
          exact h)
      obtain ⟨fs, hr, hrun, hended, hW, hsame⟩ := X202.leave (v := (some (.int (-1 : Int32)))) (fun h => by rw [Bd.returns] at h; cases h)
      refine ⟨_, _, ?_, hrun, hended, _, _, rfl, ?_, ⟨_, rfl⟩, hW, hsame.mono (by decide) (by decide)⟩
      · rw [← hS0]
        refine k204 _ ?_
        show Steps p.tables e below (T202.setTop (mkF m 92 #[vR a1, vI (Int32.ofNat p1), vI (-1), vI 0] [(.int (-1 : Int32))])) _
        exact retI X202 hx Bd.returns (hb hby d6_92) hr
      · show Q_rmUS Z n cs h0 n0 _ T202.heap _
        rw [hh202]
        exact ⟨_, rfl, N202, rfl, fun q => absurd q (by rw [hM]; decide), fun _ => by decide⟩
    | some q1 =>
      have r2 : own_lir (cs.map kc) p1 = Int32.ofNat q1 := by simp only [own_lir, h2]
      have hq1 : q1 < p1 := own_li_lt h2
      have k205 : Rch p e below S0 T198 (mkF m 21 #[vR a1, vI (Int32.ofNat p1), vU, vU] [(.int ((Int32.ofNat p1) - (1 : Int32))), (.int (45 : Int32)), (.ref a1)]) := fun t h => k200 t (by
          show Steps p.tables e below (T198.setTop (mkF m 15 #[vR a1, vI (Int32.ofNat p1), vU, vU] [])) _
          refine XS.aloadN X198.here hx rfl (hb hby d6_15) rfl rfl ?_
          refine XS.bipush X198.here hx rfl (hb hby d6_16) ?_
          refine XS.iloadN X198.here hx rfl (hb hby d6_18) rfl ?_
          refine XS.iconst X198.here hx rfl (hb hby d6_19) ?_
          refine XS.isub X198.here hx rfl (hb hby d6_20) rfl ?_
          exact h)
      obtain ⟨cq206, kq206, q206a, q206b, q206c⟩ := isOf hZ hh198 Ex
      obtain ⟨_, _, ⟨T206, L206, kk206, n206⟩, -, X206, ⟨Lc206, hQ206, l206, y206, z206⟩, st206⟩ := X198.virtualBack hx (y := (⟨"java/lang/String", "lastIndexOf", "(II)I"⟩ : MethodName)) (z := (⟨"java/lang/String", "lastIndexOf", "(II)I"⟩ : MethodName)) hown (mvT hZ (hw _ (gm 84 rfl))) (mvT hZ (hw _ (gm 51 rfl))) (notFace_of_selects (args := #[]) (mvT hZ (hw _ (gm 53 rfl)))) (mvT hZ (hw _ (gm 53 rfl))) (mvT hZ (hw _ (gm 52 rfl))) (by decide) (backOf (W := 0) (rmL2 l Z a0 hw []  a1 tt kt n cs zC p1 h0 n0 O0 SC hzC Ex Fv Fc Vt hl hn hp (by omega)) hZ (hw _ (gm 54 rfl)) (hw _ (gm 8 rfl)) (by decide) (by decide)) q206a q206c (g := (mkF m 21 #[vR a1, vI (Int32.ofNat p1), vU, vU] [(.int ((Int32.ofNat p1) - (1 : Int32))), (.int (45 : Int32)), (.ref a1)])) rfl (by rw [hml]; rfl) (Steps.refl _) (argsL := [(.int (45 : Int32)), (.int ((Int32.ofNat p1) - (1 : Int32)))]) (rest := []) (lenOf pd_9 rfl) rfl (by show 2 * 0 + _ ≤ _; exact Nat.le_of_eq rfl) (hb hby d6_21) (fun _ _ => ⟨rfl, hh198, (by decide : 0 + 0 ≤ _), (by decide : 0 + 0 ≤ _)⟩)
      dsimp only [Pt.U, Pt.locs, Pt.cells, Pt.slots] at X206 l206 y206 z206 st206 hQ206
      subst l206 y206 z206
      obtain ⟨rfl, Nq206, hh206⟩ := hQ206
      have N206 := Fr.app N198 Nq206
      have k207 : Rch p e below S0 T206 (mkF m 24 #[vR a1, vI (Int32.ofNat p1), vU, vU] [(.int (Int32.ofNat q1))]) := fun t h => k205 t (st206.trans (by rw [r2]; exact h))
      have k208 : Rch p e below S0 T206 (mkF m 29 #[vR a1, vI (Int32.ofNat p1), vI (Int32.ofNat q1), vU] []) := fun t h => k207 t (by
          show Steps p.tables e below (T206.setTop (mkF m 24 #[vR a1, vI (Int32.ofNat p1), vU, vU] [(.int (Int32.ofNat q1))])) _
          refine XS.istoreN X206.here hx rfl (hb hby d6_24) rfl (l' := #[vR a1, vI (Int32.ofNat p1), vI (Int32.ofNat q1), vU]) rfl ?_
          refine XS.iloadN X206.here hx rfl (hb hby d6_25) rfl ?_
          refine XS.ifNo X206.here hx rfl (hb hby d6_26) rfl ((if0 _ _).trans (flt ((own_on0 (by omega)) : ¬ ((Int32.ofNat q1) < (0 : Int32)))).1) ?_
          exact h)
      by_cases u1 : q1 + 1 < p1
      · by_cases u2 : p1 + 1 < n
        · by_cases u3 : (own_dg (cs.map kc) 2 (q1 + 1) (p1 - (q1 + 1))) = true
          · by_cases u4 : (own_dg (cs.map kc) 1 (p1 + 1) (n - (p1 + 1))) = true
            · have hM : own_mem (cs.map kc) n = true := by simp only [own_mem, h1, h2]; simp [u1, u2, u3, u4]
              have k234 : Rch p e below S0 T206 (mkF m 38 #[vR a1, vI (Int32.ofNat p1), vI (Int32.ofNat q1), vU] [(.ref a1), (.int (Int32.ofNat p1))]) := fun t h => k208 t (by
                  show Steps p.tables e below (T206.setTop (mkF m 29 #[vR a1, vI (Int32.ofNat p1), vI (Int32.ofNat q1), vU] [])) _
                  refine XS.iloadN X206.here hx rfl (hb hby d6_29) rfl ?_
                  refine XS.iloadN X206.here hx rfl (hb hby d6_30) rfl ?_
                  refine XS.iconst X206.here hx rfl (hb hby d6_31) ?_
                  show Steps p.tables e below (T206.setTop (mkF m 32 #[vR a1, vI (Int32.ofNat p1), vI (Int32.ofNat q1), vU] [(.int (1 : Int32)), (.int (Int32.ofNat q1)), (.int (Int32.ofNat p1))])) _
                  refine XS.iadd X206.here hx rfl (hb hby d6_32) rfl ?_
                  rw [own_inc (i := q1) (by omega)]
                  refine XS.icmpNo X206.here hx rfl (hb hby d6_33) rfl (tlt (((own_olt (by omega) (by omega)).mpr u1) : (Int32.ofNat (q1 + 1)) < (Int32.ofNat p1))).2.2.2 ?_
                  refine XS.iloadN X206.here hx rfl (hb hby d6_36) rfl ?_
                  refine XS.aloadN X206.here hx rfl (hb hby d6_37) rfl rfl ?_
                  exact h)
              obtain ⟨cq235, kq235, q235a, q235b, q235c⟩ := isOf hZ hh206 Ex
              obtain ⟨_, _, ⟨T235, L235, kk235, n235⟩, -, X235, ⟨Lc235, hQ235, l235, y235, z235⟩, st235⟩ := X206.virtualBack hx (y := (⟨"java/lang/String", "length", "()I"⟩ : MethodName)) (z := (⟨"java/lang/String", "length", "()I"⟩ : MethodName)) hown (mvT hZ (hw _ (gm 85 rfl))) (mvT hZ (hw _ (gm 40 rfl))) (notFace_of_selects (args := #[]) (mvT hZ (hw _ (gm 42 rfl)))) (mvT hZ (hw _ (gm 42 rfl))) (mvT hZ (hw _ (gm 41 rfl))) (by decide) (backOf (W := 1) (rmLE l Z a0 hw []  a1 tt kt (Int32.ofNat n) ((cs.map fun c => c.toInt8.toInt32).map Value.int) (0 : Int32) zC (Int32.ofNat n) h0 n0 O0 SC hzC Ex Fv Fc Vt (own_sh0 _)) hZ (hw _ (gm 43 rfl)) (hw _ (gm 8 rfl)) (by decide) (by decide)) q235a q235c (g := (mkF m 38 #[vR a1, vI (Int32.ofNat p1), vI (Int32.ofNat q1), vU] [(.ref a1), (.int (Int32.ofNat p1))])) rfl (by rw [hml]; rfl) (Steps.refl _) (argsL := []) (rest := [(.int (Int32.ofNat p1))]) (lenOf pd_7 rfl) rfl (by show 2 * 0 + _ ≤ _; exact Nat.le_of_eq rfl) (hb hby d6_38) (fun _ _ => ⟨rfl, hh206, (by decide : 0 + 0 ≤ _), (by decide : 0 + 0 ≤ _)⟩)
              dsimp only [Pt.U, Pt.locs, Pt.cells, Pt.slots] at X235 l235 y235 z235 st235 hQ235
              subst l235 y235 z235
              obtain ⟨rfl, Nq235, hh235⟩ := hQ235
              have N235 := Fr.app N206 Nq235
              have k236 : Rch p e below S0 T235 (mkF m 41 #[vR a1, vI (Int32.ofNat p1), vI (Int32.ofNat q1), vU] [(.int (Int32.ofNat n)), (.int (Int32.ofNat p1))]) := fun t h => k234 t (st235.trans h)
              have k237 : Rch p e below S0 T235 (mkF m 53 #[vR a1, vI (Int32.ofNat p1), vI (Int32.ofNat q1), vU] [(.int (16 : Int32)), (.int (Int32.ofNat p1)), (.int (Int32.ofNat (q1 + 1))), (.ref a1)]) := fun t h => k236 t (by
                  show Steps p.tables e below (T235.setTop (mkF m 41 #[vR a1, vI (Int32.ofNat p1), vI (Int32.ofNat q1), vU] [(.int (Int32.ofNat n)), (.int (Int32.ofNat p1))])) _
                  refine XS.iconst X235.here hx rfl (hb hby d6_41) ?_
                  refine XS.isub X235.here hx rfl (hb hby d6_42) rfl ?_
                  refine XS.icmpNo X235.here hx rfl (hb hby d6_43) rfl (tlt ((by rw [Int32.lt_iff_toInt_lt, (own_tn (by omega)).2, own_ixt (by omega)]; omega) : (Int32.ofNat p1) < ((Int32.ofNat n) - (1 : Int32)))).2.1 ?_
                  refine XS.aloadN X235.here hx rfl (hb hby d6_46) rfl rfl ?_
                  refine XS.iloadN X235.here hx rfl (hb hby d6_47) rfl ?_
                  refine XS.iconst X235.here hx rfl (hb hby d6_48) ?_
                  show Steps p.tables e below (T235.setTop (mkF m 49 #[vR a1, vI (Int32.ofNat p1), vI (Int32.ofNat q1), vU] [(.int (1 : Int32)), (.int (Int32.ofNat q1)), (.ref a1)])) _
                  refine XS.iadd X235.here hx rfl (hb hby d6_49) rfl ?_
                  rw [own_inc (i := q1) (by omega)]
                  refine XS.iloadN X235.here hx rfl (hb hby d6_50) rfl ?_
                  refine XS.bipush X235.here hx rfl (hb hby d6_51) ?_
                  exact h)
              obtain ⟨_, _, ⟨T238, L238, kk238, n238⟩, -, X238, ⟨Lc238, hQ238, l238, y238, z238⟩, st238⟩ := Jvm.LawKit.callS X235 hx (y := (⟨"com/example/nuthatch/nuthatch/EntryName", "digits", "(Ljava/lang/String;III)Z"⟩ : MethodName)) hown (mvT hZ (hw _ (gm 86 rfl))) (mvT hZ (hw _ (gm 87 rfl))) (mvT hZ (hw _ (gm 29 rfl))) (mvT hZ (hw _ (gm 88 rfl))) (by decide) (backOf (W := 0) (rmDG16 l Z a0 hw []  a1 tt kt n cs zC (q1 + 1) p1 fm h0 n0 O0 SC hzC Ex Fv Fc Vt hl hn hp SP hfm (by omega) (by omega)) hZ (hw _ (gm 88 rfl)) (hw _ (gm 29 rfl)) (by decide) (by decide)) (g := (mkF m 53 #[vR a1, vI (Int32.ofNat p1), vI (Int32.ofNat q1), vU] [(.int (16 : Int32)), (.int (Int32.ofNat p1)), (.int (Int32.ofNat (q1 + 1))), (.ref a1)])) rfl (by rw [hml]; rfl) (argsL := [(.ref a1), (.int (Int32.ofNat (q1 + 1))), (.int (Int32.ofNat p1)), (.int (16 : Int32))]) (rest := []) (lenOf pd_17 rfl) rfl (by show 2 * 0 + _ ≤ _; exact Nat.le_of_eq rfl) (hb hby d6_53) (fun _ _ => ⟨rfl, hh235, (by decide : 0 + 0 ≤ _), (by decide : 0 + 0 ≤ _)⟩)
              dsimp only [Pt.U, Pt.locs, Pt.cells, Pt.slots] at X238 l238 y238 z238 st238 hQ238
              subst l238 y238 z238
              obtain ⟨rfl, Nq238, hh238⟩ := hQ238
              have N238 := Fr.app N235 Nq238
              have k239 : Rch p e below S0 T238 (mkF m 56 #[vR a1, vI (Int32.ofNat p1), vI (Int32.ofNat q1), vU] [(.int (own_b (own_dg (cs.map kc) 2 (q1 + 1) (p1 - (q1 + 1)))))]) := fun t h => k237 t (st238 t h)
              have k240 : Rch p e below S0 T238 (mkF m 64 #[vR a1, vI (Int32.ofNat p1), vI (Int32.ofNat q1), vU] [(.ref a1), (.int (Int32.ofNat (p1 + 1))), (.ref a1)]) := fun t h => k239 t (by
                  show Steps p.tables e below (T238.setTop (mkF m 56 #[vR a1, vI (Int32.ofNat p1), vI (Int32.ofNat q1), vU] [(.int (own_b (own_dg (cs.map kc) 2 (q1 + 1) (p1 - (q1 + 1)))))])) _
                  refine XS.ifNo X238.here hx rfl (hb hby d6_56) rfl ((if0 _ _).trans (feq ((by rw [u3]; decide) : ¬ ((own_b (own_dg (cs.map kc) 2 (q1 + 1) (p1 - (q1 + 1)))) = (0 : Int32)))).1) ?_
                  refine XS.aloadN X238.here hx rfl (hb hby d6_59) rfl rfl ?_
                  refine XS.iloadN X238.here hx rfl (hb hby d6_60) rfl ?_
                  refine XS.iconst X238.here hx rfl (hb hby d6_61) ?_
                  show Steps p.tables e below (T238.setTop (mkF m 62 #[vR a1, vI (Int32.ofNat p1), vI (Int32.ofNat q1), vU] [(.int (1 : Int32)), (.int (Int32.ofNat p1)), (.ref a1)])) _
                  refine XS.iadd X238.here hx rfl (hb hby d6_62) rfl ?_
                  rw [own_inc (i := p1) (by omega)]
                  refine XS.aloadN X238.here hx rfl (hb hby d6_63) rfl rfl ?_
                  exact h)
              obtain ⟨cq241, kq241, q241a, q241b, q241c⟩ := isOf hZ hh238 Ex
              obtain ⟨_, _, ⟨T241, L241, kk241, n241⟩, -, X241, ⟨Lc241, hQ241, l241, y241, z241⟩, st241⟩ := X238.virtualBack hx (y := (⟨"java/lang/String", "length", "()I"⟩ : MethodName)) (z := (⟨"java/lang/String", "length", "()I"⟩ : MethodName)) hown (mvT hZ (hw _ (gm 85 rfl))) (mvT hZ (hw _ (gm 40 rfl))) (notFace_of_selects (args := #[]) (mvT hZ (hw _ (gm 42 rfl)))) (mvT hZ (hw _ (gm 42 rfl))) (mvT hZ (hw _ (gm 41 rfl))) (by decide) (backOf (W := 2) (rmLE l Z a0 hw []  a1 tt kt (Int32.ofNat n) ((cs.map fun c => c.toInt8.toInt32).map Value.int) (0 : Int32) zC (Int32.ofNat n) h0 n0 O0 SC hzC Ex Fv Fc Vt (own_sh0 _)) hZ (hw _ (gm 43 rfl)) (hw _ (gm 8 rfl)) (by decide) (by decide)) q241a q241c (g := (mkF m 64 #[vR a1, vI (Int32.ofNat p1), vI (Int32.ofNat q1), vU] [(.ref a1), (.int (Int32.ofNat (p1 + 1))), (.ref a1)])) rfl (by rw [hml]; rfl) (Steps.refl _) (argsL := []) (rest := [(.int (Int32.ofNat (p1 + 1))), (.ref a1)]) (lenOf pd_7 rfl) rfl (by show 2 * 0 + _ ≤ _; exact Nat.le_of_eq rfl) (hb hby d6_64) (fun _ _ => ⟨rfl, hh238, (by decide : 0 + 0 ≤ _), (by decide : 0 + 0 ≤ _)⟩)
              dsimp only [Pt.U, Pt.locs, Pt.cells, Pt.slots] at X241 l241 y241 z241 st241 hQ241
              subst l241 y241 z241
              obtain ⟨rfl, Nq241, hh241⟩ := hQ241
              have N241 := Fr.app N238 Nq241
              have k242 : Rch p e below S0 T241 (mkF m 67 #[vR a1, vI (Int32.ofNat p1), vI (Int32.ofNat q1), vU] [(.int (Int32.ofNat n)), (.int (Int32.ofNat (p1 + 1))), (.ref a1)]) := fun t h => k240 t (st241.trans h)
              have k243 : Rch p e below S0 T241 (mkF m 69 #[vR a1, vI (Int32.ofNat p1), vI (Int32.ofNat q1), vU] [(.int (10 : Int32)), (.int (Int32.ofNat n)), (.int (Int32.ofNat (p1 + 1))), (.ref a1)]) := fun t h => k242 t (by
                  show Steps p.tables e below (T241.setTop (mkF m 67 #[vR a1, vI (Int32.ofNat p1), vI (Int32.ofNat q1), vU] [(.int (Int32.ofNat n)), (.int (Int32.ofNat (p1 + 1))), (.ref a1)])) _
                  refine XS.bipush X241.here hx rfl (hb hby d6_67) ?_
                  exact h)
              obtain ⟨_, _, ⟨T244, L244, kk244, n244⟩, -, X244, ⟨Lc244, hQ244, l244, y244, z244⟩, st244⟩ := Jvm.LawKit.callS X241 hx (y := (⟨"com/example/nuthatch/nuthatch/EntryName", "digits", "(Ljava/lang/String;III)Z"⟩ : MethodName)) hown (mvT hZ (hw _ (gm 86 rfl))) (mvT hZ (hw _ (gm 87 rfl))) (mvT hZ (hw _ (gm 29 rfl))) (mvT hZ (hw _ (gm 88 rfl))) (by decide) (backOf (W := 0) (rmDG10 l Z a0 hw []  a1 tt kt n cs zC (p1 + 1) n fm h0 n0 O0 SC hzC Ex Fv Fc Vt hl hn hp SP hfm (by omega) (by omega)) hZ (hw _ (gm 88 rfl)) (hw _ (gm 29 rfl)) (by decide) (by decide)) (g := (mkF m 69 #[vR a1, vI (Int32.ofNat p1), vI (Int32.ofNat q1), vU] [(.int (10 : Int32)), (.int (Int32.ofNat n)), (.int (Int32.ofNat (p1 + 1))), (.ref a1)])) rfl (by rw [hml]; rfl) (argsL := [(.ref a1), (.int (Int32.ofNat (p1 + 1))), (.int (Int32.ofNat n)), (.int (10 : Int32))]) (rest := []) (lenOf pd_17 rfl) rfl (by show 2 * 0 + _ ≤ _; exact Nat.le_of_eq rfl) (hb hby d6_69) (fun _ _ => ⟨rfl, hh241, (by decide : 0 + 0 ≤ _), (by decide : 0 + 0 ≤ _)⟩)
              dsimp only [Pt.U, Pt.locs, Pt.cells, Pt.slots] at X244 l244 y244 z244 st244 hQ244
              subst l244 y244 z244
              obtain ⟨rfl, Nq244, hh244⟩ := hQ244
              have N244 := Fr.app N241 Nq244
              have k245 : Rch p e below S0 T244 (mkF m 72 #[vR a1, vI (Int32.ofNat p1), vI (Int32.ofNat q1), vU] [(.int (own_b (own_dg (cs.map kc) 1 (p1 + 1) (n - (p1 + 1)))))]) := fun t h => k243 t (st244 t h)
              have k246 : Rch p e below S0 T244 (mkF m 92 #[vR a1, vI (Int32.ofNat p1), vI (Int32.ofNat q1), vI 1] [(.int (Int32.ofNat (q1 + 1)))]) := fun t h => k245 t (by
                  show Steps p.tables e below (T244.setTop (mkF m 72 #[vR a1, vI (Int32.ofNat p1), vI (Int32.ofNat q1), vU] [(.int (own_b (own_dg (cs.map kc) 1 (p1 + 1) (n - (p1 + 1)))))])) _
                  refine XS.ifNo X244.here hx rfl (hb hby d6_72) rfl ((if0 _ _).trans (feq ((by rw [u4]; decide) : ¬ ((own_b (own_dg (cs.map kc) 1 (p1 + 1) (n - (p1 + 1)))) = (0 : Int32)))).1) ?_
                  refine XS.iconst X244.here hx rfl (hb hby d6_75) ?_
                  refine XS.goto X244.here hx rfl (pc0 := 76) (pc' := 80) rfl (hb hby d6_76) (by decide) (by decide) ?_
                  refine XS.istoreN X244.here hx rfl (hb hby d6_80) rfl (l' := #[vR a1, vI (Int32.ofNat p1), vI (Int32.ofNat q1), vI 1]) rfl ?_
                  refine XS.iloadN X244.here hx rfl (hb hby d6_81) rfl ?_
                  refine XS.ifNo X244.here hx rfl (hb hby d6_82) rfl ((if0 _ _).trans (feq (by decide : ¬ ((1 : Int32) = (0 : Int32)))).1) ?_
                  refine XS.iloadN X244.here hx rfl (hb hby d6_85) rfl ?_
                  refine XS.iconst X244.here hx rfl (hb hby d6_86) ?_
                  show Steps p.tables e below (T244.setTop (mkF m 87 #[vR a1, vI (Int32.ofNat p1), vI (Int32.ofNat q1), vI 1] [(.int (1 : Int32)), (.int (Int32.ofNat q1))])) _
                  refine XS.iadd X244.here hx rfl (hb hby d6_87) rfl ?_
                  rw [own_inc (i := q1) (by omega)]
                  refine XS.goto X244.here hx rfl (pc0 := 88) (pc' := 92) rfl (hb hby d6_88) (by decide) (by decide) ?_
                  exact h)
              obtain ⟨fs, hr, hrun, hended, hW, hsame⟩ := X244.leave (v := (some (.int (Int32.ofNat (q1 + 1))))) (fun h => by rw [Bd.returns] at h; cases h)
              refine ⟨_, _, ?_, hrun, hended, _, _, rfl, ?_, ⟨_, rfl⟩, hW, hsame.mono (by decide) (by decide)⟩
              · rw [← hS0]
                refine k246 _ ?_
                show Steps p.tables e below (T244.setTop (mkF m 92 #[vR a1, vI (Int32.ofNat p1), vI (Int32.ofNat q1), vI 1] [(.int (Int32.ofNat (q1 + 1)))])) _
                exact retI X244 hx Bd.returns (hb hby d6_92) hr
              · show Q_rmUS Z n cs h0 n0 _ T244.heap _
                rw [hh244]
                exact ⟨_, rfl, N244, rfl, fun _ => own_on0 (by omega), fun q => absurd q (by rw [hM]; decide)⟩
            · have hM : own_mem (cs.map kc) n = false := by simp only [own_mem, h1, h2]; simp [u4]
              have k221 : Rch p e below S0 T206 (mkF m 38 #[vR a1, vI (Int32.ofNat p1), vI (Int32.ofNat q1), vU] [(.ref a1), (.int (Int32.ofNat p1))]) := fun t h => k208 t (by
                  show Steps p.tables e below (T206.setTop (mkF m 29 #[vR a1, vI (Int32.ofNat p1), vI (Int32.ofNat q1), vU] [])) _
                  refine XS.iloadN X206.here hx rfl (hb hby d6_29) rfl ?_
                  refine XS.iloadN X206.here hx rfl (hb hby d6_30) rfl ?_
                  refine XS.iconst X206.here hx rfl (hb hby d6_31) ?_
                  show Steps p.tables e below (T206.setTop (mkF m 32 #[vR a1, vI (Int32.ofNat p1), vI (Int32.ofNat q1), vU] [(.int (1 : Int32)), (.int (Int32.ofNat q1)), (.int (Int32.ofNat p1))])) _
                  refine XS.iadd X206.here hx rfl (hb hby d6_32) rfl ?_
                  rw [own_inc (i := q1) (by omega)]
                  refine XS.icmpNo X206.here hx rfl (hb hby d6_33) rfl (tlt (((own_olt (by omega) (by omega)).mpr u1) : (Int32.ofNat (q1 + 1)) < (Int32.ofNat p1))).2.2.2 ?_
                  refine XS.iloadN X206.here hx rfl (hb hby d6_36) rfl ?_
                  refine XS.aloadN X206.here hx rfl (hb hby d6_37) rfl rfl ?_
                  exact h)
              obtain ⟨cq222, kq222, q222a, q222b, q222c⟩ := isOf hZ hh206 Ex
              obtain ⟨_, _, ⟨T222, L222, kk222, n222⟩, -, X222, ⟨Lc222, hQ222, l222, y222, z222⟩, st222⟩ := X206.virtualBack hx (y := (⟨"java/lang/String", "length", "()I"⟩ : MethodName)) (z := (⟨"java/lang/String", "length", "()I"⟩ : MethodName)) hown (mvT hZ (hw _ (gm 85 rfl))) (mvT hZ (hw _ (gm 40 rfl))) (notFace_of_selects (args := #[]) (mvT hZ (hw _ (gm 42 rfl)))) (mvT hZ (hw _ (gm 42 rfl))) (mvT hZ (hw _ (gm 41 rfl))) (by decide) (backOf (W := 1) (rmLE l Z a0 hw []  a1 tt kt (Int32.ofNat n) ((cs.map fun c => c.toInt8.toInt32).map Value.int) (0 : Int32) zC (Int32.ofNat n) h0 n0 O0 SC hzC Ex Fv Fc Vt (own_sh0 _)) hZ (hw _ (gm 43 rfl)) (hw _ (gm 8 rfl)) (by decide) (by decide)) q222a q222c (g := (mkF m 38 #[vR a1, vI (Int32.ofNat p1), vI (Int32.ofNat q1), vU] [(.ref a1), (.int (Int32.ofNat p1))])) rfl (by rw [hml]; rfl) (Steps.refl _) (argsL := []) (rest := [(.int (Int32.ofNat p1))]) (lenOf pd_7 rfl) rfl (by show 2 * 0 + _ ≤ _; exact Nat.le_of_eq rfl) (hb hby d6_38) (fun _ _ => ⟨rfl, hh206, (by decide : 0 + 0 ≤ _), (by decide : 0 + 0 ≤ _)⟩)
              dsimp only [Pt.U, Pt.locs, Pt.cells, Pt.slots] at X222 l222 y222 z222 st222 hQ222
              subst l222 y222 z222
              obtain ⟨rfl, Nq222, hh222⟩ := hQ222
              have N222 := Fr.app N206 Nq222
              have k223 : Rch p e below S0 T222 (mkF m 41 #[vR a1, vI (Int32.ofNat p1), vI (Int32.ofNat q1), vU] [(.int (Int32.ofNat n)), (.int (Int32.ofNat p1))]) := fun t h => k221 t (st222.trans h)
              have k224 : Rch p e below S0 T222 (mkF m 53 #[vR a1, vI (Int32.ofNat p1), vI (Int32.ofNat q1), vU] [(.int (16 : Int32)), (.int (Int32.ofNat p1)), (.int (Int32.ofNat (q1 + 1))), (.ref a1)]) := fun t h => k223 t (by
                  show Steps p.tables e below (T222.setTop (mkF m 41 #[vR a1, vI (Int32.ofNat p1), vI (Int32.ofNat q1), vU] [(.int (Int32.ofNat n)), (.int (Int32.ofNat p1))])) _
                  refine XS.iconst X222.here hx rfl (hb hby d6_41) ?_
                  refine XS.isub X222.here hx rfl (hb hby d6_42) rfl ?_
                  refine XS.icmpNo X222.here hx rfl (hb hby d6_43) rfl (tlt ((by rw [Int32.lt_iff_toInt_lt, (own_tn (by omega)).2, own_ixt (by omega)]; omega) : (Int32.ofNat p1) < ((Int32.ofNat n) - (1 : Int32)))).2.1 ?_
                  refine XS.aloadN X222.here hx rfl (hb hby d6_46) rfl rfl ?_
                  refine XS.iloadN X222.here hx rfl (hb hby d6_47) rfl ?_
                  refine XS.iconst X222.here hx rfl (hb hby d6_48) ?_
                  show Steps p.tables e below (T222.setTop (mkF m 49 #[vR a1, vI (Int32.ofNat p1), vI (Int32.ofNat q1), vU] [(.int (1 : Int32)), (.int (Int32.ofNat q1)), (.ref a1)])) _
                  refine XS.iadd X222.here hx rfl (hb hby d6_49) rfl ?_
                  rw [own_inc (i := q1) (by omega)]
                  refine XS.iloadN X222.here hx rfl (hb hby d6_50) rfl ?_
                  refine XS.bipush X222.here hx rfl (hb hby d6_51) ?_
                  exact h)
              obtain ⟨_, _, ⟨T225, L225, kk225, n225⟩, -, X225, ⟨Lc225, hQ225, l225, y225, z225⟩, st225⟩ := Jvm.LawKit.callS X222 hx (y := (⟨"com/example/nuthatch/nuthatch/EntryName", "digits", "(Ljava/lang/String;III)Z"⟩ : MethodName)) hown (mvT hZ (hw _ (gm 86 rfl))) (mvT hZ (hw _ (gm 87 rfl))) (mvT hZ (hw _ (gm 29 rfl))) (mvT hZ (hw _ (gm 88 rfl))) (by decide) (backOf (W := 0) (rmDG16 l Z a0 hw []  a1 tt kt n cs zC (q1 + 1) p1 fm h0 n0 O0 SC hzC Ex Fv Fc Vt hl hn hp SP hfm (by omega) (by omega)) hZ (hw _ (gm 88 rfl)) (hw _ (gm 29 rfl)) (by decide) (by decide)) (g := (mkF m 53 #[vR a1, vI (Int32.ofNat p1), vI (Int32.ofNat q1), vU] [(.int (16 : Int32)), (.int (Int32.ofNat p1)), (.int (Int32.ofNat (q1 + 1))), (.ref a1)])) rfl (by rw [hml]; rfl) (argsL := [(.ref a1), (.int (Int32.ofNat (q1 + 1))), (.int (Int32.ofNat p1)), (.int (16 : Int32))]) (rest := []) (lenOf pd_17 rfl) rfl (by show 2 * 0 + _ ≤ _; exact Nat.le_of_eq rfl) (hb hby d6_53) (fun _ _ => ⟨rfl, hh222, (by decide : 0 + 0 ≤ _), (by decide : 0 + 0 ≤ _)⟩)
              dsimp only [Pt.U, Pt.locs, Pt.cells, Pt.slots] at X225 l225 y225 z225 st225 hQ225
              subst l225 y225 z225
              obtain ⟨rfl, Nq225, hh225⟩ := hQ225
              have N225 := Fr.app N222 Nq225
              have k226 : Rch p e below S0 T225 (mkF m 56 #[vR a1, vI (Int32.ofNat p1), vI (Int32.ofNat q1), vU] [(.int (own_b (own_dg (cs.map kc) 2 (q1 + 1) (p1 - (q1 + 1)))))]) := fun t h => k224 t (st225 t h)
              have k227 : Rch p e below S0 T225 (mkF m 64 #[vR a1, vI (Int32.ofNat p1), vI (Int32.ofNat q1), vU] [(.ref a1), (.int (Int32.ofNat (p1 + 1))), (.ref a1)]) := fun t h => k226 t (by
                  show Steps p.tables e below (T225.setTop (mkF m 56 #[vR a1, vI (Int32.ofNat p1), vI (Int32.ofNat q1), vU] [(.int (own_b (own_dg (cs.map kc) 2 (q1 + 1) (p1 - (q1 + 1)))))])) _
                  refine XS.ifNo X225.here hx rfl (hb hby d6_56) rfl ((if0 _ _).trans (feq ((by rw [u3]; decide) : ¬ ((own_b (own_dg (cs.map kc) 2 (q1 + 1) (p1 - (q1 + 1)))) = (0 : Int32)))).1) ?_
                  refine XS.aloadN X225.here hx rfl (hb hby d6_59) rfl rfl ?_
                  refine XS.iloadN X225.here hx rfl (hb hby d6_60) rfl ?_
                  refine XS.iconst X225.here hx rfl (hb hby d6_61) ?_
                  show Steps p.tables e below (T225.setTop (mkF m 62 #[vR a1, vI (Int32.ofNat p1), vI (Int32.ofNat q1), vU] [(.int (1 : Int32)), (.int (Int32.ofNat p1)), (.ref a1)])) _
                  refine XS.iadd X225.here hx rfl (hb hby d6_62) rfl ?_
                  rw [own_inc (i := p1) (by omega)]
                  refine XS.aloadN X225.here hx rfl (hb hby d6_63) rfl rfl ?_
                  exact h)
              obtain ⟨cq228, kq228, q228a, q228b, q228c⟩ := isOf hZ hh225 Ex
              obtain ⟨_, _, ⟨T228, L228, kk228, n228⟩, -, X228, ⟨Lc228, hQ228, l228, y228, z228⟩, st228⟩ := X225.virtualBack hx (y := (⟨"java/lang/String", "length", "()I"⟩ : MethodName)) (z := (⟨"java/lang/String", "length", "()I"⟩ : MethodName)) hown (mvT hZ (hw _ (gm 85 rfl))) (mvT hZ (hw _ (gm 40 rfl))) (notFace_of_selects (args := #[]) (mvT hZ (hw _ (gm 42 rfl)))) (mvT hZ (hw _ (gm 42 rfl))) (mvT hZ (hw _ (gm 41 rfl))) (by decide) (backOf (W := 2) (rmLE l Z a0 hw []  a1 tt kt (Int32.ofNat n) ((cs.map fun c => c.toInt8.toInt32).map Value.int) (0 : Int32) zC (Int32.ofNat n) h0 n0 O0 SC hzC Ex Fv Fc Vt (own_sh0 _)) hZ (hw _ (gm 43 rfl)) (hw _ (gm 8 rfl)) (by decide) (by decide)) q228a q228c (g := (mkF m 64 #[vR a1, vI (Int32.ofNat p1), vI (Int32.ofNat q1), vU] [(.ref a1), (.int (Int32.ofNat (p1 + 1))), (.ref a1)])) rfl (by rw [hml]; rfl) (Steps.refl _) (argsL := []) (rest := [(.int (Int32.ofNat (p1 + 1))), (.ref a1)]) (lenOf pd_7 rfl) rfl (by show 2 * 0 + _ ≤ _; exact Nat.le_of_eq rfl) (hb hby d6_64) (fun _ _ => ⟨rfl, hh225, (by decide : 0 + 0 ≤ _), (by decide : 0 + 0 ≤ _)⟩)
              dsimp only [Pt.U, Pt.locs, Pt.cells, Pt.slots] at X228 l228 y228 z228 st228 hQ228
              subst l228 y228 z228
              obtain ⟨rfl, Nq228, hh228⟩ := hQ228
              have N228 := Fr.app N225 Nq228
              have k229 : Rch p e below S0 T228 (mkF m 67 #[vR a1, vI (Int32.ofNat p1), vI (Int32.ofNat q1), vU] [(.int (Int32.ofNat n)), (.int (Int32.ofNat (p1 + 1))), (.ref a1)]) := fun t h => k227 t (st228.trans h)
              have k230 : Rch p e below S0 T228 (mkF m 69 #[vR a1, vI (Int32.ofNat p1), vI (Int32.ofNat q1), vU] [(.int (10 : Int32)), (.int (Int32.ofNat n)), (.int (Int32.ofNat (p1 + 1))), (.ref a1)]) := fun t h => k229 t (by
                  show Steps p.tables e below (T228.setTop (mkF m 67 #[vR a1, vI (Int32.ofNat p1), vI (Int32.ofNat q1), vU] [(.int (Int32.ofNat n)), (.int (Int32.ofNat (p1 + 1))), (.ref a1)])) _
                  refine XS.bipush X228.here hx rfl (hb hby d6_67) ?_
                  exact h)
              obtain ⟨_, _, ⟨T231, L231, kk231, n231⟩, -, X231, ⟨Lc231, hQ231, l231, y231, z231⟩, st231⟩ := Jvm.LawKit.callS X228 hx (y := (⟨"com/example/nuthatch/nuthatch/EntryName", "digits", "(Ljava/lang/String;III)Z"⟩ : MethodName)) hown (mvT hZ (hw _ (gm 86 rfl))) (mvT hZ (hw _ (gm 87 rfl))) (mvT hZ (hw _ (gm 29 rfl))) (mvT hZ (hw _ (gm 88 rfl))) (by decide) (backOf (W := 0) (rmDG10 l Z a0 hw []  a1 tt kt n cs zC (p1 + 1) n fm h0 n0 O0 SC hzC Ex Fv Fc Vt hl hn hp SP hfm (by omega) (by omega)) hZ (hw _ (gm 88 rfl)) (hw _ (gm 29 rfl)) (by decide) (by decide)) (g := (mkF m 69 #[vR a1, vI (Int32.ofNat p1), vI (Int32.ofNat q1), vU] [(.int (10 : Int32)), (.int (Int32.ofNat n)), (.int (Int32.ofNat (p1 + 1))), (.ref a1)])) rfl (by rw [hml]; rfl) (argsL := [(.ref a1), (.int (Int32.ofNat (p1 + 1))), (.int (Int32.ofNat n)), (.int (10 : Int32))]) (rest := []) (lenOf pd_17 rfl) rfl (by show 2 * 0 + _ ≤ _; exact Nat.le_of_eq rfl) (hb hby d6_69) (fun _ _ => ⟨rfl, hh228, (by decide : 0 + 0 ≤ _), (by decide : 0 + 0 ≤ _)⟩)
              dsimp only [Pt.U, Pt.locs, Pt.cells, Pt.slots] at X231 l231 y231 z231 st231 hQ231
              subst l231 y231 z231
              obtain ⟨rfl, Nq231, hh231⟩ := hQ231
              have N231 := Fr.app N228 Nq231
              have k232 : Rch p e below S0 T231 (mkF m 72 #[vR a1, vI (Int32.ofNat p1), vI (Int32.ofNat q1), vU] [(.int (own_b (own_dg (cs.map kc) 1 (p1 + 1) (n - (p1 + 1)))))]) := fun t h => k230 t (st231 t h)
              have k233 : Rch p e below S0 T231 (mkF m 92 #[vR a1, vI (Int32.ofNat p1), vI (Int32.ofNat q1), vI 0] [(.int (-1 : Int32))]) := fun t h => k232 t (by
                  show Steps p.tables e below (T231.setTop (mkF m 72 #[vR a1, vI (Int32.ofNat p1), vI (Int32.ofNat q1), vU] [(.int (own_b (own_dg (cs.map kc) 1 (p1 + 1) (n - (p1 + 1)))))])) _
                  refine XS.ifYes X231.here hx rfl (pc0 := 72) (pc' := 79) rfl (hb hby d6_72) rfl ((if0 _ _).trans (teq ((by rw [eq_false_of_ne_true u4]; rfl) : (own_b (own_dg (cs.map kc) 1 (p1 + 1) (n - (p1 + 1)))) = (0 : Int32))).1) (by decide) (by decide) ?_
                  refine XS.iconst X231.here hx rfl (hb hby d6_79) ?_
                  refine XS.istoreN X231.here hx rfl (hb hby d6_80) rfl (l' := #[vR a1, vI (Int32.ofNat p1), vI (Int32.ofNat q1), vI 0]) rfl ?_
                  refine XS.iloadN X231.here hx rfl (hb hby d6_81) rfl ?_
                  refine XS.ifYes X231.here hx rfl (pc0 := 82) (pc' := 91) rfl (hb hby d6_82) rfl ((if0 _ _).trans (teq (by decide : (0 : Int32) = (0 : Int32))).1) (by decide) (by decide) ?_
                  refine XS.iconst X231.here hx rfl (hb hby d6_91) ?_
                  exact h)
              obtain ⟨fs, hr, hrun, hended, hW, hsame⟩ := X231.leave (v := (some (.int (-1 : Int32)))) (fun h => by rw [Bd.returns] at h; cases h)
              refine ⟨_, _, ?_, hrun, hended, _, _, rfl, ?_, ⟨_, rfl⟩, hW, hsame.mono (by decide) (by decide)⟩
              · rw [← hS0]
                refine k233 _ ?_
                show Steps p.tables e below (T231.setTop (mkF m 92 #[vR a1, vI (Int32.ofNat p1), vI (Int32.ofNat q1), vI 0] [(.int (-1 : Int32))])) _
                exact retI X231 hx Bd.returns (hb hby d6_92) hr
              · show Q_rmUS Z n cs h0 n0 _ T231.heap _
                rw [hh231]
                exact ⟨_, rfl, N231, rfl, fun q => absurd q (by rw [hM]; decide), fun _ => by decide⟩
          · have hM : own_mem (cs.map kc) n = false := by simp only [own_mem, h1, h2]; simp [u3]
            have k214 : Rch p e below S0 T206 (mkF m 38 #[vR a1, vI (Int32.ofNat p1), vI (Int32.ofNat q1), vU] [(.ref a1), (.int (Int32.ofNat p1))]) := fun t h => k208 t (by
                show Steps p.tables e below (T206.setTop (mkF m 29 #[vR a1, vI (Int32.ofNat p1), vI (Int32.ofNat q1), vU] [])) _
                refine XS.iloadN X206.here hx rfl (hb hby d6_29) rfl ?_
                refine XS.iloadN X206.here hx rfl (hb hby d6_30) rfl ?_
                refine XS.iconst X206.here hx rfl (hb hby d6_31) ?_
                show Steps p.tables e below (T206.setTop (mkF m 32 #[vR a1, vI (Int32.ofNat p1), vI (Int32.ofNat q1), vU] [(.int (1 : Int32)), (.int (Int32.ofNat q1)), (.int (Int32.ofNat p1))])) _
                refine XS.iadd X206.here hx rfl (hb hby d6_32) rfl ?_
                rw [own_inc (i := q1) (by omega)]
                refine XS.icmpNo X206.here hx rfl (hb hby d6_33) rfl (tlt (((own_olt (by omega) (by omega)).mpr u1) : (Int32.ofNat (q1 + 1)) < (Int32.ofNat p1))).2.2.2 ?_
                refine XS.iloadN X206.here hx rfl (hb hby d6_36) rfl ?_
                refine XS.aloadN X206.here hx rfl (hb hby d6_37) rfl rfl ?_
                exact h)
            obtain ⟨cq215, kq215, q215a, q215b, q215c⟩ := isOf hZ hh206 Ex
            obtain ⟨_, _, ⟨T215, L215, kk215, n215⟩, -, X215, ⟨Lc215, hQ215, l215, y215, z215⟩, st215⟩ := X206.virtualBack hx (y := (⟨"java/lang/String", "length", "()I"⟩ : MethodName)) (z := (⟨"java/lang/String", "length", "()I"⟩ : MethodName)) hown (mvT hZ (hw _ (gm 85 rfl))) (mvT hZ (hw _ (gm 40 rfl))) (notFace_of_selects (args := #[]) (mvT hZ (hw _ (gm 42 rfl)))) (mvT hZ (hw _ (gm 42 rfl))) (mvT hZ (hw _ (gm 41 rfl))) (by decide) (backOf (W := 1) (rmLE l Z a0 hw []  a1 tt kt (Int32.ofNat n) ((cs.map fun c => c.toInt8.toInt32).map Value.int) (0 : Int32) zC (Int32.ofNat n) h0 n0 O0 SC hzC Ex Fv Fc Vt (own_sh0 _)) hZ (hw _ (gm 43 rfl)) (hw _ (gm 8 rfl)) (by decide) (by decide)) q215a q215c (g := (mkF m 38 #[vR a1, vI (Int32.ofNat p1), vI (Int32.ofNat q1), vU] [(.ref a1), (.int (Int32.ofNat p1))])) rfl (by rw [hml]; rfl) (Steps.refl _) (argsL := []) (rest := [(.int (Int32.ofNat p1))]) (lenOf pd_7 rfl) rfl (by show 2 * 0 + _ ≤ _; exact Nat.le_of_eq rfl) (hb hby d6_38) (fun _ _ => ⟨rfl, hh206, (by decide : 0 + 0 ≤ _), (by decide : 0 + 0 ≤ _)⟩)
            dsimp only [Pt.U, Pt.locs, Pt.cells, Pt.slots] at X215 l215 y215 z215 st215 hQ215
            subst l215 y215 z215
            obtain ⟨rfl, Nq215, hh215⟩ := hQ215
            have N215 := Fr.app N206 Nq215
            have k216 : Rch p e below S0 T215 (mkF m 41 #[vR a1, vI (Int32.ofNat p1), vI (Int32.ofNat q1), vU] [(.int (Int32.ofNat n)), (.int (Int32.ofNat p1))]) := fun t h => k214 t (st215.trans h)
            have k217 : Rch p e below S0 T215 (mkF m 53 #[vR a1, vI (Int32.ofNat p1), vI (Int32.ofNat q1), vU] [(.int (16 : Int32)), (.int (Int32.ofNat p1)), (.int (Int32.ofNat (q1 + 1))), (.ref a1)]) := fun t h => k216 t (by
                show Steps p.tables e below (T215.setTop (mkF m 41 #[vR a1, vI (Int32.ofNat p1), vI (Int32.ofNat q1), vU] [(.int (Int32.ofNat n)), (.int (Int32.ofNat p1))])) _
                refine XS.iconst X215.here hx rfl (hb hby d6_41) ?_
                refine XS.isub X215.here hx rfl (hb hby d6_42) rfl ?_
                refine XS.icmpNo X215.here hx rfl (hb hby d6_43) rfl (tlt ((by rw [Int32.lt_iff_toInt_lt, (own_tn (by omega)).2, own_ixt (by omega)]; omega) : (Int32.ofNat p1) < ((Int32.ofNat n) - (1 : Int32)))).2.1 ?_
                refine XS.aloadN X215.here hx rfl (hb hby d6_46) rfl rfl ?_
                refine XS.iloadN X215.here hx rfl (hb hby d6_47) rfl ?_
                refine XS.iconst X215.here hx rfl (hb hby d6_48) ?_
                show Steps p.tables e below (T215.setTop (mkF m 49 #[vR a1, vI (Int32.ofNat p1), vI (Int32.ofNat q1), vU] [(.int (1 : Int32)), (.int (Int32.ofNat q1)), (.ref a1)])) _
                refine XS.iadd X215.here hx rfl (hb hby d6_49) rfl ?_
                rw [own_inc (i := q1) (by omega)]
                refine XS.iloadN X215.here hx rfl (hb hby d6_50) rfl ?_
                refine XS.bipush X215.here hx rfl (hb hby d6_51) ?_
                exact h)
            obtain ⟨_, _, ⟨T218, L218, kk218, n218⟩, -, X218, ⟨Lc218, hQ218, l218, y218, z218⟩, st218⟩ := Jvm.LawKit.callS X215 hx (y := (⟨"com/example/nuthatch/nuthatch/EntryName", "digits", "(Ljava/lang/String;III)Z"⟩ : MethodName)) hown (mvT hZ (hw _ (gm 86 rfl))) (mvT hZ (hw _ (gm 87 rfl))) (mvT hZ (hw _ (gm 29 rfl))) (mvT hZ (hw _ (gm 88 rfl))) (by decide) (backOf (W := 0) (rmDG16 l Z a0 hw []  a1 tt kt n cs zC (q1 + 1) p1 fm h0 n0 O0 SC hzC Ex Fv Fc Vt hl hn hp SP hfm (by omega) (by omega)) hZ (hw _ (gm 88 rfl)) (hw _ (gm 29 rfl)) (by decide) (by decide)) (g := (mkF m 53 #[vR a1, vI (Int32.ofNat p1), vI (Int32.ofNat q1), vU] [(.int (16 : Int32)), (.int (Int32.ofNat p1)), (.int (Int32.ofNat (q1 + 1))), (.ref a1)])) rfl (by rw [hml]; rfl) (argsL := [(.ref a1), (.int (Int32.ofNat (q1 + 1))), (.int (Int32.ofNat p1)), (.int (16 : Int32))]) (rest := []) (lenOf pd_17 rfl) rfl (by show 2 * 0 + _ ≤ _; exact Nat.le_of_eq rfl) (hb hby d6_53) (fun _ _ => ⟨rfl, hh215, (by decide : 0 + 0 ≤ _), (by decide : 0 + 0 ≤ _)⟩)
            dsimp only [Pt.U, Pt.locs, Pt.cells, Pt.slots] at X218 l218 y218 z218 st218 hQ218
            subst l218 y218 z218
            obtain ⟨rfl, Nq218, hh218⟩ := hQ218
            have N218 := Fr.app N215 Nq218
            have k219 : Rch p e below S0 T218 (mkF m 56 #[vR a1, vI (Int32.ofNat p1), vI (Int32.ofNat q1), vU] [(.int (own_b (own_dg (cs.map kc) 2 (q1 + 1) (p1 - (q1 + 1)))))]) := fun t h => k217 t (st218 t h)
            have k220 : Rch p e below S0 T218 (mkF m 92 #[vR a1, vI (Int32.ofNat p1), vI (Int32.ofNat q1), vI 0] [(.int (-1 : Int32))]) := fun t h => k219 t (by
                show Steps p.tables e below (T218.setTop (mkF m 56 #[vR a1, vI (Int32.ofNat p1), vI (Int32.ofNat q1), vU] [(.int (own_b (own_dg (cs.map kc) 2 (q1 + 1) (p1 - (q1 + 1)))))])) _
                refine XS.ifYes X218.here hx rfl (pc0 := 56) (pc' := 79) rfl (hb hby d6_56) rfl ((if0 _ _).trans (teq ((by rw [eq_false_of_ne_true u3]; rfl) : (own_b (own_dg (cs.map kc) 2 (q1 + 1) (p1 - (q1 + 1)))) = (0 : Int32))).1) (by decide) (by decide) ?_
                refine XS.iconst X218.here hx rfl (hb hby d6_79) ?_
                refine XS.istoreN X218.here hx rfl (hb hby d6_80) rfl (l' := #[vR a1, vI (Int32.ofNat p1), vI (Int32.ofNat q1), vI 0]) rfl ?_
                refine XS.iloadN X218.here hx rfl (hb hby d6_81) rfl ?_
                refine XS.ifYes X218.here hx rfl (pc0 := 82) (pc' := 91) rfl (hb hby d6_82) rfl ((if0 _ _).trans (teq (by decide : (0 : Int32) = (0 : Int32))).1) (by decide) (by decide) ?_
                refine XS.iconst X218.here hx rfl (hb hby d6_91) ?_
                exact h)
            obtain ⟨fs, hr, hrun, hended, hW, hsame⟩ := X218.leave (v := (some (.int (-1 : Int32)))) (fun h => by rw [Bd.returns] at h; cases h)
            refine ⟨_, _, ?_, hrun, hended, _, _, rfl, ?_, ⟨_, rfl⟩, hW, hsame.mono (by decide) (by decide)⟩
            · rw [← hS0]
              refine k220 _ ?_
              show Steps p.tables e below (T218.setTop (mkF m 92 #[vR a1, vI (Int32.ofNat p1), vI (Int32.ofNat q1), vI 0] [(.int (-1 : Int32))])) _
              exact retI X218 hx Bd.returns (hb hby d6_92) hr
            · show Q_rmUS Z n cs h0 n0 _ T218.heap _
              rw [hh218]
              exact ⟨_, rfl, N218, rfl, fun q => absurd q (by rw [hM]; decide), fun _ => by decide⟩
        · have hM : own_mem (cs.map kc) n = false := by simp only [own_mem, h1, h2]; simp [u2]
          have k210 : Rch p e below S0 T206 (mkF m 38 #[vR a1, vI (Int32.ofNat p1), vI (Int32.ofNat q1), vU] [(.ref a1), (.int (Int32.ofNat p1))]) := fun t h => k208 t (by
              show Steps p.tables e below (T206.setTop (mkF m 29 #[vR a1, vI (Int32.ofNat p1), vI (Int32.ofNat q1), vU] [])) _
              refine XS.iloadN X206.here hx rfl (hb hby d6_29) rfl ?_
              refine XS.iloadN X206.here hx rfl (hb hby d6_30) rfl ?_
              refine XS.iconst X206.here hx rfl (hb hby d6_31) ?_
              show Steps p.tables e below (T206.setTop (mkF m 32 #[vR a1, vI (Int32.ofNat p1), vI (Int32.ofNat q1), vU] [(.int (1 : Int32)), (.int (Int32.ofNat q1)), (.int (Int32.ofNat p1))])) _
              refine XS.iadd X206.here hx rfl (hb hby d6_32) rfl ?_
              rw [own_inc (i := q1) (by omega)]
              refine XS.icmpNo X206.here hx rfl (hb hby d6_33) rfl (tlt (((own_olt (by omega) (by omega)).mpr u1) : (Int32.ofNat (q1 + 1)) < (Int32.ofNat p1))).2.2.2 ?_
              refine XS.iloadN X206.here hx rfl (hb hby d6_36) rfl ?_
              refine XS.aloadN X206.here hx rfl (hb hby d6_37) rfl rfl ?_
              exact h)
          obtain ⟨cq211, kq211, q211a, q211b, q211c⟩ := isOf hZ hh206 Ex
          obtain ⟨_, _, ⟨T211, L211, kk211, n211⟩, -, X211, ⟨Lc211, hQ211, l211, y211, z211⟩, st211⟩ := X206.virtualBack hx (y := (⟨"java/lang/String", "length", "()I"⟩ : MethodName)) (z := (⟨"java/lang/String", "length", "()I"⟩ : MethodName)) hown (mvT hZ (hw _ (gm 85 rfl))) (mvT hZ (hw _ (gm 40 rfl))) (notFace_of_selects (args := #[]) (mvT hZ (hw _ (gm 42 rfl)))) (mvT hZ (hw _ (gm 42 rfl))) (mvT hZ (hw _ (gm 41 rfl))) (by decide) (backOf (W := 1) (rmLE l Z a0 hw []  a1 tt kt (Int32.ofNat n) ((cs.map fun c => c.toInt8.toInt32).map Value.int) (0 : Int32) zC (Int32.ofNat n) h0 n0 O0 SC hzC Ex Fv Fc Vt (own_sh0 _)) hZ (hw _ (gm 43 rfl)) (hw _ (gm 8 rfl)) (by decide) (by decide)) q211a q211c (g := (mkF m 38 #[vR a1, vI (Int32.ofNat p1), vI (Int32.ofNat q1), vU] [(.ref a1), (.int (Int32.ofNat p1))])) rfl (by rw [hml]; rfl) (Steps.refl _) (argsL := []) (rest := [(.int (Int32.ofNat p1))]) (lenOf pd_7 rfl) rfl (by show 2 * 0 + _ ≤ _; exact Nat.le_of_eq rfl) (hb hby d6_38) (fun _ _ => ⟨rfl, hh206, (by decide : 0 + 0 ≤ _), (by decide : 0 + 0 ≤ _)⟩)
          dsimp only [Pt.U, Pt.locs, Pt.cells, Pt.slots] at X211 l211 y211 z211 st211 hQ211
          subst l211 y211 z211
          obtain ⟨rfl, Nq211, hh211⟩ := hQ211
          have N211 := Fr.app N206 Nq211
          have k212 : Rch p e below S0 T211 (mkF m 41 #[vR a1, vI (Int32.ofNat p1), vI (Int32.ofNat q1), vU] [(.int (Int32.ofNat n)), (.int (Int32.ofNat p1))]) := fun t h => k210 t (st211.trans h)
          have k213 : Rch p e below S0 T211 (mkF m 92 #[vR a1, vI (Int32.ofNat p1), vI (Int32.ofNat q1), vI 0] [(.int (-1 : Int32))]) := fun t h => k212 t (by
              show Steps p.tables e below (T211.setTop (mkF m 41 #[vR a1, vI (Int32.ofNat p1), vI (Int32.ofNat q1), vU] [(.int (Int32.ofNat n)), (.int (Int32.ofNat p1))])) _
              refine XS.iconst X211.here hx rfl (hb hby d6_41) ?_
              refine XS.isub X211.here hx rfl (hb hby d6_42) rfl ?_
              refine XS.icmpYes X211.here hx rfl (pc0 := 43) (pc' := 79) rfl (hb hby d6_43) rfl (flt ((by rw [Int32.lt_iff_toInt_lt, (own_tn (by omega)).2, own_ixt (by omega)]; omega) : ¬ ((Int32.ofNat p1) < ((Int32.ofNat n) - (1 : Int32))))).2.1 (by decide) (by decide) ?_
              refine XS.iconst X211.here hx rfl (hb hby d6_79) ?_
              refine XS.istoreN X211.here hx rfl (hb hby d6_80) rfl (l' := #[vR a1, vI (Int32.ofNat p1), vI (Int32.ofNat q1), vI 0]) rfl ?_
              refine XS.iloadN X211.here hx rfl (hb hby d6_81) rfl ?_
              refine XS.ifYes X211.here hx rfl (pc0 := 82) (pc' := 91) rfl (hb hby d6_82) rfl ((if0 _ _).trans (teq (by decide : (0 : Int32) = (0 : Int32))).1) (by decide) (by decide) ?_
              refine XS.iconst X211.here hx rfl (hb hby d6_91) ?_
              exact h)
          obtain ⟨fs, hr, hrun, hended, hW, hsame⟩ := X211.leave (v := (some (.int (-1 : Int32)))) (fun h => by rw [Bd.returns] at h; cases h)
          refine ⟨_, _, ?_, hrun, hended, _, _, rfl, ?_, ⟨_, rfl⟩, hW, hsame.mono (by decide) (by decide)⟩
          · rw [← hS0]
            refine k213 _ ?_
            show Steps p.tables e below (T211.setTop (mkF m 92 #[vR a1, vI (Int32.ofNat p1), vI (Int32.ofNat q1), vI 0] [(.int (-1 : Int32))])) _
            exact retI X211 hx Bd.returns (hb hby d6_92) hr
          · show Q_rmUS Z n cs h0 n0 _ T211.heap _
            rw [hh211]
            exact ⟨_, rfl, N211, rfl, fun q => absurd q (by rw [hM]; decide), fun _ => by decide⟩
      · have hM : own_mem (cs.map kc) n = false := by simp only [own_mem, h1, h2]; simp [u1]
        have k209 : Rch p e below S0 T206 (mkF m 92 #[vR a1, vI (Int32.ofNat p1), vI (Int32.ofNat q1), vI 0] [(.int (-1 : Int32))]) := fun t h => k208 t (by
            show Steps p.tables e below (T206.setTop (mkF m 29 #[vR a1, vI (Int32.ofNat p1), vI (Int32.ofNat q1), vU] [])) _
            refine XS.iloadN X206.here hx rfl (hb hby d6_29) rfl ?_
            refine XS.iloadN X206.here hx rfl (hb hby d6_30) rfl ?_
            refine XS.iconst X206.here hx rfl (hb hby d6_31) ?_
            show Steps p.tables e below (T206.setTop (mkF m 32 #[vR a1, vI (Int32.ofNat p1), vI (Int32.ofNat q1), vU] [(.int (1 : Int32)), (.int (Int32.ofNat q1)), (.int (Int32.ofNat p1))])) _
            refine XS.iadd X206.here hx rfl (hb hby d6_32) rfl ?_
            rw [own_inc (i := q1) (by omega)]
            refine XS.icmpYes X206.here hx rfl (pc0 := 33) (pc' := 79) rfl (hb hby d6_33) rfl (flt ((fun q => u1 ((own_olt (by omega) (by omega)).mp q)) : ¬ ((Int32.ofNat (q1 + 1)) < (Int32.ofNat p1)))).2.2.2 (by decide) (by decide) ?_
            refine XS.iconst X206.here hx rfl (hb hby d6_79) ?_
            refine XS.istoreN X206.here hx rfl (hb hby d6_80) rfl (l' := #[vR a1, vI (Int32.ofNat p1), vI (Int32.ofNat q1), vI 0]) rfl ?_
            refine XS.iloadN X206.here hx rfl (hb hby d6_81) rfl ?_
            refine XS.ifYes X206.here hx rfl (pc0 := 82) (pc' := 91) rfl (hb hby d6_82) rfl ((if0 _ _).trans (teq (by decide : (0 : Int32) = (0 : Int32))).1) (by decide) (by decide) ?_
            refine XS.iconst X206.here hx rfl (hb hby d6_91) ?_
            exact h)
        obtain ⟨fs, hr, hrun, hended, hW, hsame⟩ := X206.leave (v := (some (.int (-1 : Int32)))) (fun h => by rw [Bd.returns] at h; cases h)
        refine ⟨_, _, ?_, hrun, hended, _, _, rfl, ?_, ⟨_, rfl⟩, hW, hsame.mono (by decide) (by decide)⟩
        · rw [← hS0]
          refine k209 _ ?_
          show Steps p.tables e below (T206.setTop (mkF m 92 #[vR a1, vI (Int32.ofNat p1), vI (Int32.ofNat q1), vI 0] [(.int (-1 : Int32))])) _
          exact retI X206 hx Bd.returns (hb hby d6_92) hr
        · show Q_rmUS Z n cs h0 n0 _ T206.heap _
          rw [hh206]
          exact ⟨_, rfl, N206, rfl, fun q => absurd q (by rw [hM]; decide), fun _ => by decide⟩
def Q_rmIM (Z : State) (n : Nat) (cs : List Int32) (h0 : Heap) (n0 : Nat) (v : Option Value) (h : Heap) (L : List Loc) : Prop := v = some (.int (own_b (own_mem (cs.map kc) n))) ∧ Fr n0 L ∧ h = h0
theorem ef_5 (m : MethodId) (x0 : Addr) : entryFrame m #[(.ref x0)] 1 = mkF m 0 #[.val (.ref x0)] [] := by first | (simp [entryFrame, mkF, argsToLocals, Value.category]; done) | rfl
theorem d5_0 : decode prog_2_method_4_code 0 = .ok (.aload_n 0, 1) := by decide +kernel
theorem pd_5 : parseMethodDescriptor "(Ljava/lang/String;)I" = some ⟨[(.object "java/lang/String")], some .int⟩ := by decide +kernel
theorem d5_1 : decode prog_2_method_4_code 1 = .ok (.invokestatic 43, 3) := by decide +kernel
theorem d5_4 : decode prog_2_method_4_code 4 = .ok (.ifCond .lt 7, 3) := by decide +kernel
theorem d5_7 : decode prog_2_method_4_code 7 = .ok (.iconst 1, 1) := by decide +kernel
theorem d5_8 : decode prog_2_method_4_code 8 = .ok (.goto 4, 3) := by decide +kernel
theorem d5_12 : decode prog_2_method_4_code 12 = .ok (.ireturn, 1) := by decide +kernel
theorem d5_11 : decode prog_2_method_4_code 11 = .ok (.iconst 0, 1) := by decide +kernel
set_option maxRecDepth 65536 in
set_option maxHeartbeats 40000000 in
theorem rmIM (l : Launch) (Z : State) (a0 : Array Value) (hw : ∀ d ∈ tables_1, d.before a0 Z = true) (ws : List Jvm.Cond) (a1 : Addr) (tt : Addr) (kt : ClassId) (n : Nat) (cs : List Int32) (zC : Int32) (fm : Value) (h0 : Heap) (n0 : Nat) (O0 : Old Z n0 h0) (SC : Sta Z Z.heap "java/lang/String" "COMPACT_STRINGS" "Z" (.int zC)) (hzC : ¬ zC = 0) (Ex : Exa Z h0 a1 "java/lang/String") (Fv : Fld Z h0 a1 "java/lang/String" "value" "[B" (.ref tt)) (Fc : Fld Z h0 a1 "java/lang/String" "coder" "B" (.int (0 : Int32))) (Vt : Arv Z h0 tt kt .byte (Int32.ofNat n) ((cs.map fun c => c.toInt8.toInt32).map Value.int) (.int (0 : Int32))) (hl : cs.length = n) (hn : n ≤ 7) (hp : ∀ c ∈ cs, ¬ c < 0 ∧ ¬ (255 : Int32) < c) (SP : Sta Z Z.heap "jdk/internal/util/Preconditions" "SIOOBE_FORMATTER" "Ljava/util/function/BiFunction;" fm) (hfm : fm = .null ∨ ∃ wP, fm = .ref wP) :
    MetFree l (⟨"com/example/nuthatch/nuthatch/EntryName", "isMember", "(Ljava/lang/String;)Z"⟩ : MethodName) (head1 (Jvm.Cond.code (⟨"com/example/nuthatch/nuthatch/EntryName", "isMember", "(Ljava/lang/String;)Z"⟩ : MethodName) prog_2_method_4_code 1 (some .boolean) :: ws) ({ frames := 6, cells := 0, slots := 0, locals := 138 } : Room)) (fun a U => a = #[(.ref a1)] ∧ Z.Warmed39 U.vm ∧ U.heap = h0) (fun _ _ _ _ _ => True) (fun _ U o U' => ∃ v L, o = .returned v ∧ Q_rmIM Z n cs h0 n0 v U'.heap L ∧ FrameEnd U o U' L ({ frames := 6, cells := 0, slots := 0, locals := 138 } : Room).cells ({ frames := 6, cells := 0, slots := 0, locals := 138 } : Room).slots) := by
  refine MetFree.of_bodySF (plainFor_of_name pn_EntryName) hisR ?_
  intro p e s m args below meth c s₁ Bd hml0 hP hK
  obtain ⟨rfl, hZ, hh⟩ := hP
  have hx := Bd.exec
  have hby := Bd.bytes
  have hml : c.maxLocals = 1 := hml0
  have hown : s.vm.findClass "com/example/nuthatch/nuthatch/EntryName" = some m.cls := findClass_of_methodNamed Bd.named
  have hnm := (name_of_methodNamed Bd.named Bd.method).1
  have X0 : Stand p l e ({ frames := 6, cells := 0, slots := 0, locals := 138 } : Room) s m #[(.ref a1)] below meth c s₁ [] 0 0 := Stand.of_body Bd
  have e0 : s₁.heap = h0 := by rw [← hh, Bd.state]; rfl
  have N0 := Fr.nil n0
  obtain ⟨S0, hS0⟩ : ∃ z, z = s₁.setTop (entryFrame m #[(.ref a1)] 1) := ⟨_, rfl⟩
  have k0 : Rch p e below S0 s₁ (mkF m 0 #[vR a1] []) := fun t kq => hS0 ▸ castTop (ef_5 m a1) kq
  have k247 : Rch p e below S0 s₁ (mkF m 1 #[vR a1] [(.ref a1)]) := fun t h => k0 t (by
      show Steps p.tables e below (s₁.setTop (mkF m 0 #[vR a1] [])) _
      refine XS.aloadN X0.here hx rfl (hb hby d5_0) rfl rfl ?_
      exact h)
  obtain ⟨_, _, ⟨T248, L248, kk248, n248⟩, -, X248, ⟨Lc248, hQ248, l248, y248, z248⟩, st248⟩ := Jvm.LawKit.callS X0 hx (y := (⟨"com/example/nuthatch/nuthatch/EntryName", "uniqueStart", "(Ljava/lang/String;)I"⟩ : MethodName)) hown (mvT hZ (hw _ (gm 31 rfl))) (mvT hZ (hw _ (gm 32 rfl))) (mvT hZ (hw _ (gm 29 rfl))) (mvT hZ (hw _ (gm 33 rfl))) (by decide) (backOf (W := 0) (rmUS l Z a0 hw []  a1 tt kt n cs zC fm h0 n0 O0 SC hzC Ex Fv Fc Vt hl hn hp SP hfm) hZ (hw _ (gm 33 rfl)) (hw _ (gm 29 rfl)) (by decide) (by decide)) (g := (mkF m 1 #[vR a1] [(.ref a1)])) rfl (by rw [hml]; rfl) (argsL := [(.ref a1)]) (rest := []) (lenOf pd_5 rfl) rfl (by show 2 * 0 + _ ≤ _; exact Nat.le_of_eq rfl) (hb hby d5_1) (fun _ _ => ⟨rfl, e0, (by decide : 0 + 0 ≤ _), (by decide : 0 + 0 ≤ _)⟩)
  dsimp only [Pt.U, Pt.locs, Pt.cells, Pt.slots] at X248 l248 y248 z248 st248 hQ248
  subst l248 y248 z248
  obtain ⟨r248, rfl, Nq248, hh248, hA248, hB248⟩ := hQ248
  have N248 := Fr.app N0 Nq248
  have k249 : Rch p e below S0 T248 (mkF m 4 #[vR a1] [(.int r248)]) := fun t h => k247 t (st248 t h)
  cases hM : own_mem (cs.map kc) n with
  | true =>
    have k250 : Rch p e below S0 T248 (mkF m 12 #[vR a1] [(.int (1 : Int32))]) := fun t h => k249 t (by
        show Steps p.tables e below (T248.setTop (mkF m 4 #[vR a1] [(.int r248)])) _
        refine XS.ifNo X248.here hx rfl (hb hby d5_4) rfl ((if0 _ _).trans (flt ((hA248 hM) : ¬ (r248 < (0 : Int32)))).1) ?_
        refine XS.iconst X248.here hx rfl (hb hby d5_7) ?_
        refine XS.goto X248.here hx rfl (pc0 := 8) (pc' := 12) rfl (hb hby d5_8) (by decide) (by decide) ?_
        exact h)
    obtain ⟨fs, hr, hrun, hended, hW, hsame⟩ := X248.leave (v := (some (.int (1 : Int32)))) (fun h => by rw [Bd.returns] at h; cases h)
    refine ⟨_, _, ?_, hrun, hended, _, _, rfl, ?_, ⟨_, rfl⟩, hW, hsame.mono (by decide) (by decide)⟩
    · rw [← hS0]
      refine k250 _ ?_
      show Steps p.tables e below (T248.setTop (mkF m 12 #[vR a1] [(.int (1 : Int32))])) _
      exact retN X248 hx (t := .boolean) Bd.returns (by simp) (hb hby d5_12) hr
    · show Q_rmIM Z n cs h0 n0 _ T248.heap _
      rw [hh248]
      exact ⟨by rw [hM]; rfl, N248, rfl⟩
  | false =>
    have k251 : Rch p e below S0 T248 (mkF m 12 #[vR a1] [(.int (0 : Int32))]) := fun t h => k249 t (by
        show Steps p.tables e below (T248.setTop (mkF m 4 #[vR a1] [(.int r248)])) _
        refine XS.ifYes X248.here hx rfl (pc0 := 4) (pc' := 11) rfl (hb hby d5_4) rfl ((if0 _ _).trans (tlt ((hB248 hM) : r248 < (0 : Int32))).1) (by decide) (by decide) ?_
        refine XS.iconst X248.here hx rfl (hb hby d5_11) ?_
        exact h)
    obtain ⟨fs, hr, hrun, hended, hW, hsame⟩ := X248.leave (v := (some (.int (0 : Int32)))) (fun h => by rw [Bd.returns] at h; cases h)
    refine ⟨_, _, ?_, hrun, hended, _, _, rfl, ?_, ⟨_, rfl⟩, hW, hsame.mono (by decide) (by decide)⟩
    · rw [← hS0]
      refine k251 _ ?_
      show Steps p.tables e below (T248.setTop (mkF m 12 #[vR a1] [(.int (0 : Int32))])) _
      exact retN X248 hx (t := .boolean) Bd.returns (by simp) (hb hby d5_12) hr
    · show Q_rmIM Z n cs h0 n0 _ T248.heap _
      rw [hh248]
      exact ⟨by rw [hM]; rfl, N248, rfl⟩
def Q_rm0_0 (Z : State)  (h0 : Heap) (n0 : Nat) (v : Option Value) (h : Heap) (L : List Loc) : Prop := v = some (.int (1 : Int32)) ∧ Fr n0 L
theorem ef_0 (m : MethodId) (x0 : Int64) (x1 : Int64) (x2 : Int32) : entryFrame m #[(.long x0), (.long x1), (.int x2)] maxLocals = mkF m 0 #[.val (.long x0), .second, .val (.long x1), .second, .val (.int x2), .unset, .unset, .unset, .unset, .unset, .unset, .unset, .unset, .unset, .unset, .unset] [] := by first | (simp [entryFrame, mkF, argsToLocals, Value.category, maxLocals]; done) | rfl
theorem pd_0 : parseMethodDescriptor "(J)C" = some ⟨[.long], some .char⟩ := by decide +kernel
theorem pd_1 : parseMethodDescriptor "([C)V" = some ⟨[(.array .char)], none⟩ := by decide +kernel
theorem pd_4 : parseMethodDescriptor "(Ljava/lang/String;)Z" = some ⟨[(.object "java/lang/String")], some .boolean⟩ := by decide +kernel
set_option maxRecDepth 65536 in
set_option maxHeartbeats 40000000 in
theorem rm0_0 (l : Launch) (Z : State) (a0 : Array Value) (hw : ∀ d ∈ tables_1, d.before a0 Z = true) (ws : List Jvm.Cond) (p1 : Int64) (p2 : Int64) (p3 : Int32) (zC : Int32) (fm : Value) (h0 : Heap) (n0 : Nat) (O0 : Old Z n0 h0) (SC : Sta Z Z.heap "java/lang/String" "COMPACT_STRINGS" "Z" (.int zC)) (hzC : ¬ zC = 0) (SP : Sta Z Z.heap "jdk/internal/util/Preconditions" "SIOOBE_FORMATTER" "Ljava/util/function/BiFunction;" fm) (hfm : fm = .null ∨ ∃ wP, fm = .ref wP) (hlen : p3 &&& 7 = (0 : Int32)) :
    MetFree l x (head1 (Jvm.Cond.code x code maxLocals ret :: ws) room_1) (fun a U => a = #[(.long p1), (.long p2), (.int p3)] ∧ Z.Warmed39 U.vm ∧ U.heap = h0 ∧ CHv Z consts_1 U.vm h0) (fun _ _ _ _ _ => True) (fun _ U o U' => ∃ v L, o = .returned v ∧ Q_rm0_0 Z  h0 n0 v U'.heap L ∧ CHr Z consts_1 U.vm U.heap U'.vm U'.heap ∧ ReturnedEndW U o U' L room_1.cells room_1.slots) := by
  refine MetFree.of_bodySF (plainFor_of_name pn_EntryNameIsMemberPinLaw) hisR ?_
  intro p e s m args below meth c s₁ Bd hml0 hP hK
  obtain ⟨rfl, hZ, hh, hC0⟩ := hP
  have hx := Bd.exec
  have hby := Bd.bytes
  have hml : c.maxLocals = 16 := hml0
  have hown : s.vm.findClass "com/example/nuthatch/nuthatch/EntryNameIsMemberPinLaw" = some m.cls := findClass_of_methodNamed Bd.named
  have hnm := (name_of_methodNamed Bd.named Bd.method).1
  have X0 : Stand p l e room_1 (s.setVm s.vm) m #[(.long p1), (.long p2), (.int p3)] below meth c s₁ [] 0 0 := Stand.of_body Bd
  have e0 : s₁.heap = h0 := by rw [← hh, Bd.state]; rfl
  have N0 := Fr.nil n0
  obtain ⟨S0, hS0⟩ : ∃ z, z = s₁.setTop (entryFrame m #[(.long p1), (.long p2), (.int p3)] maxLocals) := ⟨_, rfl⟩
  have k0 : Rch p e below S0 s₁ (mkF m 0 #[.val (.long p1), .second, .val (.long p2), .second, vI p3, vU, vU, vU, vU, vU, vU, vU, vU, vU, vU, vU] []) := fun t kq => hS0 ▸ castTop (ef_0 m p1 p2 p3) kq
  have hS : s.Since s.vm s.heap.size := (State.WarmedH.refl s).since _
  have hk : s.heap.size ≤ h0.size := by rw [← hh]; exact Nat.le_refl _
  have hwS : ∀ d ∈ Bundle.stringAtoms, d.before a0 Z = true := fun d hd => hw d ((by decide +kernel : ∀ d ∈ Bundle.stringAtoms, d ∈ tables_1) d hd)
  have rC0 : CHr Z consts_1 s.vm h0 s.vm h0 := CHr.refl hC0
  have hEL : EW Z a0 consts_1 := (EW.cons (hw _ (gm 19 rfl)) (by decide +kernel) EW.nil)
  have k253 : Rch p e below S0 s₁ (mkF m 9 #[.val (.long p1), .second, .val (.long p2), .second, vI p3, vI 0, vU, vU, vU, vU, vU, vU, vU, vU, vU, vU] [(.int (0 : Int32))]) := fun t h => k0 t (by
      show Steps p.tables e below (s₁.setTop (mkF m 0 #[.val (.long p1), .second, .val (.long p2), .second, vI p3, vU, vU, vU, vU, vU, vU, vU, vU, vU, vU, vU] [])) _
      refine XS.iload X0.here hx rfl (hb hby at_0) rfl ?_
      refine XS.bipush X0.here hx rfl (hb hby at_2) ?_
      show Steps p.tables e below (s₁.setTop (mkF m 4 #[.val (.long p1), .second, .val (.long p2), .second, vI p3, vU, vU, vU, vU, vU, vU, vU, vU, vU, vU, vU] [(.int (7 : Int32)), (.int p3)])) _
      refine XS.iand X0.here hx rfl (hb hby at_4) rfl ?_
      rw [hlen]
      refine XS.istore X0.here hx rfl (hb hby at_5) rfl (l' := #[.val (.long p1), .second, .val (.long p2), .second, vI p3, vI 0, vU, vU, vU, vU, vU, vU, vU, vU, vU, vU]) rfl ?_
      refine XS.iload X0.here hx rfl (hb hby at_7) rfl ?_
      exact h)
  obtain ⟨T252, h252, k252, X252, e252, E252, A252, st252⟩ := newP X0 hx hZ (hw _ (gm 0 rfl)) e0 (g := (mkF m 9 #[.val (.long p1), .second, .val (.long p2), .second, vI p3, vI 0, vU, vU, vU, vU, vU, vU, vU, vU, vU, vU] [(.int (0 : Int32))])) rfl (hb hby at_9) rfl (by decide) (cap := 0) (by decide) (by decide) (by decide) (by decide)
  obtain ⟨b252, g252⟩ : ∃ z, z = h0.size := ⟨_, rfl⟩
  rw [← g252] at A252 st252
  have k254 : Rch p e below S0 T252 (mkF m 11 #[.val (.long p1), .second, .val (.long p2), .second, vI p3, vI 0, vU, vU, vU, vU, vU, vU, vU, vU, vU, vU] [(.ref b252)]) := fun t h => k253 t (st252 t h)
  have ge_b252 : n0 ≤ b252 := own_ge O0 (Nat.le_of_eq g252.symm)
  have sf_b252 : Safe Z consts_1 s.vm h0 b252 := Safe.new (Nat.le_of_eq g252.symm)
  replace sf_b252 := Safe.ext E252 hC0 sf_b252
  have hC255 := hC0.ext E252
  have rC255 := rC0.trans (CHr.ext E252 hC0)
  have O256 := O0.ext E252
  have hkk257 := Nat.le_trans hk E252.1
  have V_b252 : Arv Z h252 b252 k252 .char (0 : Int32) [] (.int (0 : Int32)) := (Arv.new A252 (by decide)).pad (pad_rep [] (.int (0 : Int32)) 0)
  have k258 : Rch p e below S0 T252 (mkF m 14 #[.val (.long p1), .second, .val (.long p2), .second, vI p3, vI 0, vR b252, vU, vU, vU, vU, vU, vU, vU, vU, vU] [(.long p1)]) := fun t h => k254 t (by
      show Steps p.tables e below (T252.setTop (mkF m 11 #[.val (.long p1), .second, .val (.long p2), .second, vI p3, vI 0, vU, vU, vU, vU, vU, vU, vU, vU, vU, vU] [(.ref b252)])) _
      refine XS.astore X252.here hx rfl (hb hby at_11) rfl rfl (l' := #[.val (.long p1), .second, .val (.long p2), .second, vI p3, vI 0, vR b252, vU, vU, vU, vU, vU, vU, vU, vU, vU]) rfl ?_
      refine XS.lloadN X252.here hx rfl (hb hby at_13) rfl ?_
      exact h)
  obtain ⟨_, _, ⟨T259, L259, kk259, n259⟩, -, X259, ⟨Lc259, hQ259, l259, y259, z259⟩, st259⟩ := Jvm.LawKit.callS X252 hx (y := (⟨"com/example/nuthatch/nuthatch/EntryNameIsMemberPinLaw", "ch", "(J)C"⟩ : MethodName)) hown (mvT hZ (hw _ (gm 1 rfl))) (mvT hZ (hw _ (gm 2 rfl))) (mvT hZ (hw _ (gm 3 rfl))) (mvT hZ (hw _ (gm 4 rfl))) (by decide) (backOf (W := 0) (rmCh l Z a0 hw [] p1  h252 n0 O256 ) hZ (hw _ (gm 4 rfl)) (hw _ (gm 3 rfl)) (by decide) (by decide)) (g := (mkF m 14 #[.val (.long p1), .second, .val (.long p2), .second, vI p3, vI 0, vR b252, vU, vU, vU, vU, vU, vU, vU, vU, vU] [(.long p1)])) rfl (by rw [hml]; rfl) (argsL := [(.long p1)]) (rest := []) (lenOf pd_0 rfl) rfl (by show 2 * 0 + _ ≤ _; exact Nat.le_of_eq rfl) (hb hby at_14) (fun _ _ => ⟨rfl, e252, (by decide : 1 + 0 ≤ _), (by decide : 0 + 0 ≤ _)⟩)
  dsimp only [Pt.U, Pt.locs, Pt.cells, Pt.slots] at X259 l259 y259 z259 st259 hQ259
  subst l259 y259 z259
  obtain ⟨c0, rfl, Nq259, hh259, hc0⟩ := hQ259
  have N259 := Fr.app N0 Nq259
  have k260 : Rch p e below S0 T259 (mkF m 17 #[.val (.long p1), .second, .val (.long p2), .second, vI p3, vI 0, vR b252, vU, vU, vU, vU, vU, vU, vU, vU, vU] [(.int c0)]) := fun t h => k258 t (st259 t h)
  obtain ⟨lo259, Y259, M259⟩ : ∃ lo, Stand p l e room_1 (s.setVm s.vm) m #[(.long p1), (.long p2), (.int p3)] below meth c T259 lo 1 0 ∧ Fr n0 lo := ⟨_, X259, N259⟩
  clear X259 N259
  have k261 : Rch p e below S0 T259 (mkF m 23 #[.val (.long p1), .second, .val (.long p2), .second, vI p3, vI 0, vR b252, vI c0, vU, vU, vU, vU, vU, vU, vU, vU] [(.long ((p1.toUInt64 >>> ((10 : Int32) &&& 0x3f).toInt64.toUInt64).toInt64))]) := fun t h => k260 t (by
      show Steps p.tables e below (T259.setTop (mkF m 17 #[.val (.long p1), .second, .val (.long p2), .second, vI p3, vI 0, vR b252, vU, vU, vU, vU, vU, vU, vU, vU, vU] [(.int c0)])) _
      refine XS.istore Y259.here hx rfl (hb hby at_17) rfl (l' := #[.val (.long p1), .second, .val (.long p2), .second, vI p3, vI 0, vR b252, vI c0, vU, vU, vU, vU, vU, vU, vU, vU]) rfl ?_
      refine XS.lloadN Y259.here hx rfl (hb hby at_19) rfl ?_
      refine XS.bipush Y259.here hx rfl (hb hby at_20) ?_
      refine XS.lushr Y259.here hx rfl (hb hby at_22) rfl ?_
      exact h)
  obtain ⟨_, _, ⟨T262, L262, kk262, n262⟩, -, X262, ⟨Lc262, hQ262, l262, y262, z262⟩, st262⟩ := Jvm.LawKit.callS Y259 hx (y := (⟨"com/example/nuthatch/nuthatch/EntryNameIsMemberPinLaw", "ch", "(J)C"⟩ : MethodName)) hown (mvT hZ (hw _ (gm 1 rfl))) (mvT hZ (hw _ (gm 2 rfl))) (mvT hZ (hw _ (gm 3 rfl))) (mvT hZ (hw _ (gm 4 rfl))) (by decide) (backOf (W := 0) (rmCh l Z a0 hw [] ((p1.toUInt64 >>> ((10 : Int32) &&& 0x3f).toInt64.toUInt64).toInt64)  h252 n0 O256 ) hZ (hw _ (gm 4 rfl)) (hw _ (gm 3 rfl)) (by decide) (by decide)) (g := (mkF m 23 #[.val (.long p1), .second, .val (.long p2), .second, vI p3, vI 0, vR b252, vI c0, vU, vU, vU, vU, vU, vU, vU, vU] [(.long ((p1.toUInt64 >>> ((10 : Int32) &&& 0x3f).toInt64.toUInt64).toInt64))])) rfl (by rw [hml]; rfl) (argsL := [(.long ((p1.toUInt64 >>> ((10 : Int32) &&& 0x3f).toInt64.toUInt64).toInt64))]) (rest := []) (lenOf pd_0 rfl) rfl (by show 2 * 0 + _ ≤ _; exact Nat.le_of_eq rfl) (hb hby at_23) (fun _ _ => ⟨rfl, hh259, (by decide : 1 + 0 ≤ _), (by decide : 0 + 0 ≤ _)⟩)
  dsimp only [Pt.U, Pt.locs, Pt.cells, Pt.slots] at X262 l262 y262 z262 st262 hQ262
  subst l262 y262 z262
  obtain ⟨c1, rfl, Nq262, hh262, hc1⟩ := hQ262
  have N262 := Fr.app M259 Nq262
  have k263 : Rch p e below S0 T262 (mkF m 26 #[.val (.long p1), .second, .val (.long p2), .second, vI p3, vI 0, vR b252, vI c0, vU, vU, vU, vU, vU, vU, vU, vU] [(.int c1)]) := fun t h => k261 t (st262 t h)
  obtain ⟨lo262, Y262, M262⟩ : ∃ lo, Stand p l e room_1 (s.setVm s.vm) m #[(.long p1), (.long p2), (.int p3)] below meth c T262 lo 1 0 ∧ Fr n0 lo := ⟨_, X262, N262⟩
  clear X262 N262
  have k264 : Rch p e below S0 T262 (mkF m 32 #[.val (.long p1), .second, .val (.long p2), .second, vI p3, vI 0, vR b252, vI c0, vI c1, vU, vU, vU, vU, vU, vU, vU] [(.long ((p1.toUInt64 >>> ((20 : Int32) &&& 0x3f).toInt64.toUInt64).toInt64))]) := fun t h => k263 t (by
      show Steps p.tables e below (T262.setTop (mkF m 26 #[.val (.long p1), .second, .val (.long p2), .second, vI p3, vI 0, vR b252, vI c0, vU, vU, vU, vU, vU, vU, vU, vU] [(.int c1)])) _
      refine XS.istore Y262.here hx rfl (hb hby at_26) rfl (l' := #[.val (.long p1), .second, .val (.long p2), .second, vI p3, vI 0, vR b252, vI c0, vI c1, vU, vU, vU, vU, vU, vU, vU]) rfl ?_
      refine XS.lloadN Y262.here hx rfl (hb hby at_28) rfl ?_
      refine XS.bipush Y262.here hx rfl (hb hby at_29) ?_
      refine XS.lushr Y262.here hx rfl (hb hby at_31) rfl ?_
      exact h)
  obtain ⟨_, _, ⟨T265, L265, kk265, n265⟩, -, X265, ⟨Lc265, hQ265, l265, y265, z265⟩, st265⟩ := Jvm.LawKit.callS Y262 hx (y := (⟨"com/example/nuthatch/nuthatch/EntryNameIsMemberPinLaw", "ch", "(J)C"⟩ : MethodName)) hown (mvT hZ (hw _ (gm 1 rfl))) (mvT hZ (hw _ (gm 2 rfl))) (mvT hZ (hw _ (gm 3 rfl))) (mvT hZ (hw _ (gm 4 rfl))) (by decide) (backOf (W := 0) (rmCh l Z a0 hw [] ((p1.toUInt64 >>> ((20 : Int32) &&& 0x3f).toInt64.toUInt64).toInt64)  h252 n0 O256 ) hZ (hw _ (gm 4 rfl)) (hw _ (gm 3 rfl)) (by decide) (by decide)) (g := (mkF m 32 #[.val (.long p1), .second, .val (.long p2), .second, vI p3, vI 0, vR b252, vI c0, vI c1, vU, vU, vU, vU, vU, vU, vU] [(.long ((p1.toUInt64 >>> ((20 : Int32) &&& 0x3f).toInt64.toUInt64).toInt64))])) rfl (by rw [hml]; rfl) (argsL := [(.long ((p1.toUInt64 >>> ((20 : Int32) &&& 0x3f).toInt64.toUInt64).toInt64))]) (rest := []) (lenOf pd_0 rfl) rfl (by show 2 * 0 + _ ≤ _; exact Nat.le_of_eq rfl) (hb hby at_32) (fun _ _ => ⟨rfl, hh262, (by decide : 1 + 0 ≤ _), (by decide : 0 + 0 ≤ _)⟩)
  dsimp only [Pt.U, Pt.locs, Pt.cells, Pt.slots] at X265 l265 y265 z265 st265 hQ265
  subst l265 y265 z265
  obtain ⟨c2, rfl, Nq265, hh265, hc2⟩ := hQ265
  have N265 := Fr.app M262 Nq265
  have k266 : Rch p e below S0 T265 (mkF m 35 #[.val (.long p1), .second, .val (.long p2), .second, vI p3, vI 0, vR b252, vI c0, vI c1, vU, vU, vU, vU, vU, vU, vU] [(.int c2)]) := fun t h => k264 t (st265 t h)
  obtain ⟨lo265, Y265, M265⟩ : ∃ lo, Stand p l e room_1 (s.setVm s.vm) m #[(.long p1), (.long p2), (.int p3)] below meth c T265 lo 1 0 ∧ Fr n0 lo := ⟨_, X265, N265⟩
  clear X265 N265
  have k267 : Rch p e below S0 T265 (mkF m 41 #[.val (.long p1), .second, .val (.long p2), .second, vI p3, vI 0, vR b252, vI c0, vI c1, vI c2, vU, vU, vU, vU, vU, vU] [(.long ((p1.toUInt64 >>> ((30 : Int32) &&& 0x3f).toInt64.toUInt64).toInt64))]) := fun t h => k266 t (by
      show Steps p.tables e below (T265.setTop (mkF m 35 #[.val (.long p1), .second, .val (.long p2), .second, vI p3, vI 0, vR b252, vI c0, vI c1, vU, vU, vU, vU, vU, vU, vU] [(.int c2)])) _
      refine XS.istore Y265.here hx rfl (hb hby at_35) rfl (l' := #[.val (.long p1), .second, .val (.long p2), .second, vI p3, vI 0, vR b252, vI c0, vI c1, vI c2, vU, vU, vU, vU, vU, vU]) rfl ?_
      refine XS.lloadN Y265.here hx rfl (hb hby at_37) rfl ?_
      refine XS.bipush Y265.here hx rfl (hb hby at_38) ?_
      refine XS.lushr Y265.here hx rfl (hb hby at_40) rfl ?_
      exact h)
  obtain ⟨_, _, ⟨T268, L268, kk268, n268⟩, -, X268, ⟨Lc268, hQ268, l268, y268, z268⟩, st268⟩ := Jvm.LawKit.callS Y265 hx (y := (⟨"com/example/nuthatch/nuthatch/EntryNameIsMemberPinLaw", "ch", "(J)C"⟩ : MethodName)) hown (mvT hZ (hw _ (gm 1 rfl))) (mvT hZ (hw _ (gm 2 rfl))) (mvT hZ (hw _ (gm 3 rfl))) (mvT hZ (hw _ (gm 4 rfl))) (by decide) (backOf (W := 0) (rmCh l Z a0 hw [] ((p1.toUInt64 >>> ((30 : Int32) &&& 0x3f).toInt64.toUInt64).toInt64)  h252 n0 O256 ) hZ (hw _ (gm 4 rfl)) (hw _ (gm 3 rfl)) (by decide) (by decide)) (g := (mkF m 41 #[.val (.long p1), .second, .val (.long p2), .second, vI p3, vI 0, vR b252, vI c0, vI c1, vI c2, vU, vU, vU, vU, vU, vU] [(.long ((p1.toUInt64 >>> ((30 : Int32) &&& 0x3f).toInt64.toUInt64).toInt64))])) rfl (by rw [hml]; rfl) (argsL := [(.long ((p1.toUInt64 >>> ((30 : Int32) &&& 0x3f).toInt64.toUInt64).toInt64))]) (rest := []) (lenOf pd_0 rfl) rfl (by show 2 * 0 + _ ≤ _; exact Nat.le_of_eq rfl) (hb hby at_41) (fun _ _ => ⟨rfl, hh265, (by decide : 1 + 0 ≤ _), (by decide : 0 + 0 ≤ _)⟩)
  dsimp only [Pt.U, Pt.locs, Pt.cells, Pt.slots] at X268 l268 y268 z268 st268 hQ268
  subst l268 y268 z268
  obtain ⟨c3, rfl, Nq268, hh268, hc3⟩ := hQ268
  have N268 := Fr.app M265 Nq268
  have k269 : Rch p e below S0 T268 (mkF m 44 #[.val (.long p1), .second, .val (.long p2), .second, vI p3, vI 0, vR b252, vI c0, vI c1, vI c2, vU, vU, vU, vU, vU, vU] [(.int c3)]) := fun t h => k267 t (st268 t h)
  obtain ⟨lo268, Y268, M268⟩ : ∃ lo, Stand p l e room_1 (s.setVm s.vm) m #[(.long p1), (.long p2), (.int p3)] below meth c T268 lo 1 0 ∧ Fr n0 lo := ⟨_, X268, N268⟩
  clear X268 N268
  have k270 : Rch p e below S0 T268 (mkF m 50 #[.val (.long p1), .second, .val (.long p2), .second, vI p3, vI 0, vR b252, vI c0, vI c1, vI c2, vI c3, vU, vU, vU, vU, vU] [(.long ((p1.toUInt64 >>> ((40 : Int32) &&& 0x3f).toInt64.toUInt64).toInt64))]) := fun t h => k269 t (by
      show Steps p.tables e below (T268.setTop (mkF m 44 #[.val (.long p1), .second, .val (.long p2), .second, vI p3, vI 0, vR b252, vI c0, vI c1, vI c2, vU, vU, vU, vU, vU, vU] [(.int c3)])) _
      refine XS.istore Y268.here hx rfl (hb hby at_44) rfl (l' := #[.val (.long p1), .second, .val (.long p2), .second, vI p3, vI 0, vR b252, vI c0, vI c1, vI c2, vI c3, vU, vU, vU, vU, vU]) rfl ?_
      refine XS.lloadN Y268.here hx rfl (hb hby at_46) rfl ?_
      refine XS.bipush Y268.here hx rfl (hb hby at_47) ?_
      refine XS.lushr Y268.here hx rfl (hb hby at_49) rfl ?_
      exact h)
  obtain ⟨_, _, ⟨T271, L271, kk271, n271⟩, -, X271, ⟨Lc271, hQ271, l271, y271, z271⟩, st271⟩ := Jvm.LawKit.callS Y268 hx (y := (⟨"com/example/nuthatch/nuthatch/EntryNameIsMemberPinLaw", "ch", "(J)C"⟩ : MethodName)) hown (mvT hZ (hw _ (gm 1 rfl))) (mvT hZ (hw _ (gm 2 rfl))) (mvT hZ (hw _ (gm 3 rfl))) (mvT hZ (hw _ (gm 4 rfl))) (by decide) (backOf (W := 0) (rmCh l Z a0 hw [] ((p1.toUInt64 >>> ((40 : Int32) &&& 0x3f).toInt64.toUInt64).toInt64)  h252 n0 O256 ) hZ (hw _ (gm 4 rfl)) (hw _ (gm 3 rfl)) (by decide) (by decide)) (g := (mkF m 50 #[.val (.long p1), .second, .val (.long p2), .second, vI p3, vI 0, vR b252, vI c0, vI c1, vI c2, vI c3, vU, vU, vU, vU, vU] [(.long ((p1.toUInt64 >>> ((40 : Int32) &&& 0x3f).toInt64.toUInt64).toInt64))])) rfl (by rw [hml]; rfl) (argsL := [(.long ((p1.toUInt64 >>> ((40 : Int32) &&& 0x3f).toInt64.toUInt64).toInt64))]) (rest := []) (lenOf pd_0 rfl) rfl (by show 2 * 0 + _ ≤ _; exact Nat.le_of_eq rfl) (hb hby at_50) (fun _ _ => ⟨rfl, hh268, (by decide : 1 + 0 ≤ _), (by decide : 0 + 0 ≤ _)⟩)
  dsimp only [Pt.U, Pt.locs, Pt.cells, Pt.slots] at X271 l271 y271 z271 st271 hQ271
  subst l271 y271 z271
  obtain ⟨c4, rfl, Nq271, hh271, hc4⟩ := hQ271
  have N271 := Fr.app M268 Nq271
  have k272 : Rch p e below S0 T271 (mkF m 53 #[.val (.long p1), .second, .val (.long p2), .second, vI p3, vI 0, vR b252, vI c0, vI c1, vI c2, vI c3, vU, vU, vU, vU, vU] [(.int c4)]) := fun t h => k270 t (st271 t h)
  obtain ⟨lo271, Y271, M271⟩ : ∃ lo, Stand p l e room_1 (s.setVm s.vm) m #[(.long p1), (.long p2), (.int p3)] below meth c T271 lo 1 0 ∧ Fr n0 lo := ⟨_, X271, N271⟩
  clear X271 N271
  have k273 : Rch p e below S0 T271 (mkF m 59 #[.val (.long p1), .second, .val (.long p2), .second, vI p3, vI 0, vR b252, vI c0, vI c1, vI c2, vI c3, vI c4, vU, vU, vU, vU] [(.long ((p1.toUInt64 >>> ((50 : Int32) &&& 0x3f).toInt64.toUInt64).toInt64))]) := fun t h => k272 t (by
      show Steps p.tables e below (T271.setTop (mkF m 53 #[.val (.long p1), .second, .val (.long p2), .second, vI p3, vI 0, vR b252, vI c0, vI c1, vI c2, vI c3, vU, vU, vU, vU, vU] [(.int c4)])) _
      refine XS.istore Y271.here hx rfl (hb hby at_53) rfl (l' := #[.val (.long p1), .second, .val (.long p2), .second, vI p3, vI 0, vR b252, vI c0, vI c1, vI c2, vI c3, vI c4, vU, vU, vU, vU]) rfl ?_
      refine XS.lloadN Y271.here hx rfl (hb hby at_55) rfl ?_
      refine XS.bipush Y271.here hx rfl (hb hby at_56) ?_
      refine XS.lushr Y271.here hx rfl (hb hby at_58) rfl ?_
      exact h)
  obtain ⟨_, _, ⟨T274, L274, kk274, n274⟩, -, X274, ⟨Lc274, hQ274, l274, y274, z274⟩, st274⟩ := Jvm.LawKit.callS Y271 hx (y := (⟨"com/example/nuthatch/nuthatch/EntryNameIsMemberPinLaw", "ch", "(J)C"⟩ : MethodName)) hown (mvT hZ (hw _ (gm 1 rfl))) (mvT hZ (hw _ (gm 2 rfl))) (mvT hZ (hw _ (gm 3 rfl))) (mvT hZ (hw _ (gm 4 rfl))) (by decide) (backOf (W := 0) (rmCh l Z a0 hw [] ((p1.toUInt64 >>> ((50 : Int32) &&& 0x3f).toInt64.toUInt64).toInt64)  h252 n0 O256 ) hZ (hw _ (gm 4 rfl)) (hw _ (gm 3 rfl)) (by decide) (by decide)) (g := (mkF m 59 #[.val (.long p1), .second, .val (.long p2), .second, vI p3, vI 0, vR b252, vI c0, vI c1, vI c2, vI c3, vI c4, vU, vU, vU, vU] [(.long ((p1.toUInt64 >>> ((50 : Int32) &&& 0x3f).toInt64.toUInt64).toInt64))])) rfl (by rw [hml]; rfl) (argsL := [(.long ((p1.toUInt64 >>> ((50 : Int32) &&& 0x3f).toInt64.toUInt64).toInt64))]) (rest := []) (lenOf pd_0 rfl) rfl (by show 2 * 0 + _ ≤ _; exact Nat.le_of_eq rfl) (hb hby at_59) (fun _ _ => ⟨rfl, hh271, (by decide : 1 + 0 ≤ _), (by decide : 0 + 0 ≤ _)⟩)
  dsimp only [Pt.U, Pt.locs, Pt.cells, Pt.slots] at X274 l274 y274 z274 st274 hQ274
  subst l274 y274 z274
  obtain ⟨c5, rfl, Nq274, hh274, hc5⟩ := hQ274
  have N274 := Fr.app M271 Nq274
  have k275 : Rch p e below S0 T274 (mkF m 62 #[.val (.long p1), .second, .val (.long p2), .second, vI p3, vI 0, vR b252, vI c0, vI c1, vI c2, vI c3, vI c4, vU, vU, vU, vU] [(.int c5)]) := fun t h => k273 t (st274 t h)
  obtain ⟨lo274, Y274, M274⟩ : ∃ lo, Stand p l e room_1 (s.setVm s.vm) m #[(.long p1), (.long p2), (.int p3)] below meth c T274 lo 1 0 ∧ Fr n0 lo := ⟨_, X274, N274⟩
  clear X274 N274
  have k276 : Rch p e below S0 T274 (mkF m 65 #[.val (.long p1), .second, .val (.long p2), .second, vI p3, vI 0, vR b252, vI c0, vI c1, vI c2, vI c3, vI c4, vI c5, vU, vU, vU] [(.long p2)]) := fun t h => k275 t (by
      show Steps p.tables e below (T274.setTop (mkF m 62 #[.val (.long p1), .second, .val (.long p2), .second, vI p3, vI 0, vR b252, vI c0, vI c1, vI c2, vI c3, vI c4, vU, vU, vU, vU] [(.int c5)])) _
      refine XS.istore Y274.here hx rfl (hb hby at_62) rfl (l' := #[.val (.long p1), .second, .val (.long p2), .second, vI p3, vI 0, vR b252, vI c0, vI c1, vI c2, vI c3, vI c4, vI c5, vU, vU, vU]) rfl ?_
      refine XS.lloadN Y274.here hx rfl (hb hby at_64) rfl ?_
      exact h)
  obtain ⟨_, _, ⟨T277, L277, kk277, n277⟩, -, X277, ⟨Lc277, hQ277, l277, y277, z277⟩, st277⟩ := Jvm.LawKit.callS Y274 hx (y := (⟨"com/example/nuthatch/nuthatch/EntryNameIsMemberPinLaw", "ch", "(J)C"⟩ : MethodName)) hown (mvT hZ (hw _ (gm 1 rfl))) (mvT hZ (hw _ (gm 2 rfl))) (mvT hZ (hw _ (gm 3 rfl))) (mvT hZ (hw _ (gm 4 rfl))) (by decide) (backOf (W := 0) (rmCh l Z a0 hw [] p2  h252 n0 O256 ) hZ (hw _ (gm 4 rfl)) (hw _ (gm 3 rfl)) (by decide) (by decide)) (g := (mkF m 65 #[.val (.long p1), .second, .val (.long p2), .second, vI p3, vI 0, vR b252, vI c0, vI c1, vI c2, vI c3, vI c4, vI c5, vU, vU, vU] [(.long p2)])) rfl (by rw [hml]; rfl) (argsL := [(.long p2)]) (rest := []) (lenOf pd_0 rfl) rfl (by show 2 * 0 + _ ≤ _; exact Nat.le_of_eq rfl) (hb hby at_65) (fun _ _ => ⟨rfl, hh274, (by decide : 1 + 0 ≤ _), (by decide : 0 + 0 ≤ _)⟩)
  dsimp only [Pt.U, Pt.locs, Pt.cells, Pt.slots] at X277 l277 y277 z277 st277 hQ277
  subst l277 y277 z277
  obtain ⟨c6, rfl, Nq277, hh277, hc6⟩ := hQ277
  have N277 := Fr.app M274 Nq277
  have k278 : Rch p e below S0 T277 (mkF m 68 #[.val (.long p1), .second, .val (.long p2), .second, vI p3, vI 0, vR b252, vI c0, vI c1, vI c2, vI c3, vI c4, vI c5, vU, vU, vU] [(.int c6)]) := fun t h => k276 t (st277 t h)
  obtain ⟨lo277, Y277, M277⟩ : ∃ lo, Stand p l e room_1 (s.setVm s.vm) m #[(.long p1), (.long p2), (.int p3)] below meth c T277 lo 1 0 ∧ Fr n0 lo := ⟨_, X277, N277⟩
  clear X277 N277
  have k279 : Rch p e below S0 T277 (mkF m 263 #[.val (.long p1), .second, .val (.long p2), .second, vI p3, vI 0, vR b252, vI c0, vI c1, vI c2, vI c3, vI c4, vI c5, vI c6, vI 0, vU] []) := fun t h => k278 t (by
      show Steps p.tables e below (T277.setTop (mkF m 68 #[.val (.long p1), .second, .val (.long p2), .second, vI p3, vI 0, vR b252, vI c0, vI c1, vI c2, vI c3, vI c4, vI c5, vU, vU, vU] [(.int c6)])) _
      refine XS.istore Y277.here hx rfl (hb hby at_68) rfl (l' := #[.val (.long p1), .second, .val (.long p2), .second, vI p3, vI 0, vR b252, vI c0, vI c1, vI c2, vI c3, vI c4, vI c5, vI c6, vU, vU]) rfl ?_
      refine XS.iload Y277.here hx rfl (hb hby at_70) rfl ?_
      refine XS.ifYes Y277.here hx rfl (pc0 := 72) (pc' := 81) rfl (hb hby at_72) rfl ((if0 _ _).trans (flt (by decide : ¬ ((0 : Int32) < (0 : Int32)))).2.2.2) (by decide) (by decide) ?_
      refine XS.iload Y277.here hx rfl (hb hby at_81) rfl ?_
      refine XS.iconst Y277.here hx rfl (hb hby at_83) ?_
      refine XS.icmpYes Y277.here hx rfl (pc0 := 84) (pc' := 93) rfl (hb hby at_84) rfl (flt (by decide : ¬ ((1 : Int32) < (0 : Int32)))).2.2.2 (by decide) (by decide) ?_
      refine XS.iload Y277.here hx rfl (hb hby at_93) rfl ?_
      refine XS.iconst Y277.here hx rfl (hb hby at_95) ?_
      refine XS.icmpYes Y277.here hx rfl (pc0 := 96) (pc' := 105) rfl (hb hby at_96) rfl (flt (by decide : ¬ ((2 : Int32) < (0 : Int32)))).2.2.2 (by decide) (by decide) ?_
      refine XS.iload Y277.here hx rfl (hb hby at_105) rfl ?_
      refine XS.iconst Y277.here hx rfl (hb hby at_107) ?_
      refine XS.icmpYes Y277.here hx rfl (pc0 := 108) (pc' := 117) rfl (hb hby at_108) rfl (flt (by decide : ¬ ((3 : Int32) < (0 : Int32)))).2.2.2 (by decide) (by decide) ?_
      refine XS.iload Y277.here hx rfl (hb hby at_117) rfl ?_
      refine XS.iconst Y277.here hx rfl (hb hby at_119) ?_
      refine XS.icmpYes Y277.here hx rfl (pc0 := 120) (pc' := 129) rfl (hb hby at_120) rfl (flt (by decide : ¬ ((4 : Int32) < (0 : Int32)))).2.2.2 (by decide) (by decide) ?_
      refine XS.iload Y277.here hx rfl (hb hby at_129) rfl ?_
      refine XS.iconst Y277.here hx rfl (hb hby at_131) ?_
      refine XS.icmpYes Y277.here hx rfl (pc0 := 132) (pc' := 141) rfl (hb hby at_132) rfl (flt (by decide : ¬ ((5 : Int32) < (0 : Int32)))).2.2.2 (by decide) (by decide) ?_
      refine XS.iload Y277.here hx rfl (hb hby at_141) rfl ?_
      refine XS.bipush Y277.here hx rfl (hb hby at_143) ?_
      refine XS.icmpYes Y277.here hx rfl (pc0 := 145) (pc' := 155) rfl (hb hby at_145) rfl (flt (by decide : ¬ ((6 : Int32) < (0 : Int32)))).2.2.2 (by decide) (by decide) ?_
      refine XS.iconst Y277.here hx rfl (hb hby at_155) ?_
      refine XS.istore Y277.here hx rfl (hb hby at_156) rfl (l' := #[.val (.long p1), .second, .val (.long p2), .second, vI p3, vI 0, vR b252, vI c0, vI c1, vI c2, vI c3, vI c4, vI c5, vI c6, vI 0, vU]) rfl ?_
      refine XS.iload Y277.here hx rfl (hb hby at_158) rfl ?_
      refine XS.bipush Y277.here hx rfl (hb hby at_160) ?_
      refine XS.icmpYes Y277.here hx rfl (pc0 := 162) (pc' := 174) rfl (hb hby at_162) rfl (flt (by decide : ¬ ((6 : Int32) < (0 : Int32)))).2.2.2 (by decide) (by decide) ?_
      refine XS.iload Y277.here hx rfl (hb hby at_174) rfl ?_
      refine XS.iconst Y277.here hx rfl (hb hby at_176) ?_
      refine XS.icmpYes Y277.here hx rfl (pc0 := 177) (pc' := 189) rfl (hb hby at_177) rfl (flt (by decide : ¬ ((5 : Int32) < (0 : Int32)))).2.2.2 (by decide) (by decide) ?_
      refine XS.iload Y277.here hx rfl (hb hby at_189) rfl ?_
      refine XS.iconst Y277.here hx rfl (hb hby at_191) ?_
      show Steps p.tables e below (T277.setTop (mkF m 192 #[.val (.long p1), .second, .val (.long p2), .second, vI p3, vI 0, vR b252, vI c0, vI c1, vI c2, vI c3, vI c4, vI c5, vI c6, vI 0, vU] [(.int (4 : Int32)), (.int (0 : Int32))])) _
      refine XS.icmpYes Y277.here hx rfl (pc0 := 192) (pc' := 204) rfl (hb hby at_192) rfl (flt (by decide : ¬ ((4 : Int32) < (0 : Int32)))).2.2.2 (by decide) (by decide) ?_
      refine XS.iload Y277.here hx rfl (hb hby at_204) rfl ?_
      refine XS.iconst Y277.here hx rfl (hb hby at_206) ?_
      refine XS.icmpYes Y277.here hx rfl (pc0 := 207) (pc' := 219) rfl (hb hby at_207) rfl (flt (by decide : ¬ ((3 : Int32) < (0 : Int32)))).2.2.2 (by decide) (by decide) ?_
      refine XS.iload Y277.here hx rfl (hb hby at_219) rfl ?_
      refine XS.iconst Y277.here hx rfl (hb hby at_221) ?_
      refine XS.icmpYes Y277.here hx rfl (pc0 := 222) (pc' := 234) rfl (hb hby at_222) rfl (flt (by decide : ¬ ((2 : Int32) < (0 : Int32)))).2.2.2 (by decide) (by decide) ?_
      refine XS.iload Y277.here hx rfl (hb hby at_234) rfl ?_
      refine XS.iconst Y277.here hx rfl (hb hby at_236) ?_
      refine XS.icmpYes Y277.here hx rfl (pc0 := 237) (pc' := 249) rfl (hb hby at_237) rfl (flt (by decide : ¬ ((1 : Int32) < (0 : Int32)))).2.2.2 (by decide) (by decide) ?_
      refine XS.iload Y277.here hx rfl (hb hby at_249) rfl ?_
      refine XS.ifYes Y277.here hx rfl (pc0 := 251) (pc' := 263) rfl (hb hby at_251) rfl ((if0 _ _).trans (flt (by decide : ¬ ((0 : Int32) < (0 : Int32)))).2.2.2) (by decide) (by decide) ?_
      exact h)
  have hpc : ∀ c ∈ ([] : List Int32), ¬ c < 0 ∧ ¬ (255 : Int32) < c := by
    intro c hc
    cases hc
  have hpl := own_plain (([] : List Int32).map kc) 0 rfl (by decide) (fun y hy => by obtain ⟨c, -, rfl⟩ := List.mem_map.mp hy; exact kc_lt c)
  have hM : own_mem (([] : List Int32).map kc) 0 = false := rfl
  have hbm : own_b (own_mem (([] : List Int32).map kc) 0) = 0 := by rw [hM]; rfl
  clear hM
  have k280 : Rch p e below S0 T277 (mkF m 276 #[.val (.long p1), .second, .val (.long p2), .second, vI p3, vI 0, vR b252, vI c0, vI c1, vI c2, vI c3, vI c4, vI c5, vI c6, vI 0, vI 0] []) := fun t h => k279 t (by
      show Steps p.tables e below (T277.setTop (mkF m 263 #[.val (.long p1), .second, .val (.long p2), .second, vI p3, vI 0, vR b252, vI c0, vI c1, vI c2, vI c3, vI c4, vI c5, vI c6, vI 0, vU] [])) _
      refine XS.iload Y277.here hx rfl (hb hby at_263) rfl ?_
      refine XS.iconst Y277.here hx rfl (hb hby at_265) ?_
      refine XS.icmpYes Y277.here hx rfl (pc0 := 266) (pc' := 273) rfl (hb hby at_266) rfl (feq (by decide : ¬ ((0 : Int32) = (4 : Int32)))).2 (by decide) (by decide) ?_
      refine XS.iconst Y277.here hx rfl (hb hby at_273) ?_
      refine XS.istore Y277.here hx rfl (hb hby at_274) rfl (l' := #[.val (.long p1), .second, .val (.long p2), .second, vI p3, vI 0, vR b252, vI c0, vI c1, vI c2, vI c3, vI c4, vI c5, vI c6, vI 0, vI 0]) rfl ?_
      exact h)
  obtain ⟨T281, h281, X281, e281, E281, A281, D281, -, st281⟩ := newO Y277 hx hZ hown (hw _ (gm 6 rfl)) (hw _ (gm 7 rfl)) (hw _ (gm 8 rfl)) hh277 (g := (mkF m 276 #[.val (.long p1), .second, .val (.long p2), .second, vI p3, vI 0, vR b252, vI c0, vI c1, vI c2, vI c3, vI c4, vI c5, vI c6, vI 0, vI 0] [])) rfl (hb hby at_276) (by decide) (by decide)
  obtain ⟨b281, g281⟩ : ∃ z, z = h252.size := ⟨_, rfl⟩
  rw [← g281] at A281 D281 st281
  have k282 : Rch p e below S0 T281 (mkF m 279 #[.val (.long p1), .second, .val (.long p2), .second, vI p3, vI 0, vR b252, vI c0, vI c1, vI c2, vI c3, vI c4, vI c5, vI c6, vI 0, vI 0] [(.ref b281)]) := fun t h => k280 t (st281 t h)
  have ne_b252_b281 : b252 ≠ b281 := own_ne V_b252.lt (Nat.le_of_eq g281.symm)
  have ge_b281 : n0 ≤ b281 := own_ge O256 (Nat.le_of_eq g281.symm)
  have sf_b281 : Safe Z consts_1 s.vm h252 b281 := Safe.new (Nat.le_of_eq g281.symm)
  replace sf_b252 := Safe.ext E281 hC255 sf_b252
  replace sf_b281 := Safe.ext E281 hC255 sf_b281
  have hC283 := hC255.ext E281
  have rC283 := rC255.trans (CHr.ext E281 hC255)
  have O284 := O256.ext E281
  replace V_b252 := V_b252.ext E281
  have hkk285 := Nat.le_trans hkk257 E281.1
  have E_b281 := A281
  have F_b281_value : Fld Z h281 b281 "java/lang/String" "value" "[B" .null := D281 (Or.inr (hw _ (gm 21 rfl))) (ty := (.array .byte)) (by decide)
  have F_b281_coder : Fld Z h281 b281 "java/lang/String" "coder" "B" (.int (0 : Int32)) := D281 (Or.inr (hw _ (gm 22 rfl))) (ty := .byte) (by decide)
  have k286 : Rch p e below S0 T281 (mkF m 282 #[.val (.long p1), .second, .val (.long p2), .second, vI p3, vI 0, vR b252, vI c0, vI c1, vI c2, vI c3, vI c4, vI c5, vI c6, vI 0, vI 0] [(.ref b252), (.ref b281), (.ref b281)]) := fun t h => k282 t (by
      show Steps p.tables e below (T281.setTop (mkF m 279 #[.val (.long p1), .second, .val (.long p2), .second, vI p3, vI 0, vR b252, vI c0, vI c1, vI c2, vI c3, vI c4, vI c5, vI c6, vI 0, vI 0] [(.ref b281)])) _
      refine XS.dup X281.here hx rfl (hb hby at_279) rfl rfl ?_
      refine XS.aload X281.here hx rfl (hb hby at_280) rfl rfl ?_
      exact h)
  obtain ⟨_, _, ⟨T287, L287, kk287, n287⟩, -, X287, hS287, gr287, ⟨Lc287, hQ287, l287, y287, z287, hR287⟩, st287⟩ := X281.specialBackS hx (y := (⟨"java/lang/String", "<init>", "([C)V"⟩ : MethodName)) rfl hown (mvT hZ (hw _ (gm 9 rfl))) (mvT hZ (hw _ (gm 10 rfl))) (mvT hZ (hw _ (gm 11 rfl))) (by decide) (backOfSH (W := 1) (rmS0 l Z a0 hw [] b281 b252 k252 h281 n0 O284 ge_b281 E_b281 F_b281_value F_b281_coder V_b252) hZ (hw _ (gm 11 rfl)) (hw _ (gm 8 rfl)) (by decide) (by decide) hEL hC283) (g := (mkF m 282 #[.val (.long p1), .second, .val (.long p2), .second, vI p3, vI 0, vR b252, vI c0, vI c1, vI c2, vI c3, vI c4, vI c5, vI c6, vI 0, vI 0] [(.ref b252), (.ref b281), (.ref b281)])) rfl (by rw [hml]; rfl) (Steps.refl _) (a := b281) (argsL := [(.ref b252)]) (rest := [(.ref b281)]) (lenOf pd_1 rfl) rfl (by show 2 * 0 + _ ≤ _; exact Nat.le_of_eq rfl) (hb hby at_282) (fun _ _ => ⟨rfl, e281, (by decide : 2 + 4 ≤ _), (by decide : 4 + 8 ≤ _)⟩)
  dsimp only [Pt.U, Pt.locs, Pt.cells, Pt.slots] at X287 l287 y287 z287 st287 hQ287 hS287 gr287 hR287
  subst l287 y287 z287
  have hZ287 : Z.Warmed39 (s.setVm T287.vm).vm := State.Warmed39.trans (t := (s.setVm s.vm)) hZ hS287.1
  have hown287 : (s.setVm T287.vm).vm.findClass "com/example/nuthatch/nuthatch/EntryNameIsMemberPinLaw" = some m.cls := by rw [show (s.setVm T287.vm).vm = T287.vm from rfl, hS287.1.alike.findClass]; exact hown
  replace hS287 := foldS hS (by rw [e281]; exact hkk285) hS287 gr287
  have hk287 := Nat.le_refl T287.heap.size
  replace X287 : Stand p l e room_1 (s.setVm T287.vm) m #[(.long p1), (.long p2), (.int p3)] below meth c T287 _ _ _ := X287
  obtain ⟨rfl, Nq287, K287, t287, kt287, Fv287, Fc287, At287⟩ := hQ287
  have N287 := Fr.app M277 Nq287
  have k288 : Rch p e below S0 T287 (mkF m 285 #[.val (.long p1), .second, .val (.long p2), .second, vI p3, vI 0, vR b252, vI c0, vI c1, vI c2, vI c3, vI c4, vI c5, vI c6, vI 0, vI 0] [(.ref b281)]) := fun t h => k286 t (st287.trans h)
  replace sf_b252 := hR287.safe V_b252.lt sf_b252
  replace sf_b281 := hR287.safe E_b281.lt sf_b281
  have hC289 := hR287.1
  have rC289 := rC283.trans hR287
  have O290 := O284.keep K287 (allS ge_b281 all0)
  replace V_b252 := V_b252.keep K287 (ninS ne_b252_b281 nin0)
  replace E_b281 := E_b281.keep K287
  obtain ⟨_, _, ⟨T291, L291, kk291, n291⟩, -, X291, ⟨Lc291, hQ291, l291, y291, z291⟩, st291⟩ := Jvm.LawKit.callS X287 hx (y := (⟨"com/example/nuthatch/nuthatch/EntryName", "isMember", "(Ljava/lang/String;)Z"⟩ : MethodName)) hown287 (mvT hZ287 (hw _ (gm 27 rfl))) (mvT hZ287 (hw _ (gm 28 rfl))) (mvT hZ287 (hw _ (gm 29 rfl))) (mvT hZ287 (hw _ (gm 30 rfl))) (by decide) (backOf (W := 0) (rmIM l Z a0 hw []  b281 t287 kt287 0 [] zC fm T287.heap n0 O290 SC hzC E_b281 Fv287 Fc287 At287 rfl (by decide) hpc SP hfm) hZ287 (hw _ (gm 30 rfl)) (hw _ (gm 29 rfl)) (by decide) (by decide)) (g := (mkF m 285 #[.val (.long p1), .second, .val (.long p2), .second, vI p3, vI 0, vR b252, vI c0, vI c1, vI c2, vI c3, vI c4, vI c5, vI c6, vI 0, vI 0] [(.ref b281)])) rfl (by rw [hml]; rfl) (argsL := [(.ref b281)]) (rest := []) (lenOf pd_4 rfl) rfl (by show 2 * 0 + _ ≤ _; exact Nat.le_of_eq rfl) (hb hby at_285) (fun _ _ => ⟨rfl, rfl, (by decide : 6 + 0 ≤ _), (by decide : 12 + 0 ≤ _)⟩)
  dsimp only [Pt.U, Pt.locs, Pt.cells, Pt.slots] at X291 l291 y291 z291 st291 hQ291
  subst l291 y291 z291
  obtain ⟨rfl, Nq291, hh291⟩ := hQ291
  have N291 := Fr.app N287 Nq291
  have k292 : Rch p e below S0 T291 (mkF m 288 #[.val (.long p1), .second, .val (.long p2), .second, vI p3, vI 0, vR b252, vI c0, vI c1, vI c2, vI c3, vI c4, vI c5, vI c6, vI 0, vI 0] [(.int (0 : Int32))]) := fun t h => k288 t (st291 t (by rw [hbm]; exact h))
  obtain ⟨lo291, Y291, M291⟩ : ∃ lo, Stand p l e room_1 (s.setVm T287.vm) m #[(.long p1), (.long p2), (.int p3)] below meth c T291 lo 6 12 ∧ Fr n0 lo := ⟨_, X291, N291⟩
  clear X291 N291
  clear hbm
  have k293 : Rch p e below S0 T291 (mkF m 298 #[.val (.long p1), .second, .val (.long p2), .second, vI p3, vI 0, vR b252, vI c0, vI c1, vI c2, vI c3, vI c4, vI c5, vI c6, vI 0, vI 0] [(.int (1 : Int32))]) := fun t h => k292 t (by
      show Steps p.tables e below (T291.setTop (mkF m 288 #[.val (.long p1), .second, .val (.long p2), .second, vI p3, vI 0, vR b252, vI c0, vI c1, vI c2, vI c3, vI c4, vI c5, vI c6, vI 0, vI 0] [(.int (0 : Int32))])) _
      refine XS.iload Y291.here hx rfl (hb hby at_288) rfl ?_
      refine XS.icmpNo Y291.here hx rfl (hb hby at_290) rfl (teq (by decide : (0 : Int32) = (0 : Int32))).2 ?_
      refine XS.iconst Y291.here hx rfl (hb hby at_293) ?_
      refine XS.goto Y291.here hx rfl (pc0 := 294) (pc' := 298) rfl (hb hby at_294) (by decide) (by decide) ?_
      exact h)
  obtain ⟨fs, hr, hrun, hended, hfin⟩ := Y291.leaveW hS287 (by rw [hh291]; exact hk287) (v := (some (.int (1 : Int32)))) (fun h => by rw [Bd.returns] at h; cases h)
  refine ⟨_, _, ?_, hrun, hended, _, _, rfl, ?_, (by rw [hh]; have q := own_chr rC289 (CHv.at Y291 hZ287 hEL hC289) hh291; exact q), hfin.1, hfin.2.1, hfin.2.2.1, hfin.2.2.2.mono (by decide) (by decide)⟩
  · rw [← hS0]
    refine k293 _ ?_
    show Steps p.tables e below (T291.setTop (mkF m 298 #[.val (.long p1), .second, .val (.long p2), .second, vI p3, vI 0, vR b252, vI c0, vI c1, vI c2, vI c3, vI c4, vI c5, vI c6, vI 0, vI 0] [(.int (1 : Int32))])) _
    exact retN Y291 hx (t := .boolean) Bd.returns (by simp) (hb hby at_298) hr
  · show Q_rm0_0 Z  h0 n0 _ T291.heap _
    rw [hh291]
    exact ⟨rfl, M291⟩
def Q_rm0_1 (Z : State)  (h0 : Heap) (n0 : Nat) (v : Option Value) (h : Heap) (L : List Loc) : Prop := v = some (.int (1 : Int32)) ∧ Fr n0 L
theorem pd_13 : parseMethodDescriptor "(IC)I" = some ⟨[.int, .char], some .int⟩ := by decide +kernel
set_option maxRecDepth 65536 in
set_option maxHeartbeats 40000000 in
theorem rm0_1 (l : Launch) (Z : State) (a0 : Array Value) (hw : ∀ d ∈ tables_1, d.before a0 Z = true) (ws : List Jvm.Cond) (p1 : Int64) (p2 : Int64) (p3 : Int32) (zC : Int32) (fm : Value) (h0 : Heap) (n0 : Nat) (O0 : Old Z n0 h0) (SC : Sta Z Z.heap "java/lang/String" "COMPACT_STRINGS" "Z" (.int zC)) (hzC : ¬ zC = 0) (SP : Sta Z Z.heap "jdk/internal/util/Preconditions" "SIOOBE_FORMATTER" "Ljava/util/function/BiFunction;" fm) (hfm : fm = .null ∨ ∃ wP, fm = .ref wP) (hlen : p3 &&& 7 = (1 : Int32)) :
    MetFree l x (head1 (Jvm.Cond.code x code maxLocals ret :: ws) room_1) (fun a U => a = #[(.long p1), (.long p2), (.int p3)] ∧ Z.Warmed39 U.vm ∧ U.heap = h0 ∧ CHv Z consts_1 U.vm h0) (fun _ _ _ _ _ => True) (fun _ U o U' => ∃ v L, o = .returned v ∧ Q_rm0_1 Z  h0 n0 v U'.heap L ∧ CHr Z consts_1 U.vm U.heap U'.vm U'.heap ∧ ReturnedEndW U o U' L room_1.cells room_1.slots) := by
  refine MetFree.of_bodySF (plainFor_of_name pn_EntryNameIsMemberPinLaw) hisR ?_
  intro p e s m args below meth c s₁ Bd hml0 hP hK
  obtain ⟨rfl, hZ, hh, hC0⟩ := hP
  have hx := Bd.exec
  have hby := Bd.bytes
  have hml : c.maxLocals = 16 := hml0
  have hown : s.vm.findClass "com/example/nuthatch/nuthatch/EntryNameIsMemberPinLaw" = some m.cls := findClass_of_methodNamed Bd.named
  have hnm := (name_of_methodNamed Bd.named Bd.method).1
  have X0 : Stand p l e room_1 (s.setVm s.vm) m #[(.long p1), (.long p2), (.int p3)] below meth c s₁ [] 0 0 := Stand.of_body Bd
  have e0 : s₁.heap = h0 := by rw [← hh, Bd.state]; rfl
  have N0 := Fr.nil n0
  obtain ⟨S0, hS0⟩ : ∃ z, z = s₁.setTop (entryFrame m #[(.long p1), (.long p2), (.int p3)] maxLocals) := ⟨_, rfl⟩
  have k0 : Rch p e below S0 s₁ (mkF m 0 #[.val (.long p1), .second, .val (.long p2), .second, vI p3, vU, vU, vU, vU, vU, vU, vU, vU, vU, vU, vU] []) := fun t kq => hS0 ▸ castTop (ef_0 m p1 p2 p3) kq
  have hS : s.Since s.vm s.heap.size := (State.WarmedH.refl s).since _
  have hk : s.heap.size ≤ h0.size := by rw [← hh]; exact Nat.le_refl _
  have hwS : ∀ d ∈ Bundle.stringAtoms, d.before a0 Z = true := fun d hd => hw d ((by decide +kernel : ∀ d ∈ Bundle.stringAtoms, d ∈ tables_1) d hd)
  have rC0 : CHr Z consts_1 s.vm h0 s.vm h0 := CHr.refl hC0
  have hEL : EW Z a0 consts_1 := (EW.cons (hw _ (gm 19 rfl)) (by decide +kernel) EW.nil)
  have k295 : Rch p e below S0 s₁ (mkF m 9 #[.val (.long p1), .second, .val (.long p2), .second, vI p3, vI 1, vU, vU, vU, vU, vU, vU, vU, vU, vU, vU] [(.int (1 : Int32))]) := fun t h => k0 t (by
      show Steps p.tables e below (s₁.setTop (mkF m 0 #[.val (.long p1), .second, .val (.long p2), .second, vI p3, vU, vU, vU, vU, vU, vU, vU, vU, vU, vU, vU] [])) _
      refine XS.iload X0.here hx rfl (hb hby at_0) rfl ?_
      refine XS.bipush X0.here hx rfl (hb hby at_2) ?_
      show Steps p.tables e below (s₁.setTop (mkF m 4 #[.val (.long p1), .second, .val (.long p2), .second, vI p3, vU, vU, vU, vU, vU, vU, vU, vU, vU, vU, vU] [(.int (7 : Int32)), (.int p3)])) _
      refine XS.iand X0.here hx rfl (hb hby at_4) rfl ?_
      rw [hlen]
      refine XS.istore X0.here hx rfl (hb hby at_5) rfl (l' := #[.val (.long p1), .second, .val (.long p2), .second, vI p3, vI 1, vU, vU, vU, vU, vU, vU, vU, vU, vU, vU]) rfl ?_
      refine XS.iload X0.here hx rfl (hb hby at_7) rfl ?_
      exact h)
  obtain ⟨T294, h294, k294, X294, e294, E294, A294, st294⟩ := newP X0 hx hZ (hw _ (gm 0 rfl)) e0 (g := (mkF m 9 #[.val (.long p1), .second, .val (.long p2), .second, vI p3, vI 1, vU, vU, vU, vU, vU, vU, vU, vU, vU, vU] [(.int (1 : Int32))])) rfl (hb hby at_9) rfl (by decide) (cap := 1) (by decide) (by decide) (by decide) (by decide)
  obtain ⟨b294, g294⟩ : ∃ z, z = h0.size := ⟨_, rfl⟩
  rw [← g294] at A294 st294
  have k296 : Rch p e below S0 T294 (mkF m 11 #[.val (.long p1), .second, .val (.long p2), .second, vI p3, vI 1, vU, vU, vU, vU, vU, vU, vU, vU, vU, vU] [(.ref b294)]) := fun t h => k295 t (st294 t h)
  have ge_b294 : n0 ≤ b294 := own_ge O0 (Nat.le_of_eq g294.symm)
  have sf_b294 : Safe Z consts_1 s.vm h0 b294 := Safe.new (Nat.le_of_eq g294.symm)
  replace sf_b294 := Safe.ext E294 hC0 sf_b294
  have hC297 := hC0.ext E294
  have rC297 := rC0.trans (CHr.ext E294 hC0)
  have O298 := O0.ext E294
  have hkk299 := Nat.le_trans hk E294.1
  have V_b294 : Arv Z h294 b294 k294 .char (1 : Int32) [(.int (0 : Int32))] (.int (0 : Int32)) := (Arv.new A294 (by decide)).pad (pad_rep [] (.int (0 : Int32)) 1)
  have k300 : Rch p e below S0 T294 (mkF m 14 #[.val (.long p1), .second, .val (.long p2), .second, vI p3, vI 1, vR b294, vU, vU, vU, vU, vU, vU, vU, vU, vU] [(.long p1)]) := fun t h => k296 t (by
      show Steps p.tables e below (T294.setTop (mkF m 11 #[.val (.long p1), .second, .val (.long p2), .second, vI p3, vI 1, vU, vU, vU, vU, vU, vU, vU, vU, vU, vU] [(.ref b294)])) _
      refine XS.astore X294.here hx rfl (hb hby at_11) rfl rfl (l' := #[.val (.long p1), .second, .val (.long p2), .second, vI p3, vI 1, vR b294, vU, vU, vU, vU, vU, vU, vU, vU, vU]) rfl ?_
      refine XS.lloadN X294.here hx rfl (hb hby at_13) rfl ?_
      exact h)
  obtain ⟨_, _, ⟨T301, L301, kk301, n301⟩, -, X301, ⟨Lc301, hQ301, l301, y301, z301⟩, st301⟩ := Jvm.LawKit.callS X294 hx (y := (⟨"com/example/nuthatch/nuthatch/EntryNameIsMemberPinLaw", "ch", "(J)C"⟩ : MethodName)) hown (mvT hZ (hw _ (gm 1 rfl))) (mvT hZ (hw _ (gm 2 rfl))) (mvT hZ (hw _ (gm 3 rfl))) (mvT hZ (hw _ (gm 4 rfl))) (by decide) (backOf (W := 0) (rmCh l Z a0 hw [] p1  h294 n0 O298 ) hZ (hw _ (gm 4 rfl)) (hw _ (gm 3 rfl)) (by decide) (by decide)) (g := (mkF m 14 #[.val (.long p1), .second, .val (.long p2), .second, vI p3, vI 1, vR b294, vU, vU, vU, vU, vU, vU, vU, vU, vU] [(.long p1)])) rfl (by rw [hml]; rfl) (argsL := [(.long p1)]) (rest := []) (lenOf pd_0 rfl) rfl (by show 2 * 0 + _ ≤ _; exact Nat.le_of_eq rfl) (hb hby at_14) (fun _ _ => ⟨rfl, e294, (by decide : 1 + 0 ≤ _), (by decide : 1 + 0 ≤ _)⟩)
  dsimp only [Pt.U, Pt.locs, Pt.cells, Pt.slots] at X301 l301 y301 z301 st301 hQ301
  subst l301 y301 z301
  obtain ⟨c0, rfl, Nq301, hh301, hc0⟩ := hQ301
  have N301 := Fr.app N0 Nq301
  have k302 : Rch p e below S0 T301 (mkF m 17 #[.val (.long p1), .second, .val (.long p2), .second, vI p3, vI 1, vR b294, vU, vU, vU, vU, vU, vU, vU, vU, vU] [(.int c0)]) := fun t h => k300 t (st301 t h)
  obtain ⟨lo301, Y301, M301⟩ : ∃ lo, Stand p l e room_1 (s.setVm s.vm) m #[(.long p1), (.long p2), (.int p3)] below meth c T301 lo 1 1 ∧ Fr n0 lo := ⟨_, X301, N301⟩
  clear X301 N301
  have k303 : Rch p e below S0 T301 (mkF m 23 #[.val (.long p1), .second, .val (.long p2), .second, vI p3, vI 1, vR b294, vI c0, vU, vU, vU, vU, vU, vU, vU, vU] [(.long ((p1.toUInt64 >>> ((10 : Int32) &&& 0x3f).toInt64.toUInt64).toInt64))]) := fun t h => k302 t (by
      show Steps p.tables e below (T301.setTop (mkF m 17 #[.val (.long p1), .second, .val (.long p2), .second, vI p3, vI 1, vR b294, vU, vU, vU, vU, vU, vU, vU, vU, vU] [(.int c0)])) _
      refine XS.istore Y301.here hx rfl (hb hby at_17) rfl (l' := #[.val (.long p1), .second, .val (.long p2), .second, vI p3, vI 1, vR b294, vI c0, vU, vU, vU, vU, vU, vU, vU, vU]) rfl ?_
      refine XS.lloadN Y301.here hx rfl (hb hby at_19) rfl ?_
      refine XS.bipush Y301.here hx rfl (hb hby at_20) ?_
      refine XS.lushr Y301.here hx rfl (hb hby at_22) rfl ?_
      exact h)
  obtain ⟨_, _, ⟨T304, L304, kk304, n304⟩, -, X304, ⟨Lc304, hQ304, l304, y304, z304⟩, st304⟩ := Jvm.LawKit.callS Y301 hx (y := (⟨"com/example/nuthatch/nuthatch/EntryNameIsMemberPinLaw", "ch", "(J)C"⟩ : MethodName)) hown (mvT hZ (hw _ (gm 1 rfl))) (mvT hZ (hw _ (gm 2 rfl))) (mvT hZ (hw _ (gm 3 rfl))) (mvT hZ (hw _ (gm 4 rfl))) (by decide) (backOf (W := 0) (rmCh l Z a0 hw [] ((p1.toUInt64 >>> ((10 : Int32) &&& 0x3f).toInt64.toUInt64).toInt64)  h294 n0 O298 ) hZ (hw _ (gm 4 rfl)) (hw _ (gm 3 rfl)) (by decide) (by decide)) (g := (mkF m 23 #[.val (.long p1), .second, .val (.long p2), .second, vI p3, vI 1, vR b294, vI c0, vU, vU, vU, vU, vU, vU, vU, vU] [(.long ((p1.toUInt64 >>> ((10 : Int32) &&& 0x3f).toInt64.toUInt64).toInt64))])) rfl (by rw [hml]; rfl) (argsL := [(.long ((p1.toUInt64 >>> ((10 : Int32) &&& 0x3f).toInt64.toUInt64).toInt64))]) (rest := []) (lenOf pd_0 rfl) rfl (by show 2 * 0 + _ ≤ _; exact Nat.le_of_eq rfl) (hb hby at_23) (fun _ _ => ⟨rfl, hh301, (by decide : 1 + 0 ≤ _), (by decide : 1 + 0 ≤ _)⟩)
  dsimp only [Pt.U, Pt.locs, Pt.cells, Pt.slots] at X304 l304 y304 z304 st304 hQ304
  subst l304 y304 z304
  obtain ⟨c1, rfl, Nq304, hh304, hc1⟩ := hQ304
  have N304 := Fr.app M301 Nq304
  have k305 : Rch p e below S0 T304 (mkF m 26 #[.val (.long p1), .second, .val (.long p2), .second, vI p3, vI 1, vR b294, vI c0, vU, vU, vU, vU, vU, vU, vU, vU] [(.int c1)]) := fun t h => k303 t (st304 t h)
  obtain ⟨lo304, Y304, M304⟩ : ∃ lo, Stand p l e room_1 (s.setVm s.vm) m #[(.long p1), (.long p2), (.int p3)] below meth c T304 lo 1 1 ∧ Fr n0 lo := ⟨_, X304, N304⟩
  clear X304 N304
  have k306 : Rch p e below S0 T304 (mkF m 32 #[.val (.long p1), .second, .val (.long p2), .second, vI p3, vI 1, vR b294, vI c0, vI c1, vU, vU, vU, vU, vU, vU, vU] [(.long ((p1.toUInt64 >>> ((20 : Int32) &&& 0x3f).toInt64.toUInt64).toInt64))]) := fun t h => k305 t (by
      show Steps p.tables e below (T304.setTop (mkF m 26 #[.val (.long p1), .second, .val (.long p2), .second, vI p3, vI 1, vR b294, vI c0, vU, vU, vU, vU, vU, vU, vU, vU] [(.int c1)])) _
      refine XS.istore Y304.here hx rfl (hb hby at_26) rfl (l' := #[.val (.long p1), .second, .val (.long p2), .second, vI p3, vI 1, vR b294, vI c0, vI c1, vU, vU, vU, vU, vU, vU, vU]) rfl ?_
      refine XS.lloadN Y304.here hx rfl (hb hby at_28) rfl ?_
      refine XS.bipush Y304.here hx rfl (hb hby at_29) ?_
      refine XS.lushr Y304.here hx rfl (hb hby at_31) rfl ?_
      exact h)
  obtain ⟨_, _, ⟨T307, L307, kk307, n307⟩, -, X307, ⟨Lc307, hQ307, l307, y307, z307⟩, st307⟩ := Jvm.LawKit.callS Y304 hx (y := (⟨"com/example/nuthatch/nuthatch/EntryNameIsMemberPinLaw", "ch", "(J)C"⟩ : MethodName)) hown (mvT hZ (hw _ (gm 1 rfl))) (mvT hZ (hw _ (gm 2 rfl))) (mvT hZ (hw _ (gm 3 rfl))) (mvT hZ (hw _ (gm 4 rfl))) (by decide) (backOf (W := 0) (rmCh l Z a0 hw [] ((p1.toUInt64 >>> ((20 : Int32) &&& 0x3f).toInt64.toUInt64).toInt64)  h294 n0 O298 ) hZ (hw _ (gm 4 rfl)) (hw _ (gm 3 rfl)) (by decide) (by decide)) (g := (mkF m 32 #[.val (.long p1), .second, .val (.long p2), .second, vI p3, vI 1, vR b294, vI c0, vI c1, vU, vU, vU, vU, vU, vU, vU] [(.long ((p1.toUInt64 >>> ((20 : Int32) &&& 0x3f).toInt64.toUInt64).toInt64))])) rfl (by rw [hml]; rfl) (argsL := [(.long ((p1.toUInt64 >>> ((20 : Int32) &&& 0x3f).toInt64.toUInt64).toInt64))]) (rest := []) (lenOf pd_0 rfl) rfl (by show 2 * 0 + _ ≤ _; exact Nat.le_of_eq rfl) (hb hby at_32) (fun _ _ => ⟨rfl, hh304, (by decide : 1 + 0 ≤ _), (by decide : 1 + 0 ≤ _)⟩)
  dsimp only [Pt.U, Pt.locs, Pt.cells, Pt.slots] at X307 l307 y307 z307 st307 hQ307
  subst l307 y307 z307
  obtain ⟨c2, rfl, Nq307, hh307, hc2⟩ := hQ307
  have N307 := Fr.app M304 Nq307
  have k308 : Rch p e below S0 T307 (mkF m 35 #[.val (.long p1), .second, .val (.long p2), .second, vI p3, vI 1, vR b294, vI c0, vI c1, vU, vU, vU, vU, vU, vU, vU] [(.int c2)]) := fun t h => k306 t (st307 t h)
  obtain ⟨lo307, Y307, M307⟩ : ∃ lo, Stand p l e room_1 (s.setVm s.vm) m #[(.long p1), (.long p2), (.int p3)] below meth c T307 lo 1 1 ∧ Fr n0 lo := ⟨_, X307, N307⟩
  clear X307 N307
  have k309 : Rch p e below S0 T307 (mkF m 41 #[.val (.long p1), .second, .val (.long p2), .second, vI p3, vI 1, vR b294, vI c0, vI c1, vI c2, vU, vU, vU, vU, vU, vU] [(.long ((p1.toUInt64 >>> ((30 : Int32) &&& 0x3f).toInt64.toUInt64).toInt64))]) := fun t h => k308 t (by
      show Steps p.tables e below (T307.setTop (mkF m 35 #[.val (.long p1), .second, .val (.long p2), .second, vI p3, vI 1, vR b294, vI c0, vI c1, vU, vU, vU, vU, vU, vU, vU] [(.int c2)])) _
      refine XS.istore Y307.here hx rfl (hb hby at_35) rfl (l' := #[.val (.long p1), .second, .val (.long p2), .second, vI p3, vI 1, vR b294, vI c0, vI c1, vI c2, vU, vU, vU, vU, vU, vU]) rfl ?_
      refine XS.lloadN Y307.here hx rfl (hb hby at_37) rfl ?_
      refine XS.bipush Y307.here hx rfl (hb hby at_38) ?_
      refine XS.lushr Y307.here hx rfl (hb hby at_40) rfl ?_
      exact h)
  obtain ⟨_, _, ⟨T310, L310, kk310, n310⟩, -, X310, ⟨Lc310, hQ310, l310, y310, z310⟩, st310⟩ := Jvm.LawKit.callS Y307 hx (y := (⟨"com/example/nuthatch/nuthatch/EntryNameIsMemberPinLaw", "ch", "(J)C"⟩ : MethodName)) hown (mvT hZ (hw _ (gm 1 rfl))) (mvT hZ (hw _ (gm 2 rfl))) (mvT hZ (hw _ (gm 3 rfl))) (mvT hZ (hw _ (gm 4 rfl))) (by decide) (backOf (W := 0) (rmCh l Z a0 hw [] ((p1.toUInt64 >>> ((30 : Int32) &&& 0x3f).toInt64.toUInt64).toInt64)  h294 n0 O298 ) hZ (hw _ (gm 4 rfl)) (hw _ (gm 3 rfl)) (by decide) (by decide)) (g := (mkF m 41 #[.val (.long p1), .second, .val (.long p2), .second, vI p3, vI 1, vR b294, vI c0, vI c1, vI c2, vU, vU, vU, vU, vU, vU] [(.long ((p1.toUInt64 >>> ((30 : Int32) &&& 0x3f).toInt64.toUInt64).toInt64))])) rfl (by rw [hml]; rfl) (argsL := [(.long ((p1.toUInt64 >>> ((30 : Int32) &&& 0x3f).toInt64.toUInt64).toInt64))]) (rest := []) (lenOf pd_0 rfl) rfl (by show 2 * 0 + _ ≤ _; exact Nat.le_of_eq rfl) (hb hby at_41) (fun _ _ => ⟨rfl, hh307, (by decide : 1 + 0 ≤ _), (by decide : 1 + 0 ≤ _)⟩)
  dsimp only [Pt.U, Pt.locs, Pt.cells, Pt.slots] at X310 l310 y310 z310 st310 hQ310
  subst l310 y310 z310
  obtain ⟨c3, rfl, Nq310, hh310, hc3⟩ := hQ310
  have N310 := Fr.app M307 Nq310
  have k311 : Rch p e below S0 T310 (mkF m 44 #[.val (.long p1), .second, .val (.long p2), .second, vI p3, vI 1, vR b294, vI c0, vI c1, vI c2, vU, vU, vU, vU, vU, vU] [(.int c3)]) := fun t h => k309 t (st310 t h)
  obtain ⟨lo310, Y310, M310⟩ : ∃ lo, Stand p l e room_1 (s.setVm s.vm) m #[(.long p1), (.long p2), (.int p3)] below meth c T310 lo 1 1 ∧ Fr n0 lo := ⟨_, X310, N310⟩
  clear X310 N310
  have k312 : Rch p e below S0 T310 (mkF m 50 #[.val (.long p1), .second, .val (.long p2), .second, vI p3, vI 1, vR b294, vI c0, vI c1, vI c2, vI c3, vU, vU, vU, vU, vU] [(.long ((p1.toUInt64 >>> ((40 : Int32) &&& 0x3f).toInt64.toUInt64).toInt64))]) := fun t h => k311 t (by
      show Steps p.tables e below (T310.setTop (mkF m 44 #[.val (.long p1), .second, .val (.long p2), .second, vI p3, vI 1, vR b294, vI c0, vI c1, vI c2, vU, vU, vU, vU, vU, vU] [(.int c3)])) _
      refine XS.istore Y310.here hx rfl (hb hby at_44) rfl (l' := #[.val (.long p1), .second, .val (.long p2), .second, vI p3, vI 1, vR b294, vI c0, vI c1, vI c2, vI c3, vU, vU, vU, vU, vU]) rfl ?_
      refine XS.lloadN Y310.here hx rfl (hb hby at_46) rfl ?_
      refine XS.bipush Y310.here hx rfl (hb hby at_47) ?_
      refine XS.lushr Y310.here hx rfl (hb hby at_49) rfl ?_
      exact h)
  obtain ⟨_, _, ⟨T313, L313, kk313, n313⟩, -, X313, ⟨Lc313, hQ313, l313, y313, z313⟩, st313⟩ := Jvm.LawKit.callS Y310 hx (y := (⟨"com/example/nuthatch/nuthatch/EntryNameIsMemberPinLaw", "ch", "(J)C"⟩ : MethodName)) hown (mvT hZ (hw _ (gm 1 rfl))) (mvT hZ (hw _ (gm 2 rfl))) (mvT hZ (hw _ (gm 3 rfl))) (mvT hZ (hw _ (gm 4 rfl))) (by decide) (backOf (W := 0) (rmCh l Z a0 hw [] ((p1.toUInt64 >>> ((40 : Int32) &&& 0x3f).toInt64.toUInt64).toInt64)  h294 n0 O298 ) hZ (hw _ (gm 4 rfl)) (hw _ (gm 3 rfl)) (by decide) (by decide)) (g := (mkF m 50 #[.val (.long p1), .second, .val (.long p2), .second, vI p3, vI 1, vR b294, vI c0, vI c1, vI c2, vI c3, vU, vU, vU, vU, vU] [(.long ((p1.toUInt64 >>> ((40 : Int32) &&& 0x3f).toInt64.toUInt64).toInt64))])) rfl (by rw [hml]; rfl) (argsL := [(.long ((p1.toUInt64 >>> ((40 : Int32) &&& 0x3f).toInt64.toUInt64).toInt64))]) (rest := []) (lenOf pd_0 rfl) rfl (by show 2 * 0 + _ ≤ _; exact Nat.le_of_eq rfl) (hb hby at_50) (fun _ _ => ⟨rfl, hh310, (by decide : 1 + 0 ≤ _), (by decide : 1 + 0 ≤ _)⟩)
  dsimp only [Pt.U, Pt.locs, Pt.cells, Pt.slots] at X313 l313 y313 z313 st313 hQ313
  subst l313 y313 z313
  obtain ⟨c4, rfl, Nq313, hh313, hc4⟩ := hQ313
  have N313 := Fr.app M310 Nq313
  have k314 : Rch p e below S0 T313 (mkF m 53 #[.val (.long p1), .second, .val (.long p2), .second, vI p3, vI 1, vR b294, vI c0, vI c1, vI c2, vI c3, vU, vU, vU, vU, vU] [(.int c4)]) := fun t h => k312 t (st313 t h)
  obtain ⟨lo313, Y313, M313⟩ : ∃ lo, Stand p l e room_1 (s.setVm s.vm) m #[(.long p1), (.long p2), (.int p3)] below meth c T313 lo 1 1 ∧ Fr n0 lo := ⟨_, X313, N313⟩
  clear X313 N313
  have k315 : Rch p e below S0 T313 (mkF m 59 #[.val (.long p1), .second, .val (.long p2), .second, vI p3, vI 1, vR b294, vI c0, vI c1, vI c2, vI c3, vI c4, vU, vU, vU, vU] [(.long ((p1.toUInt64 >>> ((50 : Int32) &&& 0x3f).toInt64.toUInt64).toInt64))]) := fun t h => k314 t (by
      show Steps p.tables e below (T313.setTop (mkF m 53 #[.val (.long p1), .second, .val (.long p2), .second, vI p3, vI 1, vR b294, vI c0, vI c1, vI c2, vI c3, vU, vU, vU, vU, vU] [(.int c4)])) _
      refine XS.istore Y313.here hx rfl (hb hby at_53) rfl (l' := #[.val (.long p1), .second, .val (.long p2), .second, vI p3, vI 1, vR b294, vI c0, vI c1, vI c2, vI c3, vI c4, vU, vU, vU, vU]) rfl ?_
      refine XS.lloadN Y313.here hx rfl (hb hby at_55) rfl ?_
      refine XS.bipush Y313.here hx rfl (hb hby at_56) ?_
      refine XS.lushr Y313.here hx rfl (hb hby at_58) rfl ?_
      exact h)
  obtain ⟨_, _, ⟨T316, L316, kk316, n316⟩, -, X316, ⟨Lc316, hQ316, l316, y316, z316⟩, st316⟩ := Jvm.LawKit.callS Y313 hx (y := (⟨"com/example/nuthatch/nuthatch/EntryNameIsMemberPinLaw", "ch", "(J)C"⟩ : MethodName)) hown (mvT hZ (hw _ (gm 1 rfl))) (mvT hZ (hw _ (gm 2 rfl))) (mvT hZ (hw _ (gm 3 rfl))) (mvT hZ (hw _ (gm 4 rfl))) (by decide) (backOf (W := 0) (rmCh l Z a0 hw [] ((p1.toUInt64 >>> ((50 : Int32) &&& 0x3f).toInt64.toUInt64).toInt64)  h294 n0 O298 ) hZ (hw _ (gm 4 rfl)) (hw _ (gm 3 rfl)) (by decide) (by decide)) (g := (mkF m 59 #[.val (.long p1), .second, .val (.long p2), .second, vI p3, vI 1, vR b294, vI c0, vI c1, vI c2, vI c3, vI c4, vU, vU, vU, vU] [(.long ((p1.toUInt64 >>> ((50 : Int32) &&& 0x3f).toInt64.toUInt64).toInt64))])) rfl (by rw [hml]; rfl) (argsL := [(.long ((p1.toUInt64 >>> ((50 : Int32) &&& 0x3f).toInt64.toUInt64).toInt64))]) (rest := []) (lenOf pd_0 rfl) rfl (by show 2 * 0 + _ ≤ _; exact Nat.le_of_eq rfl) (hb hby at_59) (fun _ _ => ⟨rfl, hh313, (by decide : 1 + 0 ≤ _), (by decide : 1 + 0 ≤ _)⟩)
  dsimp only [Pt.U, Pt.locs, Pt.cells, Pt.slots] at X316 l316 y316 z316 st316 hQ316
  subst l316 y316 z316
  obtain ⟨c5, rfl, Nq316, hh316, hc5⟩ := hQ316
  have N316 := Fr.app M313 Nq316
  have k317 : Rch p e below S0 T316 (mkF m 62 #[.val (.long p1), .second, .val (.long p2), .second, vI p3, vI 1, vR b294, vI c0, vI c1, vI c2, vI c3, vI c4, vU, vU, vU, vU] [(.int c5)]) := fun t h => k315 t (st316 t h)
  obtain ⟨lo316, Y316, M316⟩ : ∃ lo, Stand p l e room_1 (s.setVm s.vm) m #[(.long p1), (.long p2), (.int p3)] below meth c T316 lo 1 1 ∧ Fr n0 lo := ⟨_, X316, N316⟩
  clear X316 N316
  have k318 : Rch p e below S0 T316 (mkF m 65 #[.val (.long p1), .second, .val (.long p2), .second, vI p3, vI 1, vR b294, vI c0, vI c1, vI c2, vI c3, vI c4, vI c5, vU, vU, vU] [(.long p2)]) := fun t h => k317 t (by
      show Steps p.tables e below (T316.setTop (mkF m 62 #[.val (.long p1), .second, .val (.long p2), .second, vI p3, vI 1, vR b294, vI c0, vI c1, vI c2, vI c3, vI c4, vU, vU, vU, vU] [(.int c5)])) _
      refine XS.istore Y316.here hx rfl (hb hby at_62) rfl (l' := #[.val (.long p1), .second, .val (.long p2), .second, vI p3, vI 1, vR b294, vI c0, vI c1, vI c2, vI c3, vI c4, vI c5, vU, vU, vU]) rfl ?_
      refine XS.lloadN Y316.here hx rfl (hb hby at_64) rfl ?_
      exact h)
  obtain ⟨_, _, ⟨T319, L319, kk319, n319⟩, -, X319, ⟨Lc319, hQ319, l319, y319, z319⟩, st319⟩ := Jvm.LawKit.callS Y316 hx (y := (⟨"com/example/nuthatch/nuthatch/EntryNameIsMemberPinLaw", "ch", "(J)C"⟩ : MethodName)) hown (mvT hZ (hw _ (gm 1 rfl))) (mvT hZ (hw _ (gm 2 rfl))) (mvT hZ (hw _ (gm 3 rfl))) (mvT hZ (hw _ (gm 4 rfl))) (by decide) (backOf (W := 0) (rmCh l Z a0 hw [] p2  h294 n0 O298 ) hZ (hw _ (gm 4 rfl)) (hw _ (gm 3 rfl)) (by decide) (by decide)) (g := (mkF m 65 #[.val (.long p1), .second, .val (.long p2), .second, vI p3, vI 1, vR b294, vI c0, vI c1, vI c2, vI c3, vI c4, vI c5, vU, vU, vU] [(.long p2)])) rfl (by rw [hml]; rfl) (argsL := [(.long p2)]) (rest := []) (lenOf pd_0 rfl) rfl (by show 2 * 0 + _ ≤ _; exact Nat.le_of_eq rfl) (hb hby at_65) (fun _ _ => ⟨rfl, hh316, (by decide : 1 + 0 ≤ _), (by decide : 1 + 0 ≤ _)⟩)
  dsimp only [Pt.U, Pt.locs, Pt.cells, Pt.slots] at X319 l319 y319 z319 st319 hQ319
  subst l319 y319 z319
  obtain ⟨c6, rfl, Nq319, hh319, hc6⟩ := hQ319
  have N319 := Fr.app M316 Nq319
  have k320 : Rch p e below S0 T319 (mkF m 68 #[.val (.long p1), .second, .val (.long p2), .second, vI p3, vI 1, vR b294, vI c0, vI c1, vI c2, vI c3, vI c4, vI c5, vU, vU, vU] [(.int c6)]) := fun t h => k318 t (st319 t h)
  obtain ⟨lo319, Y319, M319⟩ : ∃ lo, Stand p l e room_1 (s.setVm s.vm) m #[(.long p1), (.long p2), (.int p3)] below meth c T319 lo 1 1 ∧ Fr n0 lo := ⟨_, X319, N319⟩
  clear X319 N319
  have k322 : Rch p e below S0 T319 (mkF m 80 #[.val (.long p1), .second, .val (.long p2), .second, vI p3, vI 1, vR b294, vI c0, vI c1, vI c2, vI c3, vI c4, vI c5, vI c6, vU, vU] [(.int c0), (.int (0 : Int32)), (.ref b294)]) := fun t h => k320 t (by
      show Steps p.tables e below (T319.setTop (mkF m 68 #[.val (.long p1), .second, .val (.long p2), .second, vI p3, vI 1, vR b294, vI c0, vI c1, vI c2, vI c3, vI c4, vI c5, vU, vU, vU] [(.int c6)])) _
      refine XS.istore Y319.here hx rfl (hb hby at_68) rfl (l' := #[.val (.long p1), .second, .val (.long p2), .second, vI p3, vI 1, vR b294, vI c0, vI c1, vI c2, vI c3, vI c4, vI c5, vI c6, vU, vU]) rfl ?_
      refine XS.iload Y319.here hx rfl (hb hby at_70) rfl ?_
      refine XS.ifNo Y319.here hx rfl (hb hby at_72) rfl ((if0 _ _).trans (tlt (by decide : (0 : Int32) < (1 : Int32))).2.2.2) ?_
      refine XS.aload Y319.here hx rfl (hb hby at_75) rfl rfl ?_
      refine XS.iconst Y319.here hx rfl (hb hby at_77) ?_
      refine XS.iload Y319.here hx rfl (hb hby at_78) rfl ?_
      exact h)
  obtain ⟨cl321, Ar321, q321, Sz321, Ng321, Hs321, G321⟩ := id V_b294
  have hin321 : ¬ ((0 : Int32) < 0 ∨ cl321.slots.size ≤ ((0 : Int32)).toNatClampNeg) := inb_of Sz321 ⟨by decide, by decide⟩
  obtain ⟨T321, h321, X321, e321, W321, st321⟩ := stC Y319 hx hZ hh319 Ar321 (j := (0 : Int32)) hin321 (g := (mkF m 80 #[.val (.long p1), .second, .val (.long p2), .second, vI p3, vI 1, vR b294, vI c0, vI c1, vI c2, vI c3, vI c4, vI c5, vI c6, vU, vU] [(.int c0), (.int (0 : Int32)), (.ref b294)])) rfl rfl (hb hby at_80)
  have k323 : Rch p e below S0 T321 (mkF m 81 #[.val (.long p1), .second, .val (.long p2), .second, vI p3, vI 1, vR b294, vI c0, vI c1, vI c2, vI c3, vI c4, vI c5, vI c6, vU, vU] []) := fun t h => k322 t (st321 t h)
  have N321 := Fr.snoc X321 M319 ge_b294
  have V_b294' := Arv.set Ar321 q321 Sz321 Ng321 Hs321 G321 (fits_nar_char _) W321 0 rfl (Nat.le_of_ble_eq_true rfl)
  replace V_b294 : Arv Z h321 b294 k294 .char (1 : Int32) [(.int c0)] (.int (0 : Int32)) := (by have q := V_b294'; rw [(own_nar c0 hc0).1] at q; exact q)
  have hC324 := hC297.wr W321 sf_b294
  have rC324 := rC297.trans (CHr.wr W321 sf_b294 hC297)
  replace sf_b294 := Safe.wr W321 sf_b294 hC297 sf_b294
  have O325 := O298.wr W321 ge_b294
  have hkk326 := Nat.le_trans hkk299 (Keep.of_wr W321).1
  have k327 : Rch p e below S0 T321 (mkF m 258 #[.val (.long p1), .second, .val (.long p2), .second, vI p3, vI 1, vR b294, vI c0, vI c1, vI c2, vI c3, vI c4, vI c5, vI c6, vI 0, vU] [(.int c0), (.int (0 : Int32))]) := fun t h => k323 t (by
      show Steps p.tables e below (T321.setTop (mkF m 81 #[.val (.long p1), .second, .val (.long p2), .second, vI p3, vI 1, vR b294, vI c0, vI c1, vI c2, vI c3, vI c4, vI c5, vI c6, vU, vU] [])) _
      refine XS.iload X321.here hx rfl (hb hby at_81) rfl ?_
      refine XS.iconst X321.here hx rfl (hb hby at_83) ?_
      refine XS.icmpYes X321.here hx rfl (pc0 := 84) (pc' := 93) rfl (hb hby at_84) rfl (flt (by decide : ¬ ((1 : Int32) < (1 : Int32)))).2.2.2 (by decide) (by decide) ?_
      refine XS.iload X321.here hx rfl (hb hby at_93) rfl ?_
      refine XS.iconst X321.here hx rfl (hb hby at_95) ?_
      refine XS.icmpYes X321.here hx rfl (pc0 := 96) (pc' := 105) rfl (hb hby at_96) rfl (flt (by decide : ¬ ((2 : Int32) < (1 : Int32)))).2.2.2 (by decide) (by decide) ?_
      refine XS.iload X321.here hx rfl (hb hby at_105) rfl ?_
      refine XS.iconst X321.here hx rfl (hb hby at_107) ?_
      refine XS.icmpYes X321.here hx rfl (pc0 := 108) (pc' := 117) rfl (hb hby at_108) rfl (flt (by decide : ¬ ((3 : Int32) < (1 : Int32)))).2.2.2 (by decide) (by decide) ?_
      refine XS.iload X321.here hx rfl (hb hby at_117) rfl ?_
      refine XS.iconst X321.here hx rfl (hb hby at_119) ?_
      refine XS.icmpYes X321.here hx rfl (pc0 := 120) (pc' := 129) rfl (hb hby at_120) rfl (flt (by decide : ¬ ((4 : Int32) < (1 : Int32)))).2.2.2 (by decide) (by decide) ?_
      refine XS.iload X321.here hx rfl (hb hby at_129) rfl ?_
      refine XS.iconst X321.here hx rfl (hb hby at_131) ?_
      refine XS.icmpYes X321.here hx rfl (pc0 := 132) (pc' := 141) rfl (hb hby at_132) rfl (flt (by decide : ¬ ((5 : Int32) < (1 : Int32)))).2.2.2 (by decide) (by decide) ?_
      refine XS.iload X321.here hx rfl (hb hby at_141) rfl ?_
      refine XS.bipush X321.here hx rfl (hb hby at_143) ?_
      refine XS.icmpYes X321.here hx rfl (pc0 := 145) (pc' := 155) rfl (hb hby at_145) rfl (flt (by decide : ¬ ((6 : Int32) < (1 : Int32)))).2.2.2 (by decide) (by decide) ?_
      refine XS.iconst X321.here hx rfl (hb hby at_155) ?_
      refine XS.istore X321.here hx rfl (hb hby at_156) rfl (l' := #[.val (.long p1), .second, .val (.long p2), .second, vI p3, vI 1, vR b294, vI c0, vI c1, vI c2, vI c3, vI c4, vI c5, vI c6, vI 0, vU]) rfl ?_
      refine XS.iload X321.here hx rfl (hb hby at_158) rfl ?_
      refine XS.bipush X321.here hx rfl (hb hby at_160) ?_
      refine XS.icmpYes X321.here hx rfl (pc0 := 162) (pc' := 174) rfl (hb hby at_162) rfl (flt (by decide : ¬ ((6 : Int32) < (1 : Int32)))).2.2.2 (by decide) (by decide) ?_
      refine XS.iload X321.here hx rfl (hb hby at_174) rfl ?_
      refine XS.iconst X321.here hx rfl (hb hby at_176) ?_
      show Steps p.tables e below (T321.setTop (mkF m 177 #[.val (.long p1), .second, .val (.long p2), .second, vI p3, vI 1, vR b294, vI c0, vI c1, vI c2, vI c3, vI c4, vI c5, vI c6, vI 0, vU] [(.int (5 : Int32)), (.int (1 : Int32))])) _
      refine XS.icmpYes X321.here hx rfl (pc0 := 177) (pc' := 189) rfl (hb hby at_177) rfl (flt (by decide : ¬ ((5 : Int32) < (1 : Int32)))).2.2.2 (by decide) (by decide) ?_
      refine XS.iload X321.here hx rfl (hb hby at_189) rfl ?_
      refine XS.iconst X321.here hx rfl (hb hby at_191) ?_
      refine XS.icmpYes X321.here hx rfl (pc0 := 192) (pc' := 204) rfl (hb hby at_192) rfl (flt (by decide : ¬ ((4 : Int32) < (1 : Int32)))).2.2.2 (by decide) (by decide) ?_
      refine XS.iload X321.here hx rfl (hb hby at_204) rfl ?_
      refine XS.iconst X321.here hx rfl (hb hby at_206) ?_
      refine XS.icmpYes X321.here hx rfl (pc0 := 207) (pc' := 219) rfl (hb hby at_207) rfl (flt (by decide : ¬ ((3 : Int32) < (1 : Int32)))).2.2.2 (by decide) (by decide) ?_
      refine XS.iload X321.here hx rfl (hb hby at_219) rfl ?_
      refine XS.iconst X321.here hx rfl (hb hby at_221) ?_
      refine XS.icmpYes X321.here hx rfl (pc0 := 222) (pc' := 234) rfl (hb hby at_222) rfl (flt (by decide : ¬ ((2 : Int32) < (1 : Int32)))).2.2.2 (by decide) (by decide) ?_
      refine XS.iload X321.here hx rfl (hb hby at_234) rfl ?_
      refine XS.iconst X321.here hx rfl (hb hby at_236) ?_
      refine XS.icmpYes X321.here hx rfl (pc0 := 237) (pc' := 249) rfl (hb hby at_237) rfl (flt (by decide : ¬ ((1 : Int32) < (1 : Int32)))).2.2.2 (by decide) (by decide) ?_
      refine XS.iload X321.here hx rfl (hb hby at_249) rfl ?_
      refine XS.ifNo X321.here hx rfl (hb hby at_251) rfl ((if0 _ _).trans (tlt (by decide : (0 : Int32) < (1 : Int32))).2.2.2) ?_
      refine XS.iload X321.here hx rfl (hb hby at_254) rfl ?_
      refine XS.iload X321.here hx rfl (hb hby at_256) rfl ?_
      exact h)
  obtain ⟨_, _, ⟨T328, L328, kk328, n328⟩, -, X328, ⟨Lc328, hQ328, l328, y328, z328⟩, st328⟩ := Jvm.LawKit.callS X321 hx (y := (⟨"com/example/nuthatch/nuthatch/EntryNameIsMemberPinLaw", "step", "(IC)I"⟩ : MethodName)) hown (mvT hZ (hw _ (gm 71 rfl))) (mvT hZ (hw _ (gm 72 rfl))) (mvT hZ (hw _ (gm 3 rfl))) (mvT hZ (hw _ (gm 73 rfl))) (by decide) (backOf (W := 0) (rmST l Z a0 hw [] (0 : Int32) c0  h321 n0 O325 ) hZ (hw _ (gm 73 rfl)) (hw _ (gm 3 rfl)) (by decide) (by decide)) (g := (mkF m 258 #[.val (.long p1), .second, .val (.long p2), .second, vI p3, vI 1, vR b294, vI c0, vI c1, vI c2, vI c3, vI c4, vI c5, vI c6, vI 0, vU] [(.int c0), (.int (0 : Int32))])) rfl (by rw [hml]; rfl) (argsL := [(.int (0 : Int32)), (.int c0)]) (rest := []) (lenOf pd_13 rfl) rfl (by show 2 * 0 + _ ≤ _; exact Nat.le_of_eq rfl) (hb hby at_258) (fun _ _ => ⟨rfl, e321, (by decide : 1 + 0 ≤ _), (by decide : 1 + 0 ≤ _)⟩)
  dsimp only [Pt.U, Pt.locs, Pt.cells, Pt.slots] at X328 l328 y328 z328 st328 hQ328
  subst l328 y328 z328
  obtain ⟨rfl, Nq328, hh328⟩ := hQ328
  have N328 := Fr.app N321 Nq328
  have k329 : Rch p e below S0 T328 (mkF m 261 #[.val (.long p1), .second, .val (.long p2), .second, vI p3, vI 1, vR b294, vI c0, vI c1, vI c2, vI c3, vI c4, vI c5, vI c6, vI 0, vU] [(.int (own_stI (0 : Int32) (kc c0)))]) := fun t h => k327 t (st328 t h)
  obtain ⟨lo328, Y328, M328⟩ : ∃ lo, Stand p l e room_1 (s.setVm s.vm) m #[(.long p1), (.long p2), (.int p3)] below meth c T328 lo 1 1 ∧ Fr n0 lo := ⟨_, X328, N328⟩
  clear X328 N328
  obtain ⟨sv0, hsv0⟩ : ∃ z : Int32, z = own_stI (0 : Int32) (kc c0) := ⟨_, rfl⟩
  rw [← hsv0] at k329
  have k330 : Rch p e below S0 T328 (mkF m 263 #[.val (.long p1), .second, .val (.long p2), .second, vI p3, vI 1, vR b294, vI c0, vI c1, vI c2, vI c3, vI c4, vI c5, vI c6, vI sv0, vU] []) := fun t h => k329 t (by
      show Steps p.tables e below (T328.setTop (mkF m 261 #[.val (.long p1), .second, .val (.long p2), .second, vI p3, vI 1, vR b294, vI c0, vI c1, vI c2, vI c3, vI c4, vI c5, vI c6, vI 0, vU] [(.int sv0)])) _
      refine XS.istore Y328.here hx rfl (hb hby at_261) rfl (l' := #[.val (.long p1), .second, .val (.long p2), .second, vI p3, vI 1, vR b294, vI c0, vI c1, vI c2, vI c3, vI c4, vI c5, vI c6, vI sv0, vU]) rfl ?_
      exact h)
  have hpc : ∀ c ∈ ([c0] : List Int32), ¬ c < 0 ∧ ¬ (255 : Int32) < c := by
    intro c hc
    simp only [List.mem_cons, List.not_mem_nil, or_false] at hc
    rcases hc with rfl
    · exact hc0
  have hpl := own_plain (([c0] : List Int32).map kc) 1 rfl (by decide) (fun y hy => by obtain ⟨c, -, rfl⟩ := List.mem_map.mp hy; exact kc_lt c)
  cases hM : own_mem (([c0] : List Int32).map kc) 1 with
  | true =>
    have hF : sv0 = 4 := by
      have q := hpl.1 hM
      simp only [own_fsI, List.map_cons, List.map_nil, List.foldr_cons, List.foldr_nil] at q
      rw [hsv0]; exact q
    clear hpl hsv0
    have hbm : own_b (own_mem (([c0] : List Int32).map kc) 1) = 1 := by rw [hM]; rfl
    clear hM
    have k331 : Rch p e below S0 T328 (mkF m 276 #[.val (.long p1), .second, .val (.long p2), .second, vI p3, vI 1, vR b294, vI c0, vI c1, vI c2, vI c3, vI c4, vI c5, vI c6, vI sv0, vI 1] []) := fun t h => k330 t (by
        show Steps p.tables e below (T328.setTop (mkF m 263 #[.val (.long p1), .second, .val (.long p2), .second, vI p3, vI 1, vR b294, vI c0, vI c1, vI c2, vI c3, vI c4, vI c5, vI c6, vI sv0, vU] [])) _
        refine XS.iload Y328.here hx rfl (hb hby at_263) rfl ?_
        refine XS.iconst Y328.here hx rfl (hb hby at_265) ?_
        refine XS.icmpNo Y328.here hx rfl (hb hby at_266) rfl (teq (hF : sv0 = (4 : Int32))).2 ?_
        refine XS.iconst Y328.here hx rfl (hb hby at_269) ?_
        refine XS.goto Y328.here hx rfl (pc0 := 270) (pc' := 274) rfl (hb hby at_270) (by decide) (by decide) ?_
        refine XS.istore Y328.here hx rfl (hb hby at_274) rfl (l' := #[.val (.long p1), .second, .val (.long p2), .second, vI p3, vI 1, vR b294, vI c0, vI c1, vI c2, vI c3, vI c4, vI c5, vI c6, vI sv0, vI 1]) rfl ?_
        exact h)
    clear hF
    obtain ⟨T332, h332, X332, e332, E332, A332, D332, -, st332⟩ := newO Y328 hx hZ hown (hw _ (gm 6 rfl)) (hw _ (gm 7 rfl)) (hw _ (gm 8 rfl)) hh328 (g := (mkF m 276 #[.val (.long p1), .second, .val (.long p2), .second, vI p3, vI 1, vR b294, vI c0, vI c1, vI c2, vI c3, vI c4, vI c5, vI c6, vI sv0, vI 1] [])) rfl (hb hby at_276) (by decide) (by decide)
    obtain ⟨b332, g332⟩ : ∃ z, z = h321.size := ⟨_, rfl⟩
    rw [← g332] at A332 D332 st332
    have k333 : Rch p e below S0 T332 (mkF m 279 #[.val (.long p1), .second, .val (.long p2), .second, vI p3, vI 1, vR b294, vI c0, vI c1, vI c2, vI c3, vI c4, vI c5, vI c6, vI sv0, vI 1] [(.ref b332)]) := fun t h => k331 t (st332 t h)
    have ne_b294_b332 : b294 ≠ b332 := own_ne V_b294.lt (Nat.le_of_eq g332.symm)
    have ge_b332 : n0 ≤ b332 := own_ge O325 (Nat.le_of_eq g332.symm)
    have sf_b332 : Safe Z consts_1 s.vm h321 b332 := Safe.new (Nat.le_of_eq g332.symm)
    replace sf_b294 := Safe.ext E332 hC324 sf_b294
    replace sf_b332 := Safe.ext E332 hC324 sf_b332
    have hC334 := hC324.ext E332
    have rC334 := rC324.trans (CHr.ext E332 hC324)
    have O335 := O325.ext E332
    replace V_b294 := V_b294.ext E332
    have hkk336 := Nat.le_trans hkk326 E332.1
    have E_b332 := A332
    have F_b332_value : Fld Z h332 b332 "java/lang/String" "value" "[B" .null := D332 (Or.inr (hw _ (gm 21 rfl))) (ty := (.array .byte)) (by decide)
    have F_b332_coder : Fld Z h332 b332 "java/lang/String" "coder" "B" (.int (0 : Int32)) := D332 (Or.inr (hw _ (gm 22 rfl))) (ty := .byte) (by decide)
    have k337 : Rch p e below S0 T332 (mkF m 282 #[.val (.long p1), .second, .val (.long p2), .second, vI p3, vI 1, vR b294, vI c0, vI c1, vI c2, vI c3, vI c4, vI c5, vI c6, vI sv0, vI 1] [(.ref b294), (.ref b332), (.ref b332)]) := fun t h => k333 t (by
        show Steps p.tables e below (T332.setTop (mkF m 279 #[.val (.long p1), .second, .val (.long p2), .second, vI p3, vI 1, vR b294, vI c0, vI c1, vI c2, vI c3, vI c4, vI c5, vI c6, vI sv0, vI 1] [(.ref b332)])) _
        refine XS.dup X332.here hx rfl (hb hby at_279) rfl rfl ?_
        refine XS.aload X332.here hx rfl (hb hby at_280) rfl rfl ?_
        exact h)
    have hws : ∀ d ∈ StrChars.Road.words, d.before a0 Z = true := fun d hd => hw d ((by decide +kernel : ∀ d ∈ StrChars.Road.words, d ∈ tables_1) d hd)
    have hp : ∀ c ∈ ([c0] : List Int32), ¬ c < 0 ∧ ¬ (255 : Int32) < c := hpc
    obtain ⟨_, _, ⟨T338, L338, kk338, n338⟩, -, X338, ⟨Lc338, hQ338, l338, y338, z338⟩, st338⟩ := X332.specialBack hx (y := (⟨"java/lang/String", "<init>", "([C)V"⟩ : MethodName)) rfl hown (mvT hZ (hw _ (gm 9 rfl))) (mvT hZ (hw _ (gm 10 rfl))) (mvT hZ (hw _ (gm 11 rfl))) (by decide) (StrChars.Road.backV (W := 1) hZ hws (kI := 4) (hw _ (gm 7 rfl)) (cs := [c0]) (bs := [c0].map (fun c => c.toInt8.toInt32)) (n := 1) ge_b332 (own_le O335) E_b332 F_b332_value F_b332_coder V_b294 (SC.ext O335.2) hzC rfl rfl (by decide) (by decide) hp rfl (by decide) (by decide)) (g := (mkF m 282 #[.val (.long p1), .second, .val (.long p2), .second, vI p3, vI 1, vR b294, vI c0, vI c1, vI c2, vI c3, vI c4, vI c5, vI c6, vI sv0, vI 1] [(.ref b294), (.ref b332), (.ref b332)])) rfl (by rw [hml]; rfl) (Steps.refl _) (a := b332) (argsL := [(.ref b294)]) (rest := [(.ref b332)]) (lenOf pd_1 rfl) rfl (by show 2 * 0 + _ ≤ _; exact Nat.le_of_eq rfl) (hb hby at_282) (fun _ _ => ⟨rfl, e332, (by decide : 2 + 1 ≤ _), (by decide : 5 + 1 ≤ _)⟩)
    dsimp only [Pt.U, Pt.locs, Pt.cells, Pt.slots] at X338 l338 y338 z338 st338 hQ338
    subst l338 y338 z338
    obtain ⟨rfl, Nq338, K338, Eb338, Cb338, t338, kb338, u338, v338, ww338, Vb338, Ab338⟩ := hQ338
    have N338 := Fr.app M328 Nq338
    have k339 : Rch p e below S0 T338 (mkF m 285 #[.val (.long p1), .second, .val (.long p2), .second, vI p3, vI 1, vR b294, vI c0, vI c1, vI c2, vI c3, vI c4, vI c5, vI c6, vI sv0, vI 1] [(.ref b332)]) := fun t h => k337 t (st338.trans h)
    have hC340 := hC334.keep K338 (sfS sf_b332 sf0)
    have rC340 := rC334.trans (CHr.keep K338 (sfS sf_b332 sf0) hC334)
    have sfx341 := (sfS sf_b332 sf0)
    replace sf_b294 := Safe.keep K338 sfx341 hC334 sf_b294
    replace sf_b332 := Safe.keep K338 sfx341 hC334 sf_b332
    have O342 := O335.keep K338 (allS ge_b332 all0)
    replace V_b294 := V_b294.keep K338 (ninS ne_b294_b332 nin0)
    replace E_b332 := E_b332.keep K338
    have hkk343 := Nat.le_trans hkk336 K338.1
    obtain ⟨_, _, ⟨T344, L344, kk344, n344⟩, -, X344, ⟨Lc344, hQ344, l344, y344, z344⟩, st344⟩ := Jvm.LawKit.callS X338 hx (y := (⟨"com/example/nuthatch/nuthatch/EntryName", "isMember", "(Ljava/lang/String;)Z"⟩ : MethodName)) hown (mvT hZ (hw _ (gm 27 rfl))) (mvT hZ (hw _ (gm 28 rfl))) (mvT hZ (hw _ (gm 29 rfl))) (mvT hZ (hw _ (gm 30 rfl))) (by decide) (backOf (W := 0) (rmIM l Z a0 hw []  b332 t338 kb338 1 [c0] zC fm T338.heap n0 O342 SC hzC Eb338 Vb338 Cb338 Ab338 rfl (by decide) hpc SP hfm) hZ (hw _ (gm 30 rfl)) (hw _ (gm 29 rfl)) (by decide) (by decide)) (g := (mkF m 285 #[.val (.long p1), .second, .val (.long p2), .second, vI p3, vI 1, vR b294, vI c0, vI c1, vI c2, vI c3, vI c4, vI c5, vI c6, vI sv0, vI 1] [(.ref b332)])) rfl (by rw [hml]; rfl) (argsL := [(.ref b332)]) (rest := []) (lenOf pd_4 rfl) rfl (by show 2 * 0 + _ ≤ _; exact Nat.le_of_eq rfl) (hb hby at_285) (fun _ _ => ⟨rfl, rfl, (by decide : 3 + 0 ≤ _), (by decide : 6 + 0 ≤ _)⟩)
    dsimp only [Pt.U, Pt.locs, Pt.cells, Pt.slots] at X344 l344 y344 z344 st344 hQ344
    subst l344 y344 z344
    obtain ⟨rfl, Nq344, hh344⟩ := hQ344
    have N344 := Fr.app N338 Nq344
    have k345 : Rch p e below S0 T344 (mkF m 288 #[.val (.long p1), .second, .val (.long p2), .second, vI p3, vI 1, vR b294, vI c0, vI c1, vI c2, vI c3, vI c4, vI c5, vI c6, vI sv0, vI 1] [(.int (1 : Int32))]) := fun t h => k339 t (st344 t (by rw [hbm]; exact h))
    obtain ⟨lo344, Y344, M344⟩ : ∃ lo, Stand p l e room_1 (s.setVm s.vm) m #[(.long p1), (.long p2), (.int p3)] below meth c T344 lo 3 6 ∧ Fr n0 lo := ⟨_, X344, N344⟩
    clear X344 N344
    clear hbm
    have k346 : Rch p e below S0 T344 (mkF m 298 #[.val (.long p1), .second, .val (.long p2), .second, vI p3, vI 1, vR b294, vI c0, vI c1, vI c2, vI c3, vI c4, vI c5, vI c6, vI sv0, vI 1] [(.int (1 : Int32))]) := fun t h => k345 t (by
        show Steps p.tables e below (T344.setTop (mkF m 288 #[.val (.long p1), .second, .val (.long p2), .second, vI p3, vI 1, vR b294, vI c0, vI c1, vI c2, vI c3, vI c4, vI c5, vI c6, vI sv0, vI 1] [(.int (1 : Int32))])) _
        refine XS.iload Y344.here hx rfl (hb hby at_288) rfl ?_
        refine XS.icmpNo Y344.here hx rfl (hb hby at_290) rfl (teq (by decide : (1 : Int32) = (1 : Int32))).2 ?_
        refine XS.iconst Y344.here hx rfl (hb hby at_293) ?_
        refine XS.goto Y344.here hx rfl (pc0 := 294) (pc' := 298) rfl (hb hby at_294) (by decide) (by decide) ?_
        exact h)
    obtain ⟨fs, hr, hrun, hended, hfin⟩ := Y344.leaveW hS (by rw [hh344]; exact hkk343) (v := (some (.int (1 : Int32)))) (fun h => by rw [Bd.returns] at h; cases h)
    refine ⟨_, _, ?_, hrun, hended, _, _, rfl, ?_, (by rw [hh]; have q := own_chr rC340 (CHv.at Y344 hZ hEL hC340) hh344; exact q), hfin.1, hfin.2.1, hfin.2.2.1, hfin.2.2.2.mono (by decide) (by decide)⟩
    · rw [← hS0]
      refine k346 _ ?_
      show Steps p.tables e below (T344.setTop (mkF m 298 #[.val (.long p1), .second, .val (.long p2), .second, vI p3, vI 1, vR b294, vI c0, vI c1, vI c2, vI c3, vI c4, vI c5, vI c6, vI sv0, vI 1] [(.int (1 : Int32))])) _
      exact retN Y344 hx (t := .boolean) Bd.returns (by simp) (hb hby at_298) hr
    · show Q_rm0_1 Z  h0 n0 _ T344.heap _
      rw [hh344]
      exact ⟨rfl, M344⟩
  | false =>
    have hF : ¬ sv0 = 4 := by
      have q := hpl.2 hM
      simp only [own_fsI, List.map_cons, List.map_nil, List.foldr_cons, List.foldr_nil] at q
      rw [hsv0]; exact q
    clear hpl hsv0
    have hbm : own_b (own_mem (([c0] : List Int32).map kc) 1) = 0 := by rw [hM]; rfl
    clear hM
    have k347 : Rch p e below S0 T328 (mkF m 276 #[.val (.long p1), .second, .val (.long p2), .second, vI p3, vI 1, vR b294, vI c0, vI c1, vI c2, vI c3, vI c4, vI c5, vI c6, vI sv0, vI 0] []) := fun t h => k330 t (by
        show Steps p.tables e below (T328.setTop (mkF m 263 #[.val (.long p1), .second, .val (.long p2), .second, vI p3, vI 1, vR b294, vI c0, vI c1, vI c2, vI c3, vI c4, vI c5, vI c6, vI sv0, vU] [])) _
        refine XS.iload Y328.here hx rfl (hb hby at_263) rfl ?_
        refine XS.iconst Y328.here hx rfl (hb hby at_265) ?_
        refine XS.icmpYes Y328.here hx rfl (pc0 := 266) (pc' := 273) rfl (hb hby at_266) rfl (feq (hF : ¬ (sv0 = (4 : Int32)))).2 (by decide) (by decide) ?_
        refine XS.iconst Y328.here hx rfl (hb hby at_273) ?_
        refine XS.istore Y328.here hx rfl (hb hby at_274) rfl (l' := #[.val (.long p1), .second, .val (.long p2), .second, vI p3, vI 1, vR b294, vI c0, vI c1, vI c2, vI c3, vI c4, vI c5, vI c6, vI sv0, vI 0]) rfl ?_
        exact h)
    clear hF
    obtain ⟨T348, h348, X348, e348, E348, A348, D348, -, st348⟩ := newO Y328 hx hZ hown (hw _ (gm 6 rfl)) (hw _ (gm 7 rfl)) (hw _ (gm 8 rfl)) hh328 (g := (mkF m 276 #[.val (.long p1), .second, .val (.long p2), .second, vI p3, vI 1, vR b294, vI c0, vI c1, vI c2, vI c3, vI c4, vI c5, vI c6, vI sv0, vI 0] [])) rfl (hb hby at_276) (by decide) (by decide)
    obtain ⟨b348, g348⟩ : ∃ z, z = h321.size := ⟨_, rfl⟩
    rw [← g348] at A348 D348 st348
    have k349 : Rch p e below S0 T348 (mkF m 279 #[.val (.long p1), .second, .val (.long p2), .second, vI p3, vI 1, vR b294, vI c0, vI c1, vI c2, vI c3, vI c4, vI c5, vI c6, vI sv0, vI 0] [(.ref b348)]) := fun t h => k347 t (st348 t h)
    have ne_b294_b348 : b294 ≠ b348 := own_ne V_b294.lt (Nat.le_of_eq g348.symm)
    have ge_b348 : n0 ≤ b348 := own_ge O325 (Nat.le_of_eq g348.symm)
    have sf_b348 : Safe Z consts_1 s.vm h321 b348 := Safe.new (Nat.le_of_eq g348.symm)
    replace sf_b294 := Safe.ext E348 hC324 sf_b294
    replace sf_b348 := Safe.ext E348 hC324 sf_b348
    have hC350 := hC324.ext E348
    have rC350 := rC324.trans (CHr.ext E348 hC324)
    have O351 := O325.ext E348
    replace V_b294 := V_b294.ext E348
    have hkk352 := Nat.le_trans hkk326 E348.1
    have E_b348 := A348
    have F_b348_value : Fld Z h348 b348 "java/lang/String" "value" "[B" .null := D348 (Or.inr (hw _ (gm 21 rfl))) (ty := (.array .byte)) (by decide)
    have F_b348_coder : Fld Z h348 b348 "java/lang/String" "coder" "B" (.int (0 : Int32)) := D348 (Or.inr (hw _ (gm 22 rfl))) (ty := .byte) (by decide)
    have k353 : Rch p e below S0 T348 (mkF m 282 #[.val (.long p1), .second, .val (.long p2), .second, vI p3, vI 1, vR b294, vI c0, vI c1, vI c2, vI c3, vI c4, vI c5, vI c6, vI sv0, vI 0] [(.ref b294), (.ref b348), (.ref b348)]) := fun t h => k349 t (by
        show Steps p.tables e below (T348.setTop (mkF m 279 #[.val (.long p1), .second, .val (.long p2), .second, vI p3, vI 1, vR b294, vI c0, vI c1, vI c2, vI c3, vI c4, vI c5, vI c6, vI sv0, vI 0] [(.ref b348)])) _
        refine XS.dup X348.here hx rfl (hb hby at_279) rfl rfl ?_
        refine XS.aload X348.here hx rfl (hb hby at_280) rfl rfl ?_
        exact h)
    have hws : ∀ d ∈ StrChars.Road.words, d.before a0 Z = true := fun d hd => hw d ((by decide +kernel : ∀ d ∈ StrChars.Road.words, d ∈ tables_1) d hd)
    have hp : ∀ c ∈ ([c0] : List Int32), ¬ c < 0 ∧ ¬ (255 : Int32) < c := hpc
    obtain ⟨_, _, ⟨T354, L354, kk354, n354⟩, -, X354, ⟨Lc354, hQ354, l354, y354, z354⟩, st354⟩ := X348.specialBack hx (y := (⟨"java/lang/String", "<init>", "([C)V"⟩ : MethodName)) rfl hown (mvT hZ (hw _ (gm 9 rfl))) (mvT hZ (hw _ (gm 10 rfl))) (mvT hZ (hw _ (gm 11 rfl))) (by decide) (StrChars.Road.backV (W := 1) hZ hws (kI := 4) (hw _ (gm 7 rfl)) (cs := [c0]) (bs := [c0].map (fun c => c.toInt8.toInt32)) (n := 1) ge_b348 (own_le O351) E_b348 F_b348_value F_b348_coder V_b294 (SC.ext O351.2) hzC rfl rfl (by decide) (by decide) hp rfl (by decide) (by decide)) (g := (mkF m 282 #[.val (.long p1), .second, .val (.long p2), .second, vI p3, vI 1, vR b294, vI c0, vI c1, vI c2, vI c3, vI c4, vI c5, vI c6, vI sv0, vI 0] [(.ref b294), (.ref b348), (.ref b348)])) rfl (by rw [hml]; rfl) (Steps.refl _) (a := b348) (argsL := [(.ref b294)]) (rest := [(.ref b348)]) (lenOf pd_1 rfl) rfl (by show 2 * 0 + _ ≤ _; exact Nat.le_of_eq rfl) (hb hby at_282) (fun _ _ => ⟨rfl, e348, (by decide : 2 + 1 ≤ _), (by decide : 5 + 1 ≤ _)⟩)
    dsimp only [Pt.U, Pt.locs, Pt.cells, Pt.slots] at X354 l354 y354 z354 st354 hQ354
    subst l354 y354 z354
    obtain ⟨rfl, Nq354, K354, Eb354, Cb354, t354, kb354, u354, v354, ww354, Vb354, Ab354⟩ := hQ354
    have N354 := Fr.app M328 Nq354
    have k355 : Rch p e below S0 T354 (mkF m 285 #[.val (.long p1), .second, .val (.long p2), .second, vI p3, vI 1, vR b294, vI c0, vI c1, vI c2, vI c3, vI c4, vI c5, vI c6, vI sv0, vI 0] [(.ref b348)]) := fun t h => k353 t (st354.trans h)
    have hC356 := hC350.keep K354 (sfS sf_b348 sf0)
    have rC356 := rC350.trans (CHr.keep K354 (sfS sf_b348 sf0) hC350)
    have sfx357 := (sfS sf_b348 sf0)
    replace sf_b294 := Safe.keep K354 sfx357 hC350 sf_b294
    replace sf_b348 := Safe.keep K354 sfx357 hC350 sf_b348
    have O358 := O351.keep K354 (allS ge_b348 all0)
    replace V_b294 := V_b294.keep K354 (ninS ne_b294_b348 nin0)
    replace E_b348 := E_b348.keep K354
    have hkk359 := Nat.le_trans hkk352 K354.1
    obtain ⟨_, _, ⟨T360, L360, kk360, n360⟩, -, X360, ⟨Lc360, hQ360, l360, y360, z360⟩, st360⟩ := Jvm.LawKit.callS X354 hx (y := (⟨"com/example/nuthatch/nuthatch/EntryName", "isMember", "(Ljava/lang/String;)Z"⟩ : MethodName)) hown (mvT hZ (hw _ (gm 27 rfl))) (mvT hZ (hw _ (gm 28 rfl))) (mvT hZ (hw _ (gm 29 rfl))) (mvT hZ (hw _ (gm 30 rfl))) (by decide) (backOf (W := 0) (rmIM l Z a0 hw []  b348 t354 kb354 1 [c0] zC fm T354.heap n0 O358 SC hzC Eb354 Vb354 Cb354 Ab354 rfl (by decide) hpc SP hfm) hZ (hw _ (gm 30 rfl)) (hw _ (gm 29 rfl)) (by decide) (by decide)) (g := (mkF m 285 #[.val (.long p1), .second, .val (.long p2), .second, vI p3, vI 1, vR b294, vI c0, vI c1, vI c2, vI c3, vI c4, vI c5, vI c6, vI sv0, vI 0] [(.ref b348)])) rfl (by rw [hml]; rfl) (argsL := [(.ref b348)]) (rest := []) (lenOf pd_4 rfl) rfl (by show 2 * 0 + _ ≤ _; exact Nat.le_of_eq rfl) (hb hby at_285) (fun _ _ => ⟨rfl, rfl, (by decide : 3 + 0 ≤ _), (by decide : 6 + 0 ≤ _)⟩)
    dsimp only [Pt.U, Pt.locs, Pt.cells, Pt.slots] at X360 l360 y360 z360 st360 hQ360
    subst l360 y360 z360
    obtain ⟨rfl, Nq360, hh360⟩ := hQ360
    have N360 := Fr.app N354 Nq360
    have k361 : Rch p e below S0 T360 (mkF m 288 #[.val (.long p1), .second, .val (.long p2), .second, vI p3, vI 1, vR b294, vI c0, vI c1, vI c2, vI c3, vI c4, vI c5, vI c6, vI sv0, vI 0] [(.int (0 : Int32))]) := fun t h => k355 t (st360 t (by rw [hbm]; exact h))
    obtain ⟨lo360, Y360, M360⟩ : ∃ lo, Stand p l e room_1 (s.setVm s.vm) m #[(.long p1), (.long p2), (.int p3)] below meth c T360 lo 3 6 ∧ Fr n0 lo := ⟨_, X360, N360⟩
    clear X360 N360
    clear hbm
    have k362 : Rch p e below S0 T360 (mkF m 298 #[.val (.long p1), .second, .val (.long p2), .second, vI p3, vI 1, vR b294, vI c0, vI c1, vI c2, vI c3, vI c4, vI c5, vI c6, vI sv0, vI 0] [(.int (1 : Int32))]) := fun t h => k361 t (by
        show Steps p.tables e below (T360.setTop (mkF m 288 #[.val (.long p1), .second, .val (.long p2), .second, vI p3, vI 1, vR b294, vI c0, vI c1, vI c2, vI c3, vI c4, vI c5, vI c6, vI sv0, vI 0] [(.int (0 : Int32))])) _
        refine XS.iload Y360.here hx rfl (hb hby at_288) rfl ?_
        refine XS.icmpNo Y360.here hx rfl (hb hby at_290) rfl (teq (by decide : (0 : Int32) = (0 : Int32))).2 ?_
        refine XS.iconst Y360.here hx rfl (hb hby at_293) ?_
        refine XS.goto Y360.here hx rfl (pc0 := 294) (pc' := 298) rfl (hb hby at_294) (by decide) (by decide) ?_
        exact h)
    obtain ⟨fs, hr, hrun, hended, hfin⟩ := Y360.leaveW hS (by rw [hh360]; exact hkk359) (v := (some (.int (1 : Int32)))) (fun h => by rw [Bd.returns] at h; cases h)
    refine ⟨_, _, ?_, hrun, hended, _, _, rfl, ?_, (by rw [hh]; have q := own_chr rC356 (CHv.at Y360 hZ hEL hC356) hh360; exact q), hfin.1, hfin.2.1, hfin.2.2.1, hfin.2.2.2.mono (by decide) (by decide)⟩
    · rw [← hS0]
      refine k362 _ ?_
      show Steps p.tables e below (T360.setTop (mkF m 298 #[.val (.long p1), .second, .val (.long p2), .second, vI p3, vI 1, vR b294, vI c0, vI c1, vI c2, vI c3, vI c4, vI c5, vI c6, vI sv0, vI 0] [(.int (1 : Int32))])) _
      exact retN Y360 hx (t := .boolean) Bd.returns (by simp) (hb hby at_298) hr
    · show Q_rm0_1 Z  h0 n0 _ T360.heap _
      rw [hh360]
      exact ⟨rfl, M360⟩
def Q_rm0_2 (Z : State)  (h0 : Heap) (n0 : Nat) (v : Option Value) (h : Heap) (L : List Loc) : Prop := v = some (.int (1 : Int32)) ∧ Fr n0 L
set_option maxRecDepth 65536 in
set_option maxHeartbeats 40000000 in
theorem rm0_2 (l : Launch) (Z : State) (a0 : Array Value) (hw : ∀ d ∈ tables_1, d.before a0 Z = true) (ws : List Jvm.Cond) (p1 : Int64) (p2 : Int64) (p3 : Int32) (zC : Int32) (fm : Value) (h0 : Heap) (n0 : Nat) (O0 : Old Z n0 h0) (SC : Sta Z Z.heap "java/lang/String" "COMPACT_STRINGS" "Z" (.int zC)) (hzC : ¬ zC = 0) (SP : Sta Z Z.heap "jdk/internal/util/Preconditions" "SIOOBE_FORMATTER" "Ljava/util/function/BiFunction;" fm) (hfm : fm = .null ∨ ∃ wP, fm = .ref wP) (hlen : p3 &&& 7 = (2 : Int32)) :
    MetFree l x (head1 (Jvm.Cond.code x code maxLocals ret :: ws) room_1) (fun a U => a = #[(.long p1), (.long p2), (.int p3)] ∧ Z.Warmed39 U.vm ∧ U.heap = h0 ∧ CHv Z consts_1 U.vm h0) (fun _ _ _ _ _ => True) (fun _ U o U' => ∃ v L, o = .returned v ∧ Q_rm0_2 Z  h0 n0 v U'.heap L ∧ CHr Z consts_1 U.vm U.heap U'.vm U'.heap ∧ ReturnedEndW U o U' L room_1.cells room_1.slots) := by
  refine MetFree.of_bodySF (plainFor_of_name pn_EntryNameIsMemberPinLaw) hisR ?_
  intro p e s m args below meth c s₁ Bd hml0 hP hK
  obtain ⟨rfl, hZ, hh, hC0⟩ := hP
  have hx := Bd.exec
  have hby := Bd.bytes
  have hml : c.maxLocals = 16 := hml0
  have hown : s.vm.findClass "com/example/nuthatch/nuthatch/EntryNameIsMemberPinLaw" = some m.cls := findClass_of_methodNamed Bd.named
  have hnm := (name_of_methodNamed Bd.named Bd.method).1
  have X0 : Stand p l e room_1 (s.setVm s.vm) m #[(.long p1), (.long p2), (.int p3)] below meth c s₁ [] 0 0 := Stand.of_body Bd
  have e0 : s₁.heap = h0 := by rw [← hh, Bd.state]; rfl
  have N0 := Fr.nil n0
  obtain ⟨S0, hS0⟩ : ∃ z, z = s₁.setTop (entryFrame m #[(.long p1), (.long p2), (.int p3)] maxLocals) := ⟨_, rfl⟩
  have k0 : Rch p e below S0 s₁ (mkF m 0 #[.val (.long p1), .second, .val (.long p2), .second, vI p3, vU, vU, vU, vU, vU, vU, vU, vU, vU, vU, vU] []) := fun t kq => hS0 ▸ castTop (ef_0 m p1 p2 p3) kq
  have hS : s.Since s.vm s.heap.size := (State.WarmedH.refl s).since _
  have hk : s.heap.size ≤ h0.size := by rw [← hh]; exact Nat.le_refl _
  have hwS : ∀ d ∈ Bundle.stringAtoms, d.before a0 Z = true := fun d hd => hw d ((by decide +kernel : ∀ d ∈ Bundle.stringAtoms, d ∈ tables_1) d hd)
  have rC0 : CHr Z consts_1 s.vm h0 s.vm h0 := CHr.refl hC0
  have hEL : EW Z a0 consts_1 := (EW.cons (hw _ (gm 19 rfl)) (by decide +kernel) EW.nil)
  have k364 : Rch p e below S0 s₁ (mkF m 9 #[.val (.long p1), .second, .val (.long p2), .second, vI p3, vI 2, vU, vU, vU, vU, vU, vU, vU, vU, vU, vU] [(.int (2 : Int32))]) := fun t h => k0 t (by
      show Steps p.tables e below (s₁.setTop (mkF m 0 #[.val (.long p1), .second, .val (.long p2), .second, vI p3, vU, vU, vU, vU, vU, vU, vU, vU, vU, vU, vU] [])) _
      refine XS.iload X0.here hx rfl (hb hby at_0) rfl ?_
      refine XS.bipush X0.here hx rfl (hb hby at_2) ?_
      show Steps p.tables e below (s₁.setTop (mkF m 4 #[.val (.long p1), .second, .val (.long p2), .second, vI p3, vU, vU, vU, vU, vU, vU, vU, vU, vU, vU, vU] [(.int (7 : Int32)), (.int p3)])) _
      refine XS.iand X0.here hx rfl (hb hby at_4) rfl ?_
      rw [hlen]
      refine XS.istore X0.here hx rfl (hb hby at_5) rfl (l' := #[.val (.long p1), .second, .val (.long p2), .second, vI p3, vI 2, vU, vU, vU, vU, vU, vU, vU, vU, vU, vU]) rfl ?_
      refine XS.iload X0.here hx rfl (hb hby at_7) rfl ?_
      exact h)
  obtain ⟨T363, h363, k363, X363, e363, E363, A363, st363⟩ := newP X0 hx hZ (hw _ (gm 0 rfl)) e0 (g := (mkF m 9 #[.val (.long p1), .second, .val (.long p2), .second, vI p3, vI 2, vU, vU, vU, vU, vU, vU, vU, vU, vU, vU] [(.int (2 : Int32))])) rfl (hb hby at_9) rfl (by decide) (cap := 2) (by decide) (by decide) (by decide) (by decide)
  obtain ⟨b363, g363⟩ : ∃ z, z = h0.size := ⟨_, rfl⟩
  rw [← g363] at A363 st363
  have k365 : Rch p e below S0 T363 (mkF m 11 #[.val (.long p1), .second, .val (.long p2), .second, vI p3, vI 2, vU, vU, vU, vU, vU, vU, vU, vU, vU, vU] [(.ref b363)]) := fun t h => k364 t (st363 t h)
  have ge_b363 : n0 ≤ b363 := own_ge O0 (Nat.le_of_eq g363.symm)
  have sf_b363 : Safe Z consts_1 s.vm h0 b363 := Safe.new (Nat.le_of_eq g363.symm)
  replace sf_b363 := Safe.ext E363 hC0 sf_b363
  have hC366 := hC0.ext E363
  have rC366 := rC0.trans (CHr.ext E363 hC0)
  have O367 := O0.ext E363
  have hkk368 := Nat.le_trans hk E363.1
  have V_b363 : Arv Z h363 b363 k363 .char (2 : Int32) [(.int (0 : Int32)), (.int (0 : Int32))] (.int (0 : Int32)) := (Arv.new A363 (by decide)).pad (pad_rep [] (.int (0 : Int32)) 2)
  have k369 : Rch p e below S0 T363 (mkF m 14 #[.val (.long p1), .second, .val (.long p2), .second, vI p3, vI 2, vR b363, vU, vU, vU, vU, vU, vU, vU, vU, vU] [(.long p1)]) := fun t h => k365 t (by
      show Steps p.tables e below (T363.setTop (mkF m 11 #[.val (.long p1), .second, .val (.long p2), .second, vI p3, vI 2, vU, vU, vU, vU, vU, vU, vU, vU, vU, vU] [(.ref b363)])) _
      refine XS.astore X363.here hx rfl (hb hby at_11) rfl rfl (l' := #[.val (.long p1), .second, .val (.long p2), .second, vI p3, vI 2, vR b363, vU, vU, vU, vU, vU, vU, vU, vU, vU]) rfl ?_
      refine XS.lloadN X363.here hx rfl (hb hby at_13) rfl ?_
      exact h)
  obtain ⟨_, _, ⟨T370, L370, kk370, n370⟩, -, X370, ⟨Lc370, hQ370, l370, y370, z370⟩, st370⟩ := Jvm.LawKit.callS X363 hx (y := (⟨"com/example/nuthatch/nuthatch/EntryNameIsMemberPinLaw", "ch", "(J)C"⟩ : MethodName)) hown (mvT hZ (hw _ (gm 1 rfl))) (mvT hZ (hw _ (gm 2 rfl))) (mvT hZ (hw _ (gm 3 rfl))) (mvT hZ (hw _ (gm 4 rfl))) (by decide) (backOf (W := 0) (rmCh l Z a0 hw [] p1  h363 n0 O367 ) hZ (hw _ (gm 4 rfl)) (hw _ (gm 3 rfl)) (by decide) (by decide)) (g := (mkF m 14 #[.val (.long p1), .second, .val (.long p2), .second, vI p3, vI 2, vR b363, vU, vU, vU, vU, vU, vU, vU, vU, vU] [(.long p1)])) rfl (by rw [hml]; rfl) (argsL := [(.long p1)]) (rest := []) (lenOf pd_0 rfl) rfl (by show 2 * 0 + _ ≤ _; exact Nat.le_of_eq rfl) (hb hby at_14) (fun _ _ => ⟨rfl, e363, (by decide : 1 + 0 ≤ _), (by decide : 2 + 0 ≤ _)⟩)
  dsimp only [Pt.U, Pt.locs, Pt.cells, Pt.slots] at X370 l370 y370 z370 st370 hQ370
  subst l370 y370 z370
  obtain ⟨c0, rfl, Nq370, hh370, hc0⟩ := hQ370
  have N370 := Fr.app N0 Nq370
  have k371 : Rch p e below S0 T370 (mkF m 17 #[.val (.long p1), .second, .val (.long p2), .second, vI p3, vI 2, vR b363, vU, vU, vU, vU, vU, vU, vU, vU, vU] [(.int c0)]) := fun t h => k369 t (st370 t h)
  obtain ⟨lo370, Y370, M370⟩ : ∃ lo, Stand p l e room_1 (s.setVm s.vm) m #[(.long p1), (.long p2), (.int p3)] below meth c T370 lo 1 2 ∧ Fr n0 lo := ⟨_, X370, N370⟩
  clear X370 N370
  have k372 : Rch p e below S0 T370 (mkF m 23 #[.val (.long p1), .second, .val (.long p2), .second, vI p3, vI 2, vR b363, vI c0, vU, vU, vU, vU, vU, vU, vU, vU] [(.long ((p1.toUInt64 >>> ((10 : Int32) &&& 0x3f).toInt64.toUInt64).toInt64))]) := fun t h => k371 t (by
      show Steps p.tables e below (T370.setTop (mkF m 17 #[.val (.long p1), .second, .val (.long p2), .second, vI p3, vI 2, vR b363, vU, vU, vU, vU, vU, vU, vU, vU, vU] [(.int c0)])) _
      refine XS.istore Y370.here hx rfl (hb hby at_17) rfl (l' := #[.val (.long p1), .second, .val (.long p2), .second, vI p3, vI 2, vR b363, vI c0, vU, vU, vU, vU, vU, vU, vU, vU]) rfl ?_
      refine XS.lloadN Y370.here hx rfl (hb hby at_19) rfl ?_
      refine XS.bipush Y370.here hx rfl (hb hby at_20) ?_
      refine XS.lushr Y370.here hx rfl (hb hby at_22) rfl ?_
      exact h)
  obtain ⟨_, _, ⟨T373, L373, kk373, n373⟩, -, X373, ⟨Lc373, hQ373, l373, y373, z373⟩, st373⟩ := Jvm.LawKit.callS Y370 hx (y := (⟨"com/example/nuthatch/nuthatch/EntryNameIsMemberPinLaw", "ch", "(J)C"⟩ : MethodName)) hown (mvT hZ (hw _ (gm 1 rfl))) (mvT hZ (hw _ (gm 2 rfl))) (mvT hZ (hw _ (gm 3 rfl))) (mvT hZ (hw _ (gm 4 rfl))) (by decide) (backOf (W := 0) (rmCh l Z a0 hw [] ((p1.toUInt64 >>> ((10 : Int32) &&& 0x3f).toInt64.toUInt64).toInt64)  h363 n0 O367 ) hZ (hw _ (gm 4 rfl)) (hw _ (gm 3 rfl)) (by decide) (by decide)) (g := (mkF m 23 #[.val (.long p1), .second, .val (.long p2), .second, vI p3, vI 2, vR b363, vI c0, vU, vU, vU, vU, vU, vU, vU, vU] [(.long ((p1.toUInt64 >>> ((10 : Int32) &&& 0x3f).toInt64.toUInt64).toInt64))])) rfl (by rw [hml]; rfl) (argsL := [(.long ((p1.toUInt64 >>> ((10 : Int32) &&& 0x3f).toInt64.toUInt64).toInt64))]) (rest := []) (lenOf pd_0 rfl) rfl (by show 2 * 0 + _ ≤ _; exact Nat.le_of_eq rfl) (hb hby at_23) (fun _ _ => ⟨rfl, hh370, (by decide : 1 + 0 ≤ _), (by decide : 2 + 0 ≤ _)⟩)
  dsimp only [Pt.U, Pt.locs, Pt.cells, Pt.slots] at X373 l373 y373 z373 st373 hQ373
  subst l373 y373 z373
  obtain ⟨c1, rfl, Nq373, hh373, hc1⟩ := hQ373
  have N373 := Fr.app M370 Nq373
  have k374 : Rch p e below S0 T373 (mkF m 26 #[.val (.long p1), .second, .val (.long p2), .second, vI p3, vI 2, vR b363, vI c0, vU, vU, vU, vU, vU, vU, vU, vU] [(.int c1)]) := fun t h => k372 t (st373 t h)
  obtain ⟨lo373, Y373, M373⟩ : ∃ lo, Stand p l e room_1 (s.setVm s.vm) m #[(.long p1), (.long p2), (.int p3)] below meth c T373 lo 1 2 ∧ Fr n0 lo := ⟨_, X373, N373⟩
  clear X373 N373
  have k375 : Rch p e below S0 T373 (mkF m 32 #[.val (.long p1), .second, .val (.long p2), .second, vI p3, vI 2, vR b363, vI c0, vI c1, vU, vU, vU, vU, vU, vU, vU] [(.long ((p1.toUInt64 >>> ((20 : Int32) &&& 0x3f).toInt64.toUInt64).toInt64))]) := fun t h => k374 t (by
      show Steps p.tables e below (T373.setTop (mkF m 26 #[.val (.long p1), .second, .val (.long p2), .second, vI p3, vI 2, vR b363, vI c0, vU, vU, vU, vU, vU, vU, vU, vU] [(.int c1)])) _
      refine XS.istore Y373.here hx rfl (hb hby at_26) rfl (l' := #[.val (.long p1), .second, .val (.long p2), .second, vI p3, vI 2, vR b363, vI c0, vI c1, vU, vU, vU, vU, vU, vU, vU]) rfl ?_
      refine XS.lloadN Y373.here hx rfl (hb hby at_28) rfl ?_
      refine XS.bipush Y373.here hx rfl (hb hby at_29) ?_
      refine XS.lushr Y373.here hx rfl (hb hby at_31) rfl ?_
      exact h)
  obtain ⟨_, _, ⟨T376, L376, kk376, n376⟩, -, X376, ⟨Lc376, hQ376, l376, y376, z376⟩, st376⟩ := Jvm.LawKit.callS Y373 hx (y := (⟨"com/example/nuthatch/nuthatch/EntryNameIsMemberPinLaw", "ch", "(J)C"⟩ : MethodName)) hown (mvT hZ (hw _ (gm 1 rfl))) (mvT hZ (hw _ (gm 2 rfl))) (mvT hZ (hw _ (gm 3 rfl))) (mvT hZ (hw _ (gm 4 rfl))) (by decide) (backOf (W := 0) (rmCh l Z a0 hw [] ((p1.toUInt64 >>> ((20 : Int32) &&& 0x3f).toInt64.toUInt64).toInt64)  h363 n0 O367 ) hZ (hw _ (gm 4 rfl)) (hw _ (gm 3 rfl)) (by decide) (by decide)) (g := (mkF m 32 #[.val (.long p1), .second, .val (.long p2), .second, vI p3, vI 2, vR b363, vI c0, vI c1, vU, vU, vU, vU, vU, vU, vU] [(.long ((p1.toUInt64 >>> ((20 : Int32) &&& 0x3f).toInt64.toUInt64).toInt64))])) rfl (by rw [hml]; rfl) (argsL := [(.long ((p1.toUInt64 >>> ((20 : Int32) &&& 0x3f).toInt64.toUInt64).toInt64))]) (rest := []) (lenOf pd_0 rfl) rfl (by show 2 * 0 + _ ≤ _; exact Nat.le_of_eq rfl) (hb hby at_32) (fun _ _ => ⟨rfl, hh373, (by decide : 1 + 0 ≤ _), (by decide : 2 + 0 ≤ _)⟩)
  dsimp only [Pt.U, Pt.locs, Pt.cells, Pt.slots] at X376 l376 y376 z376 st376 hQ376
  subst l376 y376 z376
  obtain ⟨c2, rfl, Nq376, hh376, hc2⟩ := hQ376
  have N376 := Fr.app M373 Nq376
  have k377 : Rch p e below S0 T376 (mkF m 35 #[.val (.long p1), .second, .val (.long p2), .second, vI p3, vI 2, vR b363, vI c0, vI c1, vU, vU, vU, vU, vU, vU, vU] [(.int c2)]) := fun t h => k375 t (st376 t h)
  obtain ⟨lo376, Y376, M376⟩ : ∃ lo, Stand p l e room_1 (s.setVm s.vm) m #[(.long p1), (.long p2), (.int p3)] below meth c T376 lo 1 2 ∧ Fr n0 lo := ⟨_, X376, N376⟩
  clear X376 N376
  have k378 : Rch p e below S0 T376 (mkF m 41 #[.val (.long p1), .second, .val (.long p2), .second, vI p3, vI 2, vR b363, vI c0, vI c1, vI c2, vU, vU, vU, vU, vU, vU] [(.long ((p1.toUInt64 >>> ((30 : Int32) &&& 0x3f).toInt64.toUInt64).toInt64))]) := fun t h => k377 t (by
      show Steps p.tables e below (T376.setTop (mkF m 35 #[.val (.long p1), .second, .val (.long p2), .second, vI p3, vI 2, vR b363, vI c0, vI c1, vU, vU, vU, vU, vU, vU, vU] [(.int c2)])) _
      refine XS.istore Y376.here hx rfl (hb hby at_35) rfl (l' := #[.val (.long p1), .second, .val (.long p2), .second, vI p3, vI 2, vR b363, vI c0, vI c1, vI c2, vU, vU, vU, vU, vU, vU]) rfl ?_
      refine XS.lloadN Y376.here hx rfl (hb hby at_37) rfl ?_
      refine XS.bipush Y376.here hx rfl (hb hby at_38) ?_
      refine XS.lushr Y376.here hx rfl (hb hby at_40) rfl ?_
      exact h)
  obtain ⟨_, _, ⟨T379, L379, kk379, n379⟩, -, X379, ⟨Lc379, hQ379, l379, y379, z379⟩, st379⟩ := Jvm.LawKit.callS Y376 hx (y := (⟨"com/example/nuthatch/nuthatch/EntryNameIsMemberPinLaw", "ch", "(J)C"⟩ : MethodName)) hown (mvT hZ (hw _ (gm 1 rfl))) (mvT hZ (hw _ (gm 2 rfl))) (mvT hZ (hw _ (gm 3 rfl))) (mvT hZ (hw _ (gm 4 rfl))) (by decide) (backOf (W := 0) (rmCh l Z a0 hw [] ((p1.toUInt64 >>> ((30 : Int32) &&& 0x3f).toInt64.toUInt64).toInt64)  h363 n0 O367 ) hZ (hw _ (gm 4 rfl)) (hw _ (gm 3 rfl)) (by decide) (by decide)) (g := (mkF m 41 #[.val (.long p1), .second, .val (.long p2), .second, vI p3, vI 2, vR b363, vI c0, vI c1, vI c2, vU, vU, vU, vU, vU, vU] [(.long ((p1.toUInt64 >>> ((30 : Int32) &&& 0x3f).toInt64.toUInt64).toInt64))])) rfl (by rw [hml]; rfl) (argsL := [(.long ((p1.toUInt64 >>> ((30 : Int32) &&& 0x3f).toInt64.toUInt64).toInt64))]) (rest := []) (lenOf pd_0 rfl) rfl (by show 2 * 0 + _ ≤ _; exact Nat.le_of_eq rfl) (hb hby at_41) (fun _ _ => ⟨rfl, hh376, (by decide : 1 + 0 ≤ _), (by decide : 2 + 0 ≤ _)⟩)
  dsimp only [Pt.U, Pt.locs, Pt.cells, Pt.slots] at X379 l379 y379 z379 st379 hQ379
  subst l379 y379 z379
  obtain ⟨c3, rfl, Nq379, hh379, hc3⟩ := hQ379
  have N379 := Fr.app M376 Nq379
  have k380 : Rch p e below S0 T379 (mkF m 44 #[.val (.long p1), .second, .val (.long p2), .second, vI p3, vI 2, vR b363, vI c0, vI c1, vI c2, vU, vU, vU, vU, vU, vU] [(.int c3)]) := fun t h => k378 t (st379 t h)
  obtain ⟨lo379, Y379, M379⟩ : ∃ lo, Stand p l e room_1 (s.setVm s.vm) m #[(.long p1), (.long p2), (.int p3)] below meth c T379 lo 1 2 ∧ Fr n0 lo := ⟨_, X379, N379⟩
  clear X379 N379
  have k381 : Rch p e below S0 T379 (mkF m 50 #[.val (.long p1), .second, .val (.long p2), .second, vI p3, vI 2, vR b363, vI c0, vI c1, vI c2, vI c3, vU, vU, vU, vU, vU] [(.long ((p1.toUInt64 >>> ((40 : Int32) &&& 0x3f).toInt64.toUInt64).toInt64))]) := fun t h => k380 t (by
      show Steps p.tables e below (T379.setTop (mkF m 44 #[.val (.long p1), .second, .val (.long p2), .second, vI p3, vI 2, vR b363, vI c0, vI c1, vI c2, vU, vU, vU, vU, vU, vU] [(.int c3)])) _
      refine XS.istore Y379.here hx rfl (hb hby at_44) rfl (l' := #[.val (.long p1), .second, .val (.long p2), .second, vI p3, vI 2, vR b363, vI c0, vI c1, vI c2, vI c3, vU, vU, vU, vU, vU]) rfl ?_
      refine XS.lloadN Y379.here hx rfl (hb hby at_46) rfl ?_
      refine XS.bipush Y379.here hx rfl (hb hby at_47) ?_
      refine XS.lushr Y379.here hx rfl (hb hby at_49) rfl ?_
      exact h)
  obtain ⟨_, _, ⟨T382, L382, kk382, n382⟩, -, X382, ⟨Lc382, hQ382, l382, y382, z382⟩, st382⟩ := Jvm.LawKit.callS Y379 hx (y := (⟨"com/example/nuthatch/nuthatch/EntryNameIsMemberPinLaw", "ch", "(J)C"⟩ : MethodName)) hown (mvT hZ (hw _ (gm 1 rfl))) (mvT hZ (hw _ (gm 2 rfl))) (mvT hZ (hw _ (gm 3 rfl))) (mvT hZ (hw _ (gm 4 rfl))) (by decide) (backOf (W := 0) (rmCh l Z a0 hw [] ((p1.toUInt64 >>> ((40 : Int32) &&& 0x3f).toInt64.toUInt64).toInt64)  h363 n0 O367 ) hZ (hw _ (gm 4 rfl)) (hw _ (gm 3 rfl)) (by decide) (by decide)) (g := (mkF m 50 #[.val (.long p1), .second, .val (.long p2), .second, vI p3, vI 2, vR b363, vI c0, vI c1, vI c2, vI c3, vU, vU, vU, vU, vU] [(.long ((p1.toUInt64 >>> ((40 : Int32) &&& 0x3f).toInt64.toUInt64).toInt64))])) rfl (by rw [hml]; rfl) (argsL := [(.long ((p1.toUInt64 >>> ((40 : Int32) &&& 0x3f).toInt64.toUInt64).toInt64))]) (rest := []) (lenOf pd_0 rfl) rfl (by show 2 * 0 + _ ≤ _; exact Nat.le_of_eq rfl) (hb hby at_50) (fun _ _ => ⟨rfl, hh379, (by decide : 1 + 0 ≤ _), (by decide : 2 + 0 ≤ _)⟩)
  dsimp only [Pt.U, Pt.locs, Pt.cells, Pt.slots] at X382 l382 y382 z382 st382 hQ382
  subst l382 y382 z382
  obtain ⟨c4, rfl, Nq382, hh382, hc4⟩ := hQ382
  have N382 := Fr.app M379 Nq382
  have k383 : Rch p e below S0 T382 (mkF m 53 #[.val (.long p1), .second, .val (.long p2), .second, vI p3, vI 2, vR b363, vI c0, vI c1, vI c2, vI c3, vU, vU, vU, vU, vU] [(.int c4)]) := fun t h => k381 t (st382 t h)
  obtain ⟨lo382, Y382, M382⟩ : ∃ lo, Stand p l e room_1 (s.setVm s.vm) m #[(.long p1), (.long p2), (.int p3)] below meth c T382 lo 1 2 ∧ Fr n0 lo := ⟨_, X382, N382⟩
  clear X382 N382
  have k384 : Rch p e below S0 T382 (mkF m 59 #[.val (.long p1), .second, .val (.long p2), .second, vI p3, vI 2, vR b363, vI c0, vI c1, vI c2, vI c3, vI c4, vU, vU, vU, vU] [(.long ((p1.toUInt64 >>> ((50 : Int32) &&& 0x3f).toInt64.toUInt64).toInt64))]) := fun t h => k383 t (by
      show Steps p.tables e below (T382.setTop (mkF m 53 #[.val (.long p1), .second, .val (.long p2), .second, vI p3, vI 2, vR b363, vI c0, vI c1, vI c2, vI c3, vU, vU, vU, vU, vU] [(.int c4)])) _
      refine XS.istore Y382.here hx rfl (hb hby at_53) rfl (l' := #[.val (.long p1), .second, .val (.long p2), .second, vI p3, vI 2, vR b363, vI c0, vI c1, vI c2, vI c3, vI c4, vU, vU, vU, vU]) rfl ?_
      refine XS.lloadN Y382.here hx rfl (hb hby at_55) rfl ?_
      refine XS.bipush Y382.here hx rfl (hb hby at_56) ?_
      refine XS.lushr Y382.here hx rfl (hb hby at_58) rfl ?_
      exact h)
  obtain ⟨_, _, ⟨T385, L385, kk385, n385⟩, -, X385, ⟨Lc385, hQ385, l385, y385, z385⟩, st385⟩ := Jvm.LawKit.callS Y382 hx (y := (⟨"com/example/nuthatch/nuthatch/EntryNameIsMemberPinLaw", "ch", "(J)C"⟩ : MethodName)) hown (mvT hZ (hw _ (gm 1 rfl))) (mvT hZ (hw _ (gm 2 rfl))) (mvT hZ (hw _ (gm 3 rfl))) (mvT hZ (hw _ (gm 4 rfl))) (by decide) (backOf (W := 0) (rmCh l Z a0 hw [] ((p1.toUInt64 >>> ((50 : Int32) &&& 0x3f).toInt64.toUInt64).toInt64)  h363 n0 O367 ) hZ (hw _ (gm 4 rfl)) (hw _ (gm 3 rfl)) (by decide) (by decide)) (g := (mkF m 59 #[.val (.long p1), .second, .val (.long p2), .second, vI p3, vI 2, vR b363, vI c0, vI c1, vI c2, vI c3, vI c4, vU, vU, vU, vU] [(.long ((p1.toUInt64 >>> ((50 : Int32) &&& 0x3f).toInt64.toUInt64).toInt64))])) rfl (by rw [hml]; rfl) (argsL := [(.long ((p1.toUInt64 >>> ((50 : Int32) &&& 0x3f).toInt64.toUInt64).toInt64))]) (rest := []) (lenOf pd_0 rfl) rfl (by show 2 * 0 + _ ≤ _; exact Nat.le_of_eq rfl) (hb hby at_59) (fun _ _ => ⟨rfl, hh382, (by decide : 1 + 0 ≤ _), (by decide : 2 + 0 ≤ _)⟩)
  dsimp only [Pt.U, Pt.locs, Pt.cells, Pt.slots] at X385 l385 y385 z385 st385 hQ385
  subst l385 y385 z385
  obtain ⟨c5, rfl, Nq385, hh385, hc5⟩ := hQ385
  have N385 := Fr.app M382 Nq385
  have k386 : Rch p e below S0 T385 (mkF m 62 #[.val (.long p1), .second, .val (.long p2), .second, vI p3, vI 2, vR b363, vI c0, vI c1, vI c2, vI c3, vI c4, vU, vU, vU, vU] [(.int c5)]) := fun t h => k384 t (st385 t h)
  obtain ⟨lo385, Y385, M385⟩ : ∃ lo, Stand p l e room_1 (s.setVm s.vm) m #[(.long p1), (.long p2), (.int p3)] below meth c T385 lo 1 2 ∧ Fr n0 lo := ⟨_, X385, N385⟩
  clear X385 N385
  have k387 : Rch p e below S0 T385 (mkF m 65 #[.val (.long p1), .second, .val (.long p2), .second, vI p3, vI 2, vR b363, vI c0, vI c1, vI c2, vI c3, vI c4, vI c5, vU, vU, vU] [(.long p2)]) := fun t h => k386 t (by
      show Steps p.tables e below (T385.setTop (mkF m 62 #[.val (.long p1), .second, .val (.long p2), .second, vI p3, vI 2, vR b363, vI c0, vI c1, vI c2, vI c3, vI c4, vU, vU, vU, vU] [(.int c5)])) _
      refine XS.istore Y385.here hx rfl (hb hby at_62) rfl (l' := #[.val (.long p1), .second, .val (.long p2), .second, vI p3, vI 2, vR b363, vI c0, vI c1, vI c2, vI c3, vI c4, vI c5, vU, vU, vU]) rfl ?_
      refine XS.lloadN Y385.here hx rfl (hb hby at_64) rfl ?_
      exact h)
  obtain ⟨_, _, ⟨T388, L388, kk388, n388⟩, -, X388, ⟨Lc388, hQ388, l388, y388, z388⟩, st388⟩ := Jvm.LawKit.callS Y385 hx (y := (⟨"com/example/nuthatch/nuthatch/EntryNameIsMemberPinLaw", "ch", "(J)C"⟩ : MethodName)) hown (mvT hZ (hw _ (gm 1 rfl))) (mvT hZ (hw _ (gm 2 rfl))) (mvT hZ (hw _ (gm 3 rfl))) (mvT hZ (hw _ (gm 4 rfl))) (by decide) (backOf (W := 0) (rmCh l Z a0 hw [] p2  h363 n0 O367 ) hZ (hw _ (gm 4 rfl)) (hw _ (gm 3 rfl)) (by decide) (by decide)) (g := (mkF m 65 #[.val (.long p1), .second, .val (.long p2), .second, vI p3, vI 2, vR b363, vI c0, vI c1, vI c2, vI c3, vI c4, vI c5, vU, vU, vU] [(.long p2)])) rfl (by rw [hml]; rfl) (argsL := [(.long p2)]) (rest := []) (lenOf pd_0 rfl) rfl (by show 2 * 0 + _ ≤ _; exact Nat.le_of_eq rfl) (hb hby at_65) (fun _ _ => ⟨rfl, hh385, (by decide : 1 + 0 ≤ _), (by decide : 2 + 0 ≤ _)⟩)
  dsimp only [Pt.U, Pt.locs, Pt.cells, Pt.slots] at X388 l388 y388 z388 st388 hQ388
  subst l388 y388 z388
  obtain ⟨c6, rfl, Nq388, hh388, hc6⟩ := hQ388
  have N388 := Fr.app M385 Nq388
  have k389 : Rch p e below S0 T388 (mkF m 68 #[.val (.long p1), .second, .val (.long p2), .second, vI p3, vI 2, vR b363, vI c0, vI c1, vI c2, vI c3, vI c4, vI c5, vU, vU, vU] [(.int c6)]) := fun t h => k387 t (st388 t h)
  obtain ⟨lo388, Y388, M388⟩ : ∃ lo, Stand p l e room_1 (s.setVm s.vm) m #[(.long p1), (.long p2), (.int p3)] below meth c T388 lo 1 2 ∧ Fr n0 lo := ⟨_, X388, N388⟩
  clear X388 N388
  have k391 : Rch p e below S0 T388 (mkF m 80 #[.val (.long p1), .second, .val (.long p2), .second, vI p3, vI 2, vR b363, vI c0, vI c1, vI c2, vI c3, vI c4, vI c5, vI c6, vU, vU] [(.int c0), (.int (0 : Int32)), (.ref b363)]) := fun t h => k389 t (by
      show Steps p.tables e below (T388.setTop (mkF m 68 #[.val (.long p1), .second, .val (.long p2), .second, vI p3, vI 2, vR b363, vI c0, vI c1, vI c2, vI c3, vI c4, vI c5, vU, vU, vU] [(.int c6)])) _
      refine XS.istore Y388.here hx rfl (hb hby at_68) rfl (l' := #[.val (.long p1), .second, .val (.long p2), .second, vI p3, vI 2, vR b363, vI c0, vI c1, vI c2, vI c3, vI c4, vI c5, vI c6, vU, vU]) rfl ?_
      refine XS.iload Y388.here hx rfl (hb hby at_70) rfl ?_
      refine XS.ifNo Y388.here hx rfl (hb hby at_72) rfl ((if0 _ _).trans (tlt (by decide : (0 : Int32) < (2 : Int32))).2.2.2) ?_
      refine XS.aload Y388.here hx rfl (hb hby at_75) rfl rfl ?_
      refine XS.iconst Y388.here hx rfl (hb hby at_77) ?_
      refine XS.iload Y388.here hx rfl (hb hby at_78) rfl ?_
      exact h)
  obtain ⟨cl390, Ar390, q390, Sz390, Ng390, Hs390, G390⟩ := id V_b363
  have hin390 : ¬ ((0 : Int32) < 0 ∨ cl390.slots.size ≤ ((0 : Int32)).toNatClampNeg) := inb_of Sz390 ⟨by decide, by decide⟩
  obtain ⟨T390, h390, X390, e390, W390, st390⟩ := stC Y388 hx hZ hh388 Ar390 (j := (0 : Int32)) hin390 (g := (mkF m 80 #[.val (.long p1), .second, .val (.long p2), .second, vI p3, vI 2, vR b363, vI c0, vI c1, vI c2, vI c3, vI c4, vI c5, vI c6, vU, vU] [(.int c0), (.int (0 : Int32)), (.ref b363)])) rfl rfl (hb hby at_80)
  have k392 : Rch p e below S0 T390 (mkF m 81 #[.val (.long p1), .second, .val (.long p2), .second, vI p3, vI 2, vR b363, vI c0, vI c1, vI c2, vI c3, vI c4, vI c5, vI c6, vU, vU] []) := fun t h => k391 t (st390 t h)
  have N390 := Fr.snoc X390 M388 ge_b363
  have V_b363' := Arv.set Ar390 q390 Sz390 Ng390 Hs390 G390 (fits_nar_char _) W390 0 rfl (Nat.le_of_ble_eq_true rfl)
  replace V_b363 : Arv Z h390 b363 k363 .char (2 : Int32) [(.int c0), (.int (0 : Int32))] (.int (0 : Int32)) := (by have q := V_b363'; rw [(own_nar c0 hc0).1] at q; exact q)
  have hC393 := hC366.wr W390 sf_b363
  have rC393 := rC366.trans (CHr.wr W390 sf_b363 hC366)
  replace sf_b363 := Safe.wr W390 sf_b363 hC366 sf_b363
  have O394 := O367.wr W390 ge_b363
  have hkk395 := Nat.le_trans hkk368 (Keep.of_wr W390).1
  have k397 : Rch p e below S0 T390 (mkF m 92 #[.val (.long p1), .second, .val (.long p2), .second, vI p3, vI 2, vR b363, vI c0, vI c1, vI c2, vI c3, vI c4, vI c5, vI c6, vU, vU] [(.int c1), (.int (1 : Int32)), (.ref b363)]) := fun t h => k392 t (by
      show Steps p.tables e below (T390.setTop (mkF m 81 #[.val (.long p1), .second, .val (.long p2), .second, vI p3, vI 2, vR b363, vI c0, vI c1, vI c2, vI c3, vI c4, vI c5, vI c6, vU, vU] [])) _
      refine XS.iload X390.here hx rfl (hb hby at_81) rfl ?_
      refine XS.iconst X390.here hx rfl (hb hby at_83) ?_
      refine XS.icmpNo X390.here hx rfl (hb hby at_84) rfl (tlt (by decide : (1 : Int32) < (2 : Int32))).2.2.2 ?_
      refine XS.aload X390.here hx rfl (hb hby at_87) rfl rfl ?_
      refine XS.iconst X390.here hx rfl (hb hby at_89) ?_
      refine XS.iload X390.here hx rfl (hb hby at_90) rfl ?_
      exact h)
  obtain ⟨cl396, Ar396, q396, Sz396, Ng396, Hs396, G396⟩ := id V_b363
  have hin396 : ¬ ((1 : Int32) < 0 ∨ cl396.slots.size ≤ ((1 : Int32)).toNatClampNeg) := inb_of Sz396 ⟨by decide, by decide⟩
  obtain ⟨T396, h396, X396, e396, W396, st396⟩ := stC X390 hx hZ e390 Ar396 (j := (1 : Int32)) hin396 (g := (mkF m 92 #[.val (.long p1), .second, .val (.long p2), .second, vI p3, vI 2, vR b363, vI c0, vI c1, vI c2, vI c3, vI c4, vI c5, vI c6, vU, vU] [(.int c1), (.int (1 : Int32)), (.ref b363)])) rfl rfl (hb hby at_92)
  have k398 : Rch p e below S0 T396 (mkF m 93 #[.val (.long p1), .second, .val (.long p2), .second, vI p3, vI 2, vR b363, vI c0, vI c1, vI c2, vI c3, vI c4, vI c5, vI c6, vU, vU] []) := fun t h => k397 t (st396 t h)
  have N396 := Fr.snoc X396 N390 ge_b363
  have V_b363' := Arv.set Ar396 q396 Sz396 Ng396 Hs396 G396 (fits_nar_char _) W396 1 rfl (Nat.le_of_ble_eq_true rfl)
  replace V_b363 : Arv Z h396 b363 k363 .char (2 : Int32) [(.int c0), (.int c1)] (.int (0 : Int32)) := (by have q := V_b363'; rw [(own_nar c1 hc1).1] at q; exact q)
  have hC399 := hC393.wr W396 sf_b363
  have rC399 := rC393.trans (CHr.wr W396 sf_b363 hC393)
  replace sf_b363 := Safe.wr W396 sf_b363 hC393 sf_b363
  have O400 := O394.wr W396 ge_b363
  have hkk401 := Nat.le_trans hkk395 (Keep.of_wr W396).1
  have k402 : Rch p e below S0 T396 (mkF m 244 #[.val (.long p1), .second, .val (.long p2), .second, vI p3, vI 2, vR b363, vI c0, vI c1, vI c2, vI c3, vI c4, vI c5, vI c6, vI 0, vU] [(.int c1), (.int (0 : Int32))]) := fun t h => k398 t (by
      show Steps p.tables e below (T396.setTop (mkF m 93 #[.val (.long p1), .second, .val (.long p2), .second, vI p3, vI 2, vR b363, vI c0, vI c1, vI c2, vI c3, vI c4, vI c5, vI c6, vU, vU] [])) _
      refine XS.iload X396.here hx rfl (hb hby at_93) rfl ?_
      refine XS.iconst X396.here hx rfl (hb hby at_95) ?_
      refine XS.icmpYes X396.here hx rfl (pc0 := 96) (pc' := 105) rfl (hb hby at_96) rfl (flt (by decide : ¬ ((2 : Int32) < (2 : Int32)))).2.2.2 (by decide) (by decide) ?_
      refine XS.iload X396.here hx rfl (hb hby at_105) rfl ?_
      refine XS.iconst X396.here hx rfl (hb hby at_107) ?_
      refine XS.icmpYes X396.here hx rfl (pc0 := 108) (pc' := 117) rfl (hb hby at_108) rfl (flt (by decide : ¬ ((3 : Int32) < (2 : Int32)))).2.2.2 (by decide) (by decide) ?_
      refine XS.iload X396.here hx rfl (hb hby at_117) rfl ?_
      refine XS.iconst X396.here hx rfl (hb hby at_119) ?_
      refine XS.icmpYes X396.here hx rfl (pc0 := 120) (pc' := 129) rfl (hb hby at_120) rfl (flt (by decide : ¬ ((4 : Int32) < (2 : Int32)))).2.2.2 (by decide) (by decide) ?_
      refine XS.iload X396.here hx rfl (hb hby at_129) rfl ?_
      refine XS.iconst X396.here hx rfl (hb hby at_131) ?_
      refine XS.icmpYes X396.here hx rfl (pc0 := 132) (pc' := 141) rfl (hb hby at_132) rfl (flt (by decide : ¬ ((5 : Int32) < (2 : Int32)))).2.2.2 (by decide) (by decide) ?_
      refine XS.iload X396.here hx rfl (hb hby at_141) rfl ?_
      refine XS.bipush X396.here hx rfl (hb hby at_143) ?_
      refine XS.icmpYes X396.here hx rfl (pc0 := 145) (pc' := 155) rfl (hb hby at_145) rfl (flt (by decide : ¬ ((6 : Int32) < (2 : Int32)))).2.2.2 (by decide) (by decide) ?_
      refine XS.iconst X396.here hx rfl (hb hby at_155) ?_
      refine XS.istore X396.here hx rfl (hb hby at_156) rfl (l' := #[.val (.long p1), .second, .val (.long p2), .second, vI p3, vI 2, vR b363, vI c0, vI c1, vI c2, vI c3, vI c4, vI c5, vI c6, vI 0, vU]) rfl ?_
      refine XS.iload X396.here hx rfl (hb hby at_158) rfl ?_
      refine XS.bipush X396.here hx rfl (hb hby at_160) ?_
      show Steps p.tables e below (T396.setTop (mkF m 162 #[.val (.long p1), .second, .val (.long p2), .second, vI p3, vI 2, vR b363, vI c0, vI c1, vI c2, vI c3, vI c4, vI c5, vI c6, vI 0, vU] [(.int (6 : Int32)), (.int (2 : Int32))])) _
      refine XS.icmpYes X396.here hx rfl (pc0 := 162) (pc' := 174) rfl (hb hby at_162) rfl (flt (by decide : ¬ ((6 : Int32) < (2 : Int32)))).2.2.2 (by decide) (by decide) ?_
      refine XS.iload X396.here hx rfl (hb hby at_174) rfl ?_
      refine XS.iconst X396.here hx rfl (hb hby at_176) ?_
      refine XS.icmpYes X396.here hx rfl (pc0 := 177) (pc' := 189) rfl (hb hby at_177) rfl (flt (by decide : ¬ ((5 : Int32) < (2 : Int32)))).2.2.2 (by decide) (by decide) ?_
      refine XS.iload X396.here hx rfl (hb hby at_189) rfl ?_
      refine XS.iconst X396.here hx rfl (hb hby at_191) ?_
      refine XS.icmpYes X396.here hx rfl (pc0 := 192) (pc' := 204) rfl (hb hby at_192) rfl (flt (by decide : ¬ ((4 : Int32) < (2 : Int32)))).2.2.2 (by decide) (by decide) ?_
      refine XS.iload X396.here hx rfl (hb hby at_204) rfl ?_
      refine XS.iconst X396.here hx rfl (hb hby at_206) ?_
      refine XS.icmpYes X396.here hx rfl (pc0 := 207) (pc' := 219) rfl (hb hby at_207) rfl (flt (by decide : ¬ ((3 : Int32) < (2 : Int32)))).2.2.2 (by decide) (by decide) ?_
      refine XS.iload X396.here hx rfl (hb hby at_219) rfl ?_
      refine XS.iconst X396.here hx rfl (hb hby at_221) ?_
      refine XS.icmpYes X396.here hx rfl (pc0 := 222) (pc' := 234) rfl (hb hby at_222) rfl (flt (by decide : ¬ ((2 : Int32) < (2 : Int32)))).2.2.2 (by decide) (by decide) ?_
      refine XS.iload X396.here hx rfl (hb hby at_234) rfl ?_
      refine XS.iconst X396.here hx rfl (hb hby at_236) ?_
      refine XS.icmpNo X396.here hx rfl (hb hby at_237) rfl (tlt (by decide : (1 : Int32) < (2 : Int32))).2.2.2 ?_
      refine XS.iload X396.here hx rfl (hb hby at_240) rfl ?_
      refine XS.iload X396.here hx rfl (hb hby at_242) rfl ?_
      exact h)
  obtain ⟨_, _, ⟨T403, L403, kk403, n403⟩, -, X403, ⟨Lc403, hQ403, l403, y403, z403⟩, st403⟩ := Jvm.LawKit.callS X396 hx (y := (⟨"com/example/nuthatch/nuthatch/EntryNameIsMemberPinLaw", "step", "(IC)I"⟩ : MethodName)) hown (mvT hZ (hw _ (gm 71 rfl))) (mvT hZ (hw _ (gm 72 rfl))) (mvT hZ (hw _ (gm 3 rfl))) (mvT hZ (hw _ (gm 73 rfl))) (by decide) (backOf (W := 0) (rmST l Z a0 hw [] (0 : Int32) c1  h396 n0 O400 ) hZ (hw _ (gm 73 rfl)) (hw _ (gm 3 rfl)) (by decide) (by decide)) (g := (mkF m 244 #[.val (.long p1), .second, .val (.long p2), .second, vI p3, vI 2, vR b363, vI c0, vI c1, vI c2, vI c3, vI c4, vI c5, vI c6, vI 0, vU] [(.int c1), (.int (0 : Int32))])) rfl (by rw [hml]; rfl) (argsL := [(.int (0 : Int32)), (.int c1)]) (rest := []) (lenOf pd_13 rfl) rfl (by show 2 * 0 + _ ≤ _; exact Nat.le_of_eq rfl) (hb hby at_244) (fun _ _ => ⟨rfl, e396, (by decide : 1 + 0 ≤ _), (by decide : 2 + 0 ≤ _)⟩)
  dsimp only [Pt.U, Pt.locs, Pt.cells, Pt.slots] at X403 l403 y403 z403 st403 hQ403
  subst l403 y403 z403
  obtain ⟨rfl, Nq403, hh403⟩ := hQ403
  have N403 := Fr.app N396 Nq403
  have k404 : Rch p e below S0 T403 (mkF m 247 #[.val (.long p1), .second, .val (.long p2), .second, vI p3, vI 2, vR b363, vI c0, vI c1, vI c2, vI c3, vI c4, vI c5, vI c6, vI 0, vU] [(.int (own_stI (0 : Int32) (kc c1)))]) := fun t h => k402 t (st403 t h)
  obtain ⟨lo403, Y403, M403⟩ : ∃ lo, Stand p l e room_1 (s.setVm s.vm) m #[(.long p1), (.long p2), (.int p3)] below meth c T403 lo 1 2 ∧ Fr n0 lo := ⟨_, X403, N403⟩
  clear X403 N403
  obtain ⟨sv1, hsv1⟩ : ∃ z : Int32, z = own_stI (0 : Int32) (kc c1) := ⟨_, rfl⟩
  rw [← hsv1] at k404
  have k405 : Rch p e below S0 T403 (mkF m 258 #[.val (.long p1), .second, .val (.long p2), .second, vI p3, vI 2, vR b363, vI c0, vI c1, vI c2, vI c3, vI c4, vI c5, vI c6, vI sv1, vU] [(.int c0), (.int sv1)]) := fun t h => k404 t (by
      show Steps p.tables e below (T403.setTop (mkF m 247 #[.val (.long p1), .second, .val (.long p2), .second, vI p3, vI 2, vR b363, vI c0, vI c1, vI c2, vI c3, vI c4, vI c5, vI c6, vI 0, vU] [(.int sv1)])) _
      refine XS.istore Y403.here hx rfl (hb hby at_247) rfl (l' := #[.val (.long p1), .second, .val (.long p2), .second, vI p3, vI 2, vR b363, vI c0, vI c1, vI c2, vI c3, vI c4, vI c5, vI c6, vI sv1, vU]) rfl ?_
      refine XS.iload Y403.here hx rfl (hb hby at_249) rfl ?_
      refine XS.ifNo Y403.here hx rfl (hb hby at_251) rfl ((if0 _ _).trans (tlt (by decide : (0 : Int32) < (2 : Int32))).2.2.2) ?_
      refine XS.iload Y403.here hx rfl (hb hby at_254) rfl ?_
      refine XS.iload Y403.here hx rfl (hb hby at_256) rfl ?_
      exact h)
  obtain ⟨_, _, ⟨T406, L406, kk406, n406⟩, -, X406, ⟨Lc406, hQ406, l406, y406, z406⟩, st406⟩ := Jvm.LawKit.callS Y403 hx (y := (⟨"com/example/nuthatch/nuthatch/EntryNameIsMemberPinLaw", "step", "(IC)I"⟩ : MethodName)) hown (mvT hZ (hw _ (gm 71 rfl))) (mvT hZ (hw _ (gm 72 rfl))) (mvT hZ (hw _ (gm 3 rfl))) (mvT hZ (hw _ (gm 73 rfl))) (by decide) (backOf (W := 0) (rmST l Z a0 hw [] sv1 c0  h396 n0 O400 ) hZ (hw _ (gm 73 rfl)) (hw _ (gm 3 rfl)) (by decide) (by decide)) (g := (mkF m 258 #[.val (.long p1), .second, .val (.long p2), .second, vI p3, vI 2, vR b363, vI c0, vI c1, vI c2, vI c3, vI c4, vI c5, vI c6, vI sv1, vU] [(.int c0), (.int sv1)])) rfl (by rw [hml]; rfl) (argsL := [(.int sv1), (.int c0)]) (rest := []) (lenOf pd_13 rfl) rfl (by show 2 * 0 + _ ≤ _; exact Nat.le_of_eq rfl) (hb hby at_258) (fun _ _ => ⟨rfl, hh403, (by decide : 1 + 0 ≤ _), (by decide : 2 + 0 ≤ _)⟩)
  dsimp only [Pt.U, Pt.locs, Pt.cells, Pt.slots] at X406 l406 y406 z406 st406 hQ406
  subst l406 y406 z406
  obtain ⟨rfl, Nq406, hh406⟩ := hQ406
  have N406 := Fr.app M403 Nq406
  have k407 : Rch p e below S0 T406 (mkF m 261 #[.val (.long p1), .second, .val (.long p2), .second, vI p3, vI 2, vR b363, vI c0, vI c1, vI c2, vI c3, vI c4, vI c5, vI c6, vI sv1, vU] [(.int (own_stI sv1 (kc c0)))]) := fun t h => k405 t (st406 t h)
  obtain ⟨lo406, Y406, M406⟩ : ∃ lo, Stand p l e room_1 (s.setVm s.vm) m #[(.long p1), (.long p2), (.int p3)] below meth c T406 lo 1 2 ∧ Fr n0 lo := ⟨_, X406, N406⟩
  clear X406 N406
  obtain ⟨sv0, hsv0⟩ : ∃ z : Int32, z = own_stI sv1 (kc c0) := ⟨_, rfl⟩
  rw [← hsv0] at k407
  have k408 : Rch p e below S0 T406 (mkF m 263 #[.val (.long p1), .second, .val (.long p2), .second, vI p3, vI 2, vR b363, vI c0, vI c1, vI c2, vI c3, vI c4, vI c5, vI c6, vI sv0, vU] []) := fun t h => k407 t (by
      show Steps p.tables e below (T406.setTop (mkF m 261 #[.val (.long p1), .second, .val (.long p2), .second, vI p3, vI 2, vR b363, vI c0, vI c1, vI c2, vI c3, vI c4, vI c5, vI c6, vI sv1, vU] [(.int sv0)])) _
      refine XS.istore Y406.here hx rfl (hb hby at_261) rfl (l' := #[.val (.long p1), .second, .val (.long p2), .second, vI p3, vI 2, vR b363, vI c0, vI c1, vI c2, vI c3, vI c4, vI c5, vI c6, vI sv0, vU]) rfl ?_
      exact h)
  have hpc : ∀ c ∈ ([c0, c1] : List Int32), ¬ c < 0 ∧ ¬ (255 : Int32) < c := by
    intro c hc
    simp only [List.mem_cons, List.not_mem_nil, or_false] at hc
    rcases hc with rfl | rfl
    · exact hc0
    · exact hc1
  have hpl := own_plain (([c0, c1] : List Int32).map kc) 2 rfl (by decide) (fun y hy => by obtain ⟨c, -, rfl⟩ := List.mem_map.mp hy; exact kc_lt c)
  cases hM : own_mem (([c0, c1] : List Int32).map kc) 2 with
  | true =>
    have hF : sv0 = 4 := by
      have q := hpl.1 hM
      simp only [own_fsI, List.map_cons, List.map_nil, List.foldr_cons, List.foldr_nil] at q
      rw [hsv0, hsv1]; exact q
    clear hpl hsv0 hsv1
    have hbm : own_b (own_mem (([c0, c1] : List Int32).map kc) 2) = 1 := by rw [hM]; rfl
    clear hM
    have k409 : Rch p e below S0 T406 (mkF m 276 #[.val (.long p1), .second, .val (.long p2), .second, vI p3, vI 2, vR b363, vI c0, vI c1, vI c2, vI c3, vI c4, vI c5, vI c6, vI sv0, vI 1] []) := fun t h => k408 t (by
        show Steps p.tables e below (T406.setTop (mkF m 263 #[.val (.long p1), .second, .val (.long p2), .second, vI p3, vI 2, vR b363, vI c0, vI c1, vI c2, vI c3, vI c4, vI c5, vI c6, vI sv0, vU] [])) _
        refine XS.iload Y406.here hx rfl (hb hby at_263) rfl ?_
        refine XS.iconst Y406.here hx rfl (hb hby at_265) ?_
        refine XS.icmpNo Y406.here hx rfl (hb hby at_266) rfl (teq (hF : sv0 = (4 : Int32))).2 ?_
        refine XS.iconst Y406.here hx rfl (hb hby at_269) ?_
        refine XS.goto Y406.here hx rfl (pc0 := 270) (pc' := 274) rfl (hb hby at_270) (by decide) (by decide) ?_
        refine XS.istore Y406.here hx rfl (hb hby at_274) rfl (l' := #[.val (.long p1), .second, .val (.long p2), .second, vI p3, vI 2, vR b363, vI c0, vI c1, vI c2, vI c3, vI c4, vI c5, vI c6, vI sv0, vI 1]) rfl ?_
        exact h)
    clear hF
    obtain ⟨T410, h410, X410, e410, E410, A410, D410, -, st410⟩ := newO Y406 hx hZ hown (hw _ (gm 6 rfl)) (hw _ (gm 7 rfl)) (hw _ (gm 8 rfl)) hh406 (g := (mkF m 276 #[.val (.long p1), .second, .val (.long p2), .second, vI p3, vI 2, vR b363, vI c0, vI c1, vI c2, vI c3, vI c4, vI c5, vI c6, vI sv0, vI 1] [])) rfl (hb hby at_276) (by decide) (by decide)
    obtain ⟨b410, g410⟩ : ∃ z, z = h396.size := ⟨_, rfl⟩
    rw [← g410] at A410 D410 st410
    have k411 : Rch p e below S0 T410 (mkF m 279 #[.val (.long p1), .second, .val (.long p2), .second, vI p3, vI 2, vR b363, vI c0, vI c1, vI c2, vI c3, vI c4, vI c5, vI c6, vI sv0, vI 1] [(.ref b410)]) := fun t h => k409 t (st410 t h)
    have ne_b363_b410 : b363 ≠ b410 := own_ne V_b363.lt (Nat.le_of_eq g410.symm)
    have ge_b410 : n0 ≤ b410 := own_ge O400 (Nat.le_of_eq g410.symm)
    have sf_b410 : Safe Z consts_1 s.vm h396 b410 := Safe.new (Nat.le_of_eq g410.symm)
    replace sf_b363 := Safe.ext E410 hC399 sf_b363
    replace sf_b410 := Safe.ext E410 hC399 sf_b410
    have hC412 := hC399.ext E410
    have rC412 := rC399.trans (CHr.ext E410 hC399)
    have O413 := O400.ext E410
    replace V_b363 := V_b363.ext E410
    have hkk414 := Nat.le_trans hkk401 E410.1
    have E_b410 := A410
    have F_b410_value : Fld Z h410 b410 "java/lang/String" "value" "[B" .null := D410 (Or.inr (hw _ (gm 21 rfl))) (ty := (.array .byte)) (by decide)
    have F_b410_coder : Fld Z h410 b410 "java/lang/String" "coder" "B" (.int (0 : Int32)) := D410 (Or.inr (hw _ (gm 22 rfl))) (ty := .byte) (by decide)
    have k415 : Rch p e below S0 T410 (mkF m 282 #[.val (.long p1), .second, .val (.long p2), .second, vI p3, vI 2, vR b363, vI c0, vI c1, vI c2, vI c3, vI c4, vI c5, vI c6, vI sv0, vI 1] [(.ref b363), (.ref b410), (.ref b410)]) := fun t h => k411 t (by
        show Steps p.tables e below (T410.setTop (mkF m 279 #[.val (.long p1), .second, .val (.long p2), .second, vI p3, vI 2, vR b363, vI c0, vI c1, vI c2, vI c3, vI c4, vI c5, vI c6, vI sv0, vI 1] [(.ref b410)])) _
        refine XS.dup X410.here hx rfl (hb hby at_279) rfl rfl ?_
        refine XS.aload X410.here hx rfl (hb hby at_280) rfl rfl ?_
        exact h)
    have hws : ∀ d ∈ StrChars.Road.words, d.before a0 Z = true := fun d hd => hw d ((by decide +kernel : ∀ d ∈ StrChars.Road.words, d ∈ tables_1) d hd)
    have hp : ∀ c ∈ ([c0, c1] : List Int32), ¬ c < 0 ∧ ¬ (255 : Int32) < c := hpc
    obtain ⟨_, _, ⟨T416, L416, kk416, n416⟩, -, X416, ⟨Lc416, hQ416, l416, y416, z416⟩, st416⟩ := X410.specialBack hx (y := (⟨"java/lang/String", "<init>", "([C)V"⟩ : MethodName)) rfl hown (mvT hZ (hw _ (gm 9 rfl))) (mvT hZ (hw _ (gm 10 rfl))) (mvT hZ (hw _ (gm 11 rfl))) (by decide) (StrChars.Road.backV (W := 1) hZ hws (kI := 4) (hw _ (gm 7 rfl)) (cs := [c0, c1]) (bs := [c0, c1].map (fun c => c.toInt8.toInt32)) (n := 2) ge_b410 (own_le O413) E_b410 F_b410_value F_b410_coder V_b363 (SC.ext O413.2) hzC rfl rfl (by decide) (by decide) hp rfl (by decide) (by decide)) (g := (mkF m 282 #[.val (.long p1), .second, .val (.long p2), .second, vI p3, vI 2, vR b363, vI c0, vI c1, vI c2, vI c3, vI c4, vI c5, vI c6, vI sv0, vI 1] [(.ref b363), (.ref b410), (.ref b410)])) rfl (by rw [hml]; rfl) (Steps.refl _) (a := b410) (argsL := [(.ref b363)]) (rest := [(.ref b410)]) (lenOf pd_1 rfl) rfl (by show 2 * 0 + _ ≤ _; exact Nat.le_of_eq rfl) (hb hby at_282) (fun _ _ => ⟨rfl, e410, (by decide : 2 + 1 ≤ _), (by decide : 6 + 2 ≤ _)⟩)
    dsimp only [Pt.U, Pt.locs, Pt.cells, Pt.slots] at X416 l416 y416 z416 st416 hQ416
    subst l416 y416 z416
    obtain ⟨rfl, Nq416, K416, Eb416, Cb416, t416, kb416, u416, v416, ww416, Vb416, Ab416⟩ := hQ416
    have N416 := Fr.app M406 Nq416
    have k417 : Rch p e below S0 T416 (mkF m 285 #[.val (.long p1), .second, .val (.long p2), .second, vI p3, vI 2, vR b363, vI c0, vI c1, vI c2, vI c3, vI c4, vI c5, vI c6, vI sv0, vI 1] [(.ref b410)]) := fun t h => k415 t (st416.trans h)
    have hC418 := hC412.keep K416 (sfS sf_b410 sf0)
    have rC418 := rC412.trans (CHr.keep K416 (sfS sf_b410 sf0) hC412)
    have sfx419 := (sfS sf_b410 sf0)
    replace sf_b363 := Safe.keep K416 sfx419 hC412 sf_b363
    replace sf_b410 := Safe.keep K416 sfx419 hC412 sf_b410
    have O420 := O413.keep K416 (allS ge_b410 all0)
    replace V_b363 := V_b363.keep K416 (ninS ne_b363_b410 nin0)
    replace E_b410 := E_b410.keep K416
    have hkk421 := Nat.le_trans hkk414 K416.1
    obtain ⟨_, _, ⟨T422, L422, kk422, n422⟩, -, X422, ⟨Lc422, hQ422, l422, y422, z422⟩, st422⟩ := Jvm.LawKit.callS X416 hx (y := (⟨"com/example/nuthatch/nuthatch/EntryName", "isMember", "(Ljava/lang/String;)Z"⟩ : MethodName)) hown (mvT hZ (hw _ (gm 27 rfl))) (mvT hZ (hw _ (gm 28 rfl))) (mvT hZ (hw _ (gm 29 rfl))) (mvT hZ (hw _ (gm 30 rfl))) (by decide) (backOf (W := 0) (rmIM l Z a0 hw []  b410 t416 kb416 2 [c0, c1] zC fm T416.heap n0 O420 SC hzC Eb416 Vb416 Cb416 Ab416 rfl (by decide) hpc SP hfm) hZ (hw _ (gm 30 rfl)) (hw _ (gm 29 rfl)) (by decide) (by decide)) (g := (mkF m 285 #[.val (.long p1), .second, .val (.long p2), .second, vI p3, vI 2, vR b363, vI c0, vI c1, vI c2, vI c3, vI c4, vI c5, vI c6, vI sv0, vI 1] [(.ref b410)])) rfl (by rw [hml]; rfl) (argsL := [(.ref b410)]) (rest := []) (lenOf pd_4 rfl) rfl (by show 2 * 0 + _ ≤ _; exact Nat.le_of_eq rfl) (hb hby at_285) (fun _ _ => ⟨rfl, rfl, (by decide : 3 + 0 ≤ _), (by decide : 8 + 0 ≤ _)⟩)
    dsimp only [Pt.U, Pt.locs, Pt.cells, Pt.slots] at X422 l422 y422 z422 st422 hQ422
    subst l422 y422 z422
    obtain ⟨rfl, Nq422, hh422⟩ := hQ422
    have N422 := Fr.app N416 Nq422
    have k423 : Rch p e below S0 T422 (mkF m 288 #[.val (.long p1), .second, .val (.long p2), .second, vI p3, vI 2, vR b363, vI c0, vI c1, vI c2, vI c3, vI c4, vI c5, vI c6, vI sv0, vI 1] [(.int (1 : Int32))]) := fun t h => k417 t (st422 t (by rw [hbm]; exact h))
    obtain ⟨lo422, Y422, M422⟩ : ∃ lo, Stand p l e room_1 (s.setVm s.vm) m #[(.long p1), (.long p2), (.int p3)] below meth c T422 lo 3 8 ∧ Fr n0 lo := ⟨_, X422, N422⟩
    clear X422 N422
    clear hbm
    have k424 : Rch p e below S0 T422 (mkF m 298 #[.val (.long p1), .second, .val (.long p2), .second, vI p3, vI 2, vR b363, vI c0, vI c1, vI c2, vI c3, vI c4, vI c5, vI c6, vI sv0, vI 1] [(.int (1 : Int32))]) := fun t h => k423 t (by
        show Steps p.tables e below (T422.setTop (mkF m 288 #[.val (.long p1), .second, .val (.long p2), .second, vI p3, vI 2, vR b363, vI c0, vI c1, vI c2, vI c3, vI c4, vI c5, vI c6, vI sv0, vI 1] [(.int (1 : Int32))])) _
        refine XS.iload Y422.here hx rfl (hb hby at_288) rfl ?_
        refine XS.icmpNo Y422.here hx rfl (hb hby at_290) rfl (teq (by decide : (1 : Int32) = (1 : Int32))).2 ?_
        refine XS.iconst Y422.here hx rfl (hb hby at_293) ?_
        refine XS.goto Y422.here hx rfl (pc0 := 294) (pc' := 298) rfl (hb hby at_294) (by decide) (by decide) ?_
        exact h)
    obtain ⟨fs, hr, hrun, hended, hfin⟩ := Y422.leaveW hS (by rw [hh422]; exact hkk421) (v := (some (.int (1 : Int32)))) (fun h => by rw [Bd.returns] at h; cases h)
    refine ⟨_, _, ?_, hrun, hended, _, _, rfl, ?_, (by rw [hh]; have q := own_chr rC418 (CHv.at Y422 hZ hEL hC418) hh422; exact q), hfin.1, hfin.2.1, hfin.2.2.1, hfin.2.2.2.mono (by decide) (by decide)⟩
    · rw [← hS0]
      refine k424 _ ?_
      show Steps p.tables e below (T422.setTop (mkF m 298 #[.val (.long p1), .second, .val (.long p2), .second, vI p3, vI 2, vR b363, vI c0, vI c1, vI c2, vI c3, vI c4, vI c5, vI c6, vI sv0, vI 1] [(.int (1 : Int32))])) _
      exact retN Y422 hx (t := .boolean) Bd.returns (by simp) (hb hby at_298) hr
    · show Q_rm0_2 Z  h0 n0 _ T422.heap _
      rw [hh422]
      exact ⟨rfl, M422⟩
  | false =>
    have hF : ¬ sv0 = 4 := by
      have q := hpl.2 hM
      simp only [own_fsI, List.map_cons, List.map_nil, List.foldr_cons, List.foldr_nil] at q
      rw [hsv0, hsv1]; exact q
    clear hpl hsv0 hsv1
    have hbm : own_b (own_mem (([c0, c1] : List Int32).map kc) 2) = 0 := by rw [hM]; rfl
    clear hM
    have k425 : Rch p e below S0 T406 (mkF m 276 #[.val (.long p1), .second, .val (.long p2), .second, vI p3, vI 2, vR b363, vI c0, vI c1, vI c2, vI c3, vI c4, vI c5, vI c6, vI sv0, vI 0] []) := fun t h => k408 t (by
        show Steps p.tables e below (T406.setTop (mkF m 263 #[.val (.long p1), .second, .val (.long p2), .second, vI p3, vI 2, vR b363, vI c0, vI c1, vI c2, vI c3, vI c4, vI c5, vI c6, vI sv0, vU] [])) _
        refine XS.iload Y406.here hx rfl (hb hby at_263) rfl ?_
        refine XS.iconst Y406.here hx rfl (hb hby at_265) ?_
        refine XS.icmpYes Y406.here hx rfl (pc0 := 266) (pc' := 273) rfl (hb hby at_266) rfl (feq (hF : ¬ (sv0 = (4 : Int32)))).2 (by decide) (by decide) ?_
        refine XS.iconst Y406.here hx rfl (hb hby at_273) ?_
        refine XS.istore Y406.here hx rfl (hb hby at_274) rfl (l' := #[.val (.long p1), .second, .val (.long p2), .second, vI p3, vI 2, vR b363, vI c0, vI c1, vI c2, vI c3, vI c4, vI c5, vI c6, vI sv0, vI 0]) rfl ?_
        exact h)
    clear hF
    obtain ⟨T426, h426, X426, e426, E426, A426, D426, -, st426⟩ := newO Y406 hx hZ hown (hw _ (gm 6 rfl)) (hw _ (gm 7 rfl)) (hw _ (gm 8 rfl)) hh406 (g := (mkF m 276 #[.val (.long p1), .second, .val (.long p2), .second, vI p3, vI 2, vR b363, vI c0, vI c1, vI c2, vI c3, vI c4, vI c5, vI c6, vI sv0, vI 0] [])) rfl (hb hby at_276) (by decide) (by decide)
    obtain ⟨b426, g426⟩ : ∃ z, z = h396.size := ⟨_, rfl⟩
    rw [← g426] at A426 D426 st426
    have k427 : Rch p e below S0 T426 (mkF m 279 #[.val (.long p1), .second, .val (.long p2), .second, vI p3, vI 2, vR b363, vI c0, vI c1, vI c2, vI c3, vI c4, vI c5, vI c6, vI sv0, vI 0] [(.ref b426)]) := fun t h => k425 t (st426 t h)
    have ne_b363_b426 : b363 ≠ b426 := own_ne V_b363.lt (Nat.le_of_eq g426.symm)
    have ge_b426 : n0 ≤ b426 := own_ge O400 (Nat.le_of_eq g426.symm)
    have sf_b426 : Safe Z consts_1 s.vm h396 b426 := Safe.new (Nat.le_of_eq g426.symm)
    replace sf_b363 := Safe.ext E426 hC399 sf_b363
    replace sf_b426 := Safe.ext E426 hC399 sf_b426
    have hC428 := hC399.ext E426
    have rC428 := rC399.trans (CHr.ext E426 hC399)
    have O429 := O400.ext E426
    replace V_b363 := V_b363.ext E426
    have hkk430 := Nat.le_trans hkk401 E426.1
    have E_b426 := A426
    have F_b426_value : Fld Z h426 b426 "java/lang/String" "value" "[B" .null := D426 (Or.inr (hw _ (gm 21 rfl))) (ty := (.array .byte)) (by decide)
    have F_b426_coder : Fld Z h426 b426 "java/lang/String" "coder" "B" (.int (0 : Int32)) := D426 (Or.inr (hw _ (gm 22 rfl))) (ty := .byte) (by decide)
    have k431 : Rch p e below S0 T426 (mkF m 282 #[.val (.long p1), .second, .val (.long p2), .second, vI p3, vI 2, vR b363, vI c0, vI c1, vI c2, vI c3, vI c4, vI c5, vI c6, vI sv0, vI 0] [(.ref b363), (.ref b426), (.ref b426)]) := fun t h => k427 t (by
        show Steps p.tables e below (T426.setTop (mkF m 279 #[.val (.long p1), .second, .val (.long p2), .second, vI p3, vI 2, vR b363, vI c0, vI c1, vI c2, vI c3, vI c4, vI c5, vI c6, vI sv0, vI 0] [(.ref b426)])) _
        refine XS.dup X426.here hx rfl (hb hby at_279) rfl rfl ?_
        refine XS.aload X426.here hx rfl (hb hby at_280) rfl rfl ?_
        exact h)
    have hws : ∀ d ∈ StrChars.Road.words, d.before a0 Z = true := fun d hd => hw d ((by decide +kernel : ∀ d ∈ StrChars.Road.words, d ∈ tables_1) d hd)
    have hp : ∀ c ∈ ([c0, c1] : List Int32), ¬ c < 0 ∧ ¬ (255 : Int32) < c := hpc
    obtain ⟨_, _, ⟨T432, L432, kk432, n432⟩, -, X432, ⟨Lc432, hQ432, l432, y432, z432⟩, st432⟩ := X426.specialBack hx (y := (⟨"java/lang/String", "<init>", "([C)V"⟩ : MethodName)) rfl hown (mvT hZ (hw _ (gm 9 rfl))) (mvT hZ (hw _ (gm 10 rfl))) (mvT hZ (hw _ (gm 11 rfl))) (by decide) (StrChars.Road.backV (W := 1) hZ hws (kI := 4) (hw _ (gm 7 rfl)) (cs := [c0, c1]) (bs := [c0, c1].map (fun c => c.toInt8.toInt32)) (n := 2) ge_b426 (own_le O429) E_b426 F_b426_value F_b426_coder V_b363 (SC.ext O429.2) hzC rfl rfl (by decide) (by decide) hp rfl (by decide) (by decide)) (g := (mkF m 282 #[.val (.long p1), .second, .val (.long p2), .second, vI p3, vI 2, vR b363, vI c0, vI c1, vI c2, vI c3, vI c4, vI c5, vI c6, vI sv0, vI 0] [(.ref b363), (.ref b426), (.ref b426)])) rfl (by rw [hml]; rfl) (Steps.refl _) (a := b426) (argsL := [(.ref b363)]) (rest := [(.ref b426)]) (lenOf pd_1 rfl) rfl (by show 2 * 0 + _ ≤ _; exact Nat.le_of_eq rfl) (hb hby at_282) (fun _ _ => ⟨rfl, e426, (by decide : 2 + 1 ≤ _), (by decide : 6 + 2 ≤ _)⟩)
    dsimp only [Pt.U, Pt.locs, Pt.cells, Pt.slots] at X432 l432 y432 z432 st432 hQ432
    subst l432 y432 z432
    obtain ⟨rfl, Nq432, K432, Eb432, Cb432, t432, kb432, u432, v432, ww432, Vb432, Ab432⟩ := hQ432
    have N432 := Fr.app M406 Nq432
    have k433 : Rch p e below S0 T432 (mkF m 285 #[.val (.long p1), .second, .val (.long p2), .second, vI p3, vI 2, vR b363, vI c0, vI c1, vI c2, vI c3, vI c4, vI c5, vI c6, vI sv0, vI 0] [(.ref b426)]) := fun t h => k431 t (st432.trans h)
    have hC434 := hC428.keep K432 (sfS sf_b426 sf0)
    have rC434 := rC428.trans (CHr.keep K432 (sfS sf_b426 sf0) hC428)
    have sfx435 := (sfS sf_b426 sf0)
    replace sf_b363 := Safe.keep K432 sfx435 hC428 sf_b363
    replace sf_b426 := Safe.keep K432 sfx435 hC428 sf_b426
    have O436 := O429.keep K432 (allS ge_b426 all0)
    replace V_b363 := V_b363.keep K432 (ninS ne_b363_b426 nin0)
    replace E_b426 := E_b426.keep K432
    have hkk437 := Nat.le_trans hkk430 K432.1
    obtain ⟨_, _, ⟨T438, L438, kk438, n438⟩, -, X438, ⟨Lc438, hQ438, l438, y438, z438⟩, st438⟩ := Jvm.LawKit.callS X432 hx (y := (⟨"com/example/nuthatch/nuthatch/EntryName", "isMember", "(Ljava/lang/String;)Z"⟩ : MethodName)) hown (mvT hZ (hw _ (gm 27 rfl))) (mvT hZ (hw _ (gm 28 rfl))) (mvT hZ (hw _ (gm 29 rfl))) (mvT hZ (hw _ (gm 30 rfl))) (by decide) (backOf (W := 0) (rmIM l Z a0 hw []  b426 t432 kb432 2 [c0, c1] zC fm T432.heap n0 O436 SC hzC Eb432 Vb432 Cb432 Ab432 rfl (by decide) hpc SP hfm) hZ (hw _ (gm 30 rfl)) (hw _ (gm 29 rfl)) (by decide) (by decide)) (g := (mkF m 285 #[.val (.long p1), .second, .val (.long p2), .second, vI p3, vI 2, vR b363, vI c0, vI c1, vI c2, vI c3, vI c4, vI c5, vI c6, vI sv0, vI 0] [(.ref b426)])) rfl (by rw [hml]; rfl) (argsL := [(.ref b426)]) (rest := []) (lenOf pd_4 rfl) rfl (by show 2 * 0 + _ ≤ _; exact Nat.le_of_eq rfl) (hb hby at_285) (fun _ _ => ⟨rfl, rfl, (by decide : 3 + 0 ≤ _), (by decide : 8 + 0 ≤ _)⟩)
    dsimp only [Pt.U, Pt.locs, Pt.cells, Pt.slots] at X438 l438 y438 z438 st438 hQ438
    subst l438 y438 z438
    obtain ⟨rfl, Nq438, hh438⟩ := hQ438
    have N438 := Fr.app N432 Nq438
    have k439 : Rch p e below S0 T438 (mkF m 288 #[.val (.long p1), .second, .val (.long p2), .second, vI p3, vI 2, vR b363, vI c0, vI c1, vI c2, vI c3, vI c4, vI c5, vI c6, vI sv0, vI 0] [(.int (0 : Int32))]) := fun t h => k433 t (st438 t (by rw [hbm]; exact h))
    obtain ⟨lo438, Y438, M438⟩ : ∃ lo, Stand p l e room_1 (s.setVm s.vm) m #[(.long p1), (.long p2), (.int p3)] below meth c T438 lo 3 8 ∧ Fr n0 lo := ⟨_, X438, N438⟩
    clear X438 N438
    clear hbm
    have k440 : Rch p e below S0 T438 (mkF m 298 #[.val (.long p1), .second, .val (.long p2), .second, vI p3, vI 2, vR b363, vI c0, vI c1, vI c2, vI c3, vI c4, vI c5, vI c6, vI sv0, vI 0] [(.int (1 : Int32))]) := fun t h => k439 t (by
        show Steps p.tables e below (T438.setTop (mkF m 288 #[.val (.long p1), .second, .val (.long p2), .second, vI p3, vI 2, vR b363, vI c0, vI c1, vI c2, vI c3, vI c4, vI c5, vI c6, vI sv0, vI 0] [(.int (0 : Int32))])) _
        refine XS.iload Y438.here hx rfl (hb hby at_288) rfl ?_
        refine XS.icmpNo Y438.here hx rfl (hb hby at_290) rfl (teq (by decide : (0 : Int32) = (0 : Int32))).2 ?_
        refine XS.iconst Y438.here hx rfl (hb hby at_293) ?_
        refine XS.goto Y438.here hx rfl (pc0 := 294) (pc' := 298) rfl (hb hby at_294) (by decide) (by decide) ?_
        exact h)
    obtain ⟨fs, hr, hrun, hended, hfin⟩ := Y438.leaveW hS (by rw [hh438]; exact hkk437) (v := (some (.int (1 : Int32)))) (fun h => by rw [Bd.returns] at h; cases h)
    refine ⟨_, _, ?_, hrun, hended, _, _, rfl, ?_, (by rw [hh]; have q := own_chr rC434 (CHv.at Y438 hZ hEL hC434) hh438; exact q), hfin.1, hfin.2.1, hfin.2.2.1, hfin.2.2.2.mono (by decide) (by decide)⟩
    · rw [← hS0]
      refine k440 _ ?_
      show Steps p.tables e below (T438.setTop (mkF m 298 #[.val (.long p1), .second, .val (.long p2), .second, vI p3, vI 2, vR b363, vI c0, vI c1, vI c2, vI c3, vI c4, vI c5, vI c6, vI sv0, vI 0] [(.int (1 : Int32))])) _
      exact retN Y438 hx (t := .boolean) Bd.returns (by simp) (hb hby at_298) hr
    · show Q_rm0_2 Z  h0 n0 _ T438.heap _
      rw [hh438]
      exact ⟨rfl, M438⟩
def Q_rm0_3 (Z : State)  (h0 : Heap) (n0 : Nat) (v : Option Value) (h : Heap) (L : List Loc) : Prop := v = some (.int (1 : Int32)) ∧ Fr n0 L
set_option maxRecDepth 65536 in
set_option maxHeartbeats 40000000 in
theorem rm0_3 (l : Launch) (Z : State) (a0 : Array Value) (hw : ∀ d ∈ tables_1, d.before a0 Z = true) (ws : List Jvm.Cond) (p1 : Int64) (p2 : Int64) (p3 : Int32) (zC : Int32) (fm : Value) (h0 : Heap) (n0 : Nat) (O0 : Old Z n0 h0) (SC : Sta Z Z.heap "java/lang/String" "COMPACT_STRINGS" "Z" (.int zC)) (hzC : ¬ zC = 0) (SP : Sta Z Z.heap "jdk/internal/util/Preconditions" "SIOOBE_FORMATTER" "Ljava/util/function/BiFunction;" fm) (hfm : fm = .null ∨ ∃ wP, fm = .ref wP) (hlen : p3 &&& 7 = (3 : Int32)) :
    MetFree l x (head1 (Jvm.Cond.code x code maxLocals ret :: ws) room_1) (fun a U => a = #[(.long p1), (.long p2), (.int p3)] ∧ Z.Warmed39 U.vm ∧ U.heap = h0 ∧ CHv Z consts_1 U.vm h0) (fun _ _ _ _ _ => True) (fun _ U o U' => ∃ v L, o = .returned v ∧ Q_rm0_3 Z  h0 n0 v U'.heap L ∧ CHr Z consts_1 U.vm U.heap U'.vm U'.heap ∧ ReturnedEndW U o U' L room_1.cells room_1.slots) := by
  refine MetFree.of_bodySF (plainFor_of_name pn_EntryNameIsMemberPinLaw) hisR ?_
  intro p e s m args below meth c s₁ Bd hml0 hP hK
  obtain ⟨rfl, hZ, hh, hC0⟩ := hP
  have hx := Bd.exec
  have hby := Bd.bytes
  have hml : c.maxLocals = 16 := hml0
  have hown : s.vm.findClass "com/example/nuthatch/nuthatch/EntryNameIsMemberPinLaw" = some m.cls := findClass_of_methodNamed Bd.named
  have hnm := (name_of_methodNamed Bd.named Bd.method).1
  have X0 : Stand p l e room_1 (s.setVm s.vm) m #[(.long p1), (.long p2), (.int p3)] below meth c s₁ [] 0 0 := Stand.of_body Bd
  have e0 : s₁.heap = h0 := by rw [← hh, Bd.state]; rfl
  have N0 := Fr.nil n0
  obtain ⟨S0, hS0⟩ : ∃ z, z = s₁.setTop (entryFrame m #[(.long p1), (.long p2), (.int p3)] maxLocals) := ⟨_, rfl⟩
  have k0 : Rch p e below S0 s₁ (mkF m 0 #[.val (.long p1), .second, .val (.long p2), .second, vI p3, vU, vU, vU, vU, vU, vU, vU, vU, vU, vU, vU] []) := fun t kq => hS0 ▸ castTop (ef_0 m p1 p2 p3) kq
  have hS : s.Since s.vm s.heap.size := (State.WarmedH.refl s).since _
  have hk : s.heap.size ≤ h0.size := by rw [← hh]; exact Nat.le_refl _
  have hwS : ∀ d ∈ Bundle.stringAtoms, d.before a0 Z = true := fun d hd => hw d ((by decide +kernel : ∀ d ∈ Bundle.stringAtoms, d ∈ tables_1) d hd)
  have rC0 : CHr Z consts_1 s.vm h0 s.vm h0 := CHr.refl hC0
  have hEL : EW Z a0 consts_1 := (EW.cons (hw _ (gm 19 rfl)) (by decide +kernel) EW.nil)
  have k442 : Rch p e below S0 s₁ (mkF m 9 #[.val (.long p1), .second, .val (.long p2), .second, vI p3, vI 3, vU, vU, vU, vU, vU, vU, vU, vU, vU, vU] [(.int (3 : Int32))]) := fun t h => k0 t (by
      show Steps p.tables e below (s₁.setTop (mkF m 0 #[.val (.long p1), .second, .val (.long p2), .second, vI p3, vU, vU, vU, vU, vU, vU, vU, vU, vU, vU, vU] [])) _
      refine XS.iload X0.here hx rfl (hb hby at_0) rfl ?_
      refine XS.bipush X0.here hx rfl (hb hby at_2) ?_
      show Steps p.tables e below (s₁.setTop (mkF m 4 #[.val (.long p1), .second, .val (.long p2), .second, vI p3, vU, vU, vU, vU, vU, vU, vU, vU, vU, vU, vU] [(.int (7 : Int32)), (.int p3)])) _
      refine XS.iand X0.here hx rfl (hb hby at_4) rfl ?_
      rw [hlen]
      refine XS.istore X0.here hx rfl (hb hby at_5) rfl (l' := #[.val (.long p1), .second, .val (.long p2), .second, vI p3, vI 3, vU, vU, vU, vU, vU, vU, vU, vU, vU, vU]) rfl ?_
      refine XS.iload X0.here hx rfl (hb hby at_7) rfl ?_
      exact h)
  obtain ⟨T441, h441, k441, X441, e441, E441, A441, st441⟩ := newP X0 hx hZ (hw _ (gm 0 rfl)) e0 (g := (mkF m 9 #[.val (.long p1), .second, .val (.long p2), .second, vI p3, vI 3, vU, vU, vU, vU, vU, vU, vU, vU, vU, vU] [(.int (3 : Int32))])) rfl (hb hby at_9) rfl (by decide) (cap := 3) (by decide) (by decide) (by decide) (by decide)
  obtain ⟨b441, g441⟩ : ∃ z, z = h0.size := ⟨_, rfl⟩
  rw [← g441] at A441 st441
  have k443 : Rch p e below S0 T441 (mkF m 11 #[.val (.long p1), .second, .val (.long p2), .second, vI p3, vI 3, vU, vU, vU, vU, vU, vU, vU, vU, vU, vU] [(.ref b441)]) := fun t h => k442 t (st441 t h)
  have ge_b441 : n0 ≤ b441 := own_ge O0 (Nat.le_of_eq g441.symm)
  have sf_b441 : Safe Z consts_1 s.vm h0 b441 := Safe.new (Nat.le_of_eq g441.symm)
  replace sf_b441 := Safe.ext E441 hC0 sf_b441
  have hC444 := hC0.ext E441
  have rC444 := rC0.trans (CHr.ext E441 hC0)
  have O445 := O0.ext E441
  have hkk446 := Nat.le_trans hk E441.1
  have V_b441 : Arv Z h441 b441 k441 .char (3 : Int32) [(.int (0 : Int32)), (.int (0 : Int32)), (.int (0 : Int32))] (.int (0 : Int32)) := (Arv.new A441 (by decide)).pad (pad_rep [] (.int (0 : Int32)) 3)
  have k447 : Rch p e below S0 T441 (mkF m 14 #[.val (.long p1), .second, .val (.long p2), .second, vI p3, vI 3, vR b441, vU, vU, vU, vU, vU, vU, vU, vU, vU] [(.long p1)]) := fun t h => k443 t (by
      show Steps p.tables e below (T441.setTop (mkF m 11 #[.val (.long p1), .second, .val (.long p2), .second, vI p3, vI 3, vU, vU, vU, vU, vU, vU, vU, vU, vU, vU] [(.ref b441)])) _
      refine XS.astore X441.here hx rfl (hb hby at_11) rfl rfl (l' := #[.val (.long p1), .second, .val (.long p2), .second, vI p3, vI 3, vR b441, vU, vU, vU, vU, vU, vU, vU, vU, vU]) rfl ?_
      refine XS.lloadN X441.here hx rfl (hb hby at_13) rfl ?_
      exact h)
  obtain ⟨_, _, ⟨T448, L448, kk448, n448⟩, -, X448, ⟨Lc448, hQ448, l448, y448, z448⟩, st448⟩ := Jvm.LawKit.callS X441 hx (y := (⟨"com/example/nuthatch/nuthatch/EntryNameIsMemberPinLaw", "ch", "(J)C"⟩ : MethodName)) hown (mvT hZ (hw _ (gm 1 rfl))) (mvT hZ (hw _ (gm 2 rfl))) (mvT hZ (hw _ (gm 3 rfl))) (mvT hZ (hw _ (gm 4 rfl))) (by decide) (backOf (W := 0) (rmCh l Z a0 hw [] p1  h441 n0 O445 ) hZ (hw _ (gm 4 rfl)) (hw _ (gm 3 rfl)) (by decide) (by decide)) (g := (mkF m 14 #[.val (.long p1), .second, .val (.long p2), .second, vI p3, vI 3, vR b441, vU, vU, vU, vU, vU, vU, vU, vU, vU] [(.long p1)])) rfl (by rw [hml]; rfl) (argsL := [(.long p1)]) (rest := []) (lenOf pd_0 rfl) rfl (by show 2 * 0 + _ ≤ _; exact Nat.le_of_eq rfl) (hb hby at_14) (fun _ _ => ⟨rfl, e441, (by decide : 1 + 0 ≤ _), (by decide : 3 + 0 ≤ _)⟩)
  dsimp only [Pt.U, Pt.locs, Pt.cells, Pt.slots] at X448 l448 y448 z448 st448 hQ448
  subst l448 y448 z448
  obtain ⟨c0, rfl, Nq448, hh448, hc0⟩ := hQ448
  have N448 := Fr.app N0 Nq448
  have k449 : Rch p e below S0 T448 (mkF m 17 #[.val (.long p1), .second, .val (.long p2), .second, vI p3, vI 3, vR b441, vU, vU, vU, vU, vU, vU, vU, vU, vU] [(.int c0)]) := fun t h => k447 t (st448 t h)
  obtain ⟨lo448, Y448, M448⟩ : ∃ lo, Stand p l e room_1 (s.setVm s.vm) m #[(.long p1), (.long p2), (.int p3)] below meth c T448 lo 1 3 ∧ Fr n0 lo := ⟨_, X448, N448⟩
  clear X448 N448
  have k450 : Rch p e below S0 T448 (mkF m 23 #[.val (.long p1), .second, .val (.long p2), .second, vI p3, vI 3, vR b441, vI c0, vU, vU, vU, vU, vU, vU, vU, vU] [(.long ((p1.toUInt64 >>> ((10 : Int32) &&& 0x3f).toInt64.toUInt64).toInt64))]) := fun t h => k449 t (by
      show Steps p.tables e below (T448.setTop (mkF m 17 #[.val (.long p1), .second, .val (.long p2), .second, vI p3, vI 3, vR b441, vU, vU, vU, vU, vU, vU, vU, vU, vU] [(.int c0)])) _
      refine XS.istore Y448.here hx rfl (hb hby at_17) rfl (l' := #[.val (.long p1), .second, .val (.long p2), .second, vI p3, vI 3, vR b441, vI c0, vU, vU, vU, vU, vU, vU, vU, vU]) rfl ?_
      refine XS.lloadN Y448.here hx rfl (hb hby at_19) rfl ?_
      refine XS.bipush Y448.here hx rfl (hb hby at_20) ?_
      refine XS.lushr Y448.here hx rfl (hb hby at_22) rfl ?_
      exact h)
  obtain ⟨_, _, ⟨T451, L451, kk451, n451⟩, -, X451, ⟨Lc451, hQ451, l451, y451, z451⟩, st451⟩ := Jvm.LawKit.callS Y448 hx (y := (⟨"com/example/nuthatch/nuthatch/EntryNameIsMemberPinLaw", "ch", "(J)C"⟩ : MethodName)) hown (mvT hZ (hw _ (gm 1 rfl))) (mvT hZ (hw _ (gm 2 rfl))) (mvT hZ (hw _ (gm 3 rfl))) (mvT hZ (hw _ (gm 4 rfl))) (by decide) (backOf (W := 0) (rmCh l Z a0 hw [] ((p1.toUInt64 >>> ((10 : Int32) &&& 0x3f).toInt64.toUInt64).toInt64)  h441 n0 O445 ) hZ (hw _ (gm 4 rfl)) (hw _ (gm 3 rfl)) (by decide) (by decide)) (g := (mkF m 23 #[.val (.long p1), .second, .val (.long p2), .second, vI p3, vI 3, vR b441, vI c0, vU, vU, vU, vU, vU, vU, vU, vU] [(.long ((p1.toUInt64 >>> ((10 : Int32) &&& 0x3f).toInt64.toUInt64).toInt64))])) rfl (by rw [hml]; rfl) (argsL := [(.long ((p1.toUInt64 >>> ((10 : Int32) &&& 0x3f).toInt64.toUInt64).toInt64))]) (rest := []) (lenOf pd_0 rfl) rfl (by show 2 * 0 + _ ≤ _; exact Nat.le_of_eq rfl) (hb hby at_23) (fun _ _ => ⟨rfl, hh448, (by decide : 1 + 0 ≤ _), (by decide : 3 + 0 ≤ _)⟩)
  dsimp only [Pt.U, Pt.locs, Pt.cells, Pt.slots] at X451 l451 y451 z451 st451 hQ451
  subst l451 y451 z451
  obtain ⟨c1, rfl, Nq451, hh451, hc1⟩ := hQ451
  have N451 := Fr.app M448 Nq451
  have k452 : Rch p e below S0 T451 (mkF m 26 #[.val (.long p1), .second, .val (.long p2), .second, vI p3, vI 3, vR b441, vI c0, vU, vU, vU, vU, vU, vU, vU, vU] [(.int c1)]) := fun t h => k450 t (st451 t h)
  obtain ⟨lo451, Y451, M451⟩ : ∃ lo, Stand p l e room_1 (s.setVm s.vm) m #[(.long p1), (.long p2), (.int p3)] below meth c T451 lo 1 3 ∧ Fr n0 lo := ⟨_, X451, N451⟩
  clear X451 N451
  have k453 : Rch p e below S0 T451 (mkF m 32 #[.val (.long p1), .second, .val (.long p2), .second, vI p3, vI 3, vR b441, vI c0, vI c1, vU, vU, vU, vU, vU, vU, vU] [(.long ((p1.toUInt64 >>> ((20 : Int32) &&& 0x3f).toInt64.toUInt64).toInt64))]) := fun t h => k452 t (by
      show Steps p.tables e below (T451.setTop (mkF m 26 #[.val (.long p1), .second, .val (.long p2), .second, vI p3, vI 3, vR b441, vI c0, vU, vU, vU, vU, vU, vU, vU, vU] [(.int c1)])) _
      refine XS.istore Y451.here hx rfl (hb hby at_26) rfl (l' := #[.val (.long p1), .second, .val (.long p2), .second, vI p3, vI 3, vR b441, vI c0, vI c1, vU, vU, vU, vU, vU, vU, vU]) rfl ?_
      refine XS.lloadN Y451.here hx rfl (hb hby at_28) rfl ?_
      refine XS.bipush Y451.here hx rfl (hb hby at_29) ?_
      refine XS.lushr Y451.here hx rfl (hb hby at_31) rfl ?_
      exact h)
  obtain ⟨_, _, ⟨T454, L454, kk454, n454⟩, -, X454, ⟨Lc454, hQ454, l454, y454, z454⟩, st454⟩ := Jvm.LawKit.callS Y451 hx (y := (⟨"com/example/nuthatch/nuthatch/EntryNameIsMemberPinLaw", "ch", "(J)C"⟩ : MethodName)) hown (mvT hZ (hw _ (gm 1 rfl))) (mvT hZ (hw _ (gm 2 rfl))) (mvT hZ (hw _ (gm 3 rfl))) (mvT hZ (hw _ (gm 4 rfl))) (by decide) (backOf (W := 0) (rmCh l Z a0 hw [] ((p1.toUInt64 >>> ((20 : Int32) &&& 0x3f).toInt64.toUInt64).toInt64)  h441 n0 O445 ) hZ (hw _ (gm 4 rfl)) (hw _ (gm 3 rfl)) (by decide) (by decide)) (g := (mkF m 32 #[.val (.long p1), .second, .val (.long p2), .second, vI p3, vI 3, vR b441, vI c0, vI c1, vU, vU, vU, vU, vU, vU, vU] [(.long ((p1.toUInt64 >>> ((20 : Int32) &&& 0x3f).toInt64.toUInt64).toInt64))])) rfl (by rw [hml]; rfl) (argsL := [(.long ((p1.toUInt64 >>> ((20 : Int32) &&& 0x3f).toInt64.toUInt64).toInt64))]) (rest := []) (lenOf pd_0 rfl) rfl (by show 2 * 0 + _ ≤ _; exact Nat.le_of_eq rfl) (hb hby at_32) (fun _ _ => ⟨rfl, hh451, (by decide : 1 + 0 ≤ _), (by decide : 3 + 0 ≤ _)⟩)
  dsimp only [Pt.U, Pt.locs, Pt.cells, Pt.slots] at X454 l454 y454 z454 st454 hQ454
  subst l454 y454 z454
  obtain ⟨c2, rfl, Nq454, hh454, hc2⟩ := hQ454
  have N454 := Fr.app M451 Nq454
  have k455 : Rch p e below S0 T454 (mkF m 35 #[.val (.long p1), .second, .val (.long p2), .second, vI p3, vI 3, vR b441, vI c0, vI c1, vU, vU, vU, vU, vU, vU, vU] [(.int c2)]) := fun t h => k453 t (st454 t h)
  obtain ⟨lo454, Y454, M454⟩ : ∃ lo, Stand p l e room_1 (s.setVm s.vm) m #[(.long p1), (.long p2), (.int p3)] below meth c T454 lo 1 3 ∧ Fr n0 lo := ⟨_, X454, N454⟩
  clear X454 N454
  have k456 : Rch p e below S0 T454 (mkF m 41 #[.val (.long p1), .second, .val (.long p2), .second, vI p3, vI 3, vR b441, vI c0, vI c1, vI c2, vU, vU, vU, vU, vU, vU] [(.long ((p1.toUInt64 >>> ((30 : Int32) &&& 0x3f).toInt64.toUInt64).toInt64))]) := fun t h => k455 t (by
      show Steps p.tables e below (T454.setTop (mkF m 35 #[.val (.long p1), .second, .val (.long p2), .second, vI p3, vI 3, vR b441, vI c0, vI c1, vU, vU, vU, vU, vU, vU, vU] [(.int c2)])) _
      refine XS.istore Y454.here hx rfl (hb hby at_35) rfl (l' := #[.val (.long p1), .second, .val (.long p2), .second, vI p3, vI 3, vR b441, vI c0, vI c1, vI c2, vU, vU, vU, vU, vU, vU]) rfl ?_
      refine XS.lloadN Y454.here hx rfl (hb hby at_37) rfl ?_
      refine XS.bipush Y454.here hx rfl (hb hby at_38) ?_
      refine XS.lushr Y454.here hx rfl (hb hby at_40) rfl ?_
      exact h)
  obtain ⟨_, _, ⟨T457, L457, kk457, n457⟩, -, X457, ⟨Lc457, hQ457, l457, y457, z457⟩, st457⟩ := Jvm.LawKit.callS Y454 hx (y := (⟨"com/example/nuthatch/nuthatch/EntryNameIsMemberPinLaw", "ch", "(J)C"⟩ : MethodName)) hown (mvT hZ (hw _ (gm 1 rfl))) (mvT hZ (hw _ (gm 2 rfl))) (mvT hZ (hw _ (gm 3 rfl))) (mvT hZ (hw _ (gm 4 rfl))) (by decide) (backOf (W := 0) (rmCh l Z a0 hw [] ((p1.toUInt64 >>> ((30 : Int32) &&& 0x3f).toInt64.toUInt64).toInt64)  h441 n0 O445 ) hZ (hw _ (gm 4 rfl)) (hw _ (gm 3 rfl)) (by decide) (by decide)) (g := (mkF m 41 #[.val (.long p1), .second, .val (.long p2), .second, vI p3, vI 3, vR b441, vI c0, vI c1, vI c2, vU, vU, vU, vU, vU, vU] [(.long ((p1.toUInt64 >>> ((30 : Int32) &&& 0x3f).toInt64.toUInt64).toInt64))])) rfl (by rw [hml]; rfl) (argsL := [(.long ((p1.toUInt64 >>> ((30 : Int32) &&& 0x3f).toInt64.toUInt64).toInt64))]) (rest := []) (lenOf pd_0 rfl) rfl (by show 2 * 0 + _ ≤ _; exact Nat.le_of_eq rfl) (hb hby at_41) (fun _ _ => ⟨rfl, hh454, (by decide : 1 + 0 ≤ _), (by decide : 3 + 0 ≤ _)⟩)
  dsimp only [Pt.U, Pt.locs, Pt.cells, Pt.slots] at X457 l457 y457 z457 st457 hQ457
  subst l457 y457 z457
  obtain ⟨c3, rfl, Nq457, hh457, hc3⟩ := hQ457
  have N457 := Fr.app M454 Nq457
  have k458 : Rch p e below S0 T457 (mkF m 44 #[.val (.long p1), .second, .val (.long p2), .second, vI p3, vI 3, vR b441, vI c0, vI c1, vI c2, vU, vU, vU, vU, vU, vU] [(.int c3)]) := fun t h => k456 t (st457 t h)
  obtain ⟨lo457, Y457, M457⟩ : ∃ lo, Stand p l e room_1 (s.setVm s.vm) m #[(.long p1), (.long p2), (.int p3)] below meth c T457 lo 1 3 ∧ Fr n0 lo := ⟨_, X457, N457⟩
  clear X457 N457
  have k459 : Rch p e below S0 T457 (mkF m 50 #[.val (.long p1), .second, .val (.long p2), .second, vI p3, vI 3, vR b441, vI c0, vI c1, vI c2, vI c3, vU, vU, vU, vU, vU] [(.long ((p1.toUInt64 >>> ((40 : Int32) &&& 0x3f).toInt64.toUInt64).toInt64))]) := fun t h => k458 t (by
      show Steps p.tables e below (T457.setTop (mkF m 44 #[.val (.long p1), .second, .val (.long p2), .second, vI p3, vI 3, vR b441, vI c0, vI c1, vI c2, vU, vU, vU, vU, vU, vU] [(.int c3)])) _
      refine XS.istore Y457.here hx rfl (hb hby at_44) rfl (l' := #[.val (.long p1), .second, .val (.long p2), .second, vI p3, vI 3, vR b441, vI c0, vI c1, vI c2, vI c3, vU, vU, vU, vU, vU]) rfl ?_
      refine XS.lloadN Y457.here hx rfl (hb hby at_46) rfl ?_
      refine XS.bipush Y457.here hx rfl (hb hby at_47) ?_
      refine XS.lushr Y457.here hx rfl (hb hby at_49) rfl ?_
      exact h)
  obtain ⟨_, _, ⟨T460, L460, kk460, n460⟩, -, X460, ⟨Lc460, hQ460, l460, y460, z460⟩, st460⟩ := Jvm.LawKit.callS Y457 hx (y := (⟨"com/example/nuthatch/nuthatch/EntryNameIsMemberPinLaw", "ch", "(J)C"⟩ : MethodName)) hown (mvT hZ (hw _ (gm 1 rfl))) (mvT hZ (hw _ (gm 2 rfl))) (mvT hZ (hw _ (gm 3 rfl))) (mvT hZ (hw _ (gm 4 rfl))) (by decide) (backOf (W := 0) (rmCh l Z a0 hw [] ((p1.toUInt64 >>> ((40 : Int32) &&& 0x3f).toInt64.toUInt64).toInt64)  h441 n0 O445 ) hZ (hw _ (gm 4 rfl)) (hw _ (gm 3 rfl)) (by decide) (by decide)) (g := (mkF m 50 #[.val (.long p1), .second, .val (.long p2), .second, vI p3, vI 3, vR b441, vI c0, vI c1, vI c2, vI c3, vU, vU, vU, vU, vU] [(.long ((p1.toUInt64 >>> ((40 : Int32) &&& 0x3f).toInt64.toUInt64).toInt64))])) rfl (by rw [hml]; rfl) (argsL := [(.long ((p1.toUInt64 >>> ((40 : Int32) &&& 0x3f).toInt64.toUInt64).toInt64))]) (rest := []) (lenOf pd_0 rfl) rfl (by show 2 * 0 + _ ≤ _; exact Nat.le_of_eq rfl) (hb hby at_50) (fun _ _ => ⟨rfl, hh457, (by decide : 1 + 0 ≤ _), (by decide : 3 + 0 ≤ _)⟩)
  dsimp only [Pt.U, Pt.locs, Pt.cells, Pt.slots] at X460 l460 y460 z460 st460 hQ460
  subst l460 y460 z460
  obtain ⟨c4, rfl, Nq460, hh460, hc4⟩ := hQ460
  have N460 := Fr.app M457 Nq460
  have k461 : Rch p e below S0 T460 (mkF m 53 #[.val (.long p1), .second, .val (.long p2), .second, vI p3, vI 3, vR b441, vI c0, vI c1, vI c2, vI c3, vU, vU, vU, vU, vU] [(.int c4)]) := fun t h => k459 t (st460 t h)
  obtain ⟨lo460, Y460, M460⟩ : ∃ lo, Stand p l e room_1 (s.setVm s.vm) m #[(.long p1), (.long p2), (.int p3)] below meth c T460 lo 1 3 ∧ Fr n0 lo := ⟨_, X460, N460⟩
  clear X460 N460
  have k462 : Rch p e below S0 T460 (mkF m 59 #[.val (.long p1), .second, .val (.long p2), .second, vI p3, vI 3, vR b441, vI c0, vI c1, vI c2, vI c3, vI c4, vU, vU, vU, vU] [(.long ((p1.toUInt64 >>> ((50 : Int32) &&& 0x3f).toInt64.toUInt64).toInt64))]) := fun t h => k461 t (by
      show Steps p.tables e below (T460.setTop (mkF m 53 #[.val (.long p1), .second, .val (.long p2), .second, vI p3, vI 3, vR b441, vI c0, vI c1, vI c2, vI c3, vU, vU, vU, vU, vU] [(.int c4)])) _
      refine XS.istore Y460.here hx rfl (hb hby at_53) rfl (l' := #[.val (.long p1), .second, .val (.long p2), .second, vI p3, vI 3, vR b441, vI c0, vI c1, vI c2, vI c3, vI c4, vU, vU, vU, vU]) rfl ?_
      refine XS.lloadN Y460.here hx rfl (hb hby at_55) rfl ?_
      refine XS.bipush Y460.here hx rfl (hb hby at_56) ?_
      refine XS.lushr Y460.here hx rfl (hb hby at_58) rfl ?_
      exact h)
  obtain ⟨_, _, ⟨T463, L463, kk463, n463⟩, -, X463, ⟨Lc463, hQ463, l463, y463, z463⟩, st463⟩ := Jvm.LawKit.callS Y460 hx (y := (⟨"com/example/nuthatch/nuthatch/EntryNameIsMemberPinLaw", "ch", "(J)C"⟩ : MethodName)) hown (mvT hZ (hw _ (gm 1 rfl))) (mvT hZ (hw _ (gm 2 rfl))) (mvT hZ (hw _ (gm 3 rfl))) (mvT hZ (hw _ (gm 4 rfl))) (by decide) (backOf (W := 0) (rmCh l Z a0 hw [] ((p1.toUInt64 >>> ((50 : Int32) &&& 0x3f).toInt64.toUInt64).toInt64)  h441 n0 O445 ) hZ (hw _ (gm 4 rfl)) (hw _ (gm 3 rfl)) (by decide) (by decide)) (g := (mkF m 59 #[.val (.long p1), .second, .val (.long p2), .second, vI p3, vI 3, vR b441, vI c0, vI c1, vI c2, vI c3, vI c4, vU, vU, vU, vU] [(.long ((p1.toUInt64 >>> ((50 : Int32) &&& 0x3f).toInt64.toUInt64).toInt64))])) rfl (by rw [hml]; rfl) (argsL := [(.long ((p1.toUInt64 >>> ((50 : Int32) &&& 0x3f).toInt64.toUInt64).toInt64))]) (rest := []) (lenOf pd_0 rfl) rfl (by show 2 * 0 + _ ≤ _; exact Nat.le_of_eq rfl) (hb hby at_59) (fun _ _ => ⟨rfl, hh460, (by decide : 1 + 0 ≤ _), (by decide : 3 + 0 ≤ _)⟩)
  dsimp only [Pt.U, Pt.locs, Pt.cells, Pt.slots] at X463 l463 y463 z463 st463 hQ463
  subst l463 y463 z463
  obtain ⟨c5, rfl, Nq463, hh463, hc5⟩ := hQ463
  have N463 := Fr.app M460 Nq463
  have k464 : Rch p e below S0 T463 (mkF m 62 #[.val (.long p1), .second, .val (.long p2), .second, vI p3, vI 3, vR b441, vI c0, vI c1, vI c2, vI c3, vI c4, vU, vU, vU, vU] [(.int c5)]) := fun t h => k462 t (st463 t h)
  obtain ⟨lo463, Y463, M463⟩ : ∃ lo, Stand p l e room_1 (s.setVm s.vm) m #[(.long p1), (.long p2), (.int p3)] below meth c T463 lo 1 3 ∧ Fr n0 lo := ⟨_, X463, N463⟩
  clear X463 N463
  have k465 : Rch p e below S0 T463 (mkF m 65 #[.val (.long p1), .second, .val (.long p2), .second, vI p3, vI 3, vR b441, vI c0, vI c1, vI c2, vI c3, vI c4, vI c5, vU, vU, vU] [(.long p2)]) := fun t h => k464 t (by
      show Steps p.tables e below (T463.setTop (mkF m 62 #[.val (.long p1), .second, .val (.long p2), .second, vI p3, vI 3, vR b441, vI c0, vI c1, vI c2, vI c3, vI c4, vU, vU, vU, vU] [(.int c5)])) _
      refine XS.istore Y463.here hx rfl (hb hby at_62) rfl (l' := #[.val (.long p1), .second, .val (.long p2), .second, vI p3, vI 3, vR b441, vI c0, vI c1, vI c2, vI c3, vI c4, vI c5, vU, vU, vU]) rfl ?_
      refine XS.lloadN Y463.here hx rfl (hb hby at_64) rfl ?_
      exact h)
  obtain ⟨_, _, ⟨T466, L466, kk466, n466⟩, -, X466, ⟨Lc466, hQ466, l466, y466, z466⟩, st466⟩ := Jvm.LawKit.callS Y463 hx (y := (⟨"com/example/nuthatch/nuthatch/EntryNameIsMemberPinLaw", "ch", "(J)C"⟩ : MethodName)) hown (mvT hZ (hw _ (gm 1 rfl))) (mvT hZ (hw _ (gm 2 rfl))) (mvT hZ (hw _ (gm 3 rfl))) (mvT hZ (hw _ (gm 4 rfl))) (by decide) (backOf (W := 0) (rmCh l Z a0 hw [] p2  h441 n0 O445 ) hZ (hw _ (gm 4 rfl)) (hw _ (gm 3 rfl)) (by decide) (by decide)) (g := (mkF m 65 #[.val (.long p1), .second, .val (.long p2), .second, vI p3, vI 3, vR b441, vI c0, vI c1, vI c2, vI c3, vI c4, vI c5, vU, vU, vU] [(.long p2)])) rfl (by rw [hml]; rfl) (argsL := [(.long p2)]) (rest := []) (lenOf pd_0 rfl) rfl (by show 2 * 0 + _ ≤ _; exact Nat.le_of_eq rfl) (hb hby at_65) (fun _ _ => ⟨rfl, hh463, (by decide : 1 + 0 ≤ _), (by decide : 3 + 0 ≤ _)⟩)
  dsimp only [Pt.U, Pt.locs, Pt.cells, Pt.slots] at X466 l466 y466 z466 st466 hQ466
  subst l466 y466 z466
  obtain ⟨c6, rfl, Nq466, hh466, hc6⟩ := hQ466
  have N466 := Fr.app M463 Nq466
  have k467 : Rch p e below S0 T466 (mkF m 68 #[.val (.long p1), .second, .val (.long p2), .second, vI p3, vI 3, vR b441, vI c0, vI c1, vI c2, vI c3, vI c4, vI c5, vU, vU, vU] [(.int c6)]) := fun t h => k465 t (st466 t h)
  obtain ⟨lo466, Y466, M466⟩ : ∃ lo, Stand p l e room_1 (s.setVm s.vm) m #[(.long p1), (.long p2), (.int p3)] below meth c T466 lo 1 3 ∧ Fr n0 lo := ⟨_, X466, N466⟩
  clear X466 N466
  have k469 : Rch p e below S0 T466 (mkF m 80 #[.val (.long p1), .second, .val (.long p2), .second, vI p3, vI 3, vR b441, vI c0, vI c1, vI c2, vI c3, vI c4, vI c5, vI c6, vU, vU] [(.int c0), (.int (0 : Int32)), (.ref b441)]) := fun t h => k467 t (by
      show Steps p.tables e below (T466.setTop (mkF m 68 #[.val (.long p1), .second, .val (.long p2), .second, vI p3, vI 3, vR b441, vI c0, vI c1, vI c2, vI c3, vI c4, vI c5, vU, vU, vU] [(.int c6)])) _
      refine XS.istore Y466.here hx rfl (hb hby at_68) rfl (l' := #[.val (.long p1), .second, .val (.long p2), .second, vI p3, vI 3, vR b441, vI c0, vI c1, vI c2, vI c3, vI c4, vI c5, vI c6, vU, vU]) rfl ?_
      refine XS.iload Y466.here hx rfl (hb hby at_70) rfl ?_
      refine XS.ifNo Y466.here hx rfl (hb hby at_72) rfl ((if0 _ _).trans (tlt (by decide : (0 : Int32) < (3 : Int32))).2.2.2) ?_
      refine XS.aload Y466.here hx rfl (hb hby at_75) rfl rfl ?_
      refine XS.iconst Y466.here hx rfl (hb hby at_77) ?_
      refine XS.iload Y466.here hx rfl (hb hby at_78) rfl ?_
      exact h)
  obtain ⟨cl468, Ar468, q468, Sz468, Ng468, Hs468, G468⟩ := id V_b441
  have hin468 : ¬ ((0 : Int32) < 0 ∨ cl468.slots.size ≤ ((0 : Int32)).toNatClampNeg) := inb_of Sz468 ⟨by decide, by decide⟩
  obtain ⟨T468, h468, X468, e468, W468, st468⟩ := stC Y466 hx hZ hh466 Ar468 (j := (0 : Int32)) hin468 (g := (mkF m 80 #[.val (.long p1), .second, .val (.long p2), .second, vI p3, vI 3, vR b441, vI c0, vI c1, vI c2, vI c3, vI c4, vI c5, vI c6, vU, vU] [(.int c0), (.int (0 : Int32)), (.ref b441)])) rfl rfl (hb hby at_80)
  have k470 : Rch p e below S0 T468 (mkF m 81 #[.val (.long p1), .second, .val (.long p2), .second, vI p3, vI 3, vR b441, vI c0, vI c1, vI c2, vI c3, vI c4, vI c5, vI c6, vU, vU] []) := fun t h => k469 t (st468 t h)
  have N468 := Fr.snoc X468 M466 ge_b441
  have V_b441' := Arv.set Ar468 q468 Sz468 Ng468 Hs468 G468 (fits_nar_char _) W468 0 rfl (Nat.le_of_ble_eq_true rfl)
  replace V_b441 : Arv Z h468 b441 k441 .char (3 : Int32) [(.int c0), (.int (0 : Int32)), (.int (0 : Int32))] (.int (0 : Int32)) := (by have q := V_b441'; rw [(own_nar c0 hc0).1] at q; exact q)
  have hC471 := hC444.wr W468 sf_b441
  have rC471 := rC444.trans (CHr.wr W468 sf_b441 hC444)
  replace sf_b441 := Safe.wr W468 sf_b441 hC444 sf_b441
  have O472 := O445.wr W468 ge_b441
  have hkk473 := Nat.le_trans hkk446 (Keep.of_wr W468).1
  have k475 : Rch p e below S0 T468 (mkF m 92 #[.val (.long p1), .second, .val (.long p2), .second, vI p3, vI 3, vR b441, vI c0, vI c1, vI c2, vI c3, vI c4, vI c5, vI c6, vU, vU] [(.int c1), (.int (1 : Int32)), (.ref b441)]) := fun t h => k470 t (by
      show Steps p.tables e below (T468.setTop (mkF m 81 #[.val (.long p1), .second, .val (.long p2), .second, vI p3, vI 3, vR b441, vI c0, vI c1, vI c2, vI c3, vI c4, vI c5, vI c6, vU, vU] [])) _
      refine XS.iload X468.here hx rfl (hb hby at_81) rfl ?_
      refine XS.iconst X468.here hx rfl (hb hby at_83) ?_
      refine XS.icmpNo X468.here hx rfl (hb hby at_84) rfl (tlt (by decide : (1 : Int32) < (3 : Int32))).2.2.2 ?_
      refine XS.aload X468.here hx rfl (hb hby at_87) rfl rfl ?_
      refine XS.iconst X468.here hx rfl (hb hby at_89) ?_
      refine XS.iload X468.here hx rfl (hb hby at_90) rfl ?_
      exact h)
  obtain ⟨cl474, Ar474, q474, Sz474, Ng474, Hs474, G474⟩ := id V_b441
  have hin474 : ¬ ((1 : Int32) < 0 ∨ cl474.slots.size ≤ ((1 : Int32)).toNatClampNeg) := inb_of Sz474 ⟨by decide, by decide⟩
  obtain ⟨T474, h474, X474, e474, W474, st474⟩ := stC X468 hx hZ e468 Ar474 (j := (1 : Int32)) hin474 (g := (mkF m 92 #[.val (.long p1), .second, .val (.long p2), .second, vI p3, vI 3, vR b441, vI c0, vI c1, vI c2, vI c3, vI c4, vI c5, vI c6, vU, vU] [(.int c1), (.int (1 : Int32)), (.ref b441)])) rfl rfl (hb hby at_92)
  have k476 : Rch p e below S0 T474 (mkF m 93 #[.val (.long p1), .second, .val (.long p2), .second, vI p3, vI 3, vR b441, vI c0, vI c1, vI c2, vI c3, vI c4, vI c5, vI c6, vU, vU] []) := fun t h => k475 t (st474 t h)
  have N474 := Fr.snoc X474 N468 ge_b441
  have V_b441' := Arv.set Ar474 q474 Sz474 Ng474 Hs474 G474 (fits_nar_char _) W474 1 rfl (Nat.le_of_ble_eq_true rfl)
  replace V_b441 : Arv Z h474 b441 k441 .char (3 : Int32) [(.int c0), (.int c1), (.int (0 : Int32))] (.int (0 : Int32)) := (by have q := V_b441'; rw [(own_nar c1 hc1).1] at q; exact q)
  have hC477 := hC471.wr W474 sf_b441
  have rC477 := rC471.trans (CHr.wr W474 sf_b441 hC471)
  replace sf_b441 := Safe.wr W474 sf_b441 hC471 sf_b441
  have O478 := O472.wr W474 ge_b441
  have hkk479 := Nat.le_trans hkk473 (Keep.of_wr W474).1
  have k481 : Rch p e below S0 T474 (mkF m 104 #[.val (.long p1), .second, .val (.long p2), .second, vI p3, vI 3, vR b441, vI c0, vI c1, vI c2, vI c3, vI c4, vI c5, vI c6, vU, vU] [(.int c2), (.int (2 : Int32)), (.ref b441)]) := fun t h => k476 t (by
      show Steps p.tables e below (T474.setTop (mkF m 93 #[.val (.long p1), .second, .val (.long p2), .second, vI p3, vI 3, vR b441, vI c0, vI c1, vI c2, vI c3, vI c4, vI c5, vI c6, vU, vU] [])) _
      refine XS.iload X474.here hx rfl (hb hby at_93) rfl ?_
      refine XS.iconst X474.here hx rfl (hb hby at_95) ?_
      refine XS.icmpNo X474.here hx rfl (hb hby at_96) rfl (tlt (by decide : (2 : Int32) < (3 : Int32))).2.2.2 ?_
      refine XS.aload X474.here hx rfl (hb hby at_99) rfl rfl ?_
      refine XS.iconst X474.here hx rfl (hb hby at_101) ?_
      refine XS.iload X474.here hx rfl (hb hby at_102) rfl ?_
      exact h)
  obtain ⟨cl480, Ar480, q480, Sz480, Ng480, Hs480, G480⟩ := id V_b441
  have hin480 : ¬ ((2 : Int32) < 0 ∨ cl480.slots.size ≤ ((2 : Int32)).toNatClampNeg) := inb_of Sz480 ⟨by decide, by decide⟩
  obtain ⟨T480, h480, X480, e480, W480, st480⟩ := stC X474 hx hZ e474 Ar480 (j := (2 : Int32)) hin480 (g := (mkF m 104 #[.val (.long p1), .second, .val (.long p2), .second, vI p3, vI 3, vR b441, vI c0, vI c1, vI c2, vI c3, vI c4, vI c5, vI c6, vU, vU] [(.int c2), (.int (2 : Int32)), (.ref b441)])) rfl rfl (hb hby at_104)
  have k482 : Rch p e below S0 T480 (mkF m 105 #[.val (.long p1), .second, .val (.long p2), .second, vI p3, vI 3, vR b441, vI c0, vI c1, vI c2, vI c3, vI c4, vI c5, vI c6, vU, vU] []) := fun t h => k481 t (st480 t h)
  have N480 := Fr.snoc X480 N474 ge_b441
  have V_b441' := Arv.set Ar480 q480 Sz480 Ng480 Hs480 G480 (fits_nar_char _) W480 2 rfl (Nat.le_of_ble_eq_true rfl)
  replace V_b441 : Arv Z h480 b441 k441 .char (3 : Int32) [(.int c0), (.int c1), (.int c2)] (.int (0 : Int32)) := (by have q := V_b441'; rw [(own_nar c2 hc2).1] at q; exact q)
  have hC483 := hC477.wr W480 sf_b441
  have rC483 := rC477.trans (CHr.wr W480 sf_b441 hC477)
  replace sf_b441 := Safe.wr W480 sf_b441 hC477 sf_b441
  have O484 := O478.wr W480 ge_b441
  have hkk485 := Nat.le_trans hkk479 (Keep.of_wr W480).1
  have k486 : Rch p e below S0 T480 (mkF m 229 #[.val (.long p1), .second, .val (.long p2), .second, vI p3, vI 3, vR b441, vI c0, vI c1, vI c2, vI c3, vI c4, vI c5, vI c6, vI 0, vU] [(.int c2), (.int (0 : Int32))]) := fun t h => k482 t (by
      show Steps p.tables e below (T480.setTop (mkF m 105 #[.val (.long p1), .second, .val (.long p2), .second, vI p3, vI 3, vR b441, vI c0, vI c1, vI c2, vI c3, vI c4, vI c5, vI c6, vU, vU] [])) _
      refine XS.iload X480.here hx rfl (hb hby at_105) rfl ?_
      refine XS.iconst X480.here hx rfl (hb hby at_107) ?_
      refine XS.icmpYes X480.here hx rfl (pc0 := 108) (pc' := 117) rfl (hb hby at_108) rfl (flt (by decide : ¬ ((3 : Int32) < (3 : Int32)))).2.2.2 (by decide) (by decide) ?_
      refine XS.iload X480.here hx rfl (hb hby at_117) rfl ?_
      refine XS.iconst X480.here hx rfl (hb hby at_119) ?_
      refine XS.icmpYes X480.here hx rfl (pc0 := 120) (pc' := 129) rfl (hb hby at_120) rfl (flt (by decide : ¬ ((4 : Int32) < (3 : Int32)))).2.2.2 (by decide) (by decide) ?_
      refine XS.iload X480.here hx rfl (hb hby at_129) rfl ?_
      refine XS.iconst X480.here hx rfl (hb hby at_131) ?_
      refine XS.icmpYes X480.here hx rfl (pc0 := 132) (pc' := 141) rfl (hb hby at_132) rfl (flt (by decide : ¬ ((5 : Int32) < (3 : Int32)))).2.2.2 (by decide) (by decide) ?_
      refine XS.iload X480.here hx rfl (hb hby at_141) rfl ?_
      refine XS.bipush X480.here hx rfl (hb hby at_143) ?_
      refine XS.icmpYes X480.here hx rfl (pc0 := 145) (pc' := 155) rfl (hb hby at_145) rfl (flt (by decide : ¬ ((6 : Int32) < (3 : Int32)))).2.2.2 (by decide) (by decide) ?_
      refine XS.iconst X480.here hx rfl (hb hby at_155) ?_
      show Steps p.tables e below (T480.setTop (mkF m 156 #[.val (.long p1), .second, .val (.long p2), .second, vI p3, vI 3, vR b441, vI c0, vI c1, vI c2, vI c3, vI c4, vI c5, vI c6, vU, vU] [(.int (0 : Int32))])) _
      refine XS.istore X480.here hx rfl (hb hby at_156) rfl (l' := #[.val (.long p1), .second, .val (.long p2), .second, vI p3, vI 3, vR b441, vI c0, vI c1, vI c2, vI c3, vI c4, vI c5, vI c6, vI 0, vU]) rfl ?_
      refine XS.iload X480.here hx rfl (hb hby at_158) rfl ?_
      refine XS.bipush X480.here hx rfl (hb hby at_160) ?_
      refine XS.icmpYes X480.here hx rfl (pc0 := 162) (pc' := 174) rfl (hb hby at_162) rfl (flt (by decide : ¬ ((6 : Int32) < (3 : Int32)))).2.2.2 (by decide) (by decide) ?_
      refine XS.iload X480.here hx rfl (hb hby at_174) rfl ?_
      refine XS.iconst X480.here hx rfl (hb hby at_176) ?_
      refine XS.icmpYes X480.here hx rfl (pc0 := 177) (pc' := 189) rfl (hb hby at_177) rfl (flt (by decide : ¬ ((5 : Int32) < (3 : Int32)))).2.2.2 (by decide) (by decide) ?_
      refine XS.iload X480.here hx rfl (hb hby at_189) rfl ?_
      refine XS.iconst X480.here hx rfl (hb hby at_191) ?_
      refine XS.icmpYes X480.here hx rfl (pc0 := 192) (pc' := 204) rfl (hb hby at_192) rfl (flt (by decide : ¬ ((4 : Int32) < (3 : Int32)))).2.2.2 (by decide) (by decide) ?_
      refine XS.iload X480.here hx rfl (hb hby at_204) rfl ?_
      refine XS.iconst X480.here hx rfl (hb hby at_206) ?_
      refine XS.icmpYes X480.here hx rfl (pc0 := 207) (pc' := 219) rfl (hb hby at_207) rfl (flt (by decide : ¬ ((3 : Int32) < (3 : Int32)))).2.2.2 (by decide) (by decide) ?_
      refine XS.iload X480.here hx rfl (hb hby at_219) rfl ?_
      refine XS.iconst X480.here hx rfl (hb hby at_221) ?_
      refine XS.icmpNo X480.here hx rfl (hb hby at_222) rfl (tlt (by decide : (2 : Int32) < (3 : Int32))).2.2.2 ?_
      refine XS.iload X480.here hx rfl (hb hby at_225) rfl ?_
      refine XS.iload X480.here hx rfl (hb hby at_227) rfl ?_
      exact h)
  obtain ⟨_, _, ⟨T487, L487, kk487, n487⟩, -, X487, ⟨Lc487, hQ487, l487, y487, z487⟩, st487⟩ := Jvm.LawKit.callS X480 hx (y := (⟨"com/example/nuthatch/nuthatch/EntryNameIsMemberPinLaw", "step", "(IC)I"⟩ : MethodName)) hown (mvT hZ (hw _ (gm 71 rfl))) (mvT hZ (hw _ (gm 72 rfl))) (mvT hZ (hw _ (gm 3 rfl))) (mvT hZ (hw _ (gm 73 rfl))) (by decide) (backOf (W := 0) (rmST l Z a0 hw [] (0 : Int32) c2  h480 n0 O484 ) hZ (hw _ (gm 73 rfl)) (hw _ (gm 3 rfl)) (by decide) (by decide)) (g := (mkF m 229 #[.val (.long p1), .second, .val (.long p2), .second, vI p3, vI 3, vR b441, vI c0, vI c1, vI c2, vI c3, vI c4, vI c5, vI c6, vI 0, vU] [(.int c2), (.int (0 : Int32))])) rfl (by rw [hml]; rfl) (argsL := [(.int (0 : Int32)), (.int c2)]) (rest := []) (lenOf pd_13 rfl) rfl (by show 2 * 0 + _ ≤ _; exact Nat.le_of_eq rfl) (hb hby at_229) (fun _ _ => ⟨rfl, e480, (by decide : 1 + 0 ≤ _), (by decide : 3 + 0 ≤ _)⟩)
  dsimp only [Pt.U, Pt.locs, Pt.cells, Pt.slots] at X487 l487 y487 z487 st487 hQ487
  subst l487 y487 z487
  obtain ⟨rfl, Nq487, hh487⟩ := hQ487
  have N487 := Fr.app N480 Nq487
  have k488 : Rch p e below S0 T487 (mkF m 232 #[.val (.long p1), .second, .val (.long p2), .second, vI p3, vI 3, vR b441, vI c0, vI c1, vI c2, vI c3, vI c4, vI c5, vI c6, vI 0, vU] [(.int (own_stI (0 : Int32) (kc c2)))]) := fun t h => k486 t (st487 t h)
  obtain ⟨lo487, Y487, M487⟩ : ∃ lo, Stand p l e room_1 (s.setVm s.vm) m #[(.long p1), (.long p2), (.int p3)] below meth c T487 lo 1 3 ∧ Fr n0 lo := ⟨_, X487, N487⟩
  clear X487 N487
  obtain ⟨sv2, hsv2⟩ : ∃ z : Int32, z = own_stI (0 : Int32) (kc c2) := ⟨_, rfl⟩
  rw [← hsv2] at k488
  have k489 : Rch p e below S0 T487 (mkF m 244 #[.val (.long p1), .second, .val (.long p2), .second, vI p3, vI 3, vR b441, vI c0, vI c1, vI c2, vI c3, vI c4, vI c5, vI c6, vI sv2, vU] [(.int c1), (.int sv2)]) := fun t h => k488 t (by
      show Steps p.tables e below (T487.setTop (mkF m 232 #[.val (.long p1), .second, .val (.long p2), .second, vI p3, vI 3, vR b441, vI c0, vI c1, vI c2, vI c3, vI c4, vI c5, vI c6, vI 0, vU] [(.int sv2)])) _
      refine XS.istore Y487.here hx rfl (hb hby at_232) rfl (l' := #[.val (.long p1), .second, .val (.long p2), .second, vI p3, vI 3, vR b441, vI c0, vI c1, vI c2, vI c3, vI c4, vI c5, vI c6, vI sv2, vU]) rfl ?_
      refine XS.iload Y487.here hx rfl (hb hby at_234) rfl ?_
      refine XS.iconst Y487.here hx rfl (hb hby at_236) ?_
      refine XS.icmpNo Y487.here hx rfl (hb hby at_237) rfl (tlt (by decide : (1 : Int32) < (3 : Int32))).2.2.2 ?_
      refine XS.iload Y487.here hx rfl (hb hby at_240) rfl ?_
      refine XS.iload Y487.here hx rfl (hb hby at_242) rfl ?_
      exact h)
  obtain ⟨_, _, ⟨T490, L490, kk490, n490⟩, -, X490, ⟨Lc490, hQ490, l490, y490, z490⟩, st490⟩ := Jvm.LawKit.callS Y487 hx (y := (⟨"com/example/nuthatch/nuthatch/EntryNameIsMemberPinLaw", "step", "(IC)I"⟩ : MethodName)) hown (mvT hZ (hw _ (gm 71 rfl))) (mvT hZ (hw _ (gm 72 rfl))) (mvT hZ (hw _ (gm 3 rfl))) (mvT hZ (hw _ (gm 73 rfl))) (by decide) (backOf (W := 0) (rmST l Z a0 hw [] sv2 c1  h480 n0 O484 ) hZ (hw _ (gm 73 rfl)) (hw _ (gm 3 rfl)) (by decide) (by decide)) (g := (mkF m 244 #[.val (.long p1), .second, .val (.long p2), .second, vI p3, vI 3, vR b441, vI c0, vI c1, vI c2, vI c3, vI c4, vI c5, vI c6, vI sv2, vU] [(.int c1), (.int sv2)])) rfl (by rw [hml]; rfl) (argsL := [(.int sv2), (.int c1)]) (rest := []) (lenOf pd_13 rfl) rfl (by show 2 * 0 + _ ≤ _; exact Nat.le_of_eq rfl) (hb hby at_244) (fun _ _ => ⟨rfl, hh487, (by decide : 1 + 0 ≤ _), (by decide : 3 + 0 ≤ _)⟩)
  dsimp only [Pt.U, Pt.locs, Pt.cells, Pt.slots] at X490 l490 y490 z490 st490 hQ490
  subst l490 y490 z490
  obtain ⟨rfl, Nq490, hh490⟩ := hQ490
  have N490 := Fr.app M487 Nq490
  have k491 : Rch p e below S0 T490 (mkF m 247 #[.val (.long p1), .second, .val (.long p2), .second, vI p3, vI 3, vR b441, vI c0, vI c1, vI c2, vI c3, vI c4, vI c5, vI c6, vI sv2, vU] [(.int (own_stI sv2 (kc c1)))]) := fun t h => k489 t (st490 t h)
  obtain ⟨lo490, Y490, M490⟩ : ∃ lo, Stand p l e room_1 (s.setVm s.vm) m #[(.long p1), (.long p2), (.int p3)] below meth c T490 lo 1 3 ∧ Fr n0 lo := ⟨_, X490, N490⟩
  clear X490 N490
  obtain ⟨sv1, hsv1⟩ : ∃ z : Int32, z = own_stI sv2 (kc c1) := ⟨_, rfl⟩
  rw [← hsv1] at k491
  have k492 : Rch p e below S0 T490 (mkF m 258 #[.val (.long p1), .second, .val (.long p2), .second, vI p3, vI 3, vR b441, vI c0, vI c1, vI c2, vI c3, vI c4, vI c5, vI c6, vI sv1, vU] [(.int c0), (.int sv1)]) := fun t h => k491 t (by
      show Steps p.tables e below (T490.setTop (mkF m 247 #[.val (.long p1), .second, .val (.long p2), .second, vI p3, vI 3, vR b441, vI c0, vI c1, vI c2, vI c3, vI c4, vI c5, vI c6, vI sv2, vU] [(.int sv1)])) _
      refine XS.istore Y490.here hx rfl (hb hby at_247) rfl (l' := #[.val (.long p1), .second, .val (.long p2), .second, vI p3, vI 3, vR b441, vI c0, vI c1, vI c2, vI c3, vI c4, vI c5, vI c6, vI sv1, vU]) rfl ?_
      refine XS.iload Y490.here hx rfl (hb hby at_249) rfl ?_
      refine XS.ifNo Y490.here hx rfl (hb hby at_251) rfl ((if0 _ _).trans (tlt (by decide : (0 : Int32) < (3 : Int32))).2.2.2) ?_
      refine XS.iload Y490.here hx rfl (hb hby at_254) rfl ?_
      refine XS.iload Y490.here hx rfl (hb hby at_256) rfl ?_
      exact h)
  obtain ⟨_, _, ⟨T493, L493, kk493, n493⟩, -, X493, ⟨Lc493, hQ493, l493, y493, z493⟩, st493⟩ := Jvm.LawKit.callS Y490 hx (y := (⟨"com/example/nuthatch/nuthatch/EntryNameIsMemberPinLaw", "step", "(IC)I"⟩ : MethodName)) hown (mvT hZ (hw _ (gm 71 rfl))) (mvT hZ (hw _ (gm 72 rfl))) (mvT hZ (hw _ (gm 3 rfl))) (mvT hZ (hw _ (gm 73 rfl))) (by decide) (backOf (W := 0) (rmST l Z a0 hw [] sv1 c0  h480 n0 O484 ) hZ (hw _ (gm 73 rfl)) (hw _ (gm 3 rfl)) (by decide) (by decide)) (g := (mkF m 258 #[.val (.long p1), .second, .val (.long p2), .second, vI p3, vI 3, vR b441, vI c0, vI c1, vI c2, vI c3, vI c4, vI c5, vI c6, vI sv1, vU] [(.int c0), (.int sv1)])) rfl (by rw [hml]; rfl) (argsL := [(.int sv1), (.int c0)]) (rest := []) (lenOf pd_13 rfl) rfl (by show 2 * 0 + _ ≤ _; exact Nat.le_of_eq rfl) (hb hby at_258) (fun _ _ => ⟨rfl, hh490, (by decide : 1 + 0 ≤ _), (by decide : 3 + 0 ≤ _)⟩)
  dsimp only [Pt.U, Pt.locs, Pt.cells, Pt.slots] at X493 l493 y493 z493 st493 hQ493
  subst l493 y493 z493
  obtain ⟨rfl, Nq493, hh493⟩ := hQ493
  have N493 := Fr.app M490 Nq493
  have k494 : Rch p e below S0 T493 (mkF m 261 #[.val (.long p1), .second, .val (.long p2), .second, vI p3, vI 3, vR b441, vI c0, vI c1, vI c2, vI c3, vI c4, vI c5, vI c6, vI sv1, vU] [(.int (own_stI sv1 (kc c0)))]) := fun t h => k492 t (st493 t h)
  obtain ⟨lo493, Y493, M493⟩ : ∃ lo, Stand p l e room_1 (s.setVm s.vm) m #[(.long p1), (.long p2), (.int p3)] below meth c T493 lo 1 3 ∧ Fr n0 lo := ⟨_, X493, N493⟩
  clear X493 N493
  obtain ⟨sv0, hsv0⟩ : ∃ z : Int32, z = own_stI sv1 (kc c0) := ⟨_, rfl⟩
  rw [← hsv0] at k494
  have k495 : Rch p e below S0 T493 (mkF m 263 #[.val (.long p1), .second, .val (.long p2), .second, vI p3, vI 3, vR b441, vI c0, vI c1, vI c2, vI c3, vI c4, vI c5, vI c6, vI sv0, vU] []) := fun t h => k494 t (by
      show Steps p.tables e below (T493.setTop (mkF m 261 #[.val (.long p1), .second, .val (.long p2), .second, vI p3, vI 3, vR b441, vI c0, vI c1, vI c2, vI c3, vI c4, vI c5, vI c6, vI sv1, vU] [(.int sv0)])) _
      refine XS.istore Y493.here hx rfl (hb hby at_261) rfl (l' := #[.val (.long p1), .second, .val (.long p2), .second, vI p3, vI 3, vR b441, vI c0, vI c1, vI c2, vI c3, vI c4, vI c5, vI c6, vI sv0, vU]) rfl ?_
      exact h)
  have hpc : ∀ c ∈ ([c0, c1, c2] : List Int32), ¬ c < 0 ∧ ¬ (255 : Int32) < c := by
    intro c hc
    simp only [List.mem_cons, List.not_mem_nil, or_false] at hc
    rcases hc with rfl | rfl | rfl
    · exact hc0
    · exact hc1
    · exact hc2
  have hpl := own_plain (([c0, c1, c2] : List Int32).map kc) 3 rfl (by decide) (fun y hy => by obtain ⟨c, -, rfl⟩ := List.mem_map.mp hy; exact kc_lt c)
  cases hM : own_mem (([c0, c1, c2] : List Int32).map kc) 3 with
  | true =>
    have hF : sv0 = 4 := by
      have q := hpl.1 hM
      simp only [own_fsI, List.map_cons, List.map_nil, List.foldr_cons, List.foldr_nil] at q
      rw [hsv0, hsv1, hsv2]; exact q
    clear hpl hsv0 hsv1 hsv2
    have hbm : own_b (own_mem (([c0, c1, c2] : List Int32).map kc) 3) = 1 := by rw [hM]; rfl
    clear hM
    have k496 : Rch p e below S0 T493 (mkF m 276 #[.val (.long p1), .second, .val (.long p2), .second, vI p3, vI 3, vR b441, vI c0, vI c1, vI c2, vI c3, vI c4, vI c5, vI c6, vI sv0, vI 1] []) := fun t h => k495 t (by
        show Steps p.tables e below (T493.setTop (mkF m 263 #[.val (.long p1), .second, .val (.long p2), .second, vI p3, vI 3, vR b441, vI c0, vI c1, vI c2, vI c3, vI c4, vI c5, vI c6, vI sv0, vU] [])) _
        refine XS.iload Y493.here hx rfl (hb hby at_263) rfl ?_
        refine XS.iconst Y493.here hx rfl (hb hby at_265) ?_
        refine XS.icmpNo Y493.here hx rfl (hb hby at_266) rfl (teq (hF : sv0 = (4 : Int32))).2 ?_
        refine XS.iconst Y493.here hx rfl (hb hby at_269) ?_
        refine XS.goto Y493.here hx rfl (pc0 := 270) (pc' := 274) rfl (hb hby at_270) (by decide) (by decide) ?_
        refine XS.istore Y493.here hx rfl (hb hby at_274) rfl (l' := #[.val (.long p1), .second, .val (.long p2), .second, vI p3, vI 3, vR b441, vI c0, vI c1, vI c2, vI c3, vI c4, vI c5, vI c6, vI sv0, vI 1]) rfl ?_
        exact h)
    clear hF
    obtain ⟨T497, h497, X497, e497, E497, A497, D497, -, st497⟩ := newO Y493 hx hZ hown (hw _ (gm 6 rfl)) (hw _ (gm 7 rfl)) (hw _ (gm 8 rfl)) hh493 (g := (mkF m 276 #[.val (.long p1), .second, .val (.long p2), .second, vI p3, vI 3, vR b441, vI c0, vI c1, vI c2, vI c3, vI c4, vI c5, vI c6, vI sv0, vI 1] [])) rfl (hb hby at_276) (by decide) (by decide)
    obtain ⟨b497, g497⟩ : ∃ z, z = h480.size := ⟨_, rfl⟩
    rw [← g497] at A497 D497 st497
    have k498 : Rch p e below S0 T497 (mkF m 279 #[.val (.long p1), .second, .val (.long p2), .second, vI p3, vI 3, vR b441, vI c0, vI c1, vI c2, vI c3, vI c4, vI c5, vI c6, vI sv0, vI 1] [(.ref b497)]) := fun t h => k496 t (st497 t h)
    have ne_b441_b497 : b441 ≠ b497 := own_ne V_b441.lt (Nat.le_of_eq g497.symm)
    have ge_b497 : n0 ≤ b497 := own_ge O484 (Nat.le_of_eq g497.symm)
    have sf_b497 : Safe Z consts_1 s.vm h480 b497 := Safe.new (Nat.le_of_eq g497.symm)
    replace sf_b441 := Safe.ext E497 hC483 sf_b441
    replace sf_b497 := Safe.ext E497 hC483 sf_b497
    have hC499 := hC483.ext E497
    have rC499 := rC483.trans (CHr.ext E497 hC483)
    have O500 := O484.ext E497
    replace V_b441 := V_b441.ext E497
    have hkk501 := Nat.le_trans hkk485 E497.1
    have E_b497 := A497
    have F_b497_value : Fld Z h497 b497 "java/lang/String" "value" "[B" .null := D497 (Or.inr (hw _ (gm 21 rfl))) (ty := (.array .byte)) (by decide)
    have F_b497_coder : Fld Z h497 b497 "java/lang/String" "coder" "B" (.int (0 : Int32)) := D497 (Or.inr (hw _ (gm 22 rfl))) (ty := .byte) (by decide)
    have k502 : Rch p e below S0 T497 (mkF m 282 #[.val (.long p1), .second, .val (.long p2), .second, vI p3, vI 3, vR b441, vI c0, vI c1, vI c2, vI c3, vI c4, vI c5, vI c6, vI sv0, vI 1] [(.ref b441), (.ref b497), (.ref b497)]) := fun t h => k498 t (by
        show Steps p.tables e below (T497.setTop (mkF m 279 #[.val (.long p1), .second, .val (.long p2), .second, vI p3, vI 3, vR b441, vI c0, vI c1, vI c2, vI c3, vI c4, vI c5, vI c6, vI sv0, vI 1] [(.ref b497)])) _
        refine XS.dup X497.here hx rfl (hb hby at_279) rfl rfl ?_
        refine XS.aload X497.here hx rfl (hb hby at_280) rfl rfl ?_
        exact h)
    have hws : ∀ d ∈ StrChars.Road.words, d.before a0 Z = true := fun d hd => hw d ((by decide +kernel : ∀ d ∈ StrChars.Road.words, d ∈ tables_1) d hd)
    have hp : ∀ c ∈ ([c0, c1, c2] : List Int32), ¬ c < 0 ∧ ¬ (255 : Int32) < c := hpc
    obtain ⟨_, _, ⟨T503, L503, kk503, n503⟩, -, X503, ⟨Lc503, hQ503, l503, y503, z503⟩, st503⟩ := X497.specialBack hx (y := (⟨"java/lang/String", "<init>", "([C)V"⟩ : MethodName)) rfl hown (mvT hZ (hw _ (gm 9 rfl))) (mvT hZ (hw _ (gm 10 rfl))) (mvT hZ (hw _ (gm 11 rfl))) (by decide) (StrChars.Road.backV (W := 1) hZ hws (kI := 4) (hw _ (gm 7 rfl)) (cs := [c0, c1, c2]) (bs := [c0, c1, c2].map (fun c => c.toInt8.toInt32)) (n := 3) ge_b497 (own_le O500) E_b497 F_b497_value F_b497_coder V_b441 (SC.ext O500.2) hzC rfl rfl (by decide) (by decide) hp rfl (by decide) (by decide)) (g := (mkF m 282 #[.val (.long p1), .second, .val (.long p2), .second, vI p3, vI 3, vR b441, vI c0, vI c1, vI c2, vI c3, vI c4, vI c5, vI c6, vI sv0, vI 1] [(.ref b441), (.ref b497), (.ref b497)])) rfl (by rw [hml]; rfl) (Steps.refl _) (a := b497) (argsL := [(.ref b441)]) (rest := [(.ref b497)]) (lenOf pd_1 rfl) rfl (by show 2 * 0 + _ ≤ _; exact Nat.le_of_eq rfl) (hb hby at_282) (fun _ _ => ⟨rfl, e497, (by decide : 2 + 1 ≤ _), (by decide : 7 + 3 ≤ _)⟩)
    dsimp only [Pt.U, Pt.locs, Pt.cells, Pt.slots] at X503 l503 y503 z503 st503 hQ503
    subst l503 y503 z503
    obtain ⟨rfl, Nq503, K503, Eb503, Cb503, t503, kb503, u503, v503, ww503, Vb503, Ab503⟩ := hQ503
    have N503 := Fr.app M493 Nq503
    have k504 : Rch p e below S0 T503 (mkF m 285 #[.val (.long p1), .second, .val (.long p2), .second, vI p3, vI 3, vR b441, vI c0, vI c1, vI c2, vI c3, vI c4, vI c5, vI c6, vI sv0, vI 1] [(.ref b497)]) := fun t h => k502 t (st503.trans h)
    have hC505 := hC499.keep K503 (sfS sf_b497 sf0)
    have rC505 := rC499.trans (CHr.keep K503 (sfS sf_b497 sf0) hC499)
    have sfx506 := (sfS sf_b497 sf0)
    replace sf_b441 := Safe.keep K503 sfx506 hC499 sf_b441
    replace sf_b497 := Safe.keep K503 sfx506 hC499 sf_b497
    have O507 := O500.keep K503 (allS ge_b497 all0)
    replace V_b441 := V_b441.keep K503 (ninS ne_b441_b497 nin0)
    replace E_b497 := E_b497.keep K503
    have hkk508 := Nat.le_trans hkk501 K503.1
    obtain ⟨_, _, ⟨T509, L509, kk509, n509⟩, -, X509, ⟨Lc509, hQ509, l509, y509, z509⟩, st509⟩ := Jvm.LawKit.callS X503 hx (y := (⟨"com/example/nuthatch/nuthatch/EntryName", "isMember", "(Ljava/lang/String;)Z"⟩ : MethodName)) hown (mvT hZ (hw _ (gm 27 rfl))) (mvT hZ (hw _ (gm 28 rfl))) (mvT hZ (hw _ (gm 29 rfl))) (mvT hZ (hw _ (gm 30 rfl))) (by decide) (backOf (W := 0) (rmIM l Z a0 hw []  b497 t503 kb503 3 [c0, c1, c2] zC fm T503.heap n0 O507 SC hzC Eb503 Vb503 Cb503 Ab503 rfl (by decide) hpc SP hfm) hZ (hw _ (gm 30 rfl)) (hw _ (gm 29 rfl)) (by decide) (by decide)) (g := (mkF m 285 #[.val (.long p1), .second, .val (.long p2), .second, vI p3, vI 3, vR b441, vI c0, vI c1, vI c2, vI c3, vI c4, vI c5, vI c6, vI sv0, vI 1] [(.ref b497)])) rfl (by rw [hml]; rfl) (argsL := [(.ref b497)]) (rest := []) (lenOf pd_4 rfl) rfl (by show 2 * 0 + _ ≤ _; exact Nat.le_of_eq rfl) (hb hby at_285) (fun _ _ => ⟨rfl, rfl, (by decide : 3 + 0 ≤ _), (by decide : 10 + 0 ≤ _)⟩)
    dsimp only [Pt.U, Pt.locs, Pt.cells, Pt.slots] at X509 l509 y509 z509 st509 hQ509
    subst l509 y509 z509
    obtain ⟨rfl, Nq509, hh509⟩ := hQ509
    have N509 := Fr.app N503 Nq509
    have k510 : Rch p e below S0 T509 (mkF m 288 #[.val (.long p1), .second, .val (.long p2), .second, vI p3, vI 3, vR b441, vI c0, vI c1, vI c2, vI c3, vI c4, vI c5, vI c6, vI sv0, vI 1] [(.int (1 : Int32))]) := fun t h => k504 t (st509 t (by rw [hbm]; exact h))
    obtain ⟨lo509, Y509, M509⟩ : ∃ lo, Stand p l e room_1 (s.setVm s.vm) m #[(.long p1), (.long p2), (.int p3)] below meth c T509 lo 3 10 ∧ Fr n0 lo := ⟨_, X509, N509⟩
    clear X509 N509
    clear hbm
    have k511 : Rch p e below S0 T509 (mkF m 298 #[.val (.long p1), .second, .val (.long p2), .second, vI p3, vI 3, vR b441, vI c0, vI c1, vI c2, vI c3, vI c4, vI c5, vI c6, vI sv0, vI 1] [(.int (1 : Int32))]) := fun t h => k510 t (by
        show Steps p.tables e below (T509.setTop (mkF m 288 #[.val (.long p1), .second, .val (.long p2), .second, vI p3, vI 3, vR b441, vI c0, vI c1, vI c2, vI c3, vI c4, vI c5, vI c6, vI sv0, vI 1] [(.int (1 : Int32))])) _
        refine XS.iload Y509.here hx rfl (hb hby at_288) rfl ?_
        refine XS.icmpNo Y509.here hx rfl (hb hby at_290) rfl (teq (by decide : (1 : Int32) = (1 : Int32))).2 ?_
        refine XS.iconst Y509.here hx rfl (hb hby at_293) ?_
        refine XS.goto Y509.here hx rfl (pc0 := 294) (pc' := 298) rfl (hb hby at_294) (by decide) (by decide) ?_
        exact h)
    obtain ⟨fs, hr, hrun, hended, hfin⟩ := Y509.leaveW hS (by rw [hh509]; exact hkk508) (v := (some (.int (1 : Int32)))) (fun h => by rw [Bd.returns] at h; cases h)
    refine ⟨_, _, ?_, hrun, hended, _, _, rfl, ?_, (by rw [hh]; have q := own_chr rC505 (CHv.at Y509 hZ hEL hC505) hh509; exact q), hfin.1, hfin.2.1, hfin.2.2.1, hfin.2.2.2.mono (by decide) (by decide)⟩
    · rw [← hS0]
      refine k511 _ ?_
      show Steps p.tables e below (T509.setTop (mkF m 298 #[.val (.long p1), .second, .val (.long p2), .second, vI p3, vI 3, vR b441, vI c0, vI c1, vI c2, vI c3, vI c4, vI c5, vI c6, vI sv0, vI 1] [(.int (1 : Int32))])) _
      exact retN Y509 hx (t := .boolean) Bd.returns (by simp) (hb hby at_298) hr
    · show Q_rm0_3 Z  h0 n0 _ T509.heap _
      rw [hh509]
      exact ⟨rfl, M509⟩
  | false =>
    have hF : ¬ sv0 = 4 := by
      have q := hpl.2 hM
      simp only [own_fsI, List.map_cons, List.map_nil, List.foldr_cons, List.foldr_nil] at q
      rw [hsv0, hsv1, hsv2]; exact q
    clear hpl hsv0 hsv1 hsv2
    have hbm : own_b (own_mem (([c0, c1, c2] : List Int32).map kc) 3) = 0 := by rw [hM]; rfl
    clear hM
    have k512 : Rch p e below S0 T493 (mkF m 276 #[.val (.long p1), .second, .val (.long p2), .second, vI p3, vI 3, vR b441, vI c0, vI c1, vI c2, vI c3, vI c4, vI c5, vI c6, vI sv0, vI 0] []) := fun t h => k495 t (by
        show Steps p.tables e below (T493.setTop (mkF m 263 #[.val (.long p1), .second, .val (.long p2), .second, vI p3, vI 3, vR b441, vI c0, vI c1, vI c2, vI c3, vI c4, vI c5, vI c6, vI sv0, vU] [])) _
        refine XS.iload Y493.here hx rfl (hb hby at_263) rfl ?_
        refine XS.iconst Y493.here hx rfl (hb hby at_265) ?_
        refine XS.icmpYes Y493.here hx rfl (pc0 := 266) (pc' := 273) rfl (hb hby at_266) rfl (feq (hF : ¬ (sv0 = (4 : Int32)))).2 (by decide) (by decide) ?_
        refine XS.iconst Y493.here hx rfl (hb hby at_273) ?_
        refine XS.istore Y493.here hx rfl (hb hby at_274) rfl (l' := #[.val (.long p1), .second, .val (.long p2), .second, vI p3, vI 3, vR b441, vI c0, vI c1, vI c2, vI c3, vI c4, vI c5, vI c6, vI sv0, vI 0]) rfl ?_
        exact h)
    clear hF
    obtain ⟨T513, h513, X513, e513, E513, A513, D513, -, st513⟩ := newO Y493 hx hZ hown (hw _ (gm 6 rfl)) (hw _ (gm 7 rfl)) (hw _ (gm 8 rfl)) hh493 (g := (mkF m 276 #[.val (.long p1), .second, .val (.long p2), .second, vI p3, vI 3, vR b441, vI c0, vI c1, vI c2, vI c3, vI c4, vI c5, vI c6, vI sv0, vI 0] [])) rfl (hb hby at_276) (by decide) (by decide)
    obtain ⟨b513, g513⟩ : ∃ z, z = h480.size := ⟨_, rfl⟩
    rw [← g513] at A513 D513 st513
    have k514 : Rch p e below S0 T513 (mkF m 279 #[.val (.long p1), .second, .val (.long p2), .second, vI p3, vI 3, vR b441, vI c0, vI c1, vI c2, vI c3, vI c4, vI c5, vI c6, vI sv0, vI 0] [(.ref b513)]) := fun t h => k512 t (st513 t h)
    have ne_b441_b513 : b441 ≠ b513 := own_ne V_b441.lt (Nat.le_of_eq g513.symm)
    have ge_b513 : n0 ≤ b513 := own_ge O484 (Nat.le_of_eq g513.symm)
    have sf_b513 : Safe Z consts_1 s.vm h480 b513 := Safe.new (Nat.le_of_eq g513.symm)
    replace sf_b441 := Safe.ext E513 hC483 sf_b441
    replace sf_b513 := Safe.ext E513 hC483 sf_b513
    have hC515 := hC483.ext E513
    have rC515 := rC483.trans (CHr.ext E513 hC483)
    have O516 := O484.ext E513
    replace V_b441 := V_b441.ext E513
    have hkk517 := Nat.le_trans hkk485 E513.1
    have E_b513 := A513
    have F_b513_value : Fld Z h513 b513 "java/lang/String" "value" "[B" .null := D513 (Or.inr (hw _ (gm 21 rfl))) (ty := (.array .byte)) (by decide)
    have F_b513_coder : Fld Z h513 b513 "java/lang/String" "coder" "B" (.int (0 : Int32)) := D513 (Or.inr (hw _ (gm 22 rfl))) (ty := .byte) (by decide)
    have k518 : Rch p e below S0 T513 (mkF m 282 #[.val (.long p1), .second, .val (.long p2), .second, vI p3, vI 3, vR b441, vI c0, vI c1, vI c2, vI c3, vI c4, vI c5, vI c6, vI sv0, vI 0] [(.ref b441), (.ref b513), (.ref b513)]) := fun t h => k514 t (by
        show Steps p.tables e below (T513.setTop (mkF m 279 #[.val (.long p1), .second, .val (.long p2), .second, vI p3, vI 3, vR b441, vI c0, vI c1, vI c2, vI c3, vI c4, vI c5, vI c6, vI sv0, vI 0] [(.ref b513)])) _
        refine XS.dup X513.here hx rfl (hb hby at_279) rfl rfl ?_
        refine XS.aload X513.here hx rfl (hb hby at_280) rfl rfl ?_
        exact h)
    have hws : ∀ d ∈ StrChars.Road.words, d.before a0 Z = true := fun d hd => hw d ((by decide +kernel : ∀ d ∈ StrChars.Road.words, d ∈ tables_1) d hd)
    have hp : ∀ c ∈ ([c0, c1, c2] : List Int32), ¬ c < 0 ∧ ¬ (255 : Int32) < c := hpc
    obtain ⟨_, _, ⟨T519, L519, kk519, n519⟩, -, X519, ⟨Lc519, hQ519, l519, y519, z519⟩, st519⟩ := X513.specialBack hx (y := (⟨"java/lang/String", "<init>", "([C)V"⟩ : MethodName)) rfl hown (mvT hZ (hw _ (gm 9 rfl))) (mvT hZ (hw _ (gm 10 rfl))) (mvT hZ (hw _ (gm 11 rfl))) (by decide) (StrChars.Road.backV (W := 1) hZ hws (kI := 4) (hw _ (gm 7 rfl)) (cs := [c0, c1, c2]) (bs := [c0, c1, c2].map (fun c => c.toInt8.toInt32)) (n := 3) ge_b513 (own_le O516) E_b513 F_b513_value F_b513_coder V_b441 (SC.ext O516.2) hzC rfl rfl (by decide) (by decide) hp rfl (by decide) (by decide)) (g := (mkF m 282 #[.val (.long p1), .second, .val (.long p2), .second, vI p3, vI 3, vR b441, vI c0, vI c1, vI c2, vI c3, vI c4, vI c5, vI c6, vI sv0, vI 0] [(.ref b441), (.ref b513), (.ref b513)])) rfl (by rw [hml]; rfl) (Steps.refl _) (a := b513) (argsL := [(.ref b441)]) (rest := [(.ref b513)]) (lenOf pd_1 rfl) rfl (by show 2 * 0 + _ ≤ _; exact Nat.le_of_eq rfl) (hb hby at_282) (fun _ _ => ⟨rfl, e513, (by decide : 2 + 1 ≤ _), (by decide : 7 + 3 ≤ _)⟩)
    dsimp only [Pt.U, Pt.locs, Pt.cells, Pt.slots] at X519 l519 y519 z519 st519 hQ519
    subst l519 y519 z519
    obtain ⟨rfl, Nq519, K519, Eb519, Cb519, t519, kb519, u519, v519, ww519, Vb519, Ab519⟩ := hQ519
    have N519 := Fr.app M493 Nq519
    have k520 : Rch p e below S0 T519 (mkF m 285 #[.val (.long p1), .second, .val (.long p2), .second, vI p3, vI 3, vR b441, vI c0, vI c1, vI c2, vI c3, vI c4, vI c5, vI c6, vI sv0, vI 0] [(.ref b513)]) := fun t h => k518 t (st519.trans h)
    have hC521 := hC515.keep K519 (sfS sf_b513 sf0)
    have rC521 := rC515.trans (CHr.keep K519 (sfS sf_b513 sf0) hC515)
    have sfx522 := (sfS sf_b513 sf0)
    replace sf_b441 := Safe.keep K519 sfx522 hC515 sf_b441
    replace sf_b513 := Safe.keep K519 sfx522 hC515 sf_b513
    have O523 := O516.keep K519 (allS ge_b513 all0)
    replace V_b441 := V_b441.keep K519 (ninS ne_b441_b513 nin0)
    replace E_b513 := E_b513.keep K519
    have hkk524 := Nat.le_trans hkk517 K519.1
    obtain ⟨_, _, ⟨T525, L525, kk525, n525⟩, -, X525, ⟨Lc525, hQ525, l525, y525, z525⟩, st525⟩ := Jvm.LawKit.callS X519 hx (y := (⟨"com/example/nuthatch/nuthatch/EntryName", "isMember", "(Ljava/lang/String;)Z"⟩ : MethodName)) hown (mvT hZ (hw _ (gm 27 rfl))) (mvT hZ (hw _ (gm 28 rfl))) (mvT hZ (hw _ (gm 29 rfl))) (mvT hZ (hw _ (gm 30 rfl))) (by decide) (backOf (W := 0) (rmIM l Z a0 hw []  b513 t519 kb519 3 [c0, c1, c2] zC fm T519.heap n0 O523 SC hzC Eb519 Vb519 Cb519 Ab519 rfl (by decide) hpc SP hfm) hZ (hw _ (gm 30 rfl)) (hw _ (gm 29 rfl)) (by decide) (by decide)) (g := (mkF m 285 #[.val (.long p1), .second, .val (.long p2), .second, vI p3, vI 3, vR b441, vI c0, vI c1, vI c2, vI c3, vI c4, vI c5, vI c6, vI sv0, vI 0] [(.ref b513)])) rfl (by rw [hml]; rfl) (argsL := [(.ref b513)]) (rest := []) (lenOf pd_4 rfl) rfl (by show 2 * 0 + _ ≤ _; exact Nat.le_of_eq rfl) (hb hby at_285) (fun _ _ => ⟨rfl, rfl, (by decide : 3 + 0 ≤ _), (by decide : 10 + 0 ≤ _)⟩)
    dsimp only [Pt.U, Pt.locs, Pt.cells, Pt.slots] at X525 l525 y525 z525 st525 hQ525
    subst l525 y525 z525
    obtain ⟨rfl, Nq525, hh525⟩ := hQ525
    have N525 := Fr.app N519 Nq525
    have k526 : Rch p e below S0 T525 (mkF m 288 #[.val (.long p1), .second, .val (.long p2), .second, vI p3, vI 3, vR b441, vI c0, vI c1, vI c2, vI c3, vI c4, vI c5, vI c6, vI sv0, vI 0] [(.int (0 : Int32))]) := fun t h => k520 t (st525 t (by rw [hbm]; exact h))
    obtain ⟨lo525, Y525, M525⟩ : ∃ lo, Stand p l e room_1 (s.setVm s.vm) m #[(.long p1), (.long p2), (.int p3)] below meth c T525 lo 3 10 ∧ Fr n0 lo := ⟨_, X525, N525⟩
    clear X525 N525
    clear hbm
    have k527 : Rch p e below S0 T525 (mkF m 298 #[.val (.long p1), .second, .val (.long p2), .second, vI p3, vI 3, vR b441, vI c0, vI c1, vI c2, vI c3, vI c4, vI c5, vI c6, vI sv0, vI 0] [(.int (1 : Int32))]) := fun t h => k526 t (by
        show Steps p.tables e below (T525.setTop (mkF m 288 #[.val (.long p1), .second, .val (.long p2), .second, vI p3, vI 3, vR b441, vI c0, vI c1, vI c2, vI c3, vI c4, vI c5, vI c6, vI sv0, vI 0] [(.int (0 : Int32))])) _
        refine XS.iload Y525.here hx rfl (hb hby at_288) rfl ?_
        refine XS.icmpNo Y525.here hx rfl (hb hby at_290) rfl (teq (by decide : (0 : Int32) = (0 : Int32))).2 ?_
        refine XS.iconst Y525.here hx rfl (hb hby at_293) ?_
        refine XS.goto Y525.here hx rfl (pc0 := 294) (pc' := 298) rfl (hb hby at_294) (by decide) (by decide) ?_
        exact h)
    obtain ⟨fs, hr, hrun, hended, hfin⟩ := Y525.leaveW hS (by rw [hh525]; exact hkk524) (v := (some (.int (1 : Int32)))) (fun h => by rw [Bd.returns] at h; cases h)
    refine ⟨_, _, ?_, hrun, hended, _, _, rfl, ?_, (by rw [hh]; have q := own_chr rC521 (CHv.at Y525 hZ hEL hC521) hh525; exact q), hfin.1, hfin.2.1, hfin.2.2.1, hfin.2.2.2.mono (by decide) (by decide)⟩
    · rw [← hS0]
      refine k527 _ ?_
      show Steps p.tables e below (T525.setTop (mkF m 298 #[.val (.long p1), .second, .val (.long p2), .second, vI p3, vI 3, vR b441, vI c0, vI c1, vI c2, vI c3, vI c4, vI c5, vI c6, vI sv0, vI 0] [(.int (1 : Int32))])) _
      exact retN Y525 hx (t := .boolean) Bd.returns (by simp) (hb hby at_298) hr
    · show Q_rm0_3 Z  h0 n0 _ T525.heap _
      rw [hh525]
      exact ⟨rfl, M525⟩
def Q_rm0_4 (Z : State)  (h0 : Heap) (n0 : Nat) (v : Option Value) (h : Heap) (L : List Loc) : Prop := v = some (.int (1 : Int32)) ∧ Fr n0 L
set_option maxRecDepth 65536 in
set_option maxHeartbeats 40000000 in
theorem rm0_4 (l : Launch) (Z : State) (a0 : Array Value) (hw : ∀ d ∈ tables_1, d.before a0 Z = true) (ws : List Jvm.Cond) (p1 : Int64) (p2 : Int64) (p3 : Int32) (zC : Int32) (fm : Value) (h0 : Heap) (n0 : Nat) (O0 : Old Z n0 h0) (SC : Sta Z Z.heap "java/lang/String" "COMPACT_STRINGS" "Z" (.int zC)) (hzC : ¬ zC = 0) (SP : Sta Z Z.heap "jdk/internal/util/Preconditions" "SIOOBE_FORMATTER" "Ljava/util/function/BiFunction;" fm) (hfm : fm = .null ∨ ∃ wP, fm = .ref wP) (hlen : p3 &&& 7 = (4 : Int32)) :
    MetFree l x (head1 (Jvm.Cond.code x code maxLocals ret :: ws) room_1) (fun a U => a = #[(.long p1), (.long p2), (.int p3)] ∧ Z.Warmed39 U.vm ∧ U.heap = h0 ∧ CHv Z consts_1 U.vm h0) (fun _ _ _ _ _ => True) (fun _ U o U' => ∃ v L, o = .returned v ∧ Q_rm0_4 Z  h0 n0 v U'.heap L ∧ CHr Z consts_1 U.vm U.heap U'.vm U'.heap ∧ ReturnedEndW U o U' L room_1.cells room_1.slots) := by
  refine MetFree.of_bodySF (plainFor_of_name pn_EntryNameIsMemberPinLaw) hisR ?_
  intro p e s m args below meth c s₁ Bd hml0 hP hK
  obtain ⟨rfl, hZ, hh, hC0⟩ := hP
  have hx := Bd.exec
  have hby := Bd.bytes
  have hml : c.maxLocals = 16 := hml0
  have hown : s.vm.findClass "com/example/nuthatch/nuthatch/EntryNameIsMemberPinLaw" = some m.cls := findClass_of_methodNamed Bd.named
  have hnm := (name_of_methodNamed Bd.named Bd.method).1
  have X0 : Stand p l e room_1 (s.setVm s.vm) m #[(.long p1), (.long p2), (.int p3)] below meth c s₁ [] 0 0 := Stand.of_body Bd
  have e0 : s₁.heap = h0 := by rw [← hh, Bd.state]; rfl
  have N0 := Fr.nil n0
  obtain ⟨S0, hS0⟩ : ∃ z, z = s₁.setTop (entryFrame m #[(.long p1), (.long p2), (.int p3)] maxLocals) := ⟨_, rfl⟩
  have k0 : Rch p e below S0 s₁ (mkF m 0 #[.val (.long p1), .second, .val (.long p2), .second, vI p3, vU, vU, vU, vU, vU, vU, vU, vU, vU, vU, vU] []) := fun t kq => hS0 ▸ castTop (ef_0 m p1 p2 p3) kq
  have hS : s.Since s.vm s.heap.size := (State.WarmedH.refl s).since _
  have hk : s.heap.size ≤ h0.size := by rw [← hh]; exact Nat.le_refl _
  have hwS : ∀ d ∈ Bundle.stringAtoms, d.before a0 Z = true := fun d hd => hw d ((by decide +kernel : ∀ d ∈ Bundle.stringAtoms, d ∈ tables_1) d hd)
  have rC0 : CHr Z consts_1 s.vm h0 s.vm h0 := CHr.refl hC0
  have hEL : EW Z a0 consts_1 := (EW.cons (hw _ (gm 19 rfl)) (by decide +kernel) EW.nil)
  have k529 : Rch p e below S0 s₁ (mkF m 9 #[.val (.long p1), .second, .val (.long p2), .second, vI p3, vI 4, vU, vU, vU, vU, vU, vU, vU, vU, vU, vU] [(.int (4 : Int32))]) := fun t h => k0 t (by
      show Steps p.tables e below (s₁.setTop (mkF m 0 #[.val (.long p1), .second, .val (.long p2), .second, vI p3, vU, vU, vU, vU, vU, vU, vU, vU, vU, vU, vU] [])) _
      refine XS.iload X0.here hx rfl (hb hby at_0) rfl ?_
      refine XS.bipush X0.here hx rfl (hb hby at_2) ?_
      show Steps p.tables e below (s₁.setTop (mkF m 4 #[.val (.long p1), .second, .val (.long p2), .second, vI p3, vU, vU, vU, vU, vU, vU, vU, vU, vU, vU, vU] [(.int (7 : Int32)), (.int p3)])) _
      refine XS.iand X0.here hx rfl (hb hby at_4) rfl ?_
      rw [hlen]
      refine XS.istore X0.here hx rfl (hb hby at_5) rfl (l' := #[.val (.long p1), .second, .val (.long p2), .second, vI p3, vI 4, vU, vU, vU, vU, vU, vU, vU, vU, vU, vU]) rfl ?_
      refine XS.iload X0.here hx rfl (hb hby at_7) rfl ?_
      exact h)
  obtain ⟨T528, h528, k528, X528, e528, E528, A528, st528⟩ := newP X0 hx hZ (hw _ (gm 0 rfl)) e0 (g := (mkF m 9 #[.val (.long p1), .second, .val (.long p2), .second, vI p3, vI 4, vU, vU, vU, vU, vU, vU, vU, vU, vU, vU] [(.int (4 : Int32))])) rfl (hb hby at_9) rfl (by decide) (cap := 4) (by decide) (by decide) (by decide) (by decide)
  obtain ⟨b528, g528⟩ : ∃ z, z = h0.size := ⟨_, rfl⟩
  rw [← g528] at A528 st528
  have k530 : Rch p e below S0 T528 (mkF m 11 #[.val (.long p1), .second, .val (.long p2), .second, vI p3, vI 4, vU, vU, vU, vU, vU, vU, vU, vU, vU, vU] [(.ref b528)]) := fun t h => k529 t (st528 t h)
  have ge_b528 : n0 ≤ b528 := own_ge O0 (Nat.le_of_eq g528.symm)
  have sf_b528 : Safe Z consts_1 s.vm h0 b528 := Safe.new (Nat.le_of_eq g528.symm)
  replace sf_b528 := Safe.ext E528 hC0 sf_b528
  have hC531 := hC0.ext E528
  have rC531 := rC0.trans (CHr.ext E528 hC0)
  have O532 := O0.ext E528
  have hkk533 := Nat.le_trans hk E528.1
  have V_b528 : Arv Z h528 b528 k528 .char (4 : Int32) [(.int (0 : Int32)), (.int (0 : Int32)), (.int (0 : Int32)), (.int (0 : Int32))] (.int (0 : Int32)) := (Arv.new A528 (by decide)).pad (pad_rep [] (.int (0 : Int32)) 4)
  have k534 : Rch p e below S0 T528 (mkF m 14 #[.val (.long p1), .second, .val (.long p2), .second, vI p3, vI 4, vR b528, vU, vU, vU, vU, vU, vU, vU, vU, vU] [(.long p1)]) := fun t h => k530 t (by
      show Steps p.tables e below (T528.setTop (mkF m 11 #[.val (.long p1), .second, .val (.long p2), .second, vI p3, vI 4, vU, vU, vU, vU, vU, vU, vU, vU, vU, vU] [(.ref b528)])) _
      refine XS.astore X528.here hx rfl (hb hby at_11) rfl rfl (l' := #[.val (.long p1), .second, .val (.long p2), .second, vI p3, vI 4, vR b528, vU, vU, vU, vU, vU, vU, vU, vU, vU]) rfl ?_
      refine XS.lloadN X528.here hx rfl (hb hby at_13) rfl ?_
      exact h)
  obtain ⟨_, _, ⟨T535, L535, kk535, n535⟩, -, X535, ⟨Lc535, hQ535, l535, y535, z535⟩, st535⟩ := Jvm.LawKit.callS X528 hx (y := (⟨"com/example/nuthatch/nuthatch/EntryNameIsMemberPinLaw", "ch", "(J)C"⟩ : MethodName)) hown (mvT hZ (hw _ (gm 1 rfl))) (mvT hZ (hw _ (gm 2 rfl))) (mvT hZ (hw _ (gm 3 rfl))) (mvT hZ (hw _ (gm 4 rfl))) (by decide) (backOf (W := 0) (rmCh l Z a0 hw [] p1  h528 n0 O532 ) hZ (hw _ (gm 4 rfl)) (hw _ (gm 3 rfl)) (by decide) (by decide)) (g := (mkF m 14 #[.val (.long p1), .second, .val (.long p2), .second, vI p3, vI 4, vR b528, vU, vU, vU, vU, vU, vU, vU, vU, vU] [(.long p1)])) rfl (by rw [hml]; rfl) (argsL := [(.long p1)]) (rest := []) (lenOf pd_0 rfl) rfl (by show 2 * 0 + _ ≤ _; exact Nat.le_of_eq rfl) (hb hby at_14) (fun _ _ => ⟨rfl, e528, (by decide : 1 + 0 ≤ _), (by decide : 4 + 0 ≤ _)⟩)
  dsimp only [Pt.U, Pt.locs, Pt.cells, Pt.slots] at X535 l535 y535 z535 st535 hQ535
  subst l535 y535 z535
  obtain ⟨c0, rfl, Nq535, hh535, hc0⟩ := hQ535
  have N535 := Fr.app N0 Nq535
  have k536 : Rch p e below S0 T535 (mkF m 17 #[.val (.long p1), .second, .val (.long p2), .second, vI p3, vI 4, vR b528, vU, vU, vU, vU, vU, vU, vU, vU, vU] [(.int c0)]) := fun t h => k534 t (st535 t h)
  obtain ⟨lo535, Y535, M535⟩ : ∃ lo, Stand p l e room_1 (s.setVm s.vm) m #[(.long p1), (.long p2), (.int p3)] below meth c T535 lo 1 4 ∧ Fr n0 lo := ⟨_, X535, N535⟩
  clear X535 N535
  have k537 : Rch p e below S0 T535 (mkF m 23 #[.val (.long p1), .second, .val (.long p2), .second, vI p3, vI 4, vR b528, vI c0, vU, vU, vU, vU, vU, vU, vU, vU] [(.long ((p1.toUInt64 >>> ((10 : Int32) &&& 0x3f).toInt64.toUInt64).toInt64))]) := fun t h => k536 t (by
      show Steps p.tables e below (T535.setTop (mkF m 17 #[.val (.long p1), .second, .val (.long p2), .second, vI p3, vI 4, vR b528, vU, vU, vU, vU, vU, vU, vU, vU, vU] [(.int c0)])) _
      refine XS.istore Y535.here hx rfl (hb hby at_17) rfl (l' := #[.val (.long p1), .second, .val (.long p2), .second, vI p3, vI 4, vR b528, vI c0, vU, vU, vU, vU, vU, vU, vU, vU]) rfl ?_
      refine XS.lloadN Y535.here hx rfl (hb hby at_19) rfl ?_
      refine XS.bipush Y535.here hx rfl (hb hby at_20) ?_
      refine XS.lushr Y535.here hx rfl (hb hby at_22) rfl ?_
      exact h)
  obtain ⟨_, _, ⟨T538, L538, kk538, n538⟩, -, X538, ⟨Lc538, hQ538, l538, y538, z538⟩, st538⟩ := Jvm.LawKit.callS Y535 hx (y := (⟨"com/example/nuthatch/nuthatch/EntryNameIsMemberPinLaw", "ch", "(J)C"⟩ : MethodName)) hown (mvT hZ (hw _ (gm 1 rfl))) (mvT hZ (hw _ (gm 2 rfl))) (mvT hZ (hw _ (gm 3 rfl))) (mvT hZ (hw _ (gm 4 rfl))) (by decide) (backOf (W := 0) (rmCh l Z a0 hw [] ((p1.toUInt64 >>> ((10 : Int32) &&& 0x3f).toInt64.toUInt64).toInt64)  h528 n0 O532 ) hZ (hw _ (gm 4 rfl)) (hw _ (gm 3 rfl)) (by decide) (by decide)) (g := (mkF m 23 #[.val (.long p1), .second, .val (.long p2), .second, vI p3, vI 4, vR b528, vI c0, vU, vU, vU, vU, vU, vU, vU, vU] [(.long ((p1.toUInt64 >>> ((10 : Int32) &&& 0x3f).toInt64.toUInt64).toInt64))])) rfl (by rw [hml]; rfl) (argsL := [(.long ((p1.toUInt64 >>> ((10 : Int32) &&& 0x3f).toInt64.toUInt64).toInt64))]) (rest := []) (lenOf pd_0 rfl) rfl (by show 2 * 0 + _ ≤ _; exact Nat.le_of_eq rfl) (hb hby at_23) (fun _ _ => ⟨rfl, hh535, (by decide : 1 + 0 ≤ _), (by decide : 4 + 0 ≤ _)⟩)
  dsimp only [Pt.U, Pt.locs, Pt.cells, Pt.slots] at X538 l538 y538 z538 st538 hQ538
  subst l538 y538 z538
  obtain ⟨c1, rfl, Nq538, hh538, hc1⟩ := hQ538
  have N538 := Fr.app M535 Nq538
  have k539 : Rch p e below S0 T538 (mkF m 26 #[.val (.long p1), .second, .val (.long p2), .second, vI p3, vI 4, vR b528, vI c0, vU, vU, vU, vU, vU, vU, vU, vU] [(.int c1)]) := fun t h => k537 t (st538 t h)
  obtain ⟨lo538, Y538, M538⟩ : ∃ lo, Stand p l e room_1 (s.setVm s.vm) m #[(.long p1), (.long p2), (.int p3)] below meth c T538 lo 1 4 ∧ Fr n0 lo := ⟨_, X538, N538⟩
  clear X538 N538
  have k540 : Rch p e below S0 T538 (mkF m 32 #[.val (.long p1), .second, .val (.long p2), .second, vI p3, vI 4, vR b528, vI c0, vI c1, vU, vU, vU, vU, vU, vU, vU] [(.long ((p1.toUInt64 >>> ((20 : Int32) &&& 0x3f).toInt64.toUInt64).toInt64))]) := fun t h => k539 t (by
      show Steps p.tables e below (T538.setTop (mkF m 26 #[.val (.long p1), .second, .val (.long p2), .second, vI p3, vI 4, vR b528, vI c0, vU, vU, vU, vU, vU, vU, vU, vU] [(.int c1)])) _
      refine XS.istore Y538.here hx rfl (hb hby at_26) rfl (l' := #[.val (.long p1), .second, .val (.long p2), .second, vI p3, vI 4, vR b528, vI c0, vI c1, vU, vU, vU, vU, vU, vU, vU]) rfl ?_
      refine XS.lloadN Y538.here hx rfl (hb hby at_28) rfl ?_
      refine XS.bipush Y538.here hx rfl (hb hby at_29) ?_
      refine XS.lushr Y538.here hx rfl (hb hby at_31) rfl ?_
      exact h)
  obtain ⟨_, _, ⟨T541, L541, kk541, n541⟩, -, X541, ⟨Lc541, hQ541, l541, y541, z541⟩, st541⟩ := Jvm.LawKit.callS Y538 hx (y := (⟨"com/example/nuthatch/nuthatch/EntryNameIsMemberPinLaw", "ch", "(J)C"⟩ : MethodName)) hown (mvT hZ (hw _ (gm 1 rfl))) (mvT hZ (hw _ (gm 2 rfl))) (mvT hZ (hw _ (gm 3 rfl))) (mvT hZ (hw _ (gm 4 rfl))) (by decide) (backOf (W := 0) (rmCh l Z a0 hw [] ((p1.toUInt64 >>> ((20 : Int32) &&& 0x3f).toInt64.toUInt64).toInt64)  h528 n0 O532 ) hZ (hw _ (gm 4 rfl)) (hw _ (gm 3 rfl)) (by decide) (by decide)) (g := (mkF m 32 #[.val (.long p1), .second, .val (.long p2), .second, vI p3, vI 4, vR b528, vI c0, vI c1, vU, vU, vU, vU, vU, vU, vU] [(.long ((p1.toUInt64 >>> ((20 : Int32) &&& 0x3f).toInt64.toUInt64).toInt64))])) rfl (by rw [hml]; rfl) (argsL := [(.long ((p1.toUInt64 >>> ((20 : Int32) &&& 0x3f).toInt64.toUInt64).toInt64))]) (rest := []) (lenOf pd_0 rfl) rfl (by show 2 * 0 + _ ≤ _; exact Nat.le_of_eq rfl) (hb hby at_32) (fun _ _ => ⟨rfl, hh538, (by decide : 1 + 0 ≤ _), (by decide : 4 + 0 ≤ _)⟩)
  dsimp only [Pt.U, Pt.locs, Pt.cells, Pt.slots] at X541 l541 y541 z541 st541 hQ541
  subst l541 y541 z541
  obtain ⟨c2, rfl, Nq541, hh541, hc2⟩ := hQ541
  have N541 := Fr.app M538 Nq541
  have k542 : Rch p e below S0 T541 (mkF m 35 #[.val (.long p1), .second, .val (.long p2), .second, vI p3, vI 4, vR b528, vI c0, vI c1, vU, vU, vU, vU, vU, vU, vU] [(.int c2)]) := fun t h => k540 t (st541 t h)
  obtain ⟨lo541, Y541, M541⟩ : ∃ lo, Stand p l e room_1 (s.setVm s.vm) m #[(.long p1), (.long p2), (.int p3)] below meth c T541 lo 1 4 ∧ Fr n0 lo := ⟨_, X541, N541⟩
  clear X541 N541
  have k543 : Rch p e below S0 T541 (mkF m 41 #[.val (.long p1), .second, .val (.long p2), .second, vI p3, vI 4, vR b528, vI c0, vI c1, vI c2, vU, vU, vU, vU, vU, vU] [(.long ((p1.toUInt64 >>> ((30 : Int32) &&& 0x3f).toInt64.toUInt64).toInt64))]) := fun t h => k542 t (by
      show Steps p.tables e below (T541.setTop (mkF m 35 #[.val (.long p1), .second, .val (.long p2), .second, vI p3, vI 4, vR b528, vI c0, vI c1, vU, vU, vU, vU, vU, vU, vU] [(.int c2)])) _
      refine XS.istore Y541.here hx rfl (hb hby at_35) rfl (l' := #[.val (.long p1), .second, .val (.long p2), .second, vI p3, vI 4, vR b528, vI c0, vI c1, vI c2, vU, vU, vU, vU, vU, vU]) rfl ?_
      refine XS.lloadN Y541.here hx rfl (hb hby at_37) rfl ?_
      refine XS.bipush Y541.here hx rfl (hb hby at_38) ?_
      refine XS.lushr Y541.here hx rfl (hb hby at_40) rfl ?_
      exact h)
  obtain ⟨_, _, ⟨T544, L544, kk544, n544⟩, -, X544, ⟨Lc544, hQ544, l544, y544, z544⟩, st544⟩ := Jvm.LawKit.callS Y541 hx (y := (⟨"com/example/nuthatch/nuthatch/EntryNameIsMemberPinLaw", "ch", "(J)C"⟩ : MethodName)) hown (mvT hZ (hw _ (gm 1 rfl))) (mvT hZ (hw _ (gm 2 rfl))) (mvT hZ (hw _ (gm 3 rfl))) (mvT hZ (hw _ (gm 4 rfl))) (by decide) (backOf (W := 0) (rmCh l Z a0 hw [] ((p1.toUInt64 >>> ((30 : Int32) &&& 0x3f).toInt64.toUInt64).toInt64)  h528 n0 O532 ) hZ (hw _ (gm 4 rfl)) (hw _ (gm 3 rfl)) (by decide) (by decide)) (g := (mkF m 41 #[.val (.long p1), .second, .val (.long p2), .second, vI p3, vI 4, vR b528, vI c0, vI c1, vI c2, vU, vU, vU, vU, vU, vU] [(.long ((p1.toUInt64 >>> ((30 : Int32) &&& 0x3f).toInt64.toUInt64).toInt64))])) rfl (by rw [hml]; rfl) (argsL := [(.long ((p1.toUInt64 >>> ((30 : Int32) &&& 0x3f).toInt64.toUInt64).toInt64))]) (rest := []) (lenOf pd_0 rfl) rfl (by show 2 * 0 + _ ≤ _; exact Nat.le_of_eq rfl) (hb hby at_41) (fun _ _ => ⟨rfl, hh541, (by decide : 1 + 0 ≤ _), (by decide : 4 + 0 ≤ _)⟩)
  dsimp only [Pt.U, Pt.locs, Pt.cells, Pt.slots] at X544 l544 y544 z544 st544 hQ544
  subst l544 y544 z544
  obtain ⟨c3, rfl, Nq544, hh544, hc3⟩ := hQ544
  have N544 := Fr.app M541 Nq544
  have k545 : Rch p e below S0 T544 (mkF m 44 #[.val (.long p1), .second, .val (.long p2), .second, vI p3, vI 4, vR b528, vI c0, vI c1, vI c2, vU, vU, vU, vU, vU, vU] [(.int c3)]) := fun t h => k543 t (st544 t h)
  obtain ⟨lo544, Y544, M544⟩ : ∃ lo, Stand p l e room_1 (s.setVm s.vm) m #[(.long p1), (.long p2), (.int p3)] below meth c T544 lo 1 4 ∧ Fr n0 lo := ⟨_, X544, N544⟩
  clear X544 N544
  have k546 : Rch p e below S0 T544 (mkF m 50 #[.val (.long p1), .second, .val (.long p2), .second, vI p3, vI 4, vR b528, vI c0, vI c1, vI c2, vI c3, vU, vU, vU, vU, vU] [(.long ((p1.toUInt64 >>> ((40 : Int32) &&& 0x3f).toInt64.toUInt64).toInt64))]) := fun t h => k545 t (by
      show Steps p.tables e below (T544.setTop (mkF m 44 #[.val (.long p1), .second, .val (.long p2), .second, vI p3, vI 4, vR b528, vI c0, vI c1, vI c2, vU, vU, vU, vU, vU, vU] [(.int c3)])) _
      refine XS.istore Y544.here hx rfl (hb hby at_44) rfl (l' := #[.val (.long p1), .second, .val (.long p2), .second, vI p3, vI 4, vR b528, vI c0, vI c1, vI c2, vI c3, vU, vU, vU, vU, vU]) rfl ?_
      refine XS.lloadN Y544.here hx rfl (hb hby at_46) rfl ?_
      refine XS.bipush Y544.here hx rfl (hb hby at_47) ?_
      refine XS.lushr Y544.here hx rfl (hb hby at_49) rfl ?_
      exact h)
  obtain ⟨_, _, ⟨T547, L547, kk547, n547⟩, -, X547, ⟨Lc547, hQ547, l547, y547, z547⟩, st547⟩ := Jvm.LawKit.callS Y544 hx (y := (⟨"com/example/nuthatch/nuthatch/EntryNameIsMemberPinLaw", "ch", "(J)C"⟩ : MethodName)) hown (mvT hZ (hw _ (gm 1 rfl))) (mvT hZ (hw _ (gm 2 rfl))) (mvT hZ (hw _ (gm 3 rfl))) (mvT hZ (hw _ (gm 4 rfl))) (by decide) (backOf (W := 0) (rmCh l Z a0 hw [] ((p1.toUInt64 >>> ((40 : Int32) &&& 0x3f).toInt64.toUInt64).toInt64)  h528 n0 O532 ) hZ (hw _ (gm 4 rfl)) (hw _ (gm 3 rfl)) (by decide) (by decide)) (g := (mkF m 50 #[.val (.long p1), .second, .val (.long p2), .second, vI p3, vI 4, vR b528, vI c0, vI c1, vI c2, vI c3, vU, vU, vU, vU, vU] [(.long ((p1.toUInt64 >>> ((40 : Int32) &&& 0x3f).toInt64.toUInt64).toInt64))])) rfl (by rw [hml]; rfl) (argsL := [(.long ((p1.toUInt64 >>> ((40 : Int32) &&& 0x3f).toInt64.toUInt64).toInt64))]) (rest := []) (lenOf pd_0 rfl) rfl (by show 2 * 0 + _ ≤ _; exact Nat.le_of_eq rfl) (hb hby at_50) (fun _ _ => ⟨rfl, hh544, (by decide : 1 + 0 ≤ _), (by decide : 4 + 0 ≤ _)⟩)
  dsimp only [Pt.U, Pt.locs, Pt.cells, Pt.slots] at X547 l547 y547 z547 st547 hQ547
  subst l547 y547 z547
  obtain ⟨c4, rfl, Nq547, hh547, hc4⟩ := hQ547
  have N547 := Fr.app M544 Nq547
  have k548 : Rch p e below S0 T547 (mkF m 53 #[.val (.long p1), .second, .val (.long p2), .second, vI p3, vI 4, vR b528, vI c0, vI c1, vI c2, vI c3, vU, vU, vU, vU, vU] [(.int c4)]) := fun t h => k546 t (st547 t h)
  obtain ⟨lo547, Y547, M547⟩ : ∃ lo, Stand p l e room_1 (s.setVm s.vm) m #[(.long p1), (.long p2), (.int p3)] below meth c T547 lo 1 4 ∧ Fr n0 lo := ⟨_, X547, N547⟩
  clear X547 N547
  have k549 : Rch p e below S0 T547 (mkF m 59 #[.val (.long p1), .second, .val (.long p2), .second, vI p3, vI 4, vR b528, vI c0, vI c1, vI c2, vI c3, vI c4, vU, vU, vU, vU] [(.long ((p1.toUInt64 >>> ((50 : Int32) &&& 0x3f).toInt64.toUInt64).toInt64))]) := fun t h => k548 t (by
      show Steps p.tables e below (T547.setTop (mkF m 53 #[.val (.long p1), .second, .val (.long p2), .second, vI p3, vI 4, vR b528, vI c0, vI c1, vI c2, vI c3, vU, vU, vU, vU, vU] [(.int c4)])) _
      refine XS.istore Y547.here hx rfl (hb hby at_53) rfl (l' := #[.val (.long p1), .second, .val (.long p2), .second, vI p3, vI 4, vR b528, vI c0, vI c1, vI c2, vI c3, vI c4, vU, vU, vU, vU]) rfl ?_
      refine XS.lloadN Y547.here hx rfl (hb hby at_55) rfl ?_
      refine XS.bipush Y547.here hx rfl (hb hby at_56) ?_
      refine XS.lushr Y547.here hx rfl (hb hby at_58) rfl ?_
      exact h)
  obtain ⟨_, _, ⟨T550, L550, kk550, n550⟩, -, X550, ⟨Lc550, hQ550, l550, y550, z550⟩, st550⟩ := Jvm.LawKit.callS Y547 hx (y := (⟨"com/example/nuthatch/nuthatch/EntryNameIsMemberPinLaw", "ch", "(J)C"⟩ : MethodName)) hown (mvT hZ (hw _ (gm 1 rfl))) (mvT hZ (hw _ (gm 2 rfl))) (mvT hZ (hw _ (gm 3 rfl))) (mvT hZ (hw _ (gm 4 rfl))) (by decide) (backOf (W := 0) (rmCh l Z a0 hw [] ((p1.toUInt64 >>> ((50 : Int32) &&& 0x3f).toInt64.toUInt64).toInt64)  h528 n0 O532 ) hZ (hw _ (gm 4 rfl)) (hw _ (gm 3 rfl)) (by decide) (by decide)) (g := (mkF m 59 #[.val (.long p1), .second, .val (.long p2), .second, vI p3, vI 4, vR b528, vI c0, vI c1, vI c2, vI c3, vI c4, vU, vU, vU, vU] [(.long ((p1.toUInt64 >>> ((50 : Int32) &&& 0x3f).toInt64.toUInt64).toInt64))])) rfl (by rw [hml]; rfl) (argsL := [(.long ((p1.toUInt64 >>> ((50 : Int32) &&& 0x3f).toInt64.toUInt64).toInt64))]) (rest := []) (lenOf pd_0 rfl) rfl (by show 2 * 0 + _ ≤ _; exact Nat.le_of_eq rfl) (hb hby at_59) (fun _ _ => ⟨rfl, hh547, (by decide : 1 + 0 ≤ _), (by decide : 4 + 0 ≤ _)⟩)
  dsimp only [Pt.U, Pt.locs, Pt.cells, Pt.slots] at X550 l550 y550 z550 st550 hQ550
  subst l550 y550 z550
  obtain ⟨c5, rfl, Nq550, hh550, hc5⟩ := hQ550
  have N550 := Fr.app M547 Nq550
  have k551 : Rch p e below S0 T550 (mkF m 62 #[.val (.long p1), .second, .val (.long p2), .second, vI p3, vI 4, vR b528, vI c0, vI c1, vI c2, vI c3, vI c4, vU, vU, vU, vU] [(.int c5)]) := fun t h => k549 t (st550 t h)
  obtain ⟨lo550, Y550, M550⟩ : ∃ lo, Stand p l e room_1 (s.setVm s.vm) m #[(.long p1), (.long p2), (.int p3)] below meth c T550 lo 1 4 ∧ Fr n0 lo := ⟨_, X550, N550⟩
  clear X550 N550
  have k552 : Rch p e below S0 T550 (mkF m 65 #[.val (.long p1), .second, .val (.long p2), .second, vI p3, vI 4, vR b528, vI c0, vI c1, vI c2, vI c3, vI c4, vI c5, vU, vU, vU] [(.long p2)]) := fun t h => k551 t (by
      show Steps p.tables e below (T550.setTop (mkF m 62 #[.val (.long p1), .second, .val (.long p2), .second, vI p3, vI 4, vR b528, vI c0, vI c1, vI c2, vI c3, vI c4, vU, vU, vU, vU] [(.int c5)])) _
      refine XS.istore Y550.here hx rfl (hb hby at_62) rfl (l' := #[.val (.long p1), .second, .val (.long p2), .second, vI p3, vI 4, vR b528, vI c0, vI c1, vI c2, vI c3, vI c4, vI c5, vU, vU, vU]) rfl ?_
      refine XS.lloadN Y550.here hx rfl (hb hby at_64) rfl ?_
      exact h)
  obtain ⟨_, _, ⟨T553, L553, kk553, n553⟩, -, X553, ⟨Lc553, hQ553, l553, y553, z553⟩, st553⟩ := Jvm.LawKit.callS Y550 hx (y := (⟨"com/example/nuthatch/nuthatch/EntryNameIsMemberPinLaw", "ch", "(J)C"⟩ : MethodName)) hown (mvT hZ (hw _ (gm 1 rfl))) (mvT hZ (hw _ (gm 2 rfl))) (mvT hZ (hw _ (gm 3 rfl))) (mvT hZ (hw _ (gm 4 rfl))) (by decide) (backOf (W := 0) (rmCh l Z a0 hw [] p2  h528 n0 O532 ) hZ (hw _ (gm 4 rfl)) (hw _ (gm 3 rfl)) (by decide) (by decide)) (g := (mkF m 65 #[.val (.long p1), .second, .val (.long p2), .second, vI p3, vI 4, vR b528, vI c0, vI c1, vI c2, vI c3, vI c4, vI c5, vU, vU, vU] [(.long p2)])) rfl (by rw [hml]; rfl) (argsL := [(.long p2)]) (rest := []) (lenOf pd_0 rfl) rfl (by show 2 * 0 + _ ≤ _; exact Nat.le_of_eq rfl) (hb hby at_65) (fun _ _ => ⟨rfl, hh550, (by decide : 1 + 0 ≤ _), (by decide : 4 + 0 ≤ _)⟩)
  dsimp only [Pt.U, Pt.locs, Pt.cells, Pt.slots] at X553 l553 y553 z553 st553 hQ553
  subst l553 y553 z553
  obtain ⟨c6, rfl, Nq553, hh553, hc6⟩ := hQ553
  have N553 := Fr.app M550 Nq553
  have k554 : Rch p e below S0 T553 (mkF m 68 #[.val (.long p1), .second, .val (.long p2), .second, vI p3, vI 4, vR b528, vI c0, vI c1, vI c2, vI c3, vI c4, vI c5, vU, vU, vU] [(.int c6)]) := fun t h => k552 t (st553 t h)
  obtain ⟨lo553, Y553, M553⟩ : ∃ lo, Stand p l e room_1 (s.setVm s.vm) m #[(.long p1), (.long p2), (.int p3)] below meth c T553 lo 1 4 ∧ Fr n0 lo := ⟨_, X553, N553⟩
  clear X553 N553
  have k556 : Rch p e below S0 T553 (mkF m 80 #[.val (.long p1), .second, .val (.long p2), .second, vI p3, vI 4, vR b528, vI c0, vI c1, vI c2, vI c3, vI c4, vI c5, vI c6, vU, vU] [(.int c0), (.int (0 : Int32)), (.ref b528)]) := fun t h => k554 t (by
      show Steps p.tables e below (T553.setTop (mkF m 68 #[.val (.long p1), .second, .val (.long p2), .second, vI p3, vI 4, vR b528, vI c0, vI c1, vI c2, vI c3, vI c4, vI c5, vU, vU, vU] [(.int c6)])) _
      refine XS.istore Y553.here hx rfl (hb hby at_68) rfl (l' := #[.val (.long p1), .second, .val (.long p2), .second, vI p3, vI 4, vR b528, vI c0, vI c1, vI c2, vI c3, vI c4, vI c5, vI c6, vU, vU]) rfl ?_
      refine XS.iload Y553.here hx rfl (hb hby at_70) rfl ?_
      refine XS.ifNo Y553.here hx rfl (hb hby at_72) rfl ((if0 _ _).trans (tlt (by decide : (0 : Int32) < (4 : Int32))).2.2.2) ?_
      refine XS.aload Y553.here hx rfl (hb hby at_75) rfl rfl ?_
      refine XS.iconst Y553.here hx rfl (hb hby at_77) ?_
      refine XS.iload Y553.here hx rfl (hb hby at_78) rfl ?_
      exact h)
  obtain ⟨cl555, Ar555, q555, Sz555, Ng555, Hs555, G555⟩ := id V_b528
  have hin555 : ¬ ((0 : Int32) < 0 ∨ cl555.slots.size ≤ ((0 : Int32)).toNatClampNeg) := inb_of Sz555 ⟨by decide, by decide⟩
  obtain ⟨T555, h555, X555, e555, W555, st555⟩ := stC Y553 hx hZ hh553 Ar555 (j := (0 : Int32)) hin555 (g := (mkF m 80 #[.val (.long p1), .second, .val (.long p2), .second, vI p3, vI 4, vR b528, vI c0, vI c1, vI c2, vI c3, vI c4, vI c5, vI c6, vU, vU] [(.int c0), (.int (0 : Int32)), (.ref b528)])) rfl rfl (hb hby at_80)
  have k557 : Rch p e below S0 T555 (mkF m 81 #[.val (.long p1), .second, .val (.long p2), .second, vI p3, vI 4, vR b528, vI c0, vI c1, vI c2, vI c3, vI c4, vI c5, vI c6, vU, vU] []) := fun t h => k556 t (st555 t h)
  have N555 := Fr.snoc X555 M553 ge_b528
  have V_b528' := Arv.set Ar555 q555 Sz555 Ng555 Hs555 G555 (fits_nar_char _) W555 0 rfl (Nat.le_of_ble_eq_true rfl)
  replace V_b528 : Arv Z h555 b528 k528 .char (4 : Int32) [(.int c0), (.int (0 : Int32)), (.int (0 : Int32)), (.int (0 : Int32))] (.int (0 : Int32)) := (by have q := V_b528'; rw [(own_nar c0 hc0).1] at q; exact q)
  have hC558 := hC531.wr W555 sf_b528
  have rC558 := rC531.trans (CHr.wr W555 sf_b528 hC531)
  replace sf_b528 := Safe.wr W555 sf_b528 hC531 sf_b528
  have O559 := O532.wr W555 ge_b528
  have hkk560 := Nat.le_trans hkk533 (Keep.of_wr W555).1
  have k562 : Rch p e below S0 T555 (mkF m 92 #[.val (.long p1), .second, .val (.long p2), .second, vI p3, vI 4, vR b528, vI c0, vI c1, vI c2, vI c3, vI c4, vI c5, vI c6, vU, vU] [(.int c1), (.int (1 : Int32)), (.ref b528)]) := fun t h => k557 t (by
      show Steps p.tables e below (T555.setTop (mkF m 81 #[.val (.long p1), .second, .val (.long p2), .second, vI p3, vI 4, vR b528, vI c0, vI c1, vI c2, vI c3, vI c4, vI c5, vI c6, vU, vU] [])) _
      refine XS.iload X555.here hx rfl (hb hby at_81) rfl ?_
      refine XS.iconst X555.here hx rfl (hb hby at_83) ?_
      refine XS.icmpNo X555.here hx rfl (hb hby at_84) rfl (tlt (by decide : (1 : Int32) < (4 : Int32))).2.2.2 ?_
      refine XS.aload X555.here hx rfl (hb hby at_87) rfl rfl ?_
      refine XS.iconst X555.here hx rfl (hb hby at_89) ?_
      refine XS.iload X555.here hx rfl (hb hby at_90) rfl ?_
      exact h)
  obtain ⟨cl561, Ar561, q561, Sz561, Ng561, Hs561, G561⟩ := id V_b528
  have hin561 : ¬ ((1 : Int32) < 0 ∨ cl561.slots.size ≤ ((1 : Int32)).toNatClampNeg) := inb_of Sz561 ⟨by decide, by decide⟩
  obtain ⟨T561, h561, X561, e561, W561, st561⟩ := stC X555 hx hZ e555 Ar561 (j := (1 : Int32)) hin561 (g := (mkF m 92 #[.val (.long p1), .second, .val (.long p2), .second, vI p3, vI 4, vR b528, vI c0, vI c1, vI c2, vI c3, vI c4, vI c5, vI c6, vU, vU] [(.int c1), (.int (1 : Int32)), (.ref b528)])) rfl rfl (hb hby at_92)
  have k563 : Rch p e below S0 T561 (mkF m 93 #[.val (.long p1), .second, .val (.long p2), .second, vI p3, vI 4, vR b528, vI c0, vI c1, vI c2, vI c3, vI c4, vI c5, vI c6, vU, vU] []) := fun t h => k562 t (st561 t h)
  have N561 := Fr.snoc X561 N555 ge_b528
  have V_b528' := Arv.set Ar561 q561 Sz561 Ng561 Hs561 G561 (fits_nar_char _) W561 1 rfl (Nat.le_of_ble_eq_true rfl)
  replace V_b528 : Arv Z h561 b528 k528 .char (4 : Int32) [(.int c0), (.int c1), (.int (0 : Int32)), (.int (0 : Int32))] (.int (0 : Int32)) := (by have q := V_b528'; rw [(own_nar c1 hc1).1] at q; exact q)
  have hC564 := hC558.wr W561 sf_b528
  have rC564 := rC558.trans (CHr.wr W561 sf_b528 hC558)
  replace sf_b528 := Safe.wr W561 sf_b528 hC558 sf_b528
  have O565 := O559.wr W561 ge_b528
  have hkk566 := Nat.le_trans hkk560 (Keep.of_wr W561).1
  have k568 : Rch p e below S0 T561 (mkF m 104 #[.val (.long p1), .second, .val (.long p2), .second, vI p3, vI 4, vR b528, vI c0, vI c1, vI c2, vI c3, vI c4, vI c5, vI c6, vU, vU] [(.int c2), (.int (2 : Int32)), (.ref b528)]) := fun t h => k563 t (by
      show Steps p.tables e below (T561.setTop (mkF m 93 #[.val (.long p1), .second, .val (.long p2), .second, vI p3, vI 4, vR b528, vI c0, vI c1, vI c2, vI c3, vI c4, vI c5, vI c6, vU, vU] [])) _
      refine XS.iload X561.here hx rfl (hb hby at_93) rfl ?_
      refine XS.iconst X561.here hx rfl (hb hby at_95) ?_
      refine XS.icmpNo X561.here hx rfl (hb hby at_96) rfl (tlt (by decide : (2 : Int32) < (4 : Int32))).2.2.2 ?_
      refine XS.aload X561.here hx rfl (hb hby at_99) rfl rfl ?_
      refine XS.iconst X561.here hx rfl (hb hby at_101) ?_
      refine XS.iload X561.here hx rfl (hb hby at_102) rfl ?_
      exact h)
  obtain ⟨cl567, Ar567, q567, Sz567, Ng567, Hs567, G567⟩ := id V_b528
  have hin567 : ¬ ((2 : Int32) < 0 ∨ cl567.slots.size ≤ ((2 : Int32)).toNatClampNeg) := inb_of Sz567 ⟨by decide, by decide⟩
  obtain ⟨T567, h567, X567, e567, W567, st567⟩ := stC X561 hx hZ e561 Ar567 (j := (2 : Int32)) hin567 (g := (mkF m 104 #[.val (.long p1), .second, .val (.long p2), .second, vI p3, vI 4, vR b528, vI c0, vI c1, vI c2, vI c3, vI c4, vI c5, vI c6, vU, vU] [(.int c2), (.int (2 : Int32)), (.ref b528)])) rfl rfl (hb hby at_104)
  have k569 : Rch p e below S0 T567 (mkF m 105 #[.val (.long p1), .second, .val (.long p2), .second, vI p3, vI 4, vR b528, vI c0, vI c1, vI c2, vI c3, vI c4, vI c5, vI c6, vU, vU] []) := fun t h => k568 t (st567 t h)
  have N567 := Fr.snoc X567 N561 ge_b528
  have V_b528' := Arv.set Ar567 q567 Sz567 Ng567 Hs567 G567 (fits_nar_char _) W567 2 rfl (Nat.le_of_ble_eq_true rfl)
  replace V_b528 : Arv Z h567 b528 k528 .char (4 : Int32) [(.int c0), (.int c1), (.int c2), (.int (0 : Int32))] (.int (0 : Int32)) := (by have q := V_b528'; rw [(own_nar c2 hc2).1] at q; exact q)
  have hC570 := hC564.wr W567 sf_b528
  have rC570 := rC564.trans (CHr.wr W567 sf_b528 hC564)
  replace sf_b528 := Safe.wr W567 sf_b528 hC564 sf_b528
  have O571 := O565.wr W567 ge_b528
  have hkk572 := Nat.le_trans hkk566 (Keep.of_wr W567).1
  have k574 : Rch p e below S0 T567 (mkF m 116 #[.val (.long p1), .second, .val (.long p2), .second, vI p3, vI 4, vR b528, vI c0, vI c1, vI c2, vI c3, vI c4, vI c5, vI c6, vU, vU] [(.int c3), (.int (3 : Int32)), (.ref b528)]) := fun t h => k569 t (by
      show Steps p.tables e below (T567.setTop (mkF m 105 #[.val (.long p1), .second, .val (.long p2), .second, vI p3, vI 4, vR b528, vI c0, vI c1, vI c2, vI c3, vI c4, vI c5, vI c6, vU, vU] [])) _
      refine XS.iload X567.here hx rfl (hb hby at_105) rfl ?_
      refine XS.iconst X567.here hx rfl (hb hby at_107) ?_
      refine XS.icmpNo X567.here hx rfl (hb hby at_108) rfl (tlt (by decide : (3 : Int32) < (4 : Int32))).2.2.2 ?_
      refine XS.aload X567.here hx rfl (hb hby at_111) rfl rfl ?_
      refine XS.iconst X567.here hx rfl (hb hby at_113) ?_
      refine XS.iload X567.here hx rfl (hb hby at_114) rfl ?_
      exact h)
  obtain ⟨cl573, Ar573, q573, Sz573, Ng573, Hs573, G573⟩ := id V_b528
  have hin573 : ¬ ((3 : Int32) < 0 ∨ cl573.slots.size ≤ ((3 : Int32)).toNatClampNeg) := inb_of Sz573 ⟨by decide, by decide⟩
  obtain ⟨T573, h573, X573, e573, W573, st573⟩ := stC X567 hx hZ e567 Ar573 (j := (3 : Int32)) hin573 (g := (mkF m 116 #[.val (.long p1), .second, .val (.long p2), .second, vI p3, vI 4, vR b528, vI c0, vI c1, vI c2, vI c3, vI c4, vI c5, vI c6, vU, vU] [(.int c3), (.int (3 : Int32)), (.ref b528)])) rfl rfl (hb hby at_116)
  have k575 : Rch p e below S0 T573 (mkF m 117 #[.val (.long p1), .second, .val (.long p2), .second, vI p3, vI 4, vR b528, vI c0, vI c1, vI c2, vI c3, vI c4, vI c5, vI c6, vU, vU] []) := fun t h => k574 t (st573 t h)
  have N573 := Fr.snoc X573 N567 ge_b528
  have V_b528' := Arv.set Ar573 q573 Sz573 Ng573 Hs573 G573 (fits_nar_char _) W573 3 rfl (Nat.le_of_ble_eq_true rfl)
  replace V_b528 : Arv Z h573 b528 k528 .char (4 : Int32) [(.int c0), (.int c1), (.int c2), (.int c3)] (.int (0 : Int32)) := (by have q := V_b528'; rw [(own_nar c3 hc3).1] at q; exact q)
  have hC576 := hC570.wr W573 sf_b528
  have rC576 := rC570.trans (CHr.wr W573 sf_b528 hC570)
  replace sf_b528 := Safe.wr W573 sf_b528 hC570 sf_b528
  have O577 := O571.wr W573 ge_b528
  have hkk578 := Nat.le_trans hkk572 (Keep.of_wr W573).1
  have k579 : Rch p e below S0 T573 (mkF m 214 #[.val (.long p1), .second, .val (.long p2), .second, vI p3, vI 4, vR b528, vI c0, vI c1, vI c2, vI c3, vI c4, vI c5, vI c6, vI 0, vU] [(.int c3), (.int (0 : Int32))]) := fun t h => k575 t (by
      show Steps p.tables e below (T573.setTop (mkF m 117 #[.val (.long p1), .second, .val (.long p2), .second, vI p3, vI 4, vR b528, vI c0, vI c1, vI c2, vI c3, vI c4, vI c5, vI c6, vU, vU] [])) _
      refine XS.iload X573.here hx rfl (hb hby at_117) rfl ?_
      refine XS.iconst X573.here hx rfl (hb hby at_119) ?_
      refine XS.icmpYes X573.here hx rfl (pc0 := 120) (pc' := 129) rfl (hb hby at_120) rfl (flt (by decide : ¬ ((4 : Int32) < (4 : Int32)))).2.2.2 (by decide) (by decide) ?_
      refine XS.iload X573.here hx rfl (hb hby at_129) rfl ?_
      refine XS.iconst X573.here hx rfl (hb hby at_131) ?_
      refine XS.icmpYes X573.here hx rfl (pc0 := 132) (pc' := 141) rfl (hb hby at_132) rfl (flt (by decide : ¬ ((5 : Int32) < (4 : Int32)))).2.2.2 (by decide) (by decide) ?_
      refine XS.iload X573.here hx rfl (hb hby at_141) rfl ?_
      show Steps p.tables e below (T573.setTop (mkF m 143 #[.val (.long p1), .second, .val (.long p2), .second, vI p3, vI 4, vR b528, vI c0, vI c1, vI c2, vI c3, vI c4, vI c5, vI c6, vU, vU] [(.int (4 : Int32))])) _
      refine XS.bipush X573.here hx rfl (hb hby at_143) ?_
      refine XS.icmpYes X573.here hx rfl (pc0 := 145) (pc' := 155) rfl (hb hby at_145) rfl (flt (by decide : ¬ ((6 : Int32) < (4 : Int32)))).2.2.2 (by decide) (by decide) ?_
      refine XS.iconst X573.here hx rfl (hb hby at_155) ?_
      refine XS.istore X573.here hx rfl (hb hby at_156) rfl (l' := #[.val (.long p1), .second, .val (.long p2), .second, vI p3, vI 4, vR b528, vI c0, vI c1, vI c2, vI c3, vI c4, vI c5, vI c6, vI 0, vU]) rfl ?_
      refine XS.iload X573.here hx rfl (hb hby at_158) rfl ?_
      refine XS.bipush X573.here hx rfl (hb hby at_160) ?_
      refine XS.icmpYes X573.here hx rfl (pc0 := 162) (pc' := 174) rfl (hb hby at_162) rfl (flt (by decide : ¬ ((6 : Int32) < (4 : Int32)))).2.2.2 (by decide) (by decide) ?_
      refine XS.iload X573.here hx rfl (hb hby at_174) rfl ?_
      refine XS.iconst X573.here hx rfl (hb hby at_176) ?_
      refine XS.icmpYes X573.here hx rfl (pc0 := 177) (pc' := 189) rfl (hb hby at_177) rfl (flt (by decide : ¬ ((5 : Int32) < (4 : Int32)))).2.2.2 (by decide) (by decide) ?_
      refine XS.iload X573.here hx rfl (hb hby at_189) rfl ?_
      refine XS.iconst X573.here hx rfl (hb hby at_191) ?_
      refine XS.icmpYes X573.here hx rfl (pc0 := 192) (pc' := 204) rfl (hb hby at_192) rfl (flt (by decide : ¬ ((4 : Int32) < (4 : Int32)))).2.2.2 (by decide) (by decide) ?_
      refine XS.iload X573.here hx rfl (hb hby at_204) rfl ?_
      refine XS.iconst X573.here hx rfl (hb hby at_206) ?_
      refine XS.icmpNo X573.here hx rfl (hb hby at_207) rfl (tlt (by decide : (3 : Int32) < (4 : Int32))).2.2.2 ?_
      refine XS.iload X573.here hx rfl (hb hby at_210) rfl ?_
      refine XS.iload X573.here hx rfl (hb hby at_212) rfl ?_
      exact h)
  obtain ⟨_, _, ⟨T580, L580, kk580, n580⟩, -, X580, ⟨Lc580, hQ580, l580, y580, z580⟩, st580⟩ := Jvm.LawKit.callS X573 hx (y := (⟨"com/example/nuthatch/nuthatch/EntryNameIsMemberPinLaw", "step", "(IC)I"⟩ : MethodName)) hown (mvT hZ (hw _ (gm 71 rfl))) (mvT hZ (hw _ (gm 72 rfl))) (mvT hZ (hw _ (gm 3 rfl))) (mvT hZ (hw _ (gm 73 rfl))) (by decide) (backOf (W := 0) (rmST l Z a0 hw [] (0 : Int32) c3  h573 n0 O577 ) hZ (hw _ (gm 73 rfl)) (hw _ (gm 3 rfl)) (by decide) (by decide)) (g := (mkF m 214 #[.val (.long p1), .second, .val (.long p2), .second, vI p3, vI 4, vR b528, vI c0, vI c1, vI c2, vI c3, vI c4, vI c5, vI c6, vI 0, vU] [(.int c3), (.int (0 : Int32))])) rfl (by rw [hml]; rfl) (argsL := [(.int (0 : Int32)), (.int c3)]) (rest := []) (lenOf pd_13 rfl) rfl (by show 2 * 0 + _ ≤ _; exact Nat.le_of_eq rfl) (hb hby at_214) (fun _ _ => ⟨rfl, e573, (by decide : 1 + 0 ≤ _), (by decide : 4 + 0 ≤ _)⟩)
  dsimp only [Pt.U, Pt.locs, Pt.cells, Pt.slots] at X580 l580 y580 z580 st580 hQ580
  subst l580 y580 z580
  obtain ⟨rfl, Nq580, hh580⟩ := hQ580
  have N580 := Fr.app N573 Nq580
  have k581 : Rch p e below S0 T580 (mkF m 217 #[.val (.long p1), .second, .val (.long p2), .second, vI p3, vI 4, vR b528, vI c0, vI c1, vI c2, vI c3, vI c4, vI c5, vI c6, vI 0, vU] [(.int (own_stI (0 : Int32) (kc c3)))]) := fun t h => k579 t (st580 t h)
  obtain ⟨lo580, Y580, M580⟩ : ∃ lo, Stand p l e room_1 (s.setVm s.vm) m #[(.long p1), (.long p2), (.int p3)] below meth c T580 lo 1 4 ∧ Fr n0 lo := ⟨_, X580, N580⟩
  clear X580 N580
  obtain ⟨sv3, hsv3⟩ : ∃ z : Int32, z = own_stI (0 : Int32) (kc c3) := ⟨_, rfl⟩
  rw [← hsv3] at k581
  have k582 : Rch p e below S0 T580 (mkF m 229 #[.val (.long p1), .second, .val (.long p2), .second, vI p3, vI 4, vR b528, vI c0, vI c1, vI c2, vI c3, vI c4, vI c5, vI c6, vI sv3, vU] [(.int c2), (.int sv3)]) := fun t h => k581 t (by
      show Steps p.tables e below (T580.setTop (mkF m 217 #[.val (.long p1), .second, .val (.long p2), .second, vI p3, vI 4, vR b528, vI c0, vI c1, vI c2, vI c3, vI c4, vI c5, vI c6, vI 0, vU] [(.int sv3)])) _
      refine XS.istore Y580.here hx rfl (hb hby at_217) rfl (l' := #[.val (.long p1), .second, .val (.long p2), .second, vI p3, vI 4, vR b528, vI c0, vI c1, vI c2, vI c3, vI c4, vI c5, vI c6, vI sv3, vU]) rfl ?_
      refine XS.iload Y580.here hx rfl (hb hby at_219) rfl ?_
      refine XS.iconst Y580.here hx rfl (hb hby at_221) ?_
      refine XS.icmpNo Y580.here hx rfl (hb hby at_222) rfl (tlt (by decide : (2 : Int32) < (4 : Int32))).2.2.2 ?_
      refine XS.iload Y580.here hx rfl (hb hby at_225) rfl ?_
      refine XS.iload Y580.here hx rfl (hb hby at_227) rfl ?_
      exact h)
  obtain ⟨_, _, ⟨T583, L583, kk583, n583⟩, -, X583, ⟨Lc583, hQ583, l583, y583, z583⟩, st583⟩ := Jvm.LawKit.callS Y580 hx (y := (⟨"com/example/nuthatch/nuthatch/EntryNameIsMemberPinLaw", "step", "(IC)I"⟩ : MethodName)) hown (mvT hZ (hw _ (gm 71 rfl))) (mvT hZ (hw _ (gm 72 rfl))) (mvT hZ (hw _ (gm 3 rfl))) (mvT hZ (hw _ (gm 73 rfl))) (by decide) (backOf (W := 0) (rmST l Z a0 hw [] sv3 c2  h573 n0 O577 ) hZ (hw _ (gm 73 rfl)) (hw _ (gm 3 rfl)) (by decide) (by decide)) (g := (mkF m 229 #[.val (.long p1), .second, .val (.long p2), .second, vI p3, vI 4, vR b528, vI c0, vI c1, vI c2, vI c3, vI c4, vI c5, vI c6, vI sv3, vU] [(.int c2), (.int sv3)])) rfl (by rw [hml]; rfl) (argsL := [(.int sv3), (.int c2)]) (rest := []) (lenOf pd_13 rfl) rfl (by show 2 * 0 + _ ≤ _; exact Nat.le_of_eq rfl) (hb hby at_229) (fun _ _ => ⟨rfl, hh580, (by decide : 1 + 0 ≤ _), (by decide : 4 + 0 ≤ _)⟩)
  dsimp only [Pt.U, Pt.locs, Pt.cells, Pt.slots] at X583 l583 y583 z583 st583 hQ583
  subst l583 y583 z583
  obtain ⟨rfl, Nq583, hh583⟩ := hQ583
  have N583 := Fr.app M580 Nq583
  have k584 : Rch p e below S0 T583 (mkF m 232 #[.val (.long p1), .second, .val (.long p2), .second, vI p3, vI 4, vR b528, vI c0, vI c1, vI c2, vI c3, vI c4, vI c5, vI c6, vI sv3, vU] [(.int (own_stI sv3 (kc c2)))]) := fun t h => k582 t (st583 t h)
  obtain ⟨lo583, Y583, M583⟩ : ∃ lo, Stand p l e room_1 (s.setVm s.vm) m #[(.long p1), (.long p2), (.int p3)] below meth c T583 lo 1 4 ∧ Fr n0 lo := ⟨_, X583, N583⟩
  clear X583 N583
  obtain ⟨sv2, hsv2⟩ : ∃ z : Int32, z = own_stI sv3 (kc c2) := ⟨_, rfl⟩
  rw [← hsv2] at k584
  have k585 : Rch p e below S0 T583 (mkF m 244 #[.val (.long p1), .second, .val (.long p2), .second, vI p3, vI 4, vR b528, vI c0, vI c1, vI c2, vI c3, vI c4, vI c5, vI c6, vI sv2, vU] [(.int c1), (.int sv2)]) := fun t h => k584 t (by
      show Steps p.tables e below (T583.setTop (mkF m 232 #[.val (.long p1), .second, .val (.long p2), .second, vI p3, vI 4, vR b528, vI c0, vI c1, vI c2, vI c3, vI c4, vI c5, vI c6, vI sv3, vU] [(.int sv2)])) _
      refine XS.istore Y583.here hx rfl (hb hby at_232) rfl (l' := #[.val (.long p1), .second, .val (.long p2), .second, vI p3, vI 4, vR b528, vI c0, vI c1, vI c2, vI c3, vI c4, vI c5, vI c6, vI sv2, vU]) rfl ?_
      refine XS.iload Y583.here hx rfl (hb hby at_234) rfl ?_
      refine XS.iconst Y583.here hx rfl (hb hby at_236) ?_
      refine XS.icmpNo Y583.here hx rfl (hb hby at_237) rfl (tlt (by decide : (1 : Int32) < (4 : Int32))).2.2.2 ?_
      refine XS.iload Y583.here hx rfl (hb hby at_240) rfl ?_
      refine XS.iload Y583.here hx rfl (hb hby at_242) rfl ?_
      exact h)
  obtain ⟨_, _, ⟨T586, L586, kk586, n586⟩, -, X586, ⟨Lc586, hQ586, l586, y586, z586⟩, st586⟩ := Jvm.LawKit.callS Y583 hx (y := (⟨"com/example/nuthatch/nuthatch/EntryNameIsMemberPinLaw", "step", "(IC)I"⟩ : MethodName)) hown (mvT hZ (hw _ (gm 71 rfl))) (mvT hZ (hw _ (gm 72 rfl))) (mvT hZ (hw _ (gm 3 rfl))) (mvT hZ (hw _ (gm 73 rfl))) (by decide) (backOf (W := 0) (rmST l Z a0 hw [] sv2 c1  h573 n0 O577 ) hZ (hw _ (gm 73 rfl)) (hw _ (gm 3 rfl)) (by decide) (by decide)) (g := (mkF m 244 #[.val (.long p1), .second, .val (.long p2), .second, vI p3, vI 4, vR b528, vI c0, vI c1, vI c2, vI c3, vI c4, vI c5, vI c6, vI sv2, vU] [(.int c1), (.int sv2)])) rfl (by rw [hml]; rfl) (argsL := [(.int sv2), (.int c1)]) (rest := []) (lenOf pd_13 rfl) rfl (by show 2 * 0 + _ ≤ _; exact Nat.le_of_eq rfl) (hb hby at_244) (fun _ _ => ⟨rfl, hh583, (by decide : 1 + 0 ≤ _), (by decide : 4 + 0 ≤ _)⟩)
  dsimp only [Pt.U, Pt.locs, Pt.cells, Pt.slots] at X586 l586 y586 z586 st586 hQ586
  subst l586 y586 z586
  obtain ⟨rfl, Nq586, hh586⟩ := hQ586
  have N586 := Fr.app M583 Nq586
  have k587 : Rch p e below S0 T586 (mkF m 247 #[.val (.long p1), .second, .val (.long p2), .second, vI p3, vI 4, vR b528, vI c0, vI c1, vI c2, vI c3, vI c4, vI c5, vI c6, vI sv2, vU] [(.int (own_stI sv2 (kc c1)))]) := fun t h => k585 t (st586 t h)
  obtain ⟨lo586, Y586, M586⟩ : ∃ lo, Stand p l e room_1 (s.setVm s.vm) m #[(.long p1), (.long p2), (.int p3)] below meth c T586 lo 1 4 ∧ Fr n0 lo := ⟨_, X586, N586⟩
  clear X586 N586
  obtain ⟨sv1, hsv1⟩ : ∃ z : Int32, z = own_stI sv2 (kc c1) := ⟨_, rfl⟩
  rw [← hsv1] at k587
  have k588 : Rch p e below S0 T586 (mkF m 258 #[.val (.long p1), .second, .val (.long p2), .second, vI p3, vI 4, vR b528, vI c0, vI c1, vI c2, vI c3, vI c4, vI c5, vI c6, vI sv1, vU] [(.int c0), (.int sv1)]) := fun t h => k587 t (by
      show Steps p.tables e below (T586.setTop (mkF m 247 #[.val (.long p1), .second, .val (.long p2), .second, vI p3, vI 4, vR b528, vI c0, vI c1, vI c2, vI c3, vI c4, vI c5, vI c6, vI sv2, vU] [(.int sv1)])) _
      refine XS.istore Y586.here hx rfl (hb hby at_247) rfl (l' := #[.val (.long p1), .second, .val (.long p2), .second, vI p3, vI 4, vR b528, vI c0, vI c1, vI c2, vI c3, vI c4, vI c5, vI c6, vI sv1, vU]) rfl ?_
      refine XS.iload Y586.here hx rfl (hb hby at_249) rfl ?_
      refine XS.ifNo Y586.here hx rfl (hb hby at_251) rfl ((if0 _ _).trans (tlt (by decide : (0 : Int32) < (4 : Int32))).2.2.2) ?_
      refine XS.iload Y586.here hx rfl (hb hby at_254) rfl ?_
      refine XS.iload Y586.here hx rfl (hb hby at_256) rfl ?_
      exact h)
  obtain ⟨_, _, ⟨T589, L589, kk589, n589⟩, -, X589, ⟨Lc589, hQ589, l589, y589, z589⟩, st589⟩ := Jvm.LawKit.callS Y586 hx (y := (⟨"com/example/nuthatch/nuthatch/EntryNameIsMemberPinLaw", "step", "(IC)I"⟩ : MethodName)) hown (mvT hZ (hw _ (gm 71 rfl))) (mvT hZ (hw _ (gm 72 rfl))) (mvT hZ (hw _ (gm 3 rfl))) (mvT hZ (hw _ (gm 73 rfl))) (by decide) (backOf (W := 0) (rmST l Z a0 hw [] sv1 c0  h573 n0 O577 ) hZ (hw _ (gm 73 rfl)) (hw _ (gm 3 rfl)) (by decide) (by decide)) (g := (mkF m 258 #[.val (.long p1), .second, .val (.long p2), .second, vI p3, vI 4, vR b528, vI c0, vI c1, vI c2, vI c3, vI c4, vI c5, vI c6, vI sv1, vU] [(.int c0), (.int sv1)])) rfl (by rw [hml]; rfl) (argsL := [(.int sv1), (.int c0)]) (rest := []) (lenOf pd_13 rfl) rfl (by show 2 * 0 + _ ≤ _; exact Nat.le_of_eq rfl) (hb hby at_258) (fun _ _ => ⟨rfl, hh586, (by decide : 1 + 0 ≤ _), (by decide : 4 + 0 ≤ _)⟩)
  dsimp only [Pt.U, Pt.locs, Pt.cells, Pt.slots] at X589 l589 y589 z589 st589 hQ589
  subst l589 y589 z589
  obtain ⟨rfl, Nq589, hh589⟩ := hQ589
  have N589 := Fr.app M586 Nq589
  have k590 : Rch p e below S0 T589 (mkF m 261 #[.val (.long p1), .second, .val (.long p2), .second, vI p3, vI 4, vR b528, vI c0, vI c1, vI c2, vI c3, vI c4, vI c5, vI c6, vI sv1, vU] [(.int (own_stI sv1 (kc c0)))]) := fun t h => k588 t (st589 t h)
  obtain ⟨lo589, Y589, M589⟩ : ∃ lo, Stand p l e room_1 (s.setVm s.vm) m #[(.long p1), (.long p2), (.int p3)] below meth c T589 lo 1 4 ∧ Fr n0 lo := ⟨_, X589, N589⟩
  clear X589 N589
  obtain ⟨sv0, hsv0⟩ : ∃ z : Int32, z = own_stI sv1 (kc c0) := ⟨_, rfl⟩
  rw [← hsv0] at k590
  have k591 : Rch p e below S0 T589 (mkF m 263 #[.val (.long p1), .second, .val (.long p2), .second, vI p3, vI 4, vR b528, vI c0, vI c1, vI c2, vI c3, vI c4, vI c5, vI c6, vI sv0, vU] []) := fun t h => k590 t (by
      show Steps p.tables e below (T589.setTop (mkF m 261 #[.val (.long p1), .second, .val (.long p2), .second, vI p3, vI 4, vR b528, vI c0, vI c1, vI c2, vI c3, vI c4, vI c5, vI c6, vI sv1, vU] [(.int sv0)])) _
      refine XS.istore Y589.here hx rfl (hb hby at_261) rfl (l' := #[.val (.long p1), .second, .val (.long p2), .second, vI p3, vI 4, vR b528, vI c0, vI c1, vI c2, vI c3, vI c4, vI c5, vI c6, vI sv0, vU]) rfl ?_
      exact h)
  have hpc : ∀ c ∈ ([c0, c1, c2, c3] : List Int32), ¬ c < 0 ∧ ¬ (255 : Int32) < c := by
    intro c hc
    simp only [List.mem_cons, List.not_mem_nil, or_false] at hc
    rcases hc with rfl | rfl | rfl | rfl
    · exact hc0
    · exact hc1
    · exact hc2
    · exact hc3
  have hpl := own_plain (([c0, c1, c2, c3] : List Int32).map kc) 4 rfl (by decide) (fun y hy => by obtain ⟨c, -, rfl⟩ := List.mem_map.mp hy; exact kc_lt c)
  cases hM : own_mem (([c0, c1, c2, c3] : List Int32).map kc) 4 with
  | true =>
    have hF : sv0 = 4 := by
      have q := hpl.1 hM
      simp only [own_fsI, List.map_cons, List.map_nil, List.foldr_cons, List.foldr_nil] at q
      rw [hsv0, hsv1, hsv2, hsv3]; exact q
    clear hpl hsv0 hsv1 hsv2 hsv3
    have hbm : own_b (own_mem (([c0, c1, c2, c3] : List Int32).map kc) 4) = 1 := by rw [hM]; rfl
    clear hM
    have k592 : Rch p e below S0 T589 (mkF m 276 #[.val (.long p1), .second, .val (.long p2), .second, vI p3, vI 4, vR b528, vI c0, vI c1, vI c2, vI c3, vI c4, vI c5, vI c6, vI sv0, vI 1] []) := fun t h => k591 t (by
        show Steps p.tables e below (T589.setTop (mkF m 263 #[.val (.long p1), .second, .val (.long p2), .second, vI p3, vI 4, vR b528, vI c0, vI c1, vI c2, vI c3, vI c4, vI c5, vI c6, vI sv0, vU] [])) _
        refine XS.iload Y589.here hx rfl (hb hby at_263) rfl ?_
        refine XS.iconst Y589.here hx rfl (hb hby at_265) ?_
        refine XS.icmpNo Y589.here hx rfl (hb hby at_266) rfl (teq (hF : sv0 = (4 : Int32))).2 ?_
        refine XS.iconst Y589.here hx rfl (hb hby at_269) ?_
        refine XS.goto Y589.here hx rfl (pc0 := 270) (pc' := 274) rfl (hb hby at_270) (by decide) (by decide) ?_
        refine XS.istore Y589.here hx rfl (hb hby at_274) rfl (l' := #[.val (.long p1), .second, .val (.long p2), .second, vI p3, vI 4, vR b528, vI c0, vI c1, vI c2, vI c3, vI c4, vI c5, vI c6, vI sv0, vI 1]) rfl ?_
        exact h)
    clear hF
    obtain ⟨T593, h593, X593, e593, E593, A593, D593, -, st593⟩ := newO Y589 hx hZ hown (hw _ (gm 6 rfl)) (hw _ (gm 7 rfl)) (hw _ (gm 8 rfl)) hh589 (g := (mkF m 276 #[.val (.long p1), .second, .val (.long p2), .second, vI p3, vI 4, vR b528, vI c0, vI c1, vI c2, vI c3, vI c4, vI c5, vI c6, vI sv0, vI 1] [])) rfl (hb hby at_276) (by decide) (by decide)
    obtain ⟨b593, g593⟩ : ∃ z, z = h573.size := ⟨_, rfl⟩
    rw [← g593] at A593 D593 st593
    have k594 : Rch p e below S0 T593 (mkF m 279 #[.val (.long p1), .second, .val (.long p2), .second, vI p3, vI 4, vR b528, vI c0, vI c1, vI c2, vI c3, vI c4, vI c5, vI c6, vI sv0, vI 1] [(.ref b593)]) := fun t h => k592 t (st593 t h)
    have ne_b528_b593 : b528 ≠ b593 := own_ne V_b528.lt (Nat.le_of_eq g593.symm)
    have ge_b593 : n0 ≤ b593 := own_ge O577 (Nat.le_of_eq g593.symm)
    have sf_b593 : Safe Z consts_1 s.vm h573 b593 := Safe.new (Nat.le_of_eq g593.symm)
    replace sf_b528 := Safe.ext E593 hC576 sf_b528
    replace sf_b593 := Safe.ext E593 hC576 sf_b593
    have hC595 := hC576.ext E593
    have rC595 := rC576.trans (CHr.ext E593 hC576)
    have O596 := O577.ext E593
    replace V_b528 := V_b528.ext E593
    have hkk597 := Nat.le_trans hkk578 E593.1
    have E_b593 := A593
    have F_b593_value : Fld Z h593 b593 "java/lang/String" "value" "[B" .null := D593 (Or.inr (hw _ (gm 21 rfl))) (ty := (.array .byte)) (by decide)
    have F_b593_coder : Fld Z h593 b593 "java/lang/String" "coder" "B" (.int (0 : Int32)) := D593 (Or.inr (hw _ (gm 22 rfl))) (ty := .byte) (by decide)
    have k598 : Rch p e below S0 T593 (mkF m 282 #[.val (.long p1), .second, .val (.long p2), .second, vI p3, vI 4, vR b528, vI c0, vI c1, vI c2, vI c3, vI c4, vI c5, vI c6, vI sv0, vI 1] [(.ref b528), (.ref b593), (.ref b593)]) := fun t h => k594 t (by
        show Steps p.tables e below (T593.setTop (mkF m 279 #[.val (.long p1), .second, .val (.long p2), .second, vI p3, vI 4, vR b528, vI c0, vI c1, vI c2, vI c3, vI c4, vI c5, vI c6, vI sv0, vI 1] [(.ref b593)])) _
        refine XS.dup X593.here hx rfl (hb hby at_279) rfl rfl ?_
        refine XS.aload X593.here hx rfl (hb hby at_280) rfl rfl ?_
        exact h)
    have hws : ∀ d ∈ StrChars.Road.words, d.before a0 Z = true := fun d hd => hw d ((by decide +kernel : ∀ d ∈ StrChars.Road.words, d ∈ tables_1) d hd)
    have hp : ∀ c ∈ ([c0, c1, c2, c3] : List Int32), ¬ c < 0 ∧ ¬ (255 : Int32) < c := hpc
    obtain ⟨_, _, ⟨T599, L599, kk599, n599⟩, -, X599, ⟨Lc599, hQ599, l599, y599, z599⟩, st599⟩ := X593.specialBack hx (y := (⟨"java/lang/String", "<init>", "([C)V"⟩ : MethodName)) rfl hown (mvT hZ (hw _ (gm 9 rfl))) (mvT hZ (hw _ (gm 10 rfl))) (mvT hZ (hw _ (gm 11 rfl))) (by decide) (StrChars.Road.backV (W := 1) hZ hws (kI := 4) (hw _ (gm 7 rfl)) (cs := [c0, c1, c2, c3]) (bs := [c0, c1, c2, c3].map (fun c => c.toInt8.toInt32)) (n := 4) ge_b593 (own_le O596) E_b593 F_b593_value F_b593_coder V_b528 (SC.ext O596.2) hzC rfl rfl (by decide) (by decide) hp rfl (by decide) (by decide)) (g := (mkF m 282 #[.val (.long p1), .second, .val (.long p2), .second, vI p3, vI 4, vR b528, vI c0, vI c1, vI c2, vI c3, vI c4, vI c5, vI c6, vI sv0, vI 1] [(.ref b528), (.ref b593), (.ref b593)])) rfl (by rw [hml]; rfl) (Steps.refl _) (a := b593) (argsL := [(.ref b528)]) (rest := [(.ref b593)]) (lenOf pd_1 rfl) rfl (by show 2 * 0 + _ ≤ _; exact Nat.le_of_eq rfl) (hb hby at_282) (fun _ _ => ⟨rfl, e593, (by decide : 2 + 1 ≤ _), (by decide : 8 + 4 ≤ _)⟩)
    dsimp only [Pt.U, Pt.locs, Pt.cells, Pt.slots] at X599 l599 y599 z599 st599 hQ599
    subst l599 y599 z599
    obtain ⟨rfl, Nq599, K599, Eb599, Cb599, t599, kb599, u599, v599, ww599, Vb599, Ab599⟩ := hQ599
    have N599 := Fr.app M589 Nq599
    have k600 : Rch p e below S0 T599 (mkF m 285 #[.val (.long p1), .second, .val (.long p2), .second, vI p3, vI 4, vR b528, vI c0, vI c1, vI c2, vI c3, vI c4, vI c5, vI c6, vI sv0, vI 1] [(.ref b593)]) := fun t h => k598 t (st599.trans h)
    have hC601 := hC595.keep K599 (sfS sf_b593 sf0)
    have rC601 := rC595.trans (CHr.keep K599 (sfS sf_b593 sf0) hC595)
    have sfx602 := (sfS sf_b593 sf0)
    replace sf_b528 := Safe.keep K599 sfx602 hC595 sf_b528
    replace sf_b593 := Safe.keep K599 sfx602 hC595 sf_b593
    have O603 := O596.keep K599 (allS ge_b593 all0)
    replace V_b528 := V_b528.keep K599 (ninS ne_b528_b593 nin0)
    replace E_b593 := E_b593.keep K599
    have hkk604 := Nat.le_trans hkk597 K599.1
    obtain ⟨_, _, ⟨T605, L605, kk605, n605⟩, -, X605, ⟨Lc605, hQ605, l605, y605, z605⟩, st605⟩ := Jvm.LawKit.callS X599 hx (y := (⟨"com/example/nuthatch/nuthatch/EntryName", "isMember", "(Ljava/lang/String;)Z"⟩ : MethodName)) hown (mvT hZ (hw _ (gm 27 rfl))) (mvT hZ (hw _ (gm 28 rfl))) (mvT hZ (hw _ (gm 29 rfl))) (mvT hZ (hw _ (gm 30 rfl))) (by decide) (backOf (W := 0) (rmIM l Z a0 hw []  b593 t599 kb599 4 [c0, c1, c2, c3] zC fm T599.heap n0 O603 SC hzC Eb599 Vb599 Cb599 Ab599 rfl (by decide) hpc SP hfm) hZ (hw _ (gm 30 rfl)) (hw _ (gm 29 rfl)) (by decide) (by decide)) (g := (mkF m 285 #[.val (.long p1), .second, .val (.long p2), .second, vI p3, vI 4, vR b528, vI c0, vI c1, vI c2, vI c3, vI c4, vI c5, vI c6, vI sv0, vI 1] [(.ref b593)])) rfl (by rw [hml]; rfl) (argsL := [(.ref b593)]) (rest := []) (lenOf pd_4 rfl) rfl (by show 2 * 0 + _ ≤ _; exact Nat.le_of_eq rfl) (hb hby at_285) (fun _ _ => ⟨rfl, rfl, (by decide : 3 + 0 ≤ _), (by decide : 12 + 0 ≤ _)⟩)
    dsimp only [Pt.U, Pt.locs, Pt.cells, Pt.slots] at X605 l605 y605 z605 st605 hQ605
    subst l605 y605 z605
    obtain ⟨rfl, Nq605, hh605⟩ := hQ605
    have N605 := Fr.app N599 Nq605
    have k606 : Rch p e below S0 T605 (mkF m 288 #[.val (.long p1), .second, .val (.long p2), .second, vI p3, vI 4, vR b528, vI c0, vI c1, vI c2, vI c3, vI c4, vI c5, vI c6, vI sv0, vI 1] [(.int (1 : Int32))]) := fun t h => k600 t (st605 t (by rw [hbm]; exact h))
    obtain ⟨lo605, Y605, M605⟩ : ∃ lo, Stand p l e room_1 (s.setVm s.vm) m #[(.long p1), (.long p2), (.int p3)] below meth c T605 lo 3 12 ∧ Fr n0 lo := ⟨_, X605, N605⟩
    clear X605 N605
    clear hbm
    have k607 : Rch p e below S0 T605 (mkF m 298 #[.val (.long p1), .second, .val (.long p2), .second, vI p3, vI 4, vR b528, vI c0, vI c1, vI c2, vI c3, vI c4, vI c5, vI c6, vI sv0, vI 1] [(.int (1 : Int32))]) := fun t h => k606 t (by
        show Steps p.tables e below (T605.setTop (mkF m 288 #[.val (.long p1), .second, .val (.long p2), .second, vI p3, vI 4, vR b528, vI c0, vI c1, vI c2, vI c3, vI c4, vI c5, vI c6, vI sv0, vI 1] [(.int (1 : Int32))])) _
        refine XS.iload Y605.here hx rfl (hb hby at_288) rfl ?_
        refine XS.icmpNo Y605.here hx rfl (hb hby at_290) rfl (teq (by decide : (1 : Int32) = (1 : Int32))).2 ?_
        refine XS.iconst Y605.here hx rfl (hb hby at_293) ?_
        refine XS.goto Y605.here hx rfl (pc0 := 294) (pc' := 298) rfl (hb hby at_294) (by decide) (by decide) ?_
        exact h)
    obtain ⟨fs, hr, hrun, hended, hfin⟩ := Y605.leaveW hS (by rw [hh605]; exact hkk604) (v := (some (.int (1 : Int32)))) (fun h => by rw [Bd.returns] at h; cases h)
    refine ⟨_, _, ?_, hrun, hended, _, _, rfl, ?_, (by rw [hh]; have q := own_chr rC601 (CHv.at Y605 hZ hEL hC601) hh605; exact q), hfin.1, hfin.2.1, hfin.2.2.1, hfin.2.2.2.mono (by decide) (by decide)⟩
    · rw [← hS0]
      refine k607 _ ?_
      show Steps p.tables e below (T605.setTop (mkF m 298 #[.val (.long p1), .second, .val (.long p2), .second, vI p3, vI 4, vR b528, vI c0, vI c1, vI c2, vI c3, vI c4, vI c5, vI c6, vI sv0, vI 1] [(.int (1 : Int32))])) _
      exact retN Y605 hx (t := .boolean) Bd.returns (by simp) (hb hby at_298) hr
    · show Q_rm0_4 Z  h0 n0 _ T605.heap _
      rw [hh605]
      exact ⟨rfl, M605⟩
  | false =>
    have hF : ¬ sv0 = 4 := by
      have q := hpl.2 hM
      simp only [own_fsI, List.map_cons, List.map_nil, List.foldr_cons, List.foldr_nil] at q
      rw [hsv0, hsv1, hsv2, hsv3]; exact q
    clear hpl hsv0 hsv1 hsv2 hsv3
    have hbm : own_b (own_mem (([c0, c1, c2, c3] : List Int32).map kc) 4) = 0 := by rw [hM]; rfl
    clear hM
    have k608 : Rch p e below S0 T589 (mkF m 276 #[.val (.long p1), .second, .val (.long p2), .second, vI p3, vI 4, vR b528, vI c0, vI c1, vI c2, vI c3, vI c4, vI c5, vI c6, vI sv0, vI 0] []) := fun t h => k591 t (by
        show Steps p.tables e below (T589.setTop (mkF m 263 #[.val (.long p1), .second, .val (.long p2), .second, vI p3, vI 4, vR b528, vI c0, vI c1, vI c2, vI c3, vI c4, vI c5, vI c6, vI sv0, vU] [])) _
        refine XS.iload Y589.here hx rfl (hb hby at_263) rfl ?_
        refine XS.iconst Y589.here hx rfl (hb hby at_265) ?_
        refine XS.icmpYes Y589.here hx rfl (pc0 := 266) (pc' := 273) rfl (hb hby at_266) rfl (feq (hF : ¬ (sv0 = (4 : Int32)))).2 (by decide) (by decide) ?_
        refine XS.iconst Y589.here hx rfl (hb hby at_273) ?_
        refine XS.istore Y589.here hx rfl (hb hby at_274) rfl (l' := #[.val (.long p1), .second, .val (.long p2), .second, vI p3, vI 4, vR b528, vI c0, vI c1, vI c2, vI c3, vI c4, vI c5, vI c6, vI sv0, vI 0]) rfl ?_
        exact h)
    clear hF
    obtain ⟨T609, h609, X609, e609, E609, A609, D609, -, st609⟩ := newO Y589 hx hZ hown (hw _ (gm 6 rfl)) (hw _ (gm 7 rfl)) (hw _ (gm 8 rfl)) hh589 (g := (mkF m 276 #[.val (.long p1), .second, .val (.long p2), .second, vI p3, vI 4, vR b528, vI c0, vI c1, vI c2, vI c3, vI c4, vI c5, vI c6, vI sv0, vI 0] [])) rfl (hb hby at_276) (by decide) (by decide)
    obtain ⟨b609, g609⟩ : ∃ z, z = h573.size := ⟨_, rfl⟩
    rw [← g609] at A609 D609 st609
    have k610 : Rch p e below S0 T609 (mkF m 279 #[.val (.long p1), .second, .val (.long p2), .second, vI p3, vI 4, vR b528, vI c0, vI c1, vI c2, vI c3, vI c4, vI c5, vI c6, vI sv0, vI 0] [(.ref b609)]) := fun t h => k608 t (st609 t h)
    have ne_b528_b609 : b528 ≠ b609 := own_ne V_b528.lt (Nat.le_of_eq g609.symm)
    have ge_b609 : n0 ≤ b609 := own_ge O577 (Nat.le_of_eq g609.symm)
    have sf_b609 : Safe Z consts_1 s.vm h573 b609 := Safe.new (Nat.le_of_eq g609.symm)
    replace sf_b528 := Safe.ext E609 hC576 sf_b528
    replace sf_b609 := Safe.ext E609 hC576 sf_b609
    have hC611 := hC576.ext E609
    have rC611 := rC576.trans (CHr.ext E609 hC576)
    have O612 := O577.ext E609
    replace V_b528 := V_b528.ext E609
    have hkk613 := Nat.le_trans hkk578 E609.1
    have E_b609 := A609
    have F_b609_value : Fld Z h609 b609 "java/lang/String" "value" "[B" .null := D609 (Or.inr (hw _ (gm 21 rfl))) (ty := (.array .byte)) (by decide)
    have F_b609_coder : Fld Z h609 b609 "java/lang/String" "coder" "B" (.int (0 : Int32)) := D609 (Or.inr (hw _ (gm 22 rfl))) (ty := .byte) (by decide)
    have k614 : Rch p e below S0 T609 (mkF m 282 #[.val (.long p1), .second, .val (.long p2), .second, vI p3, vI 4, vR b528, vI c0, vI c1, vI c2, vI c3, vI c4, vI c5, vI c6, vI sv0, vI 0] [(.ref b528), (.ref b609), (.ref b609)]) := fun t h => k610 t (by
        show Steps p.tables e below (T609.setTop (mkF m 279 #[.val (.long p1), .second, .val (.long p2), .second, vI p3, vI 4, vR b528, vI c0, vI c1, vI c2, vI c3, vI c4, vI c5, vI c6, vI sv0, vI 0] [(.ref b609)])) _
        refine XS.dup X609.here hx rfl (hb hby at_279) rfl rfl ?_
        refine XS.aload X609.here hx rfl (hb hby at_280) rfl rfl ?_
        exact h)
    have hws : ∀ d ∈ StrChars.Road.words, d.before a0 Z = true := fun d hd => hw d ((by decide +kernel : ∀ d ∈ StrChars.Road.words, d ∈ tables_1) d hd)
    have hp : ∀ c ∈ ([c0, c1, c2, c3] : List Int32), ¬ c < 0 ∧ ¬ (255 : Int32) < c := hpc
    obtain ⟨_, _, ⟨T615, L615, kk615, n615⟩, -, X615, ⟨Lc615, hQ615, l615, y615, z615⟩, st615⟩ := X609.specialBack hx (y := (⟨"java/lang/String", "<init>", "([C)V"⟩ : MethodName)) rfl hown (mvT hZ (hw _ (gm 9 rfl))) (mvT hZ (hw _ (gm 10 rfl))) (mvT hZ (hw _ (gm 11 rfl))) (by decide) (StrChars.Road.backV (W := 1) hZ hws (kI := 4) (hw _ (gm 7 rfl)) (cs := [c0, c1, c2, c3]) (bs := [c0, c1, c2, c3].map (fun c => c.toInt8.toInt32)) (n := 4) ge_b609 (own_le O612) E_b609 F_b609_value F_b609_coder V_b528 (SC.ext O612.2) hzC rfl rfl (by decide) (by decide) hp rfl (by decide) (by decide)) (g := (mkF m 282 #[.val (.long p1), .second, .val (.long p2), .second, vI p3, vI 4, vR b528, vI c0, vI c1, vI c2, vI c3, vI c4, vI c5, vI c6, vI sv0, vI 0] [(.ref b528), (.ref b609), (.ref b609)])) rfl (by rw [hml]; rfl) (Steps.refl _) (a := b609) (argsL := [(.ref b528)]) (rest := [(.ref b609)]) (lenOf pd_1 rfl) rfl (by show 2 * 0 + _ ≤ _; exact Nat.le_of_eq rfl) (hb hby at_282) (fun _ _ => ⟨rfl, e609, (by decide : 2 + 1 ≤ _), (by decide : 8 + 4 ≤ _)⟩)
    dsimp only [Pt.U, Pt.locs, Pt.cells, Pt.slots] at X615 l615 y615 z615 st615 hQ615
    subst l615 y615 z615
    obtain ⟨rfl, Nq615, K615, Eb615, Cb615, t615, kb615, u615, v615, ww615, Vb615, Ab615⟩ := hQ615
    have N615 := Fr.app M589 Nq615
    have k616 : Rch p e below S0 T615 (mkF m 285 #[.val (.long p1), .second, .val (.long p2), .second, vI p3, vI 4, vR b528, vI c0, vI c1, vI c2, vI c3, vI c4, vI c5, vI c6, vI sv0, vI 0] [(.ref b609)]) := fun t h => k614 t (st615.trans h)
    have hC617 := hC611.keep K615 (sfS sf_b609 sf0)
    have rC617 := rC611.trans (CHr.keep K615 (sfS sf_b609 sf0) hC611)
    have sfx618 := (sfS sf_b609 sf0)
    replace sf_b528 := Safe.keep K615 sfx618 hC611 sf_b528
    replace sf_b609 := Safe.keep K615 sfx618 hC611 sf_b609
    have O619 := O612.keep K615 (allS ge_b609 all0)
    replace V_b528 := V_b528.keep K615 (ninS ne_b528_b609 nin0)
    replace E_b609 := E_b609.keep K615
    have hkk620 := Nat.le_trans hkk613 K615.1
    obtain ⟨_, _, ⟨T621, L621, kk621, n621⟩, -, X621, ⟨Lc621, hQ621, l621, y621, z621⟩, st621⟩ := Jvm.LawKit.callS X615 hx (y := (⟨"com/example/nuthatch/nuthatch/EntryName", "isMember", "(Ljava/lang/String;)Z"⟩ : MethodName)) hown (mvT hZ (hw _ (gm 27 rfl))) (mvT hZ (hw _ (gm 28 rfl))) (mvT hZ (hw _ (gm 29 rfl))) (mvT hZ (hw _ (gm 30 rfl))) (by decide) (backOf (W := 0) (rmIM l Z a0 hw []  b609 t615 kb615 4 [c0, c1, c2, c3] zC fm T615.heap n0 O619 SC hzC Eb615 Vb615 Cb615 Ab615 rfl (by decide) hpc SP hfm) hZ (hw _ (gm 30 rfl)) (hw _ (gm 29 rfl)) (by decide) (by decide)) (g := (mkF m 285 #[.val (.long p1), .second, .val (.long p2), .second, vI p3, vI 4, vR b528, vI c0, vI c1, vI c2, vI c3, vI c4, vI c5, vI c6, vI sv0, vI 0] [(.ref b609)])) rfl (by rw [hml]; rfl) (argsL := [(.ref b609)]) (rest := []) (lenOf pd_4 rfl) rfl (by show 2 * 0 + _ ≤ _; exact Nat.le_of_eq rfl) (hb hby at_285) (fun _ _ => ⟨rfl, rfl, (by decide : 3 + 0 ≤ _), (by decide : 12 + 0 ≤ _)⟩)
    dsimp only [Pt.U, Pt.locs, Pt.cells, Pt.slots] at X621 l621 y621 z621 st621 hQ621
    subst l621 y621 z621
    obtain ⟨rfl, Nq621, hh621⟩ := hQ621
    have N621 := Fr.app N615 Nq621
    have k622 : Rch p e below S0 T621 (mkF m 288 #[.val (.long p1), .second, .val (.long p2), .second, vI p3, vI 4, vR b528, vI c0, vI c1, vI c2, vI c3, vI c4, vI c5, vI c6, vI sv0, vI 0] [(.int (0 : Int32))]) := fun t h => k616 t (st621 t (by rw [hbm]; exact h))
    obtain ⟨lo621, Y621, M621⟩ : ∃ lo, Stand p l e room_1 (s.setVm s.vm) m #[(.long p1), (.long p2), (.int p3)] below meth c T621 lo 3 12 ∧ Fr n0 lo := ⟨_, X621, N621⟩
    clear X621 N621
    clear hbm
    have k623 : Rch p e below S0 T621 (mkF m 298 #[.val (.long p1), .second, .val (.long p2), .second, vI p3, vI 4, vR b528, vI c0, vI c1, vI c2, vI c3, vI c4, vI c5, vI c6, vI sv0, vI 0] [(.int (1 : Int32))]) := fun t h => k622 t (by
        show Steps p.tables e below (T621.setTop (mkF m 288 #[.val (.long p1), .second, .val (.long p2), .second, vI p3, vI 4, vR b528, vI c0, vI c1, vI c2, vI c3, vI c4, vI c5, vI c6, vI sv0, vI 0] [(.int (0 : Int32))])) _
        refine XS.iload Y621.here hx rfl (hb hby at_288) rfl ?_
        refine XS.icmpNo Y621.here hx rfl (hb hby at_290) rfl (teq (by decide : (0 : Int32) = (0 : Int32))).2 ?_
        refine XS.iconst Y621.here hx rfl (hb hby at_293) ?_
        refine XS.goto Y621.here hx rfl (pc0 := 294) (pc' := 298) rfl (hb hby at_294) (by decide) (by decide) ?_
        exact h)
    obtain ⟨fs, hr, hrun, hended, hfin⟩ := Y621.leaveW hS (by rw [hh621]; exact hkk620) (v := (some (.int (1 : Int32)))) (fun h => by rw [Bd.returns] at h; cases h)
    refine ⟨_, _, ?_, hrun, hended, _, _, rfl, ?_, (by rw [hh]; have q := own_chr rC617 (CHv.at Y621 hZ hEL hC617) hh621; exact q), hfin.1, hfin.2.1, hfin.2.2.1, hfin.2.2.2.mono (by decide) (by decide)⟩
    · rw [← hS0]
      refine k623 _ ?_
      show Steps p.tables e below (T621.setTop (mkF m 298 #[.val (.long p1), .second, .val (.long p2), .second, vI p3, vI 4, vR b528, vI c0, vI c1, vI c2, vI c3, vI c4, vI c5, vI c6, vI sv0, vI 0] [(.int (1 : Int32))])) _
      exact retN Y621 hx (t := .boolean) Bd.returns (by simp) (hb hby at_298) hr
    · show Q_rm0_4 Z  h0 n0 _ T621.heap _
      rw [hh621]
      exact ⟨rfl, M621⟩
def Q_rm0_5 (Z : State)  (h0 : Heap) (n0 : Nat) (v : Option Value) (h : Heap) (L : List Loc) : Prop := v = some (.int (1 : Int32)) ∧ Fr n0 L
set_option maxRecDepth 65536 in
set_option maxHeartbeats 40000000 in
theorem rm0_5 (l : Launch) (Z : State) (a0 : Array Value) (hw : ∀ d ∈ tables_1, d.before a0 Z = true) (ws : List Jvm.Cond) (p1 : Int64) (p2 : Int64) (p3 : Int32) (zC : Int32) (fm : Value) (h0 : Heap) (n0 : Nat) (O0 : Old Z n0 h0) (SC : Sta Z Z.heap "java/lang/String" "COMPACT_STRINGS" "Z" (.int zC)) (hzC : ¬ zC = 0) (SP : Sta Z Z.heap "jdk/internal/util/Preconditions" "SIOOBE_FORMATTER" "Ljava/util/function/BiFunction;" fm) (hfm : fm = .null ∨ ∃ wP, fm = .ref wP) (hlen : p3 &&& 7 = (5 : Int32)) :
    MetFree l x (head1 (Jvm.Cond.code x code maxLocals ret :: ws) room_1) (fun a U => a = #[(.long p1), (.long p2), (.int p3)] ∧ Z.Warmed39 U.vm ∧ U.heap = h0 ∧ CHv Z consts_1 U.vm h0) (fun _ _ _ _ _ => True) (fun _ U o U' => ∃ v L, o = .returned v ∧ Q_rm0_5 Z  h0 n0 v U'.heap L ∧ CHr Z consts_1 U.vm U.heap U'.vm U'.heap ∧ ReturnedEndW U o U' L room_1.cells room_1.slots) := by
  refine MetFree.of_bodySF (plainFor_of_name pn_EntryNameIsMemberPinLaw) hisR ?_
  intro p e s m args below meth c s₁ Bd hml0 hP hK
  obtain ⟨rfl, hZ, hh, hC0⟩ := hP
  have hx := Bd.exec
  have hby := Bd.bytes
  have hml : c.maxLocals = 16 := hml0
  have hown : s.vm.findClass "com/example/nuthatch/nuthatch/EntryNameIsMemberPinLaw" = some m.cls := findClass_of_methodNamed Bd.named
  have hnm := (name_of_methodNamed Bd.named Bd.method).1
  have X0 : Stand p l e room_1 (s.setVm s.vm) m #[(.long p1), (.long p2), (.int p3)] below meth c s₁ [] 0 0 := Stand.of_body Bd
  have e0 : s₁.heap = h0 := by rw [← hh, Bd.state]; rfl
  have N0 := Fr.nil n0
  obtain ⟨S0, hS0⟩ : ∃ z, z = s₁.setTop (entryFrame m #[(.long p1), (.long p2), (.int p3)] maxLocals) := ⟨_, rfl⟩
  have k0 : Rch p e below S0 s₁ (mkF m 0 #[.val (.long p1), .second, .val (.long p2), .second, vI p3, vU, vU, vU, vU, vU, vU, vU, vU, vU, vU, vU] []) := fun t kq => hS0 ▸ castTop (ef_0 m p1 p2 p3) kq
  have hS : s.Since s.vm s.heap.size := (State.WarmedH.refl s).since _
  have hk : s.heap.size ≤ h0.size := by rw [← hh]; exact Nat.le_refl _
  have hwS : ∀ d ∈ Bundle.stringAtoms, d.before a0 Z = true := fun d hd => hw d ((by decide +kernel : ∀ d ∈ Bundle.stringAtoms, d ∈ tables_1) d hd)
  have rC0 : CHr Z consts_1 s.vm h0 s.vm h0 := CHr.refl hC0
  have hEL : EW Z a0 consts_1 := (EW.cons (hw _ (gm 19 rfl)) (by decide +kernel) EW.nil)
  have k625 : Rch p e below S0 s₁ (mkF m 9 #[.val (.long p1), .second, .val (.long p2), .second, vI p3, vI 5, vU, vU, vU, vU, vU, vU, vU, vU, vU, vU] [(.int (5 : Int32))]) := fun t h => k0 t (by
      show Steps p.tables e below (s₁.setTop (mkF m 0 #[.val (.long p1), .second, .val (.long p2), .second, vI p3, vU, vU, vU, vU, vU, vU, vU, vU, vU, vU, vU] [])) _
      refine XS.iload X0.here hx rfl (hb hby at_0) rfl ?_
      refine XS.bipush X0.here hx rfl (hb hby at_2) ?_
      show Steps p.tables e below (s₁.setTop (mkF m 4 #[.val (.long p1), .second, .val (.long p2), .second, vI p3, vU, vU, vU, vU, vU, vU, vU, vU, vU, vU, vU] [(.int (7 : Int32)), (.int p3)])) _
      refine XS.iand X0.here hx rfl (hb hby at_4) rfl ?_
      rw [hlen]
      refine XS.istore X0.here hx rfl (hb hby at_5) rfl (l' := #[.val (.long p1), .second, .val (.long p2), .second, vI p3, vI 5, vU, vU, vU, vU, vU, vU, vU, vU, vU, vU]) rfl ?_
      refine XS.iload X0.here hx rfl (hb hby at_7) rfl ?_
      exact h)
  obtain ⟨T624, h624, k624, X624, e624, E624, A624, st624⟩ := newP X0 hx hZ (hw _ (gm 0 rfl)) e0 (g := (mkF m 9 #[.val (.long p1), .second, .val (.long p2), .second, vI p3, vI 5, vU, vU, vU, vU, vU, vU, vU, vU, vU, vU] [(.int (5 : Int32))])) rfl (hb hby at_9) rfl (by decide) (cap := 5) (by decide) (by decide) (by decide) (by decide)
  obtain ⟨b624, g624⟩ : ∃ z, z = h0.size := ⟨_, rfl⟩
  rw [← g624] at A624 st624
  have k626 : Rch p e below S0 T624 (mkF m 11 #[.val (.long p1), .second, .val (.long p2), .second, vI p3, vI 5, vU, vU, vU, vU, vU, vU, vU, vU, vU, vU] [(.ref b624)]) := fun t h => k625 t (st624 t h)
  have ge_b624 : n0 ≤ b624 := own_ge O0 (Nat.le_of_eq g624.symm)
  have sf_b624 : Safe Z consts_1 s.vm h0 b624 := Safe.new (Nat.le_of_eq g624.symm)
  replace sf_b624 := Safe.ext E624 hC0 sf_b624
  have hC627 := hC0.ext E624
  have rC627 := rC0.trans (CHr.ext E624 hC0)
  have O628 := O0.ext E624
  have hkk629 := Nat.le_trans hk E624.1
  have V_b624 : Arv Z h624 b624 k624 .char (5 : Int32) [(.int (0 : Int32)), (.int (0 : Int32)), (.int (0 : Int32)), (.int (0 : Int32)), (.int (0 : Int32))] (.int (0 : Int32)) := (Arv.new A624 (by decide)).pad (pad_rep [] (.int (0 : Int32)) 5)
  have k630 : Rch p e below S0 T624 (mkF m 14 #[.val (.long p1), .second, .val (.long p2), .second, vI p3, vI 5, vR b624, vU, vU, vU, vU, vU, vU, vU, vU, vU] [(.long p1)]) := fun t h => k626 t (by
      show Steps p.tables e below (T624.setTop (mkF m 11 #[.val (.long p1), .second, .val (.long p2), .second, vI p3, vI 5, vU, vU, vU, vU, vU, vU, vU, vU, vU, vU] [(.ref b624)])) _
      refine XS.astore X624.here hx rfl (hb hby at_11) rfl rfl (l' := #[.val (.long p1), .second, .val (.long p2), .second, vI p3, vI 5, vR b624, vU, vU, vU, vU, vU, vU, vU, vU, vU]) rfl ?_
      refine XS.lloadN X624.here hx rfl (hb hby at_13) rfl ?_
      exact h)
  obtain ⟨_, _, ⟨T631, L631, kk631, n631⟩, -, X631, ⟨Lc631, hQ631, l631, y631, z631⟩, st631⟩ := Jvm.LawKit.callS X624 hx (y := (⟨"com/example/nuthatch/nuthatch/EntryNameIsMemberPinLaw", "ch", "(J)C"⟩ : MethodName)) hown (mvT hZ (hw _ (gm 1 rfl))) (mvT hZ (hw _ (gm 2 rfl))) (mvT hZ (hw _ (gm 3 rfl))) (mvT hZ (hw _ (gm 4 rfl))) (by decide) (backOf (W := 0) (rmCh l Z a0 hw [] p1  h624 n0 O628 ) hZ (hw _ (gm 4 rfl)) (hw _ (gm 3 rfl)) (by decide) (by decide)) (g := (mkF m 14 #[.val (.long p1), .second, .val (.long p2), .second, vI p3, vI 5, vR b624, vU, vU, vU, vU, vU, vU, vU, vU, vU] [(.long p1)])) rfl (by rw [hml]; rfl) (argsL := [(.long p1)]) (rest := []) (lenOf pd_0 rfl) rfl (by show 2 * 0 + _ ≤ _; exact Nat.le_of_eq rfl) (hb hby at_14) (fun _ _ => ⟨rfl, e624, (by decide : 1 + 0 ≤ _), (by decide : 5 + 0 ≤ _)⟩)
  dsimp only [Pt.U, Pt.locs, Pt.cells, Pt.slots] at X631 l631 y631 z631 st631 hQ631
  subst l631 y631 z631
  obtain ⟨c0, rfl, Nq631, hh631, hc0⟩ := hQ631
  have N631 := Fr.app N0 Nq631
  have k632 : Rch p e below S0 T631 (mkF m 17 #[.val (.long p1), .second, .val (.long p2), .second, vI p3, vI 5, vR b624, vU, vU, vU, vU, vU, vU, vU, vU, vU] [(.int c0)]) := fun t h => k630 t (st631 t h)
  obtain ⟨lo631, Y631, M631⟩ : ∃ lo, Stand p l e room_1 (s.setVm s.vm) m #[(.long p1), (.long p2), (.int p3)] below meth c T631 lo 1 5 ∧ Fr n0 lo := ⟨_, X631, N631⟩
  clear X631 N631
  have k633 : Rch p e below S0 T631 (mkF m 23 #[.val (.long p1), .second, .val (.long p2), .second, vI p3, vI 5, vR b624, vI c0, vU, vU, vU, vU, vU, vU, vU, vU] [(.long ((p1.toUInt64 >>> ((10 : Int32) &&& 0x3f).toInt64.toUInt64).toInt64))]) := fun t h => k632 t (by
      show Steps p.tables e below (T631.setTop (mkF m 17 #[.val (.long p1), .second, .val (.long p2), .second, vI p3, vI 5, vR b624, vU, vU, vU, vU, vU, vU, vU, vU, vU] [(.int c0)])) _
      refine XS.istore Y631.here hx rfl (hb hby at_17) rfl (l' := #[.val (.long p1), .second, .val (.long p2), .second, vI p3, vI 5, vR b624, vI c0, vU, vU, vU, vU, vU, vU, vU, vU]) rfl ?_
      refine XS.lloadN Y631.here hx rfl (hb hby at_19) rfl ?_
      refine XS.bipush Y631.here hx rfl (hb hby at_20) ?_
      refine XS.lushr Y631.here hx rfl (hb hby at_22) rfl ?_
      exact h)
  obtain ⟨_, _, ⟨T634, L634, kk634, n634⟩, -, X634, ⟨Lc634, hQ634, l634, y634, z634⟩, st634⟩ := Jvm.LawKit.callS Y631 hx (y := (⟨"com/example/nuthatch/nuthatch/EntryNameIsMemberPinLaw", "ch", "(J)C"⟩ : MethodName)) hown (mvT hZ (hw _ (gm 1 rfl))) (mvT hZ (hw _ (gm 2 rfl))) (mvT hZ (hw _ (gm 3 rfl))) (mvT hZ (hw _ (gm 4 rfl))) (by decide) (backOf (W := 0) (rmCh l Z a0 hw [] ((p1.toUInt64 >>> ((10 : Int32) &&& 0x3f).toInt64.toUInt64).toInt64)  h624 n0 O628 ) hZ (hw _ (gm 4 rfl)) (hw _ (gm 3 rfl)) (by decide) (by decide)) (g := (mkF m 23 #[.val (.long p1), .second, .val (.long p2), .second, vI p3, vI 5, vR b624, vI c0, vU, vU, vU, vU, vU, vU, vU, vU] [(.long ((p1.toUInt64 >>> ((10 : Int32) &&& 0x3f).toInt64.toUInt64).toInt64))])) rfl (by rw [hml]; rfl) (argsL := [(.long ((p1.toUInt64 >>> ((10 : Int32) &&& 0x3f).toInt64.toUInt64).toInt64))]) (rest := []) (lenOf pd_0 rfl) rfl (by show 2 * 0 + _ ≤ _; exact Nat.le_of_eq rfl) (hb hby at_23) (fun _ _ => ⟨rfl, hh631, (by decide : 1 + 0 ≤ _), (by decide : 5 + 0 ≤ _)⟩)
  dsimp only [Pt.U, Pt.locs, Pt.cells, Pt.slots] at X634 l634 y634 z634 st634 hQ634
  subst l634 y634 z634
  obtain ⟨c1, rfl, Nq634, hh634, hc1⟩ := hQ634
  have N634 := Fr.app M631 Nq634
  have k635 : Rch p e below S0 T634 (mkF m 26 #[.val (.long p1), .second, .val (.long p2), .second, vI p3, vI 5, vR b624, vI c0, vU, vU, vU, vU, vU, vU, vU, vU] [(.int c1)]) := fun t h => k633 t (st634 t h)
  obtain ⟨lo634, Y634, M634⟩ : ∃ lo, Stand p l e room_1 (s.setVm s.vm) m #[(.long p1), (.long p2), (.int p3)] below meth c T634 lo 1 5 ∧ Fr n0 lo := ⟨_, X634, N634⟩
  clear X634 N634
  have k636 : Rch p e below S0 T634 (mkF m 32 #[.val (.long p1), .second, .val (.long p2), .second, vI p3, vI 5, vR b624, vI c0, vI c1, vU, vU, vU, vU, vU, vU, vU] [(.long ((p1.toUInt64 >>> ((20 : Int32) &&& 0x3f).toInt64.toUInt64).toInt64))]) := fun t h => k635 t (by
      show Steps p.tables e below (T634.setTop (mkF m 26 #[.val (.long p1), .second, .val (.long p2), .second, vI p3, vI 5, vR b624, vI c0, vU, vU, vU, vU, vU, vU, vU, vU] [(.int c1)])) _
      refine XS.istore Y634.here hx rfl (hb hby at_26) rfl (l' := #[.val (.long p1), .second, .val (.long p2), .second, vI p3, vI 5, vR b624, vI c0, vI c1, vU, vU, vU, vU, vU, vU, vU]) rfl ?_
      refine XS.lloadN Y634.here hx rfl (hb hby at_28) rfl ?_
      refine XS.bipush Y634.here hx rfl (hb hby at_29) ?_
      refine XS.lushr Y634.here hx rfl (hb hby at_31) rfl ?_
      exact h)
  obtain ⟨_, _, ⟨T637, L637, kk637, n637⟩, -, X637, ⟨Lc637, hQ637, l637, y637, z637⟩, st637⟩ := Jvm.LawKit.callS Y634 hx (y := (⟨"com/example/nuthatch/nuthatch/EntryNameIsMemberPinLaw", "ch", "(J)C"⟩ : MethodName)) hown (mvT hZ (hw _ (gm 1 rfl))) (mvT hZ (hw _ (gm 2 rfl))) (mvT hZ (hw _ (gm 3 rfl))) (mvT hZ (hw _ (gm 4 rfl))) (by decide) (backOf (W := 0) (rmCh l Z a0 hw [] ((p1.toUInt64 >>> ((20 : Int32) &&& 0x3f).toInt64.toUInt64).toInt64)  h624 n0 O628 ) hZ (hw _ (gm 4 rfl)) (hw _ (gm 3 rfl)) (by decide) (by decide)) (g := (mkF m 32 #[.val (.long p1), .second, .val (.long p2), .second, vI p3, vI 5, vR b624, vI c0, vI c1, vU, vU, vU, vU, vU, vU, vU] [(.long ((p1.toUInt64 >>> ((20 : Int32) &&& 0x3f).toInt64.toUInt64).toInt64))])) rfl (by rw [hml]; rfl) (argsL := [(.long ((p1.toUInt64 >>> ((20 : Int32) &&& 0x3f).toInt64.toUInt64).toInt64))]) (rest := []) (lenOf pd_0 rfl) rfl (by show 2 * 0 + _ ≤ _; exact Nat.le_of_eq rfl) (hb hby at_32) (fun _ _ => ⟨rfl, hh634, (by decide : 1 + 0 ≤ _), (by decide : 5 + 0 ≤ _)⟩)
  dsimp only [Pt.U, Pt.locs, Pt.cells, Pt.slots] at X637 l637 y637 z637 st637 hQ637
  subst l637 y637 z637
  obtain ⟨c2, rfl, Nq637, hh637, hc2⟩ := hQ637
  have N637 := Fr.app M634 Nq637
  have k638 : Rch p e below S0 T637 (mkF m 35 #[.val (.long p1), .second, .val (.long p2), .second, vI p3, vI 5, vR b624, vI c0, vI c1, vU, vU, vU, vU, vU, vU, vU] [(.int c2)]) := fun t h => k636 t (st637 t h)
  obtain ⟨lo637, Y637, M637⟩ : ∃ lo, Stand p l e room_1 (s.setVm s.vm) m #[(.long p1), (.long p2), (.int p3)] below meth c T637 lo 1 5 ∧ Fr n0 lo := ⟨_, X637, N637⟩
  clear X637 N637
  have k639 : Rch p e below S0 T637 (mkF m 41 #[.val (.long p1), .second, .val (.long p2), .second, vI p3, vI 5, vR b624, vI c0, vI c1, vI c2, vU, vU, vU, vU, vU, vU] [(.long ((p1.toUInt64 >>> ((30 : Int32) &&& 0x3f).toInt64.toUInt64).toInt64))]) := fun t h => k638 t (by
      show Steps p.tables e below (T637.setTop (mkF m 35 #[.val (.long p1), .second, .val (.long p2), .second, vI p3, vI 5, vR b624, vI c0, vI c1, vU, vU, vU, vU, vU, vU, vU] [(.int c2)])) _
      refine XS.istore Y637.here hx rfl (hb hby at_35) rfl (l' := #[.val (.long p1), .second, .val (.long p2), .second, vI p3, vI 5, vR b624, vI c0, vI c1, vI c2, vU, vU, vU, vU, vU, vU]) rfl ?_
      refine XS.lloadN Y637.here hx rfl (hb hby at_37) rfl ?_
      refine XS.bipush Y637.here hx rfl (hb hby at_38) ?_
      refine XS.lushr Y637.here hx rfl (hb hby at_40) rfl ?_
      exact h)
  obtain ⟨_, _, ⟨T640, L640, kk640, n640⟩, -, X640, ⟨Lc640, hQ640, l640, y640, z640⟩, st640⟩ := Jvm.LawKit.callS Y637 hx (y := (⟨"com/example/nuthatch/nuthatch/EntryNameIsMemberPinLaw", "ch", "(J)C"⟩ : MethodName)) hown (mvT hZ (hw _ (gm 1 rfl))) (mvT hZ (hw _ (gm 2 rfl))) (mvT hZ (hw _ (gm 3 rfl))) (mvT hZ (hw _ (gm 4 rfl))) (by decide) (backOf (W := 0) (rmCh l Z a0 hw [] ((p1.toUInt64 >>> ((30 : Int32) &&& 0x3f).toInt64.toUInt64).toInt64)  h624 n0 O628 ) hZ (hw _ (gm 4 rfl)) (hw _ (gm 3 rfl)) (by decide) (by decide)) (g := (mkF m 41 #[.val (.long p1), .second, .val (.long p2), .second, vI p3, vI 5, vR b624, vI c0, vI c1, vI c2, vU, vU, vU, vU, vU, vU] [(.long ((p1.toUInt64 >>> ((30 : Int32) &&& 0x3f).toInt64.toUInt64).toInt64))])) rfl (by rw [hml]; rfl) (argsL := [(.long ((p1.toUInt64 >>> ((30 : Int32) &&& 0x3f).toInt64.toUInt64).toInt64))]) (rest := []) (lenOf pd_0 rfl) rfl (by show 2 * 0 + _ ≤ _; exact Nat.le_of_eq rfl) (hb hby at_41) (fun _ _ => ⟨rfl, hh637, (by decide : 1 + 0 ≤ _), (by decide : 5 + 0 ≤ _)⟩)
  dsimp only [Pt.U, Pt.locs, Pt.cells, Pt.slots] at X640 l640 y640 z640 st640 hQ640
  subst l640 y640 z640
  obtain ⟨c3, rfl, Nq640, hh640, hc3⟩ := hQ640
  have N640 := Fr.app M637 Nq640
  have k641 : Rch p e below S0 T640 (mkF m 44 #[.val (.long p1), .second, .val (.long p2), .second, vI p3, vI 5, vR b624, vI c0, vI c1, vI c2, vU, vU, vU, vU, vU, vU] [(.int c3)]) := fun t h => k639 t (st640 t h)
  obtain ⟨lo640, Y640, M640⟩ : ∃ lo, Stand p l e room_1 (s.setVm s.vm) m #[(.long p1), (.long p2), (.int p3)] below meth c T640 lo 1 5 ∧ Fr n0 lo := ⟨_, X640, N640⟩
  clear X640 N640
  have k642 : Rch p e below S0 T640 (mkF m 50 #[.val (.long p1), .second, .val (.long p2), .second, vI p3, vI 5, vR b624, vI c0, vI c1, vI c2, vI c3, vU, vU, vU, vU, vU] [(.long ((p1.toUInt64 >>> ((40 : Int32) &&& 0x3f).toInt64.toUInt64).toInt64))]) := fun t h => k641 t (by
      show Steps p.tables e below (T640.setTop (mkF m 44 #[.val (.long p1), .second, .val (.long p2), .second, vI p3, vI 5, vR b624, vI c0, vI c1, vI c2, vU, vU, vU, vU, vU, vU] [(.int c3)])) _
      refine XS.istore Y640.here hx rfl (hb hby at_44) rfl (l' := #[.val (.long p1), .second, .val (.long p2), .second, vI p3, vI 5, vR b624, vI c0, vI c1, vI c2, vI c3, vU, vU, vU, vU, vU]) rfl ?_
      refine XS.lloadN Y640.here hx rfl (hb hby at_46) rfl ?_
      refine XS.bipush Y640.here hx rfl (hb hby at_47) ?_
      refine XS.lushr Y640.here hx rfl (hb hby at_49) rfl ?_
      exact h)
  obtain ⟨_, _, ⟨T643, L643, kk643, n643⟩, -, X643, ⟨Lc643, hQ643, l643, y643, z643⟩, st643⟩ := Jvm.LawKit.callS Y640 hx (y := (⟨"com/example/nuthatch/nuthatch/EntryNameIsMemberPinLaw", "ch", "(J)C"⟩ : MethodName)) hown (mvT hZ (hw _ (gm 1 rfl))) (mvT hZ (hw _ (gm 2 rfl))) (mvT hZ (hw _ (gm 3 rfl))) (mvT hZ (hw _ (gm 4 rfl))) (by decide) (backOf (W := 0) (rmCh l Z a0 hw [] ((p1.toUInt64 >>> ((40 : Int32) &&& 0x3f).toInt64.toUInt64).toInt64)  h624 n0 O628 ) hZ (hw _ (gm 4 rfl)) (hw _ (gm 3 rfl)) (by decide) (by decide)) (g := (mkF m 50 #[.val (.long p1), .second, .val (.long p2), .second, vI p3, vI 5, vR b624, vI c0, vI c1, vI c2, vI c3, vU, vU, vU, vU, vU] [(.long ((p1.toUInt64 >>> ((40 : Int32) &&& 0x3f).toInt64.toUInt64).toInt64))])) rfl (by rw [hml]; rfl) (argsL := [(.long ((p1.toUInt64 >>> ((40 : Int32) &&& 0x3f).toInt64.toUInt64).toInt64))]) (rest := []) (lenOf pd_0 rfl) rfl (by show 2 * 0 + _ ≤ _; exact Nat.le_of_eq rfl) (hb hby at_50) (fun _ _ => ⟨rfl, hh640, (by decide : 1 + 0 ≤ _), (by decide : 5 + 0 ≤ _)⟩)
  dsimp only [Pt.U, Pt.locs, Pt.cells, Pt.slots] at X643 l643 y643 z643 st643 hQ643
  subst l643 y643 z643
  obtain ⟨c4, rfl, Nq643, hh643, hc4⟩ := hQ643
  have N643 := Fr.app M640 Nq643
  have k644 : Rch p e below S0 T643 (mkF m 53 #[.val (.long p1), .second, .val (.long p2), .second, vI p3, vI 5, vR b624, vI c0, vI c1, vI c2, vI c3, vU, vU, vU, vU, vU] [(.int c4)]) := fun t h => k642 t (st643 t h)
  obtain ⟨lo643, Y643, M643⟩ : ∃ lo, Stand p l e room_1 (s.setVm s.vm) m #[(.long p1), (.long p2), (.int p3)] below meth c T643 lo 1 5 ∧ Fr n0 lo := ⟨_, X643, N643⟩
  clear X643 N643
  have k645 : Rch p e below S0 T643 (mkF m 59 #[.val (.long p1), .second, .val (.long p2), .second, vI p3, vI 5, vR b624, vI c0, vI c1, vI c2, vI c3, vI c4, vU, vU, vU, vU] [(.long ((p1.toUInt64 >>> ((50 : Int32) &&& 0x3f).toInt64.toUInt64).toInt64))]) := fun t h => k644 t (by
      show Steps p.tables e below (T643.setTop (mkF m 53 #[.val (.long p1), .second, .val (.long p2), .second, vI p3, vI 5, vR b624, vI c0, vI c1, vI c2, vI c3, vU, vU, vU, vU, vU] [(.int c4)])) _
      refine XS.istore Y643.here hx rfl (hb hby at_53) rfl (l' := #[.val (.long p1), .second, .val (.long p2), .second, vI p3, vI 5, vR b624, vI c0, vI c1, vI c2, vI c3, vI c4, vU, vU, vU, vU]) rfl ?_
      refine XS.lloadN Y643.here hx rfl (hb hby at_55) rfl ?_
      refine XS.bipush Y643.here hx rfl (hb hby at_56) ?_
      refine XS.lushr Y643.here hx rfl (hb hby at_58) rfl ?_
      exact h)
  obtain ⟨_, _, ⟨T646, L646, kk646, n646⟩, -, X646, ⟨Lc646, hQ646, l646, y646, z646⟩, st646⟩ := Jvm.LawKit.callS Y643 hx (y := (⟨"com/example/nuthatch/nuthatch/EntryNameIsMemberPinLaw", "ch", "(J)C"⟩ : MethodName)) hown (mvT hZ (hw _ (gm 1 rfl))) (mvT hZ (hw _ (gm 2 rfl))) (mvT hZ (hw _ (gm 3 rfl))) (mvT hZ (hw _ (gm 4 rfl))) (by decide) (backOf (W := 0) (rmCh l Z a0 hw [] ((p1.toUInt64 >>> ((50 : Int32) &&& 0x3f).toInt64.toUInt64).toInt64)  h624 n0 O628 ) hZ (hw _ (gm 4 rfl)) (hw _ (gm 3 rfl)) (by decide) (by decide)) (g := (mkF m 59 #[.val (.long p1), .second, .val (.long p2), .second, vI p3, vI 5, vR b624, vI c0, vI c1, vI c2, vI c3, vI c4, vU, vU, vU, vU] [(.long ((p1.toUInt64 >>> ((50 : Int32) &&& 0x3f).toInt64.toUInt64).toInt64))])) rfl (by rw [hml]; rfl) (argsL := [(.long ((p1.toUInt64 >>> ((50 : Int32) &&& 0x3f).toInt64.toUInt64).toInt64))]) (rest := []) (lenOf pd_0 rfl) rfl (by show 2 * 0 + _ ≤ _; exact Nat.le_of_eq rfl) (hb hby at_59) (fun _ _ => ⟨rfl, hh643, (by decide : 1 + 0 ≤ _), (by decide : 5 + 0 ≤ _)⟩)
  dsimp only [Pt.U, Pt.locs, Pt.cells, Pt.slots] at X646 l646 y646 z646 st646 hQ646
  subst l646 y646 z646
  obtain ⟨c5, rfl, Nq646, hh646, hc5⟩ := hQ646
  have N646 := Fr.app M643 Nq646
  have k647 : Rch p e below S0 T646 (mkF m 62 #[.val (.long p1), .second, .val (.long p2), .second, vI p3, vI 5, vR b624, vI c0, vI c1, vI c2, vI c3, vI c4, vU, vU, vU, vU] [(.int c5)]) := fun t h => k645 t (st646 t h)
  obtain ⟨lo646, Y646, M646⟩ : ∃ lo, Stand p l e room_1 (s.setVm s.vm) m #[(.long p1), (.long p2), (.int p3)] below meth c T646 lo 1 5 ∧ Fr n0 lo := ⟨_, X646, N646⟩
  clear X646 N646
  have k648 : Rch p e below S0 T646 (mkF m 65 #[.val (.long p1), .second, .val (.long p2), .second, vI p3, vI 5, vR b624, vI c0, vI c1, vI c2, vI c3, vI c4, vI c5, vU, vU, vU] [(.long p2)]) := fun t h => k647 t (by
      show Steps p.tables e below (T646.setTop (mkF m 62 #[.val (.long p1), .second, .val (.long p2), .second, vI p3, vI 5, vR b624, vI c0, vI c1, vI c2, vI c3, vI c4, vU, vU, vU, vU] [(.int c5)])) _
      refine XS.istore Y646.here hx rfl (hb hby at_62) rfl (l' := #[.val (.long p1), .second, .val (.long p2), .second, vI p3, vI 5, vR b624, vI c0, vI c1, vI c2, vI c3, vI c4, vI c5, vU, vU, vU]) rfl ?_
      refine XS.lloadN Y646.here hx rfl (hb hby at_64) rfl ?_
      exact h)
  obtain ⟨_, _, ⟨T649, L649, kk649, n649⟩, -, X649, ⟨Lc649, hQ649, l649, y649, z649⟩, st649⟩ := Jvm.LawKit.callS Y646 hx (y := (⟨"com/example/nuthatch/nuthatch/EntryNameIsMemberPinLaw", "ch", "(J)C"⟩ : MethodName)) hown (mvT hZ (hw _ (gm 1 rfl))) (mvT hZ (hw _ (gm 2 rfl))) (mvT hZ (hw _ (gm 3 rfl))) (mvT hZ (hw _ (gm 4 rfl))) (by decide) (backOf (W := 0) (rmCh l Z a0 hw [] p2  h624 n0 O628 ) hZ (hw _ (gm 4 rfl)) (hw _ (gm 3 rfl)) (by decide) (by decide)) (g := (mkF m 65 #[.val (.long p1), .second, .val (.long p2), .second, vI p3, vI 5, vR b624, vI c0, vI c1, vI c2, vI c3, vI c4, vI c5, vU, vU, vU] [(.long p2)])) rfl (by rw [hml]; rfl) (argsL := [(.long p2)]) (rest := []) (lenOf pd_0 rfl) rfl (by show 2 * 0 + _ ≤ _; exact Nat.le_of_eq rfl) (hb hby at_65) (fun _ _ => ⟨rfl, hh646, (by decide : 1 + 0 ≤ _), (by decide : 5 + 0 ≤ _)⟩)
  dsimp only [Pt.U, Pt.locs, Pt.cells, Pt.slots] at X649 l649 y649 z649 st649 hQ649
  subst l649 y649 z649
  obtain ⟨c6, rfl, Nq649, hh649, hc6⟩ := hQ649
  have N649 := Fr.app M646 Nq649
  have k650 : Rch p e below S0 T649 (mkF m 68 #[.val (.long p1), .second, .val (.long p2), .second, vI p3, vI 5, vR b624, vI c0, vI c1, vI c2, vI c3, vI c4, vI c5, vU, vU, vU] [(.int c6)]) := fun t h => k648 t (st649 t h)
  obtain ⟨lo649, Y649, M649⟩ : ∃ lo, Stand p l e room_1 (s.setVm s.vm) m #[(.long p1), (.long p2), (.int p3)] below meth c T649 lo 1 5 ∧ Fr n0 lo := ⟨_, X649, N649⟩
  clear X649 N649
  have k652 : Rch p e below S0 T649 (mkF m 80 #[.val (.long p1), .second, .val (.long p2), .second, vI p3, vI 5, vR b624, vI c0, vI c1, vI c2, vI c3, vI c4, vI c5, vI c6, vU, vU] [(.int c0), (.int (0 : Int32)), (.ref b624)]) := fun t h => k650 t (by
      show Steps p.tables e below (T649.setTop (mkF m 68 #[.val (.long p1), .second, .val (.long p2), .second, vI p3, vI 5, vR b624, vI c0, vI c1, vI c2, vI c3, vI c4, vI c5, vU, vU, vU] [(.int c6)])) _
      refine XS.istore Y649.here hx rfl (hb hby at_68) rfl (l' := #[.val (.long p1), .second, .val (.long p2), .second, vI p3, vI 5, vR b624, vI c0, vI c1, vI c2, vI c3, vI c4, vI c5, vI c6, vU, vU]) rfl ?_
      refine XS.iload Y649.here hx rfl (hb hby at_70) rfl ?_
      refine XS.ifNo Y649.here hx rfl (hb hby at_72) rfl ((if0 _ _).trans (tlt (by decide : (0 : Int32) < (5 : Int32))).2.2.2) ?_
      refine XS.aload Y649.here hx rfl (hb hby at_75) rfl rfl ?_
      refine XS.iconst Y649.here hx rfl (hb hby at_77) ?_
      refine XS.iload Y649.here hx rfl (hb hby at_78) rfl ?_
      exact h)
  obtain ⟨cl651, Ar651, q651, Sz651, Ng651, Hs651, G651⟩ := id V_b624
  have hin651 : ¬ ((0 : Int32) < 0 ∨ cl651.slots.size ≤ ((0 : Int32)).toNatClampNeg) := inb_of Sz651 ⟨by decide, by decide⟩
  obtain ⟨T651, h651, X651, e651, W651, st651⟩ := stC Y649 hx hZ hh649 Ar651 (j := (0 : Int32)) hin651 (g := (mkF m 80 #[.val (.long p1), .second, .val (.long p2), .second, vI p3, vI 5, vR b624, vI c0, vI c1, vI c2, vI c3, vI c4, vI c5, vI c6, vU, vU] [(.int c0), (.int (0 : Int32)), (.ref b624)])) rfl rfl (hb hby at_80)
  have k653 : Rch p e below S0 T651 (mkF m 81 #[.val (.long p1), .second, .val (.long p2), .second, vI p3, vI 5, vR b624, vI c0, vI c1, vI c2, vI c3, vI c4, vI c5, vI c6, vU, vU] []) := fun t h => k652 t (st651 t h)
  have N651 := Fr.snoc X651 M649 ge_b624
  have V_b624' := Arv.set Ar651 q651 Sz651 Ng651 Hs651 G651 (fits_nar_char _) W651 0 rfl (Nat.le_of_ble_eq_true rfl)
  replace V_b624 : Arv Z h651 b624 k624 .char (5 : Int32) [(.int c0), (.int (0 : Int32)), (.int (0 : Int32)), (.int (0 : Int32)), (.int (0 : Int32))] (.int (0 : Int32)) := (by have q := V_b624'; rw [(own_nar c0 hc0).1] at q; exact q)
  have hC654 := hC627.wr W651 sf_b624
  have rC654 := rC627.trans (CHr.wr W651 sf_b624 hC627)
  replace sf_b624 := Safe.wr W651 sf_b624 hC627 sf_b624
  have O655 := O628.wr W651 ge_b624
  have hkk656 := Nat.le_trans hkk629 (Keep.of_wr W651).1
  have k658 : Rch p e below S0 T651 (mkF m 92 #[.val (.long p1), .second, .val (.long p2), .second, vI p3, vI 5, vR b624, vI c0, vI c1, vI c2, vI c3, vI c4, vI c5, vI c6, vU, vU] [(.int c1), (.int (1 : Int32)), (.ref b624)]) := fun t h => k653 t (by
      show Steps p.tables e below (T651.setTop (mkF m 81 #[.val (.long p1), .second, .val (.long p2), .second, vI p3, vI 5, vR b624, vI c0, vI c1, vI c2, vI c3, vI c4, vI c5, vI c6, vU, vU] [])) _
      refine XS.iload X651.here hx rfl (hb hby at_81) rfl ?_
      refine XS.iconst X651.here hx rfl (hb hby at_83) ?_
      refine XS.icmpNo X651.here hx rfl (hb hby at_84) rfl (tlt (by decide : (1 : Int32) < (5 : Int32))).2.2.2 ?_
      refine XS.aload X651.here hx rfl (hb hby at_87) rfl rfl ?_
      refine XS.iconst X651.here hx rfl (hb hby at_89) ?_
      refine XS.iload X651.here hx rfl (hb hby at_90) rfl ?_
      exact h)
  obtain ⟨cl657, Ar657, q657, Sz657, Ng657, Hs657, G657⟩ := id V_b624
  have hin657 : ¬ ((1 : Int32) < 0 ∨ cl657.slots.size ≤ ((1 : Int32)).toNatClampNeg) := inb_of Sz657 ⟨by decide, by decide⟩
  obtain ⟨T657, h657, X657, e657, W657, st657⟩ := stC X651 hx hZ e651 Ar657 (j := (1 : Int32)) hin657 (g := (mkF m 92 #[.val (.long p1), .second, .val (.long p2), .second, vI p3, vI 5, vR b624, vI c0, vI c1, vI c2, vI c3, vI c4, vI c5, vI c6, vU, vU] [(.int c1), (.int (1 : Int32)), (.ref b624)])) rfl rfl (hb hby at_92)
  have k659 : Rch p e below S0 T657 (mkF m 93 #[.val (.long p1), .second, .val (.long p2), .second, vI p3, vI 5, vR b624, vI c0, vI c1, vI c2, vI c3, vI c4, vI c5, vI c6, vU, vU] []) := fun t h => k658 t (st657 t h)
  have N657 := Fr.snoc X657 N651 ge_b624
  have V_b624' := Arv.set Ar657 q657 Sz657 Ng657 Hs657 G657 (fits_nar_char _) W657 1 rfl (Nat.le_of_ble_eq_true rfl)
  replace V_b624 : Arv Z h657 b624 k624 .char (5 : Int32) [(.int c0), (.int c1), (.int (0 : Int32)), (.int (0 : Int32)), (.int (0 : Int32))] (.int (0 : Int32)) := (by have q := V_b624'; rw [(own_nar c1 hc1).1] at q; exact q)
  have hC660 := hC654.wr W657 sf_b624
  have rC660 := rC654.trans (CHr.wr W657 sf_b624 hC654)
  replace sf_b624 := Safe.wr W657 sf_b624 hC654 sf_b624
  have O661 := O655.wr W657 ge_b624
  have hkk662 := Nat.le_trans hkk656 (Keep.of_wr W657).1
  have k664 : Rch p e below S0 T657 (mkF m 104 #[.val (.long p1), .second, .val (.long p2), .second, vI p3, vI 5, vR b624, vI c0, vI c1, vI c2, vI c3, vI c4, vI c5, vI c6, vU, vU] [(.int c2), (.int (2 : Int32)), (.ref b624)]) := fun t h => k659 t (by
      show Steps p.tables e below (T657.setTop (mkF m 93 #[.val (.long p1), .second, .val (.long p2), .second, vI p3, vI 5, vR b624, vI c0, vI c1, vI c2, vI c3, vI c4, vI c5, vI c6, vU, vU] [])) _
      refine XS.iload X657.here hx rfl (hb hby at_93) rfl ?_
      refine XS.iconst X657.here hx rfl (hb hby at_95) ?_
      refine XS.icmpNo X657.here hx rfl (hb hby at_96) rfl (tlt (by decide : (2 : Int32) < (5 : Int32))).2.2.2 ?_
      refine XS.aload X657.here hx rfl (hb hby at_99) rfl rfl ?_
      refine XS.iconst X657.here hx rfl (hb hby at_101) ?_
      refine XS.iload X657.here hx rfl (hb hby at_102) rfl ?_
      exact h)
  obtain ⟨cl663, Ar663, q663, Sz663, Ng663, Hs663, G663⟩ := id V_b624
  have hin663 : ¬ ((2 : Int32) < 0 ∨ cl663.slots.size ≤ ((2 : Int32)).toNatClampNeg) := inb_of Sz663 ⟨by decide, by decide⟩
  obtain ⟨T663, h663, X663, e663, W663, st663⟩ := stC X657 hx hZ e657 Ar663 (j := (2 : Int32)) hin663 (g := (mkF m 104 #[.val (.long p1), .second, .val (.long p2), .second, vI p3, vI 5, vR b624, vI c0, vI c1, vI c2, vI c3, vI c4, vI c5, vI c6, vU, vU] [(.int c2), (.int (2 : Int32)), (.ref b624)])) rfl rfl (hb hby at_104)
  have k665 : Rch p e below S0 T663 (mkF m 105 #[.val (.long p1), .second, .val (.long p2), .second, vI p3, vI 5, vR b624, vI c0, vI c1, vI c2, vI c3, vI c4, vI c5, vI c6, vU, vU] []) := fun t h => k664 t (st663 t h)
  have N663 := Fr.snoc X663 N657 ge_b624
  have V_b624' := Arv.set Ar663 q663 Sz663 Ng663 Hs663 G663 (fits_nar_char _) W663 2 rfl (Nat.le_of_ble_eq_true rfl)
  replace V_b624 : Arv Z h663 b624 k624 .char (5 : Int32) [(.int c0), (.int c1), (.int c2), (.int (0 : Int32)), (.int (0 : Int32))] (.int (0 : Int32)) := (by have q := V_b624'; rw [(own_nar c2 hc2).1] at q; exact q)
  have hC666 := hC660.wr W663 sf_b624
  have rC666 := rC660.trans (CHr.wr W663 sf_b624 hC660)
  replace sf_b624 := Safe.wr W663 sf_b624 hC660 sf_b624
  have O667 := O661.wr W663 ge_b624
  have hkk668 := Nat.le_trans hkk662 (Keep.of_wr W663).1
  have k670 : Rch p e below S0 T663 (mkF m 116 #[.val (.long p1), .second, .val (.long p2), .second, vI p3, vI 5, vR b624, vI c0, vI c1, vI c2, vI c3, vI c4, vI c5, vI c6, vU, vU] [(.int c3), (.int (3 : Int32)), (.ref b624)]) := fun t h => k665 t (by
      show Steps p.tables e below (T663.setTop (mkF m 105 #[.val (.long p1), .second, .val (.long p2), .second, vI p3, vI 5, vR b624, vI c0, vI c1, vI c2, vI c3, vI c4, vI c5, vI c6, vU, vU] [])) _
      refine XS.iload X663.here hx rfl (hb hby at_105) rfl ?_
      refine XS.iconst X663.here hx rfl (hb hby at_107) ?_
      refine XS.icmpNo X663.here hx rfl (hb hby at_108) rfl (tlt (by decide : (3 : Int32) < (5 : Int32))).2.2.2 ?_
      refine XS.aload X663.here hx rfl (hb hby at_111) rfl rfl ?_
      refine XS.iconst X663.here hx rfl (hb hby at_113) ?_
      refine XS.iload X663.here hx rfl (hb hby at_114) rfl ?_
      exact h)
  obtain ⟨cl669, Ar669, q669, Sz669, Ng669, Hs669, G669⟩ := id V_b624
  have hin669 : ¬ ((3 : Int32) < 0 ∨ cl669.slots.size ≤ ((3 : Int32)).toNatClampNeg) := inb_of Sz669 ⟨by decide, by decide⟩
  obtain ⟨T669, h669, X669, e669, W669, st669⟩ := stC X663 hx hZ e663 Ar669 (j := (3 : Int32)) hin669 (g := (mkF m 116 #[.val (.long p1), .second, .val (.long p2), .second, vI p3, vI 5, vR b624, vI c0, vI c1, vI c2, vI c3, vI c4, vI c5, vI c6, vU, vU] [(.int c3), (.int (3 : Int32)), (.ref b624)])) rfl rfl (hb hby at_116)
  have k671 : Rch p e below S0 T669 (mkF m 117 #[.val (.long p1), .second, .val (.long p2), .second, vI p3, vI 5, vR b624, vI c0, vI c1, vI c2, vI c3, vI c4, vI c5, vI c6, vU, vU] []) := fun t h => k670 t (st669 t h)
  have N669 := Fr.snoc X669 N663 ge_b624
  have V_b624' := Arv.set Ar669 q669 Sz669 Ng669 Hs669 G669 (fits_nar_char _) W669 3 rfl (Nat.le_of_ble_eq_true rfl)
  replace V_b624 : Arv Z h669 b624 k624 .char (5 : Int32) [(.int c0), (.int c1), (.int c2), (.int c3), (.int (0 : Int32))] (.int (0 : Int32)) := (by have q := V_b624'; rw [(own_nar c3 hc3).1] at q; exact q)
  have hC672 := hC666.wr W669 sf_b624
  have rC672 := rC666.trans (CHr.wr W669 sf_b624 hC666)
  replace sf_b624 := Safe.wr W669 sf_b624 hC666 sf_b624
  have O673 := O667.wr W669 ge_b624
  have hkk674 := Nat.le_trans hkk668 (Keep.of_wr W669).1
  have k676 : Rch p e below S0 T669 (mkF m 128 #[.val (.long p1), .second, .val (.long p2), .second, vI p3, vI 5, vR b624, vI c0, vI c1, vI c2, vI c3, vI c4, vI c5, vI c6, vU, vU] [(.int c4), (.int (4 : Int32)), (.ref b624)]) := fun t h => k671 t (by
      show Steps p.tables e below (T669.setTop (mkF m 117 #[.val (.long p1), .second, .val (.long p2), .second, vI p3, vI 5, vR b624, vI c0, vI c1, vI c2, vI c3, vI c4, vI c5, vI c6, vU, vU] [])) _
      refine XS.iload X669.here hx rfl (hb hby at_117) rfl ?_
      refine XS.iconst X669.here hx rfl (hb hby at_119) ?_
      refine XS.icmpNo X669.here hx rfl (hb hby at_120) rfl (tlt (by decide : (4 : Int32) < (5 : Int32))).2.2.2 ?_
      refine XS.aload X669.here hx rfl (hb hby at_123) rfl rfl ?_
      refine XS.iconst X669.here hx rfl (hb hby at_125) ?_
      refine XS.iload X669.here hx rfl (hb hby at_126) rfl ?_
      exact h)
  obtain ⟨cl675, Ar675, q675, Sz675, Ng675, Hs675, G675⟩ := id V_b624
  have hin675 : ¬ ((4 : Int32) < 0 ∨ cl675.slots.size ≤ ((4 : Int32)).toNatClampNeg) := inb_of Sz675 ⟨by decide, by decide⟩
  obtain ⟨T675, h675, X675, e675, W675, st675⟩ := stC X669 hx hZ e669 Ar675 (j := (4 : Int32)) hin675 (g := (mkF m 128 #[.val (.long p1), .second, .val (.long p2), .second, vI p3, vI 5, vR b624, vI c0, vI c1, vI c2, vI c3, vI c4, vI c5, vI c6, vU, vU] [(.int c4), (.int (4 : Int32)), (.ref b624)])) rfl rfl (hb hby at_128)
  have k677 : Rch p e below S0 T675 (mkF m 129 #[.val (.long p1), .second, .val (.long p2), .second, vI p3, vI 5, vR b624, vI c0, vI c1, vI c2, vI c3, vI c4, vI c5, vI c6, vU, vU] []) := fun t h => k676 t (st675 t h)
  have N675 := Fr.snoc X675 N669 ge_b624
  have V_b624' := Arv.set Ar675 q675 Sz675 Ng675 Hs675 G675 (fits_nar_char _) W675 4 rfl (Nat.le_of_ble_eq_true rfl)
  replace V_b624 : Arv Z h675 b624 k624 .char (5 : Int32) [(.int c0), (.int c1), (.int c2), (.int c3), (.int c4)] (.int (0 : Int32)) := (by have q := V_b624'; rw [(own_nar c4 hc4).1] at q; exact q)
  have hC678 := hC672.wr W675 sf_b624
  have rC678 := rC672.trans (CHr.wr W675 sf_b624 hC672)
  replace sf_b624 := Safe.wr W675 sf_b624 hC672 sf_b624
  have O679 := O673.wr W675 ge_b624
  have hkk680 := Nat.le_trans hkk674 (Keep.of_wr W675).1
  have k681 : Rch p e below S0 T675 (mkF m 199 #[.val (.long p1), .second, .val (.long p2), .second, vI p3, vI 5, vR b624, vI c0, vI c1, vI c2, vI c3, vI c4, vI c5, vI c6, vI 0, vU] [(.int c4), (.int (0 : Int32))]) := fun t h => k677 t (by
      show Steps p.tables e below (T675.setTop (mkF m 129 #[.val (.long p1), .second, .val (.long p2), .second, vI p3, vI 5, vR b624, vI c0, vI c1, vI c2, vI c3, vI c4, vI c5, vI c6, vU, vU] [])) _
      refine XS.iload X675.here hx rfl (hb hby at_129) rfl ?_
      show Steps p.tables e below (T675.setTop (mkF m 131 #[.val (.long p1), .second, .val (.long p2), .second, vI p3, vI 5, vR b624, vI c0, vI c1, vI c2, vI c3, vI c4, vI c5, vI c6, vU, vU] [(.int (5 : Int32))])) _
      refine XS.iconst X675.here hx rfl (hb hby at_131) ?_
      refine XS.icmpYes X675.here hx rfl (pc0 := 132) (pc' := 141) rfl (hb hby at_132) rfl (flt (by decide : ¬ ((5 : Int32) < (5 : Int32)))).2.2.2 (by decide) (by decide) ?_
      refine XS.iload X675.here hx rfl (hb hby at_141) rfl ?_
      refine XS.bipush X675.here hx rfl (hb hby at_143) ?_
      refine XS.icmpYes X675.here hx rfl (pc0 := 145) (pc' := 155) rfl (hb hby at_145) rfl (flt (by decide : ¬ ((6 : Int32) < (5 : Int32)))).2.2.2 (by decide) (by decide) ?_
      refine XS.iconst X675.here hx rfl (hb hby at_155) ?_
      refine XS.istore X675.here hx rfl (hb hby at_156) rfl (l' := #[.val (.long p1), .second, .val (.long p2), .second, vI p3, vI 5, vR b624, vI c0, vI c1, vI c2, vI c3, vI c4, vI c5, vI c6, vI 0, vU]) rfl ?_
      refine XS.iload X675.here hx rfl (hb hby at_158) rfl ?_
      refine XS.bipush X675.here hx rfl (hb hby at_160) ?_
      refine XS.icmpYes X675.here hx rfl (pc0 := 162) (pc' := 174) rfl (hb hby at_162) rfl (flt (by decide : ¬ ((6 : Int32) < (5 : Int32)))).2.2.2 (by decide) (by decide) ?_
      refine XS.iload X675.here hx rfl (hb hby at_174) rfl ?_
      refine XS.iconst X675.here hx rfl (hb hby at_176) ?_
      refine XS.icmpYes X675.here hx rfl (pc0 := 177) (pc' := 189) rfl (hb hby at_177) rfl (flt (by decide : ¬ ((5 : Int32) < (5 : Int32)))).2.2.2 (by decide) (by decide) ?_
      refine XS.iload X675.here hx rfl (hb hby at_189) rfl ?_
      refine XS.iconst X675.here hx rfl (hb hby at_191) ?_
      refine XS.icmpNo X675.here hx rfl (hb hby at_192) rfl (tlt (by decide : (4 : Int32) < (5 : Int32))).2.2.2 ?_
      refine XS.iload X675.here hx rfl (hb hby at_195) rfl ?_
      refine XS.iload X675.here hx rfl (hb hby at_197) rfl ?_
      exact h)
  obtain ⟨_, _, ⟨T682, L682, kk682, n682⟩, -, X682, ⟨Lc682, hQ682, l682, y682, z682⟩, st682⟩ := Jvm.LawKit.callS X675 hx (y := (⟨"com/example/nuthatch/nuthatch/EntryNameIsMemberPinLaw", "step", "(IC)I"⟩ : MethodName)) hown (mvT hZ (hw _ (gm 71 rfl))) (mvT hZ (hw _ (gm 72 rfl))) (mvT hZ (hw _ (gm 3 rfl))) (mvT hZ (hw _ (gm 73 rfl))) (by decide) (backOf (W := 0) (rmST l Z a0 hw [] (0 : Int32) c4  h675 n0 O679 ) hZ (hw _ (gm 73 rfl)) (hw _ (gm 3 rfl)) (by decide) (by decide)) (g := (mkF m 199 #[.val (.long p1), .second, .val (.long p2), .second, vI p3, vI 5, vR b624, vI c0, vI c1, vI c2, vI c3, vI c4, vI c5, vI c6, vI 0, vU] [(.int c4), (.int (0 : Int32))])) rfl (by rw [hml]; rfl) (argsL := [(.int (0 : Int32)), (.int c4)]) (rest := []) (lenOf pd_13 rfl) rfl (by show 2 * 0 + _ ≤ _; exact Nat.le_of_eq rfl) (hb hby at_199) (fun _ _ => ⟨rfl, e675, (by decide : 1 + 0 ≤ _), (by decide : 5 + 0 ≤ _)⟩)
  dsimp only [Pt.U, Pt.locs, Pt.cells, Pt.slots] at X682 l682 y682 z682 st682 hQ682
  subst l682 y682 z682
  obtain ⟨rfl, Nq682, hh682⟩ := hQ682
  have N682 := Fr.app N675 Nq682
  have k683 : Rch p e below S0 T682 (mkF m 202 #[.val (.long p1), .second, .val (.long p2), .second, vI p3, vI 5, vR b624, vI c0, vI c1, vI c2, vI c3, vI c4, vI c5, vI c6, vI 0, vU] [(.int (own_stI (0 : Int32) (kc c4)))]) := fun t h => k681 t (st682 t h)
  obtain ⟨lo682, Y682, M682⟩ : ∃ lo, Stand p l e room_1 (s.setVm s.vm) m #[(.long p1), (.long p2), (.int p3)] below meth c T682 lo 1 5 ∧ Fr n0 lo := ⟨_, X682, N682⟩
  clear X682 N682
  obtain ⟨sv4, hsv4⟩ : ∃ z : Int32, z = own_stI (0 : Int32) (kc c4) := ⟨_, rfl⟩
  rw [← hsv4] at k683
  have k684 : Rch p e below S0 T682 (mkF m 214 #[.val (.long p1), .second, .val (.long p2), .second, vI p3, vI 5, vR b624, vI c0, vI c1, vI c2, vI c3, vI c4, vI c5, vI c6, vI sv4, vU] [(.int c3), (.int sv4)]) := fun t h => k683 t (by
      show Steps p.tables e below (T682.setTop (mkF m 202 #[.val (.long p1), .second, .val (.long p2), .second, vI p3, vI 5, vR b624, vI c0, vI c1, vI c2, vI c3, vI c4, vI c5, vI c6, vI 0, vU] [(.int sv4)])) _
      refine XS.istore Y682.here hx rfl (hb hby at_202) rfl (l' := #[.val (.long p1), .second, .val (.long p2), .second, vI p3, vI 5, vR b624, vI c0, vI c1, vI c2, vI c3, vI c4, vI c5, vI c6, vI sv4, vU]) rfl ?_
      refine XS.iload Y682.here hx rfl (hb hby at_204) rfl ?_
      refine XS.iconst Y682.here hx rfl (hb hby at_206) ?_
      refine XS.icmpNo Y682.here hx rfl (hb hby at_207) rfl (tlt (by decide : (3 : Int32) < (5 : Int32))).2.2.2 ?_
      refine XS.iload Y682.here hx rfl (hb hby at_210) rfl ?_
      refine XS.iload Y682.here hx rfl (hb hby at_212) rfl ?_
      exact h)
  obtain ⟨_, _, ⟨T685, L685, kk685, n685⟩, -, X685, ⟨Lc685, hQ685, l685, y685, z685⟩, st685⟩ := Jvm.LawKit.callS Y682 hx (y := (⟨"com/example/nuthatch/nuthatch/EntryNameIsMemberPinLaw", "step", "(IC)I"⟩ : MethodName)) hown (mvT hZ (hw _ (gm 71 rfl))) (mvT hZ (hw _ (gm 72 rfl))) (mvT hZ (hw _ (gm 3 rfl))) (mvT hZ (hw _ (gm 73 rfl))) (by decide) (backOf (W := 0) (rmST l Z a0 hw [] sv4 c3  h675 n0 O679 ) hZ (hw _ (gm 73 rfl)) (hw _ (gm 3 rfl)) (by decide) (by decide)) (g := (mkF m 214 #[.val (.long p1), .second, .val (.long p2), .second, vI p3, vI 5, vR b624, vI c0, vI c1, vI c2, vI c3, vI c4, vI c5, vI c6, vI sv4, vU] [(.int c3), (.int sv4)])) rfl (by rw [hml]; rfl) (argsL := [(.int sv4), (.int c3)]) (rest := []) (lenOf pd_13 rfl) rfl (by show 2 * 0 + _ ≤ _; exact Nat.le_of_eq rfl) (hb hby at_214) (fun _ _ => ⟨rfl, hh682, (by decide : 1 + 0 ≤ _), (by decide : 5 + 0 ≤ _)⟩)
  dsimp only [Pt.U, Pt.locs, Pt.cells, Pt.slots] at X685 l685 y685 z685 st685 hQ685
  subst l685 y685 z685
  obtain ⟨rfl, Nq685, hh685⟩ := hQ685
  have N685 := Fr.app M682 Nq685
  have k686 : Rch p e below S0 T685 (mkF m 217 #[.val (.long p1), .second, .val (.long p2), .second, vI p3, vI 5, vR b624, vI c0, vI c1, vI c2, vI c3, vI c4, vI c5, vI c6, vI sv4, vU] [(.int (own_stI sv4 (kc c3)))]) := fun t h => k684 t (st685 t h)
  obtain ⟨lo685, Y685, M685⟩ : ∃ lo, Stand p l e room_1 (s.setVm s.vm) m #[(.long p1), (.long p2), (.int p3)] below meth c T685 lo 1 5 ∧ Fr n0 lo := ⟨_, X685, N685⟩
  clear X685 N685
  obtain ⟨sv3, hsv3⟩ : ∃ z : Int32, z = own_stI sv4 (kc c3) := ⟨_, rfl⟩
  rw [← hsv3] at k686
  have k687 : Rch p e below S0 T685 (mkF m 229 #[.val (.long p1), .second, .val (.long p2), .second, vI p3, vI 5, vR b624, vI c0, vI c1, vI c2, vI c3, vI c4, vI c5, vI c6, vI sv3, vU] [(.int c2), (.int sv3)]) := fun t h => k686 t (by
      show Steps p.tables e below (T685.setTop (mkF m 217 #[.val (.long p1), .second, .val (.long p2), .second, vI p3, vI 5, vR b624, vI c0, vI c1, vI c2, vI c3, vI c4, vI c5, vI c6, vI sv4, vU] [(.int sv3)])) _
      refine XS.istore Y685.here hx rfl (hb hby at_217) rfl (l' := #[.val (.long p1), .second, .val (.long p2), .second, vI p3, vI 5, vR b624, vI c0, vI c1, vI c2, vI c3, vI c4, vI c5, vI c6, vI sv3, vU]) rfl ?_
      refine XS.iload Y685.here hx rfl (hb hby at_219) rfl ?_
      refine XS.iconst Y685.here hx rfl (hb hby at_221) ?_
      refine XS.icmpNo Y685.here hx rfl (hb hby at_222) rfl (tlt (by decide : (2 : Int32) < (5 : Int32))).2.2.2 ?_
      refine XS.iload Y685.here hx rfl (hb hby at_225) rfl ?_
      refine XS.iload Y685.here hx rfl (hb hby at_227) rfl ?_
      exact h)
  obtain ⟨_, _, ⟨T688, L688, kk688, n688⟩, -, X688, ⟨Lc688, hQ688, l688, y688, z688⟩, st688⟩ := Jvm.LawKit.callS Y685 hx (y := (⟨"com/example/nuthatch/nuthatch/EntryNameIsMemberPinLaw", "step", "(IC)I"⟩ : MethodName)) hown (mvT hZ (hw _ (gm 71 rfl))) (mvT hZ (hw _ (gm 72 rfl))) (mvT hZ (hw _ (gm 3 rfl))) (mvT hZ (hw _ (gm 73 rfl))) (by decide) (backOf (W := 0) (rmST l Z a0 hw [] sv3 c2  h675 n0 O679 ) hZ (hw _ (gm 73 rfl)) (hw _ (gm 3 rfl)) (by decide) (by decide)) (g := (mkF m 229 #[.val (.long p1), .second, .val (.long p2), .second, vI p3, vI 5, vR b624, vI c0, vI c1, vI c2, vI c3, vI c4, vI c5, vI c6, vI sv3, vU] [(.int c2), (.int sv3)])) rfl (by rw [hml]; rfl) (argsL := [(.int sv3), (.int c2)]) (rest := []) (lenOf pd_13 rfl) rfl (by show 2 * 0 + _ ≤ _; exact Nat.le_of_eq rfl) (hb hby at_229) (fun _ _ => ⟨rfl, hh685, (by decide : 1 + 0 ≤ _), (by decide : 5 + 0 ≤ _)⟩)
  dsimp only [Pt.U, Pt.locs, Pt.cells, Pt.slots] at X688 l688 y688 z688 st688 hQ688
  subst l688 y688 z688
  obtain ⟨rfl, Nq688, hh688⟩ := hQ688
  have N688 := Fr.app M685 Nq688
  have k689 : Rch p e below S0 T688 (mkF m 232 #[.val (.long p1), .second, .val (.long p2), .second, vI p3, vI 5, vR b624, vI c0, vI c1, vI c2, vI c3, vI c4, vI c5, vI c6, vI sv3, vU] [(.int (own_stI sv3 (kc c2)))]) := fun t h => k687 t (st688 t h)
  obtain ⟨lo688, Y688, M688⟩ : ∃ lo, Stand p l e room_1 (s.setVm s.vm) m #[(.long p1), (.long p2), (.int p3)] below meth c T688 lo 1 5 ∧ Fr n0 lo := ⟨_, X688, N688⟩
  clear X688 N688
  obtain ⟨sv2, hsv2⟩ : ∃ z : Int32, z = own_stI sv3 (kc c2) := ⟨_, rfl⟩
  rw [← hsv2] at k689
  have k690 : Rch p e below S0 T688 (mkF m 244 #[.val (.long p1), .second, .val (.long p2), .second, vI p3, vI 5, vR b624, vI c0, vI c1, vI c2, vI c3, vI c4, vI c5, vI c6, vI sv2, vU] [(.int c1), (.int sv2)]) := fun t h => k689 t (by
      show Steps p.tables e below (T688.setTop (mkF m 232 #[.val (.long p1), .second, .val (.long p2), .second, vI p3, vI 5, vR b624, vI c0, vI c1, vI c2, vI c3, vI c4, vI c5, vI c6, vI sv3, vU] [(.int sv2)])) _
      refine XS.istore Y688.here hx rfl (hb hby at_232) rfl (l' := #[.val (.long p1), .second, .val (.long p2), .second, vI p3, vI 5, vR b624, vI c0, vI c1, vI c2, vI c3, vI c4, vI c5, vI c6, vI sv2, vU]) rfl ?_
      refine XS.iload Y688.here hx rfl (hb hby at_234) rfl ?_
      refine XS.iconst Y688.here hx rfl (hb hby at_236) ?_
      refine XS.icmpNo Y688.here hx rfl (hb hby at_237) rfl (tlt (by decide : (1 : Int32) < (5 : Int32))).2.2.2 ?_
      refine XS.iload Y688.here hx rfl (hb hby at_240) rfl ?_
      refine XS.iload Y688.here hx rfl (hb hby at_242) rfl ?_
      exact h)
  obtain ⟨_, _, ⟨T691, L691, kk691, n691⟩, -, X691, ⟨Lc691, hQ691, l691, y691, z691⟩, st691⟩ := Jvm.LawKit.callS Y688 hx (y := (⟨"com/example/nuthatch/nuthatch/EntryNameIsMemberPinLaw", "step", "(IC)I"⟩ : MethodName)) hown (mvT hZ (hw _ (gm 71 rfl))) (mvT hZ (hw _ (gm 72 rfl))) (mvT hZ (hw _ (gm 3 rfl))) (mvT hZ (hw _ (gm 73 rfl))) (by decide) (backOf (W := 0) (rmST l Z a0 hw [] sv2 c1  h675 n0 O679 ) hZ (hw _ (gm 73 rfl)) (hw _ (gm 3 rfl)) (by decide) (by decide)) (g := (mkF m 244 #[.val (.long p1), .second, .val (.long p2), .second, vI p3, vI 5, vR b624, vI c0, vI c1, vI c2, vI c3, vI c4, vI c5, vI c6, vI sv2, vU] [(.int c1), (.int sv2)])) rfl (by rw [hml]; rfl) (argsL := [(.int sv2), (.int c1)]) (rest := []) (lenOf pd_13 rfl) rfl (by show 2 * 0 + _ ≤ _; exact Nat.le_of_eq rfl) (hb hby at_244) (fun _ _ => ⟨rfl, hh688, (by decide : 1 + 0 ≤ _), (by decide : 5 + 0 ≤ _)⟩)
  dsimp only [Pt.U, Pt.locs, Pt.cells, Pt.slots] at X691 l691 y691 z691 st691 hQ691
  subst l691 y691 z691
  obtain ⟨rfl, Nq691, hh691⟩ := hQ691
  have N691 := Fr.app M688 Nq691
  have k692 : Rch p e below S0 T691 (mkF m 247 #[.val (.long p1), .second, .val (.long p2), .second, vI p3, vI 5, vR b624, vI c0, vI c1, vI c2, vI c3, vI c4, vI c5, vI c6, vI sv2, vU] [(.int (own_stI sv2 (kc c1)))]) := fun t h => k690 t (st691 t h)
  obtain ⟨lo691, Y691, M691⟩ : ∃ lo, Stand p l e room_1 (s.setVm s.vm) m #[(.long p1), (.long p2), (.int p3)] below meth c T691 lo 1 5 ∧ Fr n0 lo := ⟨_, X691, N691⟩
  clear X691 N691
  obtain ⟨sv1, hsv1⟩ : ∃ z : Int32, z = own_stI sv2 (kc c1) := ⟨_, rfl⟩
  rw [← hsv1] at k692
  have k693 : Rch p e below S0 T691 (mkF m 258 #[.val (.long p1), .second, .val (.long p2), .second, vI p3, vI 5, vR b624, vI c0, vI c1, vI c2, vI c3, vI c4, vI c5, vI c6, vI sv1, vU] [(.int c0), (.int sv1)]) := fun t h => k692 t (by
      show Steps p.tables e below (T691.setTop (mkF m 247 #[.val (.long p1), .second, .val (.long p2), .second, vI p3, vI 5, vR b624, vI c0, vI c1, vI c2, vI c3, vI c4, vI c5, vI c6, vI sv2, vU] [(.int sv1)])) _
      refine XS.istore Y691.here hx rfl (hb hby at_247) rfl (l' := #[.val (.long p1), .second, .val (.long p2), .second, vI p3, vI 5, vR b624, vI c0, vI c1, vI c2, vI c3, vI c4, vI c5, vI c6, vI sv1, vU]) rfl ?_
      refine XS.iload Y691.here hx rfl (hb hby at_249) rfl ?_
      refine XS.ifNo Y691.here hx rfl (hb hby at_251) rfl ((if0 _ _).trans (tlt (by decide : (0 : Int32) < (5 : Int32))).2.2.2) ?_
      refine XS.iload Y691.here hx rfl (hb hby at_254) rfl ?_
      refine XS.iload Y691.here hx rfl (hb hby at_256) rfl ?_
      exact h)
  obtain ⟨_, _, ⟨T694, L694, kk694, n694⟩, -, X694, ⟨Lc694, hQ694, l694, y694, z694⟩, st694⟩ := Jvm.LawKit.callS Y691 hx (y := (⟨"com/example/nuthatch/nuthatch/EntryNameIsMemberPinLaw", "step", "(IC)I"⟩ : MethodName)) hown (mvT hZ (hw _ (gm 71 rfl))) (mvT hZ (hw _ (gm 72 rfl))) (mvT hZ (hw _ (gm 3 rfl))) (mvT hZ (hw _ (gm 73 rfl))) (by decide) (backOf (W := 0) (rmST l Z a0 hw [] sv1 c0  h675 n0 O679 ) hZ (hw _ (gm 73 rfl)) (hw _ (gm 3 rfl)) (by decide) (by decide)) (g := (mkF m 258 #[.val (.long p1), .second, .val (.long p2), .second, vI p3, vI 5, vR b624, vI c0, vI c1, vI c2, vI c3, vI c4, vI c5, vI c6, vI sv1, vU] [(.int c0), (.int sv1)])) rfl (by rw [hml]; rfl) (argsL := [(.int sv1), (.int c0)]) (rest := []) (lenOf pd_13 rfl) rfl (by show 2 * 0 + _ ≤ _; exact Nat.le_of_eq rfl) (hb hby at_258) (fun _ _ => ⟨rfl, hh691, (by decide : 1 + 0 ≤ _), (by decide : 5 + 0 ≤ _)⟩)
  dsimp only [Pt.U, Pt.locs, Pt.cells, Pt.slots] at X694 l694 y694 z694 st694 hQ694
  subst l694 y694 z694
  obtain ⟨rfl, Nq694, hh694⟩ := hQ694
  have N694 := Fr.app M691 Nq694
  have k695 : Rch p e below S0 T694 (mkF m 261 #[.val (.long p1), .second, .val (.long p2), .second, vI p3, vI 5, vR b624, vI c0, vI c1, vI c2, vI c3, vI c4, vI c5, vI c6, vI sv1, vU] [(.int (own_stI sv1 (kc c0)))]) := fun t h => k693 t (st694 t h)
  obtain ⟨lo694, Y694, M694⟩ : ∃ lo, Stand p l e room_1 (s.setVm s.vm) m #[(.long p1), (.long p2), (.int p3)] below meth c T694 lo 1 5 ∧ Fr n0 lo := ⟨_, X694, N694⟩
  clear X694 N694
  obtain ⟨sv0, hsv0⟩ : ∃ z : Int32, z = own_stI sv1 (kc c0) := ⟨_, rfl⟩
  rw [← hsv0] at k695
  have k696 : Rch p e below S0 T694 (mkF m 263 #[.val (.long p1), .second, .val (.long p2), .second, vI p3, vI 5, vR b624, vI c0, vI c1, vI c2, vI c3, vI c4, vI c5, vI c6, vI sv0, vU] []) := fun t h => k695 t (by
      show Steps p.tables e below (T694.setTop (mkF m 261 #[.val (.long p1), .second, .val (.long p2), .second, vI p3, vI 5, vR b624, vI c0, vI c1, vI c2, vI c3, vI c4, vI c5, vI c6, vI sv1, vU] [(.int sv0)])) _
      refine XS.istore Y694.here hx rfl (hb hby at_261) rfl (l' := #[.val (.long p1), .second, .val (.long p2), .second, vI p3, vI 5, vR b624, vI c0, vI c1, vI c2, vI c3, vI c4, vI c5, vI c6, vI sv0, vU]) rfl ?_
      exact h)
  have hpc : ∀ c ∈ ([c0, c1, c2, c3, c4] : List Int32), ¬ c < 0 ∧ ¬ (255 : Int32) < c := by
    intro c hc
    simp only [List.mem_cons, List.not_mem_nil, or_false] at hc
    rcases hc with rfl | rfl | rfl | rfl | rfl
    · exact hc0
    · exact hc1
    · exact hc2
    · exact hc3
    · exact hc4
  have hpl := own_plain (([c0, c1, c2, c3, c4] : List Int32).map kc) 5 rfl (by decide) (fun y hy => by obtain ⟨c, -, rfl⟩ := List.mem_map.mp hy; exact kc_lt c)
  cases hM : own_mem (([c0, c1, c2, c3, c4] : List Int32).map kc) 5 with
  | true =>
    have hF : sv0 = 4 := by
      have q := hpl.1 hM
      simp only [own_fsI, List.map_cons, List.map_nil, List.foldr_cons, List.foldr_nil] at q
      rw [hsv0, hsv1, hsv2, hsv3, hsv4]; exact q
    clear hpl hsv0 hsv1 hsv2 hsv3 hsv4
    have hbm : own_b (own_mem (([c0, c1, c2, c3, c4] : List Int32).map kc) 5) = 1 := by rw [hM]; rfl
    clear hM
    have k697 : Rch p e below S0 T694 (mkF m 276 #[.val (.long p1), .second, .val (.long p2), .second, vI p3, vI 5, vR b624, vI c0, vI c1, vI c2, vI c3, vI c4, vI c5, vI c6, vI sv0, vI 1] []) := fun t h => k696 t (by
        show Steps p.tables e below (T694.setTop (mkF m 263 #[.val (.long p1), .second, .val (.long p2), .second, vI p3, vI 5, vR b624, vI c0, vI c1, vI c2, vI c3, vI c4, vI c5, vI c6, vI sv0, vU] [])) _
        refine XS.iload Y694.here hx rfl (hb hby at_263) rfl ?_
        refine XS.iconst Y694.here hx rfl (hb hby at_265) ?_
        refine XS.icmpNo Y694.here hx rfl (hb hby at_266) rfl (teq (hF : sv0 = (4 : Int32))).2 ?_
        refine XS.iconst Y694.here hx rfl (hb hby at_269) ?_
        refine XS.goto Y694.here hx rfl (pc0 := 270) (pc' := 274) rfl (hb hby at_270) (by decide) (by decide) ?_
        refine XS.istore Y694.here hx rfl (hb hby at_274) rfl (l' := #[.val (.long p1), .second, .val (.long p2), .second, vI p3, vI 5, vR b624, vI c0, vI c1, vI c2, vI c3, vI c4, vI c5, vI c6, vI sv0, vI 1]) rfl ?_
        exact h)
    clear hF
    obtain ⟨T698, h698, X698, e698, E698, A698, D698, -, st698⟩ := newO Y694 hx hZ hown (hw _ (gm 6 rfl)) (hw _ (gm 7 rfl)) (hw _ (gm 8 rfl)) hh694 (g := (mkF m 276 #[.val (.long p1), .second, .val (.long p2), .second, vI p3, vI 5, vR b624, vI c0, vI c1, vI c2, vI c3, vI c4, vI c5, vI c6, vI sv0, vI 1] [])) rfl (hb hby at_276) (by decide) (by decide)
    obtain ⟨b698, g698⟩ : ∃ z, z = h675.size := ⟨_, rfl⟩
    rw [← g698] at A698 D698 st698
    have k699 : Rch p e below S0 T698 (mkF m 279 #[.val (.long p1), .second, .val (.long p2), .second, vI p3, vI 5, vR b624, vI c0, vI c1, vI c2, vI c3, vI c4, vI c5, vI c6, vI sv0, vI 1] [(.ref b698)]) := fun t h => k697 t (st698 t h)
    have ne_b624_b698 : b624 ≠ b698 := own_ne V_b624.lt (Nat.le_of_eq g698.symm)
    have ge_b698 : n0 ≤ b698 := own_ge O679 (Nat.le_of_eq g698.symm)
    have sf_b698 : Safe Z consts_1 s.vm h675 b698 := Safe.new (Nat.le_of_eq g698.symm)
    replace sf_b624 := Safe.ext E698 hC678 sf_b624
    replace sf_b698 := Safe.ext E698 hC678 sf_b698
    have hC700 := hC678.ext E698
    have rC700 := rC678.trans (CHr.ext E698 hC678)
    have O701 := O679.ext E698
    replace V_b624 := V_b624.ext E698
    have hkk702 := Nat.le_trans hkk680 E698.1
    have E_b698 := A698
    have F_b698_value : Fld Z h698 b698 "java/lang/String" "value" "[B" .null := D698 (Or.inr (hw _ (gm 21 rfl))) (ty := (.array .byte)) (by decide)
    have F_b698_coder : Fld Z h698 b698 "java/lang/String" "coder" "B" (.int (0 : Int32)) := D698 (Or.inr (hw _ (gm 22 rfl))) (ty := .byte) (by decide)
    have k703 : Rch p e below S0 T698 (mkF m 282 #[.val (.long p1), .second, .val (.long p2), .second, vI p3, vI 5, vR b624, vI c0, vI c1, vI c2, vI c3, vI c4, vI c5, vI c6, vI sv0, vI 1] [(.ref b624), (.ref b698), (.ref b698)]) := fun t h => k699 t (by
        show Steps p.tables e below (T698.setTop (mkF m 279 #[.val (.long p1), .second, .val (.long p2), .second, vI p3, vI 5, vR b624, vI c0, vI c1, vI c2, vI c3, vI c4, vI c5, vI c6, vI sv0, vI 1] [(.ref b698)])) _
        refine XS.dup X698.here hx rfl (hb hby at_279) rfl rfl ?_
        refine XS.aload X698.here hx rfl (hb hby at_280) rfl rfl ?_
        exact h)
    have hws : ∀ d ∈ StrChars.Road.words, d.before a0 Z = true := fun d hd => hw d ((by decide +kernel : ∀ d ∈ StrChars.Road.words, d ∈ tables_1) d hd)
    have hp : ∀ c ∈ ([c0, c1, c2, c3, c4] : List Int32), ¬ c < 0 ∧ ¬ (255 : Int32) < c := hpc
    obtain ⟨_, _, ⟨T704, L704, kk704, n704⟩, -, X704, ⟨Lc704, hQ704, l704, y704, z704⟩, st704⟩ := X698.specialBack hx (y := (⟨"java/lang/String", "<init>", "([C)V"⟩ : MethodName)) rfl hown (mvT hZ (hw _ (gm 9 rfl))) (mvT hZ (hw _ (gm 10 rfl))) (mvT hZ (hw _ (gm 11 rfl))) (by decide) (StrChars.Road.backV (W := 1) hZ hws (kI := 4) (hw _ (gm 7 rfl)) (cs := [c0, c1, c2, c3, c4]) (bs := [c0, c1, c2, c3, c4].map (fun c => c.toInt8.toInt32)) (n := 5) ge_b698 (own_le O701) E_b698 F_b698_value F_b698_coder V_b624 (SC.ext O701.2) hzC rfl rfl (by decide) (by decide) hp rfl (by decide) (by decide)) (g := (mkF m 282 #[.val (.long p1), .second, .val (.long p2), .second, vI p3, vI 5, vR b624, vI c0, vI c1, vI c2, vI c3, vI c4, vI c5, vI c6, vI sv0, vI 1] [(.ref b624), (.ref b698), (.ref b698)])) rfl (by rw [hml]; rfl) (Steps.refl _) (a := b698) (argsL := [(.ref b624)]) (rest := [(.ref b698)]) (lenOf pd_1 rfl) rfl (by show 2 * 0 + _ ≤ _; exact Nat.le_of_eq rfl) (hb hby at_282) (fun _ _ => ⟨rfl, e698, (by decide : 2 + 1 ≤ _), (by decide : 9 + 5 ≤ _)⟩)
    dsimp only [Pt.U, Pt.locs, Pt.cells, Pt.slots] at X704 l704 y704 z704 st704 hQ704
    subst l704 y704 z704
    obtain ⟨rfl, Nq704, K704, Eb704, Cb704, t704, kb704, u704, v704, ww704, Vb704, Ab704⟩ := hQ704
    have N704 := Fr.app M694 Nq704
    have k705 : Rch p e below S0 T704 (mkF m 285 #[.val (.long p1), .second, .val (.long p2), .second, vI p3, vI 5, vR b624, vI c0, vI c1, vI c2, vI c3, vI c4, vI c5, vI c6, vI sv0, vI 1] [(.ref b698)]) := fun t h => k703 t (st704.trans h)
    have hC706 := hC700.keep K704 (sfS sf_b698 sf0)
    have rC706 := rC700.trans (CHr.keep K704 (sfS sf_b698 sf0) hC700)
    have sfx707 := (sfS sf_b698 sf0)
    replace sf_b624 := Safe.keep K704 sfx707 hC700 sf_b624
    replace sf_b698 := Safe.keep K704 sfx707 hC700 sf_b698
    have O708 := O701.keep K704 (allS ge_b698 all0)
    replace V_b624 := V_b624.keep K704 (ninS ne_b624_b698 nin0)
    replace E_b698 := E_b698.keep K704
    have hkk709 := Nat.le_trans hkk702 K704.1
    obtain ⟨_, _, ⟨T710, L710, kk710, n710⟩, -, X710, ⟨Lc710, hQ710, l710, y710, z710⟩, st710⟩ := Jvm.LawKit.callS X704 hx (y := (⟨"com/example/nuthatch/nuthatch/EntryName", "isMember", "(Ljava/lang/String;)Z"⟩ : MethodName)) hown (mvT hZ (hw _ (gm 27 rfl))) (mvT hZ (hw _ (gm 28 rfl))) (mvT hZ (hw _ (gm 29 rfl))) (mvT hZ (hw _ (gm 30 rfl))) (by decide) (backOf (W := 0) (rmIM l Z a0 hw []  b698 t704 kb704 5 [c0, c1, c2, c3, c4] zC fm T704.heap n0 O708 SC hzC Eb704 Vb704 Cb704 Ab704 rfl (by decide) hpc SP hfm) hZ (hw _ (gm 30 rfl)) (hw _ (gm 29 rfl)) (by decide) (by decide)) (g := (mkF m 285 #[.val (.long p1), .second, .val (.long p2), .second, vI p3, vI 5, vR b624, vI c0, vI c1, vI c2, vI c3, vI c4, vI c5, vI c6, vI sv0, vI 1] [(.ref b698)])) rfl (by rw [hml]; rfl) (argsL := [(.ref b698)]) (rest := []) (lenOf pd_4 rfl) rfl (by show 2 * 0 + _ ≤ _; exact Nat.le_of_eq rfl) (hb hby at_285) (fun _ _ => ⟨rfl, rfl, (by decide : 3 + 0 ≤ _), (by decide : 14 + 0 ≤ _)⟩)
    dsimp only [Pt.U, Pt.locs, Pt.cells, Pt.slots] at X710 l710 y710 z710 st710 hQ710
    subst l710 y710 z710
    obtain ⟨rfl, Nq710, hh710⟩ := hQ710
    have N710 := Fr.app N704 Nq710
    have k711 : Rch p e below S0 T710 (mkF m 288 #[.val (.long p1), .second, .val (.long p2), .second, vI p3, vI 5, vR b624, vI c0, vI c1, vI c2, vI c3, vI c4, vI c5, vI c6, vI sv0, vI 1] [(.int (1 : Int32))]) := fun t h => k705 t (st710 t (by rw [hbm]; exact h))
    obtain ⟨lo710, Y710, M710⟩ : ∃ lo, Stand p l e room_1 (s.setVm s.vm) m #[(.long p1), (.long p2), (.int p3)] below meth c T710 lo 3 14 ∧ Fr n0 lo := ⟨_, X710, N710⟩
    clear X710 N710
    clear hbm
    have k712 : Rch p e below S0 T710 (mkF m 298 #[.val (.long p1), .second, .val (.long p2), .second, vI p3, vI 5, vR b624, vI c0, vI c1, vI c2, vI c3, vI c4, vI c5, vI c6, vI sv0, vI 1] [(.int (1 : Int32))]) := fun t h => k711 t (by
        show Steps p.tables e below (T710.setTop (mkF m 288 #[.val (.long p1), .second, .val (.long p2), .second, vI p3, vI 5, vR b624, vI c0, vI c1, vI c2, vI c3, vI c4, vI c5, vI c6, vI sv0, vI 1] [(.int (1 : Int32))])) _
        refine XS.iload Y710.here hx rfl (hb hby at_288) rfl ?_
        refine XS.icmpNo Y710.here hx rfl (hb hby at_290) rfl (teq (by decide : (1 : Int32) = (1 : Int32))).2 ?_
        refine XS.iconst Y710.here hx rfl (hb hby at_293) ?_
        refine XS.goto Y710.here hx rfl (pc0 := 294) (pc' := 298) rfl (hb hby at_294) (by decide) (by decide) ?_
        exact h)
    obtain ⟨fs, hr, hrun, hended, hfin⟩ := Y710.leaveW hS (by rw [hh710]; exact hkk709) (v := (some (.int (1 : Int32)))) (fun h => by rw [Bd.returns] at h; cases h)
    refine ⟨_, _, ?_, hrun, hended, _, _, rfl, ?_, (by rw [hh]; have q := own_chr rC706 (CHv.at Y710 hZ hEL hC706) hh710; exact q), hfin.1, hfin.2.1, hfin.2.2.1, hfin.2.2.2.mono (by decide) (by decide)⟩
    · rw [← hS0]
      refine k712 _ ?_
      show Steps p.tables e below (T710.setTop (mkF m 298 #[.val (.long p1), .second, .val (.long p2), .second, vI p3, vI 5, vR b624, vI c0, vI c1, vI c2, vI c3, vI c4, vI c5, vI c6, vI sv0, vI 1] [(.int (1 : Int32))])) _
      exact retN Y710 hx (t := .boolean) Bd.returns (by simp) (hb hby at_298) hr
    · show Q_rm0_5 Z  h0 n0 _ T710.heap _
      rw [hh710]
      exact ⟨rfl, M710⟩
  | false =>
    have hF : ¬ sv0 = 4 := by
      have q := hpl.2 hM
      simp only [own_fsI, List.map_cons, List.map_nil, List.foldr_cons, List.foldr_nil] at q
      rw [hsv0, hsv1, hsv2, hsv3, hsv4]; exact q
    clear hpl hsv0 hsv1 hsv2 hsv3 hsv4
    have hbm : own_b (own_mem (([c0, c1, c2, c3, c4] : List Int32).map kc) 5) = 0 := by rw [hM]; rfl
    clear hM
    have k713 : Rch p e below S0 T694 (mkF m 276 #[.val (.long p1), .second, .val (.long p2), .second, vI p3, vI 5, vR b624, vI c0, vI c1, vI c2, vI c3, vI c4, vI c5, vI c6, vI sv0, vI 0] []) := fun t h => k696 t (by
        show Steps p.tables e below (T694.setTop (mkF m 263 #[.val (.long p1), .second, .val (.long p2), .second, vI p3, vI 5, vR b624, vI c0, vI c1, vI c2, vI c3, vI c4, vI c5, vI c6, vI sv0, vU] [])) _
        refine XS.iload Y694.here hx rfl (hb hby at_263) rfl ?_
        refine XS.iconst Y694.here hx rfl (hb hby at_265) ?_
        refine XS.icmpYes Y694.here hx rfl (pc0 := 266) (pc' := 273) rfl (hb hby at_266) rfl (feq (hF : ¬ (sv0 = (4 : Int32)))).2 (by decide) (by decide) ?_
        refine XS.iconst Y694.here hx rfl (hb hby at_273) ?_
        refine XS.istore Y694.here hx rfl (hb hby at_274) rfl (l' := #[.val (.long p1), .second, .val (.long p2), .second, vI p3, vI 5, vR b624, vI c0, vI c1, vI c2, vI c3, vI c4, vI c5, vI c6, vI sv0, vI 0]) rfl ?_
        exact h)
    clear hF
    obtain ⟨T714, h714, X714, e714, E714, A714, D714, -, st714⟩ := newO Y694 hx hZ hown (hw _ (gm 6 rfl)) (hw _ (gm 7 rfl)) (hw _ (gm 8 rfl)) hh694 (g := (mkF m 276 #[.val (.long p1), .second, .val (.long p2), .second, vI p3, vI 5, vR b624, vI c0, vI c1, vI c2, vI c3, vI c4, vI c5, vI c6, vI sv0, vI 0] [])) rfl (hb hby at_276) (by decide) (by decide)
    obtain ⟨b714, g714⟩ : ∃ z, z = h675.size := ⟨_, rfl⟩
    rw [← g714] at A714 D714 st714
    have k715 : Rch p e below S0 T714 (mkF m 279 #[.val (.long p1), .second, .val (.long p2), .second, vI p3, vI 5, vR b624, vI c0, vI c1, vI c2, vI c3, vI c4, vI c5, vI c6, vI sv0, vI 0] [(.ref b714)]) := fun t h => k713 t (st714 t h)
    have ne_b624_b714 : b624 ≠ b714 := own_ne V_b624.lt (Nat.le_of_eq g714.symm)
    have ge_b714 : n0 ≤ b714 := own_ge O679 (Nat.le_of_eq g714.symm)
    have sf_b714 : Safe Z consts_1 s.vm h675 b714 := Safe.new (Nat.le_of_eq g714.symm)
    replace sf_b624 := Safe.ext E714 hC678 sf_b624
    replace sf_b714 := Safe.ext E714 hC678 sf_b714
    have hC716 := hC678.ext E714
    have rC716 := rC678.trans (CHr.ext E714 hC678)
    have O717 := O679.ext E714
    replace V_b624 := V_b624.ext E714
    have hkk718 := Nat.le_trans hkk680 E714.1
    have E_b714 := A714
    have F_b714_value : Fld Z h714 b714 "java/lang/String" "value" "[B" .null := D714 (Or.inr (hw _ (gm 21 rfl))) (ty := (.array .byte)) (by decide)
    have F_b714_coder : Fld Z h714 b714 "java/lang/String" "coder" "B" (.int (0 : Int32)) := D714 (Or.inr (hw _ (gm 22 rfl))) (ty := .byte) (by decide)
    have k719 : Rch p e below S0 T714 (mkF m 282 #[.val (.long p1), .second, .val (.long p2), .second, vI p3, vI 5, vR b624, vI c0, vI c1, vI c2, vI c3, vI c4, vI c5, vI c6, vI sv0, vI 0] [(.ref b624), (.ref b714), (.ref b714)]) := fun t h => k715 t (by
        show Steps p.tables e below (T714.setTop (mkF m 279 #[.val (.long p1), .second, .val (.long p2), .second, vI p3, vI 5, vR b624, vI c0, vI c1, vI c2, vI c3, vI c4, vI c5, vI c6, vI sv0, vI 0] [(.ref b714)])) _
        refine XS.dup X714.here hx rfl (hb hby at_279) rfl rfl ?_
        refine XS.aload X714.here hx rfl (hb hby at_280) rfl rfl ?_
        exact h)
    have hws : ∀ d ∈ StrChars.Road.words, d.before a0 Z = true := fun d hd => hw d ((by decide +kernel : ∀ d ∈ StrChars.Road.words, d ∈ tables_1) d hd)
    have hp : ∀ c ∈ ([c0, c1, c2, c3, c4] : List Int32), ¬ c < 0 ∧ ¬ (255 : Int32) < c := hpc
    obtain ⟨_, _, ⟨T720, L720, kk720, n720⟩, -, X720, ⟨Lc720, hQ720, l720, y720, z720⟩, st720⟩ := X714.specialBack hx (y := (⟨"java/lang/String", "<init>", "([C)V"⟩ : MethodName)) rfl hown (mvT hZ (hw _ (gm 9 rfl))) (mvT hZ (hw _ (gm 10 rfl))) (mvT hZ (hw _ (gm 11 rfl))) (by decide) (StrChars.Road.backV (W := 1) hZ hws (kI := 4) (hw _ (gm 7 rfl)) (cs := [c0, c1, c2, c3, c4]) (bs := [c0, c1, c2, c3, c4].map (fun c => c.toInt8.toInt32)) (n := 5) ge_b714 (own_le O717) E_b714 F_b714_value F_b714_coder V_b624 (SC.ext O717.2) hzC rfl rfl (by decide) (by decide) hp rfl (by decide) (by decide)) (g := (mkF m 282 #[.val (.long p1), .second, .val (.long p2), .second, vI p3, vI 5, vR b624, vI c0, vI c1, vI c2, vI c3, vI c4, vI c5, vI c6, vI sv0, vI 0] [(.ref b624), (.ref b714), (.ref b714)])) rfl (by rw [hml]; rfl) (Steps.refl _) (a := b714) (argsL := [(.ref b624)]) (rest := [(.ref b714)]) (lenOf pd_1 rfl) rfl (by show 2 * 0 + _ ≤ _; exact Nat.le_of_eq rfl) (hb hby at_282) (fun _ _ => ⟨rfl, e714, (by decide : 2 + 1 ≤ _), (by decide : 9 + 5 ≤ _)⟩)
    dsimp only [Pt.U, Pt.locs, Pt.cells, Pt.slots] at X720 l720 y720 z720 st720 hQ720
    subst l720 y720 z720
    obtain ⟨rfl, Nq720, K720, Eb720, Cb720, t720, kb720, u720, v720, ww720, Vb720, Ab720⟩ := hQ720
    have N720 := Fr.app M694 Nq720
    have k721 : Rch p e below S0 T720 (mkF m 285 #[.val (.long p1), .second, .val (.long p2), .second, vI p3, vI 5, vR b624, vI c0, vI c1, vI c2, vI c3, vI c4, vI c5, vI c6, vI sv0, vI 0] [(.ref b714)]) := fun t h => k719 t (st720.trans h)
    have hC722 := hC716.keep K720 (sfS sf_b714 sf0)
    have rC722 := rC716.trans (CHr.keep K720 (sfS sf_b714 sf0) hC716)
    have sfx723 := (sfS sf_b714 sf0)
    replace sf_b624 := Safe.keep K720 sfx723 hC716 sf_b624
    replace sf_b714 := Safe.keep K720 sfx723 hC716 sf_b714
    have O724 := O717.keep K720 (allS ge_b714 all0)
    replace V_b624 := V_b624.keep K720 (ninS ne_b624_b714 nin0)
    replace E_b714 := E_b714.keep K720
    have hkk725 := Nat.le_trans hkk718 K720.1
    obtain ⟨_, _, ⟨T726, L726, kk726, n726⟩, -, X726, ⟨Lc726, hQ726, l726, y726, z726⟩, st726⟩ := Jvm.LawKit.callS X720 hx (y := (⟨"com/example/nuthatch/nuthatch/EntryName", "isMember", "(Ljava/lang/String;)Z"⟩ : MethodName)) hown (mvT hZ (hw _ (gm 27 rfl))) (mvT hZ (hw _ (gm 28 rfl))) (mvT hZ (hw _ (gm 29 rfl))) (mvT hZ (hw _ (gm 30 rfl))) (by decide) (backOf (W := 0) (rmIM l Z a0 hw []  b714 t720 kb720 5 [c0, c1, c2, c3, c4] zC fm T720.heap n0 O724 SC hzC Eb720 Vb720 Cb720 Ab720 rfl (by decide) hpc SP hfm) hZ (hw _ (gm 30 rfl)) (hw _ (gm 29 rfl)) (by decide) (by decide)) (g := (mkF m 285 #[.val (.long p1), .second, .val (.long p2), .second, vI p3, vI 5, vR b624, vI c0, vI c1, vI c2, vI c3, vI c4, vI c5, vI c6, vI sv0, vI 0] [(.ref b714)])) rfl (by rw [hml]; rfl) (argsL := [(.ref b714)]) (rest := []) (lenOf pd_4 rfl) rfl (by show 2 * 0 + _ ≤ _; exact Nat.le_of_eq rfl) (hb hby at_285) (fun _ _ => ⟨rfl, rfl, (by decide : 3 + 0 ≤ _), (by decide : 14 + 0 ≤ _)⟩)
    dsimp only [Pt.U, Pt.locs, Pt.cells, Pt.slots] at X726 l726 y726 z726 st726 hQ726
    subst l726 y726 z726
    obtain ⟨rfl, Nq726, hh726⟩ := hQ726
    have N726 := Fr.app N720 Nq726
    have k727 : Rch p e below S0 T726 (mkF m 288 #[.val (.long p1), .second, .val (.long p2), .second, vI p3, vI 5, vR b624, vI c0, vI c1, vI c2, vI c3, vI c4, vI c5, vI c6, vI sv0, vI 0] [(.int (0 : Int32))]) := fun t h => k721 t (st726 t (by rw [hbm]; exact h))
    obtain ⟨lo726, Y726, M726⟩ : ∃ lo, Stand p l e room_1 (s.setVm s.vm) m #[(.long p1), (.long p2), (.int p3)] below meth c T726 lo 3 14 ∧ Fr n0 lo := ⟨_, X726, N726⟩
    clear X726 N726
    clear hbm
    have k728 : Rch p e below S0 T726 (mkF m 298 #[.val (.long p1), .second, .val (.long p2), .second, vI p3, vI 5, vR b624, vI c0, vI c1, vI c2, vI c3, vI c4, vI c5, vI c6, vI sv0, vI 0] [(.int (1 : Int32))]) := fun t h => k727 t (by
        show Steps p.tables e below (T726.setTop (mkF m 288 #[.val (.long p1), .second, .val (.long p2), .second, vI p3, vI 5, vR b624, vI c0, vI c1, vI c2, vI c3, vI c4, vI c5, vI c6, vI sv0, vI 0] [(.int (0 : Int32))])) _
        refine XS.iload Y726.here hx rfl (hb hby at_288) rfl ?_
        refine XS.icmpNo Y726.here hx rfl (hb hby at_290) rfl (teq (by decide : (0 : Int32) = (0 : Int32))).2 ?_
        refine XS.iconst Y726.here hx rfl (hb hby at_293) ?_
        refine XS.goto Y726.here hx rfl (pc0 := 294) (pc' := 298) rfl (hb hby at_294) (by decide) (by decide) ?_
        exact h)
    obtain ⟨fs, hr, hrun, hended, hfin⟩ := Y726.leaveW hS (by rw [hh726]; exact hkk725) (v := (some (.int (1 : Int32)))) (fun h => by rw [Bd.returns] at h; cases h)
    refine ⟨_, _, ?_, hrun, hended, _, _, rfl, ?_, (by rw [hh]; have q := own_chr rC722 (CHv.at Y726 hZ hEL hC722) hh726; exact q), hfin.1, hfin.2.1, hfin.2.2.1, hfin.2.2.2.mono (by decide) (by decide)⟩
    · rw [← hS0]
      refine k728 _ ?_
      show Steps p.tables e below (T726.setTop (mkF m 298 #[.val (.long p1), .second, .val (.long p2), .second, vI p3, vI 5, vR b624, vI c0, vI c1, vI c2, vI c3, vI c4, vI c5, vI c6, vI sv0, vI 0] [(.int (1 : Int32))])) _
      exact retN Y726 hx (t := .boolean) Bd.returns (by simp) (hb hby at_298) hr
    · show Q_rm0_5 Z  h0 n0 _ T726.heap _
      rw [hh726]
      exact ⟨rfl, M726⟩
def Q_rm0_6 (Z : State)  (h0 : Heap) (n0 : Nat) (v : Option Value) (h : Heap) (L : List Loc) : Prop := v = some (.int (1 : Int32)) ∧ Fr n0 L
set_option maxRecDepth 65536 in
set_option maxHeartbeats 40000000 in
theorem rm0_6 (l : Launch) (Z : State) (a0 : Array Value) (hw : ∀ d ∈ tables_1, d.before a0 Z = true) (ws : List Jvm.Cond) (p1 : Int64) (p2 : Int64) (p3 : Int32) (zC : Int32) (fm : Value) (h0 : Heap) (n0 : Nat) (O0 : Old Z n0 h0) (SC : Sta Z Z.heap "java/lang/String" "COMPACT_STRINGS" "Z" (.int zC)) (hzC : ¬ zC = 0) (SP : Sta Z Z.heap "jdk/internal/util/Preconditions" "SIOOBE_FORMATTER" "Ljava/util/function/BiFunction;" fm) (hfm : fm = .null ∨ ∃ wP, fm = .ref wP) (hlen : p3 &&& 7 = (6 : Int32)) :
    MetFree l x (head1 (Jvm.Cond.code x code maxLocals ret :: ws) room_1) (fun a U => a = #[(.long p1), (.long p2), (.int p3)] ∧ Z.Warmed39 U.vm ∧ U.heap = h0 ∧ CHv Z consts_1 U.vm h0) (fun _ _ _ _ _ => True) (fun _ U o U' => ∃ v L, o = .returned v ∧ Q_rm0_6 Z  h0 n0 v U'.heap L ∧ CHr Z consts_1 U.vm U.heap U'.vm U'.heap ∧ ReturnedEndW U o U' L room_1.cells room_1.slots) := by
  refine MetFree.of_bodySF (plainFor_of_name pn_EntryNameIsMemberPinLaw) hisR ?_
  intro p e s m args below meth c s₁ Bd hml0 hP hK
  obtain ⟨rfl, hZ, hh, hC0⟩ := hP
  have hx := Bd.exec
  have hby := Bd.bytes
  have hml : c.maxLocals = 16 := hml0
  have hown : s.vm.findClass "com/example/nuthatch/nuthatch/EntryNameIsMemberPinLaw" = some m.cls := findClass_of_methodNamed Bd.named
  have hnm := (name_of_methodNamed Bd.named Bd.method).1
  have X0 : Stand p l e room_1 (s.setVm s.vm) m #[(.long p1), (.long p2), (.int p3)] below meth c s₁ [] 0 0 := Stand.of_body Bd
  have e0 : s₁.heap = h0 := by rw [← hh, Bd.state]; rfl
  have N0 := Fr.nil n0
  obtain ⟨S0, hS0⟩ : ∃ z, z = s₁.setTop (entryFrame m #[(.long p1), (.long p2), (.int p3)] maxLocals) := ⟨_, rfl⟩
  have k0 : Rch p e below S0 s₁ (mkF m 0 #[.val (.long p1), .second, .val (.long p2), .second, vI p3, vU, vU, vU, vU, vU, vU, vU, vU, vU, vU, vU] []) := fun t kq => hS0 ▸ castTop (ef_0 m p1 p2 p3) kq
  have hS : s.Since s.vm s.heap.size := (State.WarmedH.refl s).since _
  have hk : s.heap.size ≤ h0.size := by rw [← hh]; exact Nat.le_refl _
  have hwS : ∀ d ∈ Bundle.stringAtoms, d.before a0 Z = true := fun d hd => hw d ((by decide +kernel : ∀ d ∈ Bundle.stringAtoms, d ∈ tables_1) d hd)
  have rC0 : CHr Z consts_1 s.vm h0 s.vm h0 := CHr.refl hC0
  have hEL : EW Z a0 consts_1 := (EW.cons (hw _ (gm 19 rfl)) (by decide +kernel) EW.nil)
  have k730 : Rch p e below S0 s₁ (mkF m 9 #[.val (.long p1), .second, .val (.long p2), .second, vI p3, vI 6, vU, vU, vU, vU, vU, vU, vU, vU, vU, vU] [(.int (6 : Int32))]) := fun t h => k0 t (by
      show Steps p.tables e below (s₁.setTop (mkF m 0 #[.val (.long p1), .second, .val (.long p2), .second, vI p3, vU, vU, vU, vU, vU, vU, vU, vU, vU, vU, vU] [])) _
      refine XS.iload X0.here hx rfl (hb hby at_0) rfl ?_
      refine XS.bipush X0.here hx rfl (hb hby at_2) ?_
      show Steps p.tables e below (s₁.setTop (mkF m 4 #[.val (.long p1), .second, .val (.long p2), .second, vI p3, vU, vU, vU, vU, vU, vU, vU, vU, vU, vU, vU] [(.int (7 : Int32)), (.int p3)])) _
      refine XS.iand X0.here hx rfl (hb hby at_4) rfl ?_
      rw [hlen]
      refine XS.istore X0.here hx rfl (hb hby at_5) rfl (l' := #[.val (.long p1), .second, .val (.long p2), .second, vI p3, vI 6, vU, vU, vU, vU, vU, vU, vU, vU, vU, vU]) rfl ?_
      refine XS.iload X0.here hx rfl (hb hby at_7) rfl ?_
      exact h)
  obtain ⟨T729, h729, k729, X729, e729, E729, A729, st729⟩ := newP X0 hx hZ (hw _ (gm 0 rfl)) e0 (g := (mkF m 9 #[.val (.long p1), .second, .val (.long p2), .second, vI p3, vI 6, vU, vU, vU, vU, vU, vU, vU, vU, vU, vU] [(.int (6 : Int32))])) rfl (hb hby at_9) rfl (by decide) (cap := 6) (by decide) (by decide) (by decide) (by decide)
  obtain ⟨b729, g729⟩ : ∃ z, z = h0.size := ⟨_, rfl⟩
  rw [← g729] at A729 st729
  have k731 : Rch p e below S0 T729 (mkF m 11 #[.val (.long p1), .second, .val (.long p2), .second, vI p3, vI 6, vU, vU, vU, vU, vU, vU, vU, vU, vU, vU] [(.ref b729)]) := fun t h => k730 t (st729 t h)
  have ge_b729 : n0 ≤ b729 := own_ge O0 (Nat.le_of_eq g729.symm)
  have sf_b729 : Safe Z consts_1 s.vm h0 b729 := Safe.new (Nat.le_of_eq g729.symm)
  replace sf_b729 := Safe.ext E729 hC0 sf_b729
  have hC732 := hC0.ext E729
  have rC732 := rC0.trans (CHr.ext E729 hC0)
  have O733 := O0.ext E729
  have hkk734 := Nat.le_trans hk E729.1
  have V_b729 : Arv Z h729 b729 k729 .char (6 : Int32) [(.int (0 : Int32)), (.int (0 : Int32)), (.int (0 : Int32)), (.int (0 : Int32)), (.int (0 : Int32)), (.int (0 : Int32))] (.int (0 : Int32)) := (Arv.new A729 (by decide)).pad (pad_rep [] (.int (0 : Int32)) 6)
  have k735 : Rch p e below S0 T729 (mkF m 14 #[.val (.long p1), .second, .val (.long p2), .second, vI p3, vI 6, vR b729, vU, vU, vU, vU, vU, vU, vU, vU, vU] [(.long p1)]) := fun t h => k731 t (by
      show Steps p.tables e below (T729.setTop (mkF m 11 #[.val (.long p1), .second, .val (.long p2), .second, vI p3, vI 6, vU, vU, vU, vU, vU, vU, vU, vU, vU, vU] [(.ref b729)])) _
      refine XS.astore X729.here hx rfl (hb hby at_11) rfl rfl (l' := #[.val (.long p1), .second, .val (.long p2), .second, vI p3, vI 6, vR b729, vU, vU, vU, vU, vU, vU, vU, vU, vU]) rfl ?_
      refine XS.lloadN X729.here hx rfl (hb hby at_13) rfl ?_
      exact h)
  obtain ⟨_, _, ⟨T736, L736, kk736, n736⟩, -, X736, ⟨Lc736, hQ736, l736, y736, z736⟩, st736⟩ := Jvm.LawKit.callS X729 hx (y := (⟨"com/example/nuthatch/nuthatch/EntryNameIsMemberPinLaw", "ch", "(J)C"⟩ : MethodName)) hown (mvT hZ (hw _ (gm 1 rfl))) (mvT hZ (hw _ (gm 2 rfl))) (mvT hZ (hw _ (gm 3 rfl))) (mvT hZ (hw _ (gm 4 rfl))) (by decide) (backOf (W := 0) (rmCh l Z a0 hw [] p1  h729 n0 O733 ) hZ (hw _ (gm 4 rfl)) (hw _ (gm 3 rfl)) (by decide) (by decide)) (g := (mkF m 14 #[.val (.long p1), .second, .val (.long p2), .second, vI p3, vI 6, vR b729, vU, vU, vU, vU, vU, vU, vU, vU, vU] [(.long p1)])) rfl (by rw [hml]; rfl) (argsL := [(.long p1)]) (rest := []) (lenOf pd_0 rfl) rfl (by show 2 * 0 + _ ≤ _; exact Nat.le_of_eq rfl) (hb hby at_14) (fun _ _ => ⟨rfl, e729, (by decide : 1 + 0 ≤ _), (by decide : 6 + 0 ≤ _)⟩)
  dsimp only [Pt.U, Pt.locs, Pt.cells, Pt.slots] at X736 l736 y736 z736 st736 hQ736
  subst l736 y736 z736
  obtain ⟨c0, rfl, Nq736, hh736, hc0⟩ := hQ736
  have N736 := Fr.app N0 Nq736
  have k737 : Rch p e below S0 T736 (mkF m 17 #[.val (.long p1), .second, .val (.long p2), .second, vI p3, vI 6, vR b729, vU, vU, vU, vU, vU, vU, vU, vU, vU] [(.int c0)]) := fun t h => k735 t (st736 t h)
  obtain ⟨lo736, Y736, M736⟩ : ∃ lo, Stand p l e room_1 (s.setVm s.vm) m #[(.long p1), (.long p2), (.int p3)] below meth c T736 lo 1 6 ∧ Fr n0 lo := ⟨_, X736, N736⟩
  clear X736 N736
  have k738 : Rch p e below S0 T736 (mkF m 23 #[.val (.long p1), .second, .val (.long p2), .second, vI p3, vI 6, vR b729, vI c0, vU, vU, vU, vU, vU, vU, vU, vU] [(.long ((p1.toUInt64 >>> ((10 : Int32) &&& 0x3f).toInt64.toUInt64).toInt64))]) := fun t h => k737 t (by
      show Steps p.tables e below (T736.setTop (mkF m 17 #[.val (.long p1), .second, .val (.long p2), .second, vI p3, vI 6, vR b729, vU, vU, vU, vU, vU, vU, vU, vU, vU] [(.int c0)])) _
      refine XS.istore Y736.here hx rfl (hb hby at_17) rfl (l' := #[.val (.long p1), .second, .val (.long p2), .second, vI p3, vI 6, vR b729, vI c0, vU, vU, vU, vU, vU, vU, vU, vU]) rfl ?_
      refine XS.lloadN Y736.here hx rfl (hb hby at_19) rfl ?_
      refine XS.bipush Y736.here hx rfl (hb hby at_20) ?_
      refine XS.lushr Y736.here hx rfl (hb hby at_22) rfl ?_
      exact h)
  obtain ⟨_, _, ⟨T739, L739, kk739, n739⟩, -, X739, ⟨Lc739, hQ739, l739, y739, z739⟩, st739⟩ := Jvm.LawKit.callS Y736 hx (y := (⟨"com/example/nuthatch/nuthatch/EntryNameIsMemberPinLaw", "ch", "(J)C"⟩ : MethodName)) hown (mvT hZ (hw _ (gm 1 rfl))) (mvT hZ (hw _ (gm 2 rfl))) (mvT hZ (hw _ (gm 3 rfl))) (mvT hZ (hw _ (gm 4 rfl))) (by decide) (backOf (W := 0) (rmCh l Z a0 hw [] ((p1.toUInt64 >>> ((10 : Int32) &&& 0x3f).toInt64.toUInt64).toInt64)  h729 n0 O733 ) hZ (hw _ (gm 4 rfl)) (hw _ (gm 3 rfl)) (by decide) (by decide)) (g := (mkF m 23 #[.val (.long p1), .second, .val (.long p2), .second, vI p3, vI 6, vR b729, vI c0, vU, vU, vU, vU, vU, vU, vU, vU] [(.long ((p1.toUInt64 >>> ((10 : Int32) &&& 0x3f).toInt64.toUInt64).toInt64))])) rfl (by rw [hml]; rfl) (argsL := [(.long ((p1.toUInt64 >>> ((10 : Int32) &&& 0x3f).toInt64.toUInt64).toInt64))]) (rest := []) (lenOf pd_0 rfl) rfl (by show 2 * 0 + _ ≤ _; exact Nat.le_of_eq rfl) (hb hby at_23) (fun _ _ => ⟨rfl, hh736, (by decide : 1 + 0 ≤ _), (by decide : 6 + 0 ≤ _)⟩)
  dsimp only [Pt.U, Pt.locs, Pt.cells, Pt.slots] at X739 l739 y739 z739 st739 hQ739
  subst l739 y739 z739
  obtain ⟨c1, rfl, Nq739, hh739, hc1⟩ := hQ739
  have N739 := Fr.app M736 Nq739
  have k740 : Rch p e below S0 T739 (mkF m 26 #[.val (.long p1), .second, .val (.long p2), .second, vI p3, vI 6, vR b729, vI c0, vU, vU, vU, vU, vU, vU, vU, vU] [(.int c1)]) := fun t h => k738 t (st739 t h)
  obtain ⟨lo739, Y739, M739⟩ : ∃ lo, Stand p l e room_1 (s.setVm s.vm) m #[(.long p1), (.long p2), (.int p3)] below meth c T739 lo 1 6 ∧ Fr n0 lo := ⟨_, X739, N739⟩
  clear X739 N739
  have k741 : Rch p e below S0 T739 (mkF m 32 #[.val (.long p1), .second, .val (.long p2), .second, vI p3, vI 6, vR b729, vI c0, vI c1, vU, vU, vU, vU, vU, vU, vU] [(.long ((p1.toUInt64 >>> ((20 : Int32) &&& 0x3f).toInt64.toUInt64).toInt64))]) := fun t h => k740 t (by
      show Steps p.tables e below (T739.setTop (mkF m 26 #[.val (.long p1), .second, .val (.long p2), .second, vI p3, vI 6, vR b729, vI c0, vU, vU, vU, vU, vU, vU, vU, vU] [(.int c1)])) _
      refine XS.istore Y739.here hx rfl (hb hby at_26) rfl (l' := #[.val (.long p1), .second, .val (.long p2), .second, vI p3, vI 6, vR b729, vI c0, vI c1, vU, vU, vU, vU, vU, vU, vU]) rfl ?_
      refine XS.lloadN Y739.here hx rfl (hb hby at_28) rfl ?_
      refine XS.bipush Y739.here hx rfl (hb hby at_29) ?_
      refine XS.lushr Y739.here hx rfl (hb hby at_31) rfl ?_
      exact h)
  obtain ⟨_, _, ⟨T742, L742, kk742, n742⟩, -, X742, ⟨Lc742, hQ742, l742, y742, z742⟩, st742⟩ := Jvm.LawKit.callS Y739 hx (y := (⟨"com/example/nuthatch/nuthatch/EntryNameIsMemberPinLaw", "ch", "(J)C"⟩ : MethodName)) hown (mvT hZ (hw _ (gm 1 rfl))) (mvT hZ (hw _ (gm 2 rfl))) (mvT hZ (hw _ (gm 3 rfl))) (mvT hZ (hw _ (gm 4 rfl))) (by decide) (backOf (W := 0) (rmCh l Z a0 hw [] ((p1.toUInt64 >>> ((20 : Int32) &&& 0x3f).toInt64.toUInt64).toInt64)  h729 n0 O733 ) hZ (hw _ (gm 4 rfl)) (hw _ (gm 3 rfl)) (by decide) (by decide)) (g := (mkF m 32 #[.val (.long p1), .second, .val (.long p2), .second, vI p3, vI 6, vR b729, vI c0, vI c1, vU, vU, vU, vU, vU, vU, vU] [(.long ((p1.toUInt64 >>> ((20 : Int32) &&& 0x3f).toInt64.toUInt64).toInt64))])) rfl (by rw [hml]; rfl) (argsL := [(.long ((p1.toUInt64 >>> ((20 : Int32) &&& 0x3f).toInt64.toUInt64).toInt64))]) (rest := []) (lenOf pd_0 rfl) rfl (by show 2 * 0 + _ ≤ _; exact Nat.le_of_eq rfl) (hb hby at_32) (fun _ _ => ⟨rfl, hh739, (by decide : 1 + 0 ≤ _), (by decide : 6 + 0 ≤ _)⟩)
  dsimp only [Pt.U, Pt.locs, Pt.cells, Pt.slots] at X742 l742 y742 z742 st742 hQ742
  subst l742 y742 z742
  obtain ⟨c2, rfl, Nq742, hh742, hc2⟩ := hQ742
  have N742 := Fr.app M739 Nq742
  have k743 : Rch p e below S0 T742 (mkF m 35 #[.val (.long p1), .second, .val (.long p2), .second, vI p3, vI 6, vR b729, vI c0, vI c1, vU, vU, vU, vU, vU, vU, vU] [(.int c2)]) := fun t h => k741 t (st742 t h)
  obtain ⟨lo742, Y742, M742⟩ : ∃ lo, Stand p l e room_1 (s.setVm s.vm) m #[(.long p1), (.long p2), (.int p3)] below meth c T742 lo 1 6 ∧ Fr n0 lo := ⟨_, X742, N742⟩
  clear X742 N742
  have k744 : Rch p e below S0 T742 (mkF m 41 #[.val (.long p1), .second, .val (.long p2), .second, vI p3, vI 6, vR b729, vI c0, vI c1, vI c2, vU, vU, vU, vU, vU, vU] [(.long ((p1.toUInt64 >>> ((30 : Int32) &&& 0x3f).toInt64.toUInt64).toInt64))]) := fun t h => k743 t (by
      show Steps p.tables e below (T742.setTop (mkF m 35 #[.val (.long p1), .second, .val (.long p2), .second, vI p3, vI 6, vR b729, vI c0, vI c1, vU, vU, vU, vU, vU, vU, vU] [(.int c2)])) _
      refine XS.istore Y742.here hx rfl (hb hby at_35) rfl (l' := #[.val (.long p1), .second, .val (.long p2), .second, vI p3, vI 6, vR b729, vI c0, vI c1, vI c2, vU, vU, vU, vU, vU, vU]) rfl ?_
      refine XS.lloadN Y742.here hx rfl (hb hby at_37) rfl ?_
      refine XS.bipush Y742.here hx rfl (hb hby at_38) ?_
      refine XS.lushr Y742.here hx rfl (hb hby at_40) rfl ?_
      exact h)
  obtain ⟨_, _, ⟨T745, L745, kk745, n745⟩, -, X745, ⟨Lc745, hQ745, l745, y745, z745⟩, st745⟩ := Jvm.LawKit.callS Y742 hx (y := (⟨"com/example/nuthatch/nuthatch/EntryNameIsMemberPinLaw", "ch", "(J)C"⟩ : MethodName)) hown (mvT hZ (hw _ (gm 1 rfl))) (mvT hZ (hw _ (gm 2 rfl))) (mvT hZ (hw _ (gm 3 rfl))) (mvT hZ (hw _ (gm 4 rfl))) (by decide) (backOf (W := 0) (rmCh l Z a0 hw [] ((p1.toUInt64 >>> ((30 : Int32) &&& 0x3f).toInt64.toUInt64).toInt64)  h729 n0 O733 ) hZ (hw _ (gm 4 rfl)) (hw _ (gm 3 rfl)) (by decide) (by decide)) (g := (mkF m 41 #[.val (.long p1), .second, .val (.long p2), .second, vI p3, vI 6, vR b729, vI c0, vI c1, vI c2, vU, vU, vU, vU, vU, vU] [(.long ((p1.toUInt64 >>> ((30 : Int32) &&& 0x3f).toInt64.toUInt64).toInt64))])) rfl (by rw [hml]; rfl) (argsL := [(.long ((p1.toUInt64 >>> ((30 : Int32) &&& 0x3f).toInt64.toUInt64).toInt64))]) (rest := []) (lenOf pd_0 rfl) rfl (by show 2 * 0 + _ ≤ _; exact Nat.le_of_eq rfl) (hb hby at_41) (fun _ _ => ⟨rfl, hh742, (by decide : 1 + 0 ≤ _), (by decide : 6 + 0 ≤ _)⟩)
  dsimp only [Pt.U, Pt.locs, Pt.cells, Pt.slots] at X745 l745 y745 z745 st745 hQ745
  subst l745 y745 z745
  obtain ⟨c3, rfl, Nq745, hh745, hc3⟩ := hQ745
  have N745 := Fr.app M742 Nq745
  have k746 : Rch p e below S0 T745 (mkF m 44 #[.val (.long p1), .second, .val (.long p2), .second, vI p3, vI 6, vR b729, vI c0, vI c1, vI c2, vU, vU, vU, vU, vU, vU] [(.int c3)]) := fun t h => k744 t (st745 t h)
  obtain ⟨lo745, Y745, M745⟩ : ∃ lo, Stand p l e room_1 (s.setVm s.vm) m #[(.long p1), (.long p2), (.int p3)] below meth c T745 lo 1 6 ∧ Fr n0 lo := ⟨_, X745, N745⟩
  clear X745 N745
  have k747 : Rch p e below S0 T745 (mkF m 50 #[.val (.long p1), .second, .val (.long p2), .second, vI p3, vI 6, vR b729, vI c0, vI c1, vI c2, vI c3, vU, vU, vU, vU, vU] [(.long ((p1.toUInt64 >>> ((40 : Int32) &&& 0x3f).toInt64.toUInt64).toInt64))]) := fun t h => k746 t (by
      show Steps p.tables e below (T745.setTop (mkF m 44 #[.val (.long p1), .second, .val (.long p2), .second, vI p3, vI 6, vR b729, vI c0, vI c1, vI c2, vU, vU, vU, vU, vU, vU] [(.int c3)])) _
      refine XS.istore Y745.here hx rfl (hb hby at_44) rfl (l' := #[.val (.long p1), .second, .val (.long p2), .second, vI p3, vI 6, vR b729, vI c0, vI c1, vI c2, vI c3, vU, vU, vU, vU, vU]) rfl ?_
      refine XS.lloadN Y745.here hx rfl (hb hby at_46) rfl ?_
      refine XS.bipush Y745.here hx rfl (hb hby at_47) ?_
      refine XS.lushr Y745.here hx rfl (hb hby at_49) rfl ?_
      exact h)
  obtain ⟨_, _, ⟨T748, L748, kk748, n748⟩, -, X748, ⟨Lc748, hQ748, l748, y748, z748⟩, st748⟩ := Jvm.LawKit.callS Y745 hx (y := (⟨"com/example/nuthatch/nuthatch/EntryNameIsMemberPinLaw", "ch", "(J)C"⟩ : MethodName)) hown (mvT hZ (hw _ (gm 1 rfl))) (mvT hZ (hw _ (gm 2 rfl))) (mvT hZ (hw _ (gm 3 rfl))) (mvT hZ (hw _ (gm 4 rfl))) (by decide) (backOf (W := 0) (rmCh l Z a0 hw [] ((p1.toUInt64 >>> ((40 : Int32) &&& 0x3f).toInt64.toUInt64).toInt64)  h729 n0 O733 ) hZ (hw _ (gm 4 rfl)) (hw _ (gm 3 rfl)) (by decide) (by decide)) (g := (mkF m 50 #[.val (.long p1), .second, .val (.long p2), .second, vI p3, vI 6, vR b729, vI c0, vI c1, vI c2, vI c3, vU, vU, vU, vU, vU] [(.long ((p1.toUInt64 >>> ((40 : Int32) &&& 0x3f).toInt64.toUInt64).toInt64))])) rfl (by rw [hml]; rfl) (argsL := [(.long ((p1.toUInt64 >>> ((40 : Int32) &&& 0x3f).toInt64.toUInt64).toInt64))]) (rest := []) (lenOf pd_0 rfl) rfl (by show 2 * 0 + _ ≤ _; exact Nat.le_of_eq rfl) (hb hby at_50) (fun _ _ => ⟨rfl, hh745, (by decide : 1 + 0 ≤ _), (by decide : 6 + 0 ≤ _)⟩)
  dsimp only [Pt.U, Pt.locs, Pt.cells, Pt.slots] at X748 l748 y748 z748 st748 hQ748
  subst l748 y748 z748
  obtain ⟨c4, rfl, Nq748, hh748, hc4⟩ := hQ748
  have N748 := Fr.app M745 Nq748
  have k749 : Rch p e below S0 T748 (mkF m 53 #[.val (.long p1), .second, .val (.long p2), .second, vI p3, vI 6, vR b729, vI c0, vI c1, vI c2, vI c3, vU, vU, vU, vU, vU] [(.int c4)]) := fun t h => k747 t (st748 t h)
  obtain ⟨lo748, Y748, M748⟩ : ∃ lo, Stand p l e room_1 (s.setVm s.vm) m #[(.long p1), (.long p2), (.int p3)] below meth c T748 lo 1 6 ∧ Fr n0 lo := ⟨_, X748, N748⟩
  clear X748 N748
  have k750 : Rch p e below S0 T748 (mkF m 59 #[.val (.long p1), .second, .val (.long p2), .second, vI p3, vI 6, vR b729, vI c0, vI c1, vI c2, vI c3, vI c4, vU, vU, vU, vU] [(.long ((p1.toUInt64 >>> ((50 : Int32) &&& 0x3f).toInt64.toUInt64).toInt64))]) := fun t h => k749 t (by
      show Steps p.tables e below (T748.setTop (mkF m 53 #[.val (.long p1), .second, .val (.long p2), .second, vI p3, vI 6, vR b729, vI c0, vI c1, vI c2, vI c3, vU, vU, vU, vU, vU] [(.int c4)])) _
      refine XS.istore Y748.here hx rfl (hb hby at_53) rfl (l' := #[.val (.long p1), .second, .val (.long p2), .second, vI p3, vI 6, vR b729, vI c0, vI c1, vI c2, vI c3, vI c4, vU, vU, vU, vU]) rfl ?_
      refine XS.lloadN Y748.here hx rfl (hb hby at_55) rfl ?_
      refine XS.bipush Y748.here hx rfl (hb hby at_56) ?_
      refine XS.lushr Y748.here hx rfl (hb hby at_58) rfl ?_
      exact h)
  obtain ⟨_, _, ⟨T751, L751, kk751, n751⟩, -, X751, ⟨Lc751, hQ751, l751, y751, z751⟩, st751⟩ := Jvm.LawKit.callS Y748 hx (y := (⟨"com/example/nuthatch/nuthatch/EntryNameIsMemberPinLaw", "ch", "(J)C"⟩ : MethodName)) hown (mvT hZ (hw _ (gm 1 rfl))) (mvT hZ (hw _ (gm 2 rfl))) (mvT hZ (hw _ (gm 3 rfl))) (mvT hZ (hw _ (gm 4 rfl))) (by decide) (backOf (W := 0) (rmCh l Z a0 hw [] ((p1.toUInt64 >>> ((50 : Int32) &&& 0x3f).toInt64.toUInt64).toInt64)  h729 n0 O733 ) hZ (hw _ (gm 4 rfl)) (hw _ (gm 3 rfl)) (by decide) (by decide)) (g := (mkF m 59 #[.val (.long p1), .second, .val (.long p2), .second, vI p3, vI 6, vR b729, vI c0, vI c1, vI c2, vI c3, vI c4, vU, vU, vU, vU] [(.long ((p1.toUInt64 >>> ((50 : Int32) &&& 0x3f).toInt64.toUInt64).toInt64))])) rfl (by rw [hml]; rfl) (argsL := [(.long ((p1.toUInt64 >>> ((50 : Int32) &&& 0x3f).toInt64.toUInt64).toInt64))]) (rest := []) (lenOf pd_0 rfl) rfl (by show 2 * 0 + _ ≤ _; exact Nat.le_of_eq rfl) (hb hby at_59) (fun _ _ => ⟨rfl, hh748, (by decide : 1 + 0 ≤ _), (by decide : 6 + 0 ≤ _)⟩)
  dsimp only [Pt.U, Pt.locs, Pt.cells, Pt.slots] at X751 l751 y751 z751 st751 hQ751
  subst l751 y751 z751
  obtain ⟨c5, rfl, Nq751, hh751, hc5⟩ := hQ751
  have N751 := Fr.app M748 Nq751
  have k752 : Rch p e below S0 T751 (mkF m 62 #[.val (.long p1), .second, .val (.long p2), .second, vI p3, vI 6, vR b729, vI c0, vI c1, vI c2, vI c3, vI c4, vU, vU, vU, vU] [(.int c5)]) := fun t h => k750 t (st751 t h)
  obtain ⟨lo751, Y751, M751⟩ : ∃ lo, Stand p l e room_1 (s.setVm s.vm) m #[(.long p1), (.long p2), (.int p3)] below meth c T751 lo 1 6 ∧ Fr n0 lo := ⟨_, X751, N751⟩
  clear X751 N751
  have k753 : Rch p e below S0 T751 (mkF m 65 #[.val (.long p1), .second, .val (.long p2), .second, vI p3, vI 6, vR b729, vI c0, vI c1, vI c2, vI c3, vI c4, vI c5, vU, vU, vU] [(.long p2)]) := fun t h => k752 t (by
      show Steps p.tables e below (T751.setTop (mkF m 62 #[.val (.long p1), .second, .val (.long p2), .second, vI p3, vI 6, vR b729, vI c0, vI c1, vI c2, vI c3, vI c4, vU, vU, vU, vU] [(.int c5)])) _
      refine XS.istore Y751.here hx rfl (hb hby at_62) rfl (l' := #[.val (.long p1), .second, .val (.long p2), .second, vI p3, vI 6, vR b729, vI c0, vI c1, vI c2, vI c3, vI c4, vI c5, vU, vU, vU]) rfl ?_
      refine XS.lloadN Y751.here hx rfl (hb hby at_64) rfl ?_
      exact h)
  obtain ⟨_, _, ⟨T754, L754, kk754, n754⟩, -, X754, ⟨Lc754, hQ754, l754, y754, z754⟩, st754⟩ := Jvm.LawKit.callS Y751 hx (y := (⟨"com/example/nuthatch/nuthatch/EntryNameIsMemberPinLaw", "ch", "(J)C"⟩ : MethodName)) hown (mvT hZ (hw _ (gm 1 rfl))) (mvT hZ (hw _ (gm 2 rfl))) (mvT hZ (hw _ (gm 3 rfl))) (mvT hZ (hw _ (gm 4 rfl))) (by decide) (backOf (W := 0) (rmCh l Z a0 hw [] p2  h729 n0 O733 ) hZ (hw _ (gm 4 rfl)) (hw _ (gm 3 rfl)) (by decide) (by decide)) (g := (mkF m 65 #[.val (.long p1), .second, .val (.long p2), .second, vI p3, vI 6, vR b729, vI c0, vI c1, vI c2, vI c3, vI c4, vI c5, vU, vU, vU] [(.long p2)])) rfl (by rw [hml]; rfl) (argsL := [(.long p2)]) (rest := []) (lenOf pd_0 rfl) rfl (by show 2 * 0 + _ ≤ _; exact Nat.le_of_eq rfl) (hb hby at_65) (fun _ _ => ⟨rfl, hh751, (by decide : 1 + 0 ≤ _), (by decide : 6 + 0 ≤ _)⟩)
  dsimp only [Pt.U, Pt.locs, Pt.cells, Pt.slots] at X754 l754 y754 z754 st754 hQ754
  subst l754 y754 z754
  obtain ⟨c6, rfl, Nq754, hh754, hc6⟩ := hQ754
  have N754 := Fr.app M751 Nq754
  have k755 : Rch p e below S0 T754 (mkF m 68 #[.val (.long p1), .second, .val (.long p2), .second, vI p3, vI 6, vR b729, vI c0, vI c1, vI c2, vI c3, vI c4, vI c5, vU, vU, vU] [(.int c6)]) := fun t h => k753 t (st754 t h)
  obtain ⟨lo754, Y754, M754⟩ : ∃ lo, Stand p l e room_1 (s.setVm s.vm) m #[(.long p1), (.long p2), (.int p3)] below meth c T754 lo 1 6 ∧ Fr n0 lo := ⟨_, X754, N754⟩
  clear X754 N754
  have k757 : Rch p e below S0 T754 (mkF m 80 #[.val (.long p1), .second, .val (.long p2), .second, vI p3, vI 6, vR b729, vI c0, vI c1, vI c2, vI c3, vI c4, vI c5, vI c6, vU, vU] [(.int c0), (.int (0 : Int32)), (.ref b729)]) := fun t h => k755 t (by
      show Steps p.tables e below (T754.setTop (mkF m 68 #[.val (.long p1), .second, .val (.long p2), .second, vI p3, vI 6, vR b729, vI c0, vI c1, vI c2, vI c3, vI c4, vI c5, vU, vU, vU] [(.int c6)])) _
      refine XS.istore Y754.here hx rfl (hb hby at_68) rfl (l' := #[.val (.long p1), .second, .val (.long p2), .second, vI p3, vI 6, vR b729, vI c0, vI c1, vI c2, vI c3, vI c4, vI c5, vI c6, vU, vU]) rfl ?_
      refine XS.iload Y754.here hx rfl (hb hby at_70) rfl ?_
      refine XS.ifNo Y754.here hx rfl (hb hby at_72) rfl ((if0 _ _).trans (tlt (by decide : (0 : Int32) < (6 : Int32))).2.2.2) ?_
      refine XS.aload Y754.here hx rfl (hb hby at_75) rfl rfl ?_
      refine XS.iconst Y754.here hx rfl (hb hby at_77) ?_
      refine XS.iload Y754.here hx rfl (hb hby at_78) rfl ?_
      exact h)
  obtain ⟨cl756, Ar756, q756, Sz756, Ng756, Hs756, G756⟩ := id V_b729
  have hin756 : ¬ ((0 : Int32) < 0 ∨ cl756.slots.size ≤ ((0 : Int32)).toNatClampNeg) := inb_of Sz756 ⟨by decide, by decide⟩
  obtain ⟨T756, h756, X756, e756, W756, st756⟩ := stC Y754 hx hZ hh754 Ar756 (j := (0 : Int32)) hin756 (g := (mkF m 80 #[.val (.long p1), .second, .val (.long p2), .second, vI p3, vI 6, vR b729, vI c0, vI c1, vI c2, vI c3, vI c4, vI c5, vI c6, vU, vU] [(.int c0), (.int (0 : Int32)), (.ref b729)])) rfl rfl (hb hby at_80)
  have k758 : Rch p e below S0 T756 (mkF m 81 #[.val (.long p1), .second, .val (.long p2), .second, vI p3, vI 6, vR b729, vI c0, vI c1, vI c2, vI c3, vI c4, vI c5, vI c6, vU, vU] []) := fun t h => k757 t (st756 t h)
  have N756 := Fr.snoc X756 M754 ge_b729
  have V_b729' := Arv.set Ar756 q756 Sz756 Ng756 Hs756 G756 (fits_nar_char _) W756 0 rfl (Nat.le_of_ble_eq_true rfl)
  replace V_b729 : Arv Z h756 b729 k729 .char (6 : Int32) [(.int c0), (.int (0 : Int32)), (.int (0 : Int32)), (.int (0 : Int32)), (.int (0 : Int32)), (.int (0 : Int32))] (.int (0 : Int32)) := (by have q := V_b729'; rw [(own_nar c0 hc0).1] at q; exact q)
  have hC759 := hC732.wr W756 sf_b729
  have rC759 := rC732.trans (CHr.wr W756 sf_b729 hC732)
  replace sf_b729 := Safe.wr W756 sf_b729 hC732 sf_b729
  have O760 := O733.wr W756 ge_b729
  have hkk761 := Nat.le_trans hkk734 (Keep.of_wr W756).1
  have k763 : Rch p e below S0 T756 (mkF m 92 #[.val (.long p1), .second, .val (.long p2), .second, vI p3, vI 6, vR b729, vI c0, vI c1, vI c2, vI c3, vI c4, vI c5, vI c6, vU, vU] [(.int c1), (.int (1 : Int32)), (.ref b729)]) := fun t h => k758 t (by
      show Steps p.tables e below (T756.setTop (mkF m 81 #[.val (.long p1), .second, .val (.long p2), .second, vI p3, vI 6, vR b729, vI c0, vI c1, vI c2, vI c3, vI c4, vI c5, vI c6, vU, vU] [])) _
      refine XS.iload X756.here hx rfl (hb hby at_81) rfl ?_
      refine XS.iconst X756.here hx rfl (hb hby at_83) ?_
      refine XS.icmpNo X756.here hx rfl (hb hby at_84) rfl (tlt (by decide : (1 : Int32) < (6 : Int32))).2.2.2 ?_
      refine XS.aload X756.here hx rfl (hb hby at_87) rfl rfl ?_
      refine XS.iconst X756.here hx rfl (hb hby at_89) ?_
      refine XS.iload X756.here hx rfl (hb hby at_90) rfl ?_
      exact h)
  obtain ⟨cl762, Ar762, q762, Sz762, Ng762, Hs762, G762⟩ := id V_b729
  have hin762 : ¬ ((1 : Int32) < 0 ∨ cl762.slots.size ≤ ((1 : Int32)).toNatClampNeg) := inb_of Sz762 ⟨by decide, by decide⟩
  obtain ⟨T762, h762, X762, e762, W762, st762⟩ := stC X756 hx hZ e756 Ar762 (j := (1 : Int32)) hin762 (g := (mkF m 92 #[.val (.long p1), .second, .val (.long p2), .second, vI p3, vI 6, vR b729, vI c0, vI c1, vI c2, vI c3, vI c4, vI c5, vI c6, vU, vU] [(.int c1), (.int (1 : Int32)), (.ref b729)])) rfl rfl (hb hby at_92)
  have k764 : Rch p e below S0 T762 (mkF m 93 #[.val (.long p1), .second, .val (.long p2), .second, vI p3, vI 6, vR b729, vI c0, vI c1, vI c2, vI c3, vI c4, vI c5, vI c6, vU, vU] []) := fun t h => k763 t (st762 t h)
  have N762 := Fr.snoc X762 N756 ge_b729
  have V_b729' := Arv.set Ar762 q762 Sz762 Ng762 Hs762 G762 (fits_nar_char _) W762 1 rfl (Nat.le_of_ble_eq_true rfl)
  replace V_b729 : Arv Z h762 b729 k729 .char (6 : Int32) [(.int c0), (.int c1), (.int (0 : Int32)), (.int (0 : Int32)), (.int (0 : Int32)), (.int (0 : Int32))] (.int (0 : Int32)) := (by have q := V_b729'; rw [(own_nar c1 hc1).1] at q; exact q)
  have hC765 := hC759.wr W762 sf_b729
  have rC765 := rC759.trans (CHr.wr W762 sf_b729 hC759)
  replace sf_b729 := Safe.wr W762 sf_b729 hC759 sf_b729
  have O766 := O760.wr W762 ge_b729
  have hkk767 := Nat.le_trans hkk761 (Keep.of_wr W762).1
  have k769 : Rch p e below S0 T762 (mkF m 104 #[.val (.long p1), .second, .val (.long p2), .second, vI p3, vI 6, vR b729, vI c0, vI c1, vI c2, vI c3, vI c4, vI c5, vI c6, vU, vU] [(.int c2), (.int (2 : Int32)), (.ref b729)]) := fun t h => k764 t (by
      show Steps p.tables e below (T762.setTop (mkF m 93 #[.val (.long p1), .second, .val (.long p2), .second, vI p3, vI 6, vR b729, vI c0, vI c1, vI c2, vI c3, vI c4, vI c5, vI c6, vU, vU] [])) _
      refine XS.iload X762.here hx rfl (hb hby at_93) rfl ?_
      refine XS.iconst X762.here hx rfl (hb hby at_95) ?_
      refine XS.icmpNo X762.here hx rfl (hb hby at_96) rfl (tlt (by decide : (2 : Int32) < (6 : Int32))).2.2.2 ?_
      refine XS.aload X762.here hx rfl (hb hby at_99) rfl rfl ?_
      refine XS.iconst X762.here hx rfl (hb hby at_101) ?_
      refine XS.iload X762.here hx rfl (hb hby at_102) rfl ?_
      exact h)
  obtain ⟨cl768, Ar768, q768, Sz768, Ng768, Hs768, G768⟩ := id V_b729
  have hin768 : ¬ ((2 : Int32) < 0 ∨ cl768.slots.size ≤ ((2 : Int32)).toNatClampNeg) := inb_of Sz768 ⟨by decide, by decide⟩
  obtain ⟨T768, h768, X768, e768, W768, st768⟩ := stC X762 hx hZ e762 Ar768 (j := (2 : Int32)) hin768 (g := (mkF m 104 #[.val (.long p1), .second, .val (.long p2), .second, vI p3, vI 6, vR b729, vI c0, vI c1, vI c2, vI c3, vI c4, vI c5, vI c6, vU, vU] [(.int c2), (.int (2 : Int32)), (.ref b729)])) rfl rfl (hb hby at_104)
  have k770 : Rch p e below S0 T768 (mkF m 105 #[.val (.long p1), .second, .val (.long p2), .second, vI p3, vI 6, vR b729, vI c0, vI c1, vI c2, vI c3, vI c4, vI c5, vI c6, vU, vU] []) := fun t h => k769 t (st768 t h)
  have N768 := Fr.snoc X768 N762 ge_b729
  have V_b729' := Arv.set Ar768 q768 Sz768 Ng768 Hs768 G768 (fits_nar_char _) W768 2 rfl (Nat.le_of_ble_eq_true rfl)
  replace V_b729 : Arv Z h768 b729 k729 .char (6 : Int32) [(.int c0), (.int c1), (.int c2), (.int (0 : Int32)), (.int (0 : Int32)), (.int (0 : Int32))] (.int (0 : Int32)) := (by have q := V_b729'; rw [(own_nar c2 hc2).1] at q; exact q)
  have hC771 := hC765.wr W768 sf_b729
  have rC771 := rC765.trans (CHr.wr W768 sf_b729 hC765)
  replace sf_b729 := Safe.wr W768 sf_b729 hC765 sf_b729
  have O772 := O766.wr W768 ge_b729
  have hkk773 := Nat.le_trans hkk767 (Keep.of_wr W768).1
  have k775 : Rch p e below S0 T768 (mkF m 116 #[.val (.long p1), .second, .val (.long p2), .second, vI p3, vI 6, vR b729, vI c0, vI c1, vI c2, vI c3, vI c4, vI c5, vI c6, vU, vU] [(.int c3), (.int (3 : Int32)), (.ref b729)]) := fun t h => k770 t (by
      show Steps p.tables e below (T768.setTop (mkF m 105 #[.val (.long p1), .second, .val (.long p2), .second, vI p3, vI 6, vR b729, vI c0, vI c1, vI c2, vI c3, vI c4, vI c5, vI c6, vU, vU] [])) _
      refine XS.iload X768.here hx rfl (hb hby at_105) rfl ?_
      refine XS.iconst X768.here hx rfl (hb hby at_107) ?_
      refine XS.icmpNo X768.here hx rfl (hb hby at_108) rfl (tlt (by decide : (3 : Int32) < (6 : Int32))).2.2.2 ?_
      refine XS.aload X768.here hx rfl (hb hby at_111) rfl rfl ?_
      refine XS.iconst X768.here hx rfl (hb hby at_113) ?_
      refine XS.iload X768.here hx rfl (hb hby at_114) rfl ?_
      exact h)
  obtain ⟨cl774, Ar774, q774, Sz774, Ng774, Hs774, G774⟩ := id V_b729
  have hin774 : ¬ ((3 : Int32) < 0 ∨ cl774.slots.size ≤ ((3 : Int32)).toNatClampNeg) := inb_of Sz774 ⟨by decide, by decide⟩
  obtain ⟨T774, h774, X774, e774, W774, st774⟩ := stC X768 hx hZ e768 Ar774 (j := (3 : Int32)) hin774 (g := (mkF m 116 #[.val (.long p1), .second, .val (.long p2), .second, vI p3, vI 6, vR b729, vI c0, vI c1, vI c2, vI c3, vI c4, vI c5, vI c6, vU, vU] [(.int c3), (.int (3 : Int32)), (.ref b729)])) rfl rfl (hb hby at_116)
  have k776 : Rch p e below S0 T774 (mkF m 117 #[.val (.long p1), .second, .val (.long p2), .second, vI p3, vI 6, vR b729, vI c0, vI c1, vI c2, vI c3, vI c4, vI c5, vI c6, vU, vU] []) := fun t h => k775 t (st774 t h)
  have N774 := Fr.snoc X774 N768 ge_b729
  have V_b729' := Arv.set Ar774 q774 Sz774 Ng774 Hs774 G774 (fits_nar_char _) W774 3 rfl (Nat.le_of_ble_eq_true rfl)
  replace V_b729 : Arv Z h774 b729 k729 .char (6 : Int32) [(.int c0), (.int c1), (.int c2), (.int c3), (.int (0 : Int32)), (.int (0 : Int32))] (.int (0 : Int32)) := (by have q := V_b729'; rw [(own_nar c3 hc3).1] at q; exact q)
  have hC777 := hC771.wr W774 sf_b729
  have rC777 := rC771.trans (CHr.wr W774 sf_b729 hC771)
  replace sf_b729 := Safe.wr W774 sf_b729 hC771 sf_b729
  have O778 := O772.wr W774 ge_b729
  have hkk779 := Nat.le_trans hkk773 (Keep.of_wr W774).1
  have k781 : Rch p e below S0 T774 (mkF m 128 #[.val (.long p1), .second, .val (.long p2), .second, vI p3, vI 6, vR b729, vI c0, vI c1, vI c2, vI c3, vI c4, vI c5, vI c6, vU, vU] [(.int c4), (.int (4 : Int32)), (.ref b729)]) := fun t h => k776 t (by
      show Steps p.tables e below (T774.setTop (mkF m 117 #[.val (.long p1), .second, .val (.long p2), .second, vI p3, vI 6, vR b729, vI c0, vI c1, vI c2, vI c3, vI c4, vI c5, vI c6, vU, vU] [])) _
      refine XS.iload X774.here hx rfl (hb hby at_117) rfl ?_
      refine XS.iconst X774.here hx rfl (hb hby at_119) ?_
      refine XS.icmpNo X774.here hx rfl (hb hby at_120) rfl (tlt (by decide : (4 : Int32) < (6 : Int32))).2.2.2 ?_
      refine XS.aload X774.here hx rfl (hb hby at_123) rfl rfl ?_
      refine XS.iconst X774.here hx rfl (hb hby at_125) ?_
      refine XS.iload X774.here hx rfl (hb hby at_126) rfl ?_
      exact h)
  obtain ⟨cl780, Ar780, q780, Sz780, Ng780, Hs780, G780⟩ := id V_b729
  have hin780 : ¬ ((4 : Int32) < 0 ∨ cl780.slots.size ≤ ((4 : Int32)).toNatClampNeg) := inb_of Sz780 ⟨by decide, by decide⟩
  obtain ⟨T780, h780, X780, e780, W780, st780⟩ := stC X774 hx hZ e774 Ar780 (j := (4 : Int32)) hin780 (g := (mkF m 128 #[.val (.long p1), .second, .val (.long p2), .second, vI p3, vI 6, vR b729, vI c0, vI c1, vI c2, vI c3, vI c4, vI c5, vI c6, vU, vU] [(.int c4), (.int (4 : Int32)), (.ref b729)])) rfl rfl (hb hby at_128)
  have k782 : Rch p e below S0 T780 (mkF m 129 #[.val (.long p1), .second, .val (.long p2), .second, vI p3, vI 6, vR b729, vI c0, vI c1, vI c2, vI c3, vI c4, vI c5, vI c6, vU, vU] []) := fun t h => k781 t (st780 t h)
  have N780 := Fr.snoc X780 N774 ge_b729
  have V_b729' := Arv.set Ar780 q780 Sz780 Ng780 Hs780 G780 (fits_nar_char _) W780 4 rfl (Nat.le_of_ble_eq_true rfl)
  replace V_b729 : Arv Z h780 b729 k729 .char (6 : Int32) [(.int c0), (.int c1), (.int c2), (.int c3), (.int c4), (.int (0 : Int32))] (.int (0 : Int32)) := (by have q := V_b729'; rw [(own_nar c4 hc4).1] at q; exact q)
  have hC783 := hC777.wr W780 sf_b729
  have rC783 := rC777.trans (CHr.wr W780 sf_b729 hC777)
  replace sf_b729 := Safe.wr W780 sf_b729 hC777 sf_b729
  have O784 := O778.wr W780 ge_b729
  have hkk785 := Nat.le_trans hkk779 (Keep.of_wr W780).1
  have k787 : Rch p e below S0 T780 (mkF m 140 #[.val (.long p1), .second, .val (.long p2), .second, vI p3, vI 6, vR b729, vI c0, vI c1, vI c2, vI c3, vI c4, vI c5, vI c6, vU, vU] [(.int c5), (.int (5 : Int32)), (.ref b729)]) := fun t h => k782 t (by
      show Steps p.tables e below (T780.setTop (mkF m 129 #[.val (.long p1), .second, .val (.long p2), .second, vI p3, vI 6, vR b729, vI c0, vI c1, vI c2, vI c3, vI c4, vI c5, vI c6, vU, vU] [])) _
      refine XS.iload X780.here hx rfl (hb hby at_129) rfl ?_
      show Steps p.tables e below (T780.setTop (mkF m 131 #[.val (.long p1), .second, .val (.long p2), .second, vI p3, vI 6, vR b729, vI c0, vI c1, vI c2, vI c3, vI c4, vI c5, vI c6, vU, vU] [(.int (6 : Int32))])) _
      refine XS.iconst X780.here hx rfl (hb hby at_131) ?_
      refine XS.icmpNo X780.here hx rfl (hb hby at_132) rfl (tlt (by decide : (5 : Int32) < (6 : Int32))).2.2.2 ?_
      refine XS.aload X780.here hx rfl (hb hby at_135) rfl rfl ?_
      refine XS.iconst X780.here hx rfl (hb hby at_137) ?_
      refine XS.iload X780.here hx rfl (hb hby at_138) rfl ?_
      exact h)
  obtain ⟨cl786, Ar786, q786, Sz786, Ng786, Hs786, G786⟩ := id V_b729
  have hin786 : ¬ ((5 : Int32) < 0 ∨ cl786.slots.size ≤ ((5 : Int32)).toNatClampNeg) := inb_of Sz786 ⟨by decide, by decide⟩
  obtain ⟨T786, h786, X786, e786, W786, st786⟩ := stC X780 hx hZ e780 Ar786 (j := (5 : Int32)) hin786 (g := (mkF m 140 #[.val (.long p1), .second, .val (.long p2), .second, vI p3, vI 6, vR b729, vI c0, vI c1, vI c2, vI c3, vI c4, vI c5, vI c6, vU, vU] [(.int c5), (.int (5 : Int32)), (.ref b729)])) rfl rfl (hb hby at_140)
  have k788 : Rch p e below S0 T786 (mkF m 141 #[.val (.long p1), .second, .val (.long p2), .second, vI p3, vI 6, vR b729, vI c0, vI c1, vI c2, vI c3, vI c4, vI c5, vI c6, vU, vU] []) := fun t h => k787 t (st786 t h)
  have N786 := Fr.snoc X786 N780 ge_b729
  have V_b729' := Arv.set Ar786 q786 Sz786 Ng786 Hs786 G786 (fits_nar_char _) W786 5 rfl (Nat.le_of_ble_eq_true rfl)
  replace V_b729 : Arv Z h786 b729 k729 .char (6 : Int32) [(.int c0), (.int c1), (.int c2), (.int c3), (.int c4), (.int c5)] (.int (0 : Int32)) := (by have q := V_b729'; rw [(own_nar c5 hc5).1] at q; exact q)
  have hC789 := hC783.wr W786 sf_b729
  have rC789 := rC783.trans (CHr.wr W786 sf_b729 hC783)
  replace sf_b729 := Safe.wr W786 sf_b729 hC783 sf_b729
  have O790 := O784.wr W786 ge_b729
  have hkk791 := Nat.le_trans hkk785 (Keep.of_wr W786).1
  have k792 : Rch p e below S0 T786 (mkF m 184 #[.val (.long p1), .second, .val (.long p2), .second, vI p3, vI 6, vR b729, vI c0, vI c1, vI c2, vI c3, vI c4, vI c5, vI c6, vI 0, vU] [(.int c5), (.int (0 : Int32))]) := fun t h => k788 t (by
      show Steps p.tables e below (T786.setTop (mkF m 141 #[.val (.long p1), .second, .val (.long p2), .second, vI p3, vI 6, vR b729, vI c0, vI c1, vI c2, vI c3, vI c4, vI c5, vI c6, vU, vU] [])) _
      refine XS.iload X786.here hx rfl (hb hby at_141) rfl ?_
      refine XS.bipush X786.here hx rfl (hb hby at_143) ?_
      refine XS.icmpYes X786.here hx rfl (pc0 := 145) (pc' := 155) rfl (hb hby at_145) rfl (flt (by decide : ¬ ((6 : Int32) < (6 : Int32)))).2.2.2 (by decide) (by decide) ?_
      refine XS.iconst X786.here hx rfl (hb hby at_155) ?_
      refine XS.istore X786.here hx rfl (hb hby at_156) rfl (l' := #[.val (.long p1), .second, .val (.long p2), .second, vI p3, vI 6, vR b729, vI c0, vI c1, vI c2, vI c3, vI c4, vI c5, vI c6, vI 0, vU]) rfl ?_
      refine XS.iload X786.here hx rfl (hb hby at_158) rfl ?_
      refine XS.bipush X786.here hx rfl (hb hby at_160) ?_
      refine XS.icmpYes X786.here hx rfl (pc0 := 162) (pc' := 174) rfl (hb hby at_162) rfl (flt (by decide : ¬ ((6 : Int32) < (6 : Int32)))).2.2.2 (by decide) (by decide) ?_
      refine XS.iload X786.here hx rfl (hb hby at_174) rfl ?_
      refine XS.iconst X786.here hx rfl (hb hby at_176) ?_
      refine XS.icmpNo X786.here hx rfl (hb hby at_177) rfl (tlt (by decide : (5 : Int32) < (6 : Int32))).2.2.2 ?_
      refine XS.iload X786.here hx rfl (hb hby at_180) rfl ?_
      refine XS.iload X786.here hx rfl (hb hby at_182) rfl ?_
      exact h)
  obtain ⟨_, _, ⟨T793, L793, kk793, n793⟩, -, X793, ⟨Lc793, hQ793, l793, y793, z793⟩, st793⟩ := Jvm.LawKit.callS X786 hx (y := (⟨"com/example/nuthatch/nuthatch/EntryNameIsMemberPinLaw", "step", "(IC)I"⟩ : MethodName)) hown (mvT hZ (hw _ (gm 71 rfl))) (mvT hZ (hw _ (gm 72 rfl))) (mvT hZ (hw _ (gm 3 rfl))) (mvT hZ (hw _ (gm 73 rfl))) (by decide) (backOf (W := 0) (rmST l Z a0 hw [] (0 : Int32) c5  h786 n0 O790 ) hZ (hw _ (gm 73 rfl)) (hw _ (gm 3 rfl)) (by decide) (by decide)) (g := (mkF m 184 #[.val (.long p1), .second, .val (.long p2), .second, vI p3, vI 6, vR b729, vI c0, vI c1, vI c2, vI c3, vI c4, vI c5, vI c6, vI 0, vU] [(.int c5), (.int (0 : Int32))])) rfl (by rw [hml]; rfl) (argsL := [(.int (0 : Int32)), (.int c5)]) (rest := []) (lenOf pd_13 rfl) rfl (by show 2 * 0 + _ ≤ _; exact Nat.le_of_eq rfl) (hb hby at_184) (fun _ _ => ⟨rfl, e786, (by decide : 1 + 0 ≤ _), (by decide : 6 + 0 ≤ _)⟩)
  dsimp only [Pt.U, Pt.locs, Pt.cells, Pt.slots] at X793 l793 y793 z793 st793 hQ793
  subst l793 y793 z793
  obtain ⟨rfl, Nq793, hh793⟩ := hQ793
  have N793 := Fr.app N786 Nq793
  have k794 : Rch p e below S0 T793 (mkF m 187 #[.val (.long p1), .second, .val (.long p2), .second, vI p3, vI 6, vR b729, vI c0, vI c1, vI c2, vI c3, vI c4, vI c5, vI c6, vI 0, vU] [(.int (own_stI (0 : Int32) (kc c5)))]) := fun t h => k792 t (st793 t h)
  obtain ⟨lo793, Y793, M793⟩ : ∃ lo, Stand p l e room_1 (s.setVm s.vm) m #[(.long p1), (.long p2), (.int p3)] below meth c T793 lo 1 6 ∧ Fr n0 lo := ⟨_, X793, N793⟩
  clear X793 N793
  obtain ⟨sv5, hsv5⟩ : ∃ z : Int32, z = own_stI (0 : Int32) (kc c5) := ⟨_, rfl⟩
  rw [← hsv5] at k794
  have k795 : Rch p e below S0 T793 (mkF m 199 #[.val (.long p1), .second, .val (.long p2), .second, vI p3, vI 6, vR b729, vI c0, vI c1, vI c2, vI c3, vI c4, vI c5, vI c6, vI sv5, vU] [(.int c4), (.int sv5)]) := fun t h => k794 t (by
      show Steps p.tables e below (T793.setTop (mkF m 187 #[.val (.long p1), .second, .val (.long p2), .second, vI p3, vI 6, vR b729, vI c0, vI c1, vI c2, vI c3, vI c4, vI c5, vI c6, vI 0, vU] [(.int sv5)])) _
      refine XS.istore Y793.here hx rfl (hb hby at_187) rfl (l' := #[.val (.long p1), .second, .val (.long p2), .second, vI p3, vI 6, vR b729, vI c0, vI c1, vI c2, vI c3, vI c4, vI c5, vI c6, vI sv5, vU]) rfl ?_
      refine XS.iload Y793.here hx rfl (hb hby at_189) rfl ?_
      refine XS.iconst Y793.here hx rfl (hb hby at_191) ?_
      refine XS.icmpNo Y793.here hx rfl (hb hby at_192) rfl (tlt (by decide : (4 : Int32) < (6 : Int32))).2.2.2 ?_
      refine XS.iload Y793.here hx rfl (hb hby at_195) rfl ?_
      refine XS.iload Y793.here hx rfl (hb hby at_197) rfl ?_
      exact h)
  obtain ⟨_, _, ⟨T796, L796, kk796, n796⟩, -, X796, ⟨Lc796, hQ796, l796, y796, z796⟩, st796⟩ := Jvm.LawKit.callS Y793 hx (y := (⟨"com/example/nuthatch/nuthatch/EntryNameIsMemberPinLaw", "step", "(IC)I"⟩ : MethodName)) hown (mvT hZ (hw _ (gm 71 rfl))) (mvT hZ (hw _ (gm 72 rfl))) (mvT hZ (hw _ (gm 3 rfl))) (mvT hZ (hw _ (gm 73 rfl))) (by decide) (backOf (W := 0) (rmST l Z a0 hw [] sv5 c4  h786 n0 O790 ) hZ (hw _ (gm 73 rfl)) (hw _ (gm 3 rfl)) (by decide) (by decide)) (g := (mkF m 199 #[.val (.long p1), .second, .val (.long p2), .second, vI p3, vI 6, vR b729, vI c0, vI c1, vI c2, vI c3, vI c4, vI c5, vI c6, vI sv5, vU] [(.int c4), (.int sv5)])) rfl (by rw [hml]; rfl) (argsL := [(.int sv5), (.int c4)]) (rest := []) (lenOf pd_13 rfl) rfl (by show 2 * 0 + _ ≤ _; exact Nat.le_of_eq rfl) (hb hby at_199) (fun _ _ => ⟨rfl, hh793, (by decide : 1 + 0 ≤ _), (by decide : 6 + 0 ≤ _)⟩)
  dsimp only [Pt.U, Pt.locs, Pt.cells, Pt.slots] at X796 l796 y796 z796 st796 hQ796
  subst l796 y796 z796
  obtain ⟨rfl, Nq796, hh796⟩ := hQ796
  have N796 := Fr.app M793 Nq796
  have k797 : Rch p e below S0 T796 (mkF m 202 #[.val (.long p1), .second, .val (.long p2), .second, vI p3, vI 6, vR b729, vI c0, vI c1, vI c2, vI c3, vI c4, vI c5, vI c6, vI sv5, vU] [(.int (own_stI sv5 (kc c4)))]) := fun t h => k795 t (st796 t h)
  obtain ⟨lo796, Y796, M796⟩ : ∃ lo, Stand p l e room_1 (s.setVm s.vm) m #[(.long p1), (.long p2), (.int p3)] below meth c T796 lo 1 6 ∧ Fr n0 lo := ⟨_, X796, N796⟩
  clear X796 N796
  obtain ⟨sv4, hsv4⟩ : ∃ z : Int32, z = own_stI sv5 (kc c4) := ⟨_, rfl⟩
  rw [← hsv4] at k797
  have k798 : Rch p e below S0 T796 (mkF m 214 #[.val (.long p1), .second, .val (.long p2), .second, vI p3, vI 6, vR b729, vI c0, vI c1, vI c2, vI c3, vI c4, vI c5, vI c6, vI sv4, vU] [(.int c3), (.int sv4)]) := fun t h => k797 t (by
      show Steps p.tables e below (T796.setTop (mkF m 202 #[.val (.long p1), .second, .val (.long p2), .second, vI p3, vI 6, vR b729, vI c0, vI c1, vI c2, vI c3, vI c4, vI c5, vI c6, vI sv5, vU] [(.int sv4)])) _
      refine XS.istore Y796.here hx rfl (hb hby at_202) rfl (l' := #[.val (.long p1), .second, .val (.long p2), .second, vI p3, vI 6, vR b729, vI c0, vI c1, vI c2, vI c3, vI c4, vI c5, vI c6, vI sv4, vU]) rfl ?_
      refine XS.iload Y796.here hx rfl (hb hby at_204) rfl ?_
      refine XS.iconst Y796.here hx rfl (hb hby at_206) ?_
      refine XS.icmpNo Y796.here hx rfl (hb hby at_207) rfl (tlt (by decide : (3 : Int32) < (6 : Int32))).2.2.2 ?_
      refine XS.iload Y796.here hx rfl (hb hby at_210) rfl ?_
      refine XS.iload Y796.here hx rfl (hb hby at_212) rfl ?_
      exact h)
  obtain ⟨_, _, ⟨T799, L799, kk799, n799⟩, -, X799, ⟨Lc799, hQ799, l799, y799, z799⟩, st799⟩ := Jvm.LawKit.callS Y796 hx (y := (⟨"com/example/nuthatch/nuthatch/EntryNameIsMemberPinLaw", "step", "(IC)I"⟩ : MethodName)) hown (mvT hZ (hw _ (gm 71 rfl))) (mvT hZ (hw _ (gm 72 rfl))) (mvT hZ (hw _ (gm 3 rfl))) (mvT hZ (hw _ (gm 73 rfl))) (by decide) (backOf (W := 0) (rmST l Z a0 hw [] sv4 c3  h786 n0 O790 ) hZ (hw _ (gm 73 rfl)) (hw _ (gm 3 rfl)) (by decide) (by decide)) (g := (mkF m 214 #[.val (.long p1), .second, .val (.long p2), .second, vI p3, vI 6, vR b729, vI c0, vI c1, vI c2, vI c3, vI c4, vI c5, vI c6, vI sv4, vU] [(.int c3), (.int sv4)])) rfl (by rw [hml]; rfl) (argsL := [(.int sv4), (.int c3)]) (rest := []) (lenOf pd_13 rfl) rfl (by show 2 * 0 + _ ≤ _; exact Nat.le_of_eq rfl) (hb hby at_214) (fun _ _ => ⟨rfl, hh796, (by decide : 1 + 0 ≤ _), (by decide : 6 + 0 ≤ _)⟩)
  dsimp only [Pt.U, Pt.locs, Pt.cells, Pt.slots] at X799 l799 y799 z799 st799 hQ799
  subst l799 y799 z799
  obtain ⟨rfl, Nq799, hh799⟩ := hQ799
  have N799 := Fr.app M796 Nq799
  have k800 : Rch p e below S0 T799 (mkF m 217 #[.val (.long p1), .second, .val (.long p2), .second, vI p3, vI 6, vR b729, vI c0, vI c1, vI c2, vI c3, vI c4, vI c5, vI c6, vI sv4, vU] [(.int (own_stI sv4 (kc c3)))]) := fun t h => k798 t (st799 t h)
  obtain ⟨lo799, Y799, M799⟩ : ∃ lo, Stand p l e room_1 (s.setVm s.vm) m #[(.long p1), (.long p2), (.int p3)] below meth c T799 lo 1 6 ∧ Fr n0 lo := ⟨_, X799, N799⟩
  clear X799 N799
  obtain ⟨sv3, hsv3⟩ : ∃ z : Int32, z = own_stI sv4 (kc c3) := ⟨_, rfl⟩
  rw [← hsv3] at k800
  have k801 : Rch p e below S0 T799 (mkF m 229 #[.val (.long p1), .second, .val (.long p2), .second, vI p3, vI 6, vR b729, vI c0, vI c1, vI c2, vI c3, vI c4, vI c5, vI c6, vI sv3, vU] [(.int c2), (.int sv3)]) := fun t h => k800 t (by
      show Steps p.tables e below (T799.setTop (mkF m 217 #[.val (.long p1), .second, .val (.long p2), .second, vI p3, vI 6, vR b729, vI c0, vI c1, vI c2, vI c3, vI c4, vI c5, vI c6, vI sv4, vU] [(.int sv3)])) _
      refine XS.istore Y799.here hx rfl (hb hby at_217) rfl (l' := #[.val (.long p1), .second, .val (.long p2), .second, vI p3, vI 6, vR b729, vI c0, vI c1, vI c2, vI c3, vI c4, vI c5, vI c6, vI sv3, vU]) rfl ?_
      refine XS.iload Y799.here hx rfl (hb hby at_219) rfl ?_
      refine XS.iconst Y799.here hx rfl (hb hby at_221) ?_
      refine XS.icmpNo Y799.here hx rfl (hb hby at_222) rfl (tlt (by decide : (2 : Int32) < (6 : Int32))).2.2.2 ?_
      refine XS.iload Y799.here hx rfl (hb hby at_225) rfl ?_
      refine XS.iload Y799.here hx rfl (hb hby at_227) rfl ?_
      exact h)
  obtain ⟨_, _, ⟨T802, L802, kk802, n802⟩, -, X802, ⟨Lc802, hQ802, l802, y802, z802⟩, st802⟩ := Jvm.LawKit.callS Y799 hx (y := (⟨"com/example/nuthatch/nuthatch/EntryNameIsMemberPinLaw", "step", "(IC)I"⟩ : MethodName)) hown (mvT hZ (hw _ (gm 71 rfl))) (mvT hZ (hw _ (gm 72 rfl))) (mvT hZ (hw _ (gm 3 rfl))) (mvT hZ (hw _ (gm 73 rfl))) (by decide) (backOf (W := 0) (rmST l Z a0 hw [] sv3 c2  h786 n0 O790 ) hZ (hw _ (gm 73 rfl)) (hw _ (gm 3 rfl)) (by decide) (by decide)) (g := (mkF m 229 #[.val (.long p1), .second, .val (.long p2), .second, vI p3, vI 6, vR b729, vI c0, vI c1, vI c2, vI c3, vI c4, vI c5, vI c6, vI sv3, vU] [(.int c2), (.int sv3)])) rfl (by rw [hml]; rfl) (argsL := [(.int sv3), (.int c2)]) (rest := []) (lenOf pd_13 rfl) rfl (by show 2 * 0 + _ ≤ _; exact Nat.le_of_eq rfl) (hb hby at_229) (fun _ _ => ⟨rfl, hh799, (by decide : 1 + 0 ≤ _), (by decide : 6 + 0 ≤ _)⟩)
  dsimp only [Pt.U, Pt.locs, Pt.cells, Pt.slots] at X802 l802 y802 z802 st802 hQ802
  subst l802 y802 z802
  obtain ⟨rfl, Nq802, hh802⟩ := hQ802
  have N802 := Fr.app M799 Nq802
  have k803 : Rch p e below S0 T802 (mkF m 232 #[.val (.long p1), .second, .val (.long p2), .second, vI p3, vI 6, vR b729, vI c0, vI c1, vI c2, vI c3, vI c4, vI c5, vI c6, vI sv3, vU] [(.int (own_stI sv3 (kc c2)))]) := fun t h => k801 t (st802 t h)
  obtain ⟨lo802, Y802, M802⟩ : ∃ lo, Stand p l e room_1 (s.setVm s.vm) m #[(.long p1), (.long p2), (.int p3)] below meth c T802 lo 1 6 ∧ Fr n0 lo := ⟨_, X802, N802⟩
  clear X802 N802
  obtain ⟨sv2, hsv2⟩ : ∃ z : Int32, z = own_stI sv3 (kc c2) := ⟨_, rfl⟩
  rw [← hsv2] at k803
  have k804 : Rch p e below S0 T802 (mkF m 244 #[.val (.long p1), .second, .val (.long p2), .second, vI p3, vI 6, vR b729, vI c0, vI c1, vI c2, vI c3, vI c4, vI c5, vI c6, vI sv2, vU] [(.int c1), (.int sv2)]) := fun t h => k803 t (by
      show Steps p.tables e below (T802.setTop (mkF m 232 #[.val (.long p1), .second, .val (.long p2), .second, vI p3, vI 6, vR b729, vI c0, vI c1, vI c2, vI c3, vI c4, vI c5, vI c6, vI sv3, vU] [(.int sv2)])) _
      refine XS.istore Y802.here hx rfl (hb hby at_232) rfl (l' := #[.val (.long p1), .second, .val (.long p2), .second, vI p3, vI 6, vR b729, vI c0, vI c1, vI c2, vI c3, vI c4, vI c5, vI c6, vI sv2, vU]) rfl ?_
      refine XS.iload Y802.here hx rfl (hb hby at_234) rfl ?_
      refine XS.iconst Y802.here hx rfl (hb hby at_236) ?_
      refine XS.icmpNo Y802.here hx rfl (hb hby at_237) rfl (tlt (by decide : (1 : Int32) < (6 : Int32))).2.2.2 ?_
      refine XS.iload Y802.here hx rfl (hb hby at_240) rfl ?_
      refine XS.iload Y802.here hx rfl (hb hby at_242) rfl ?_
      exact h)
  obtain ⟨_, _, ⟨T805, L805, kk805, n805⟩, -, X805, ⟨Lc805, hQ805, l805, y805, z805⟩, st805⟩ := Jvm.LawKit.callS Y802 hx (y := (⟨"com/example/nuthatch/nuthatch/EntryNameIsMemberPinLaw", "step", "(IC)I"⟩ : MethodName)) hown (mvT hZ (hw _ (gm 71 rfl))) (mvT hZ (hw _ (gm 72 rfl))) (mvT hZ (hw _ (gm 3 rfl))) (mvT hZ (hw _ (gm 73 rfl))) (by decide) (backOf (W := 0) (rmST l Z a0 hw [] sv2 c1  h786 n0 O790 ) hZ (hw _ (gm 73 rfl)) (hw _ (gm 3 rfl)) (by decide) (by decide)) (g := (mkF m 244 #[.val (.long p1), .second, .val (.long p2), .second, vI p3, vI 6, vR b729, vI c0, vI c1, vI c2, vI c3, vI c4, vI c5, vI c6, vI sv2, vU] [(.int c1), (.int sv2)])) rfl (by rw [hml]; rfl) (argsL := [(.int sv2), (.int c1)]) (rest := []) (lenOf pd_13 rfl) rfl (by show 2 * 0 + _ ≤ _; exact Nat.le_of_eq rfl) (hb hby at_244) (fun _ _ => ⟨rfl, hh802, (by decide : 1 + 0 ≤ _), (by decide : 6 + 0 ≤ _)⟩)
  dsimp only [Pt.U, Pt.locs, Pt.cells, Pt.slots] at X805 l805 y805 z805 st805 hQ805
  subst l805 y805 z805
  obtain ⟨rfl, Nq805, hh805⟩ := hQ805
  have N805 := Fr.app M802 Nq805
  have k806 : Rch p e below S0 T805 (mkF m 247 #[.val (.long p1), .second, .val (.long p2), .second, vI p3, vI 6, vR b729, vI c0, vI c1, vI c2, vI c3, vI c4, vI c5, vI c6, vI sv2, vU] [(.int (own_stI sv2 (kc c1)))]) := fun t h => k804 t (st805 t h)
  obtain ⟨lo805, Y805, M805⟩ : ∃ lo, Stand p l e room_1 (s.setVm s.vm) m #[(.long p1), (.long p2), (.int p3)] below meth c T805 lo 1 6 ∧ Fr n0 lo := ⟨_, X805, N805⟩
  clear X805 N805
  obtain ⟨sv1, hsv1⟩ : ∃ z : Int32, z = own_stI sv2 (kc c1) := ⟨_, rfl⟩
  rw [← hsv1] at k806
  have k807 : Rch p e below S0 T805 (mkF m 258 #[.val (.long p1), .second, .val (.long p2), .second, vI p3, vI 6, vR b729, vI c0, vI c1, vI c2, vI c3, vI c4, vI c5, vI c6, vI sv1, vU] [(.int c0), (.int sv1)]) := fun t h => k806 t (by
      show Steps p.tables e below (T805.setTop (mkF m 247 #[.val (.long p1), .second, .val (.long p2), .second, vI p3, vI 6, vR b729, vI c0, vI c1, vI c2, vI c3, vI c4, vI c5, vI c6, vI sv2, vU] [(.int sv1)])) _
      refine XS.istore Y805.here hx rfl (hb hby at_247) rfl (l' := #[.val (.long p1), .second, .val (.long p2), .second, vI p3, vI 6, vR b729, vI c0, vI c1, vI c2, vI c3, vI c4, vI c5, vI c6, vI sv1, vU]) rfl ?_
      refine XS.iload Y805.here hx rfl (hb hby at_249) rfl ?_
      refine XS.ifNo Y805.here hx rfl (hb hby at_251) rfl ((if0 _ _).trans (tlt (by decide : (0 : Int32) < (6 : Int32))).2.2.2) ?_
      refine XS.iload Y805.here hx rfl (hb hby at_254) rfl ?_
      refine XS.iload Y805.here hx rfl (hb hby at_256) rfl ?_
      exact h)
  obtain ⟨_, _, ⟨T808, L808, kk808, n808⟩, -, X808, ⟨Lc808, hQ808, l808, y808, z808⟩, st808⟩ := Jvm.LawKit.callS Y805 hx (y := (⟨"com/example/nuthatch/nuthatch/EntryNameIsMemberPinLaw", "step", "(IC)I"⟩ : MethodName)) hown (mvT hZ (hw _ (gm 71 rfl))) (mvT hZ (hw _ (gm 72 rfl))) (mvT hZ (hw _ (gm 3 rfl))) (mvT hZ (hw _ (gm 73 rfl))) (by decide) (backOf (W := 0) (rmST l Z a0 hw [] sv1 c0  h786 n0 O790 ) hZ (hw _ (gm 73 rfl)) (hw _ (gm 3 rfl)) (by decide) (by decide)) (g := (mkF m 258 #[.val (.long p1), .second, .val (.long p2), .second, vI p3, vI 6, vR b729, vI c0, vI c1, vI c2, vI c3, vI c4, vI c5, vI c6, vI sv1, vU] [(.int c0), (.int sv1)])) rfl (by rw [hml]; rfl) (argsL := [(.int sv1), (.int c0)]) (rest := []) (lenOf pd_13 rfl) rfl (by show 2 * 0 + _ ≤ _; exact Nat.le_of_eq rfl) (hb hby at_258) (fun _ _ => ⟨rfl, hh805, (by decide : 1 + 0 ≤ _), (by decide : 6 + 0 ≤ _)⟩)
  dsimp only [Pt.U, Pt.locs, Pt.cells, Pt.slots] at X808 l808 y808 z808 st808 hQ808
  subst l808 y808 z808
  obtain ⟨rfl, Nq808, hh808⟩ := hQ808
  have N808 := Fr.app M805 Nq808
  have k809 : Rch p e below S0 T808 (mkF m 261 #[.val (.long p1), .second, .val (.long p2), .second, vI p3, vI 6, vR b729, vI c0, vI c1, vI c2, vI c3, vI c4, vI c5, vI c6, vI sv1, vU] [(.int (own_stI sv1 (kc c0)))]) := fun t h => k807 t (st808 t h)
  obtain ⟨lo808, Y808, M808⟩ : ∃ lo, Stand p l e room_1 (s.setVm s.vm) m #[(.long p1), (.long p2), (.int p3)] below meth c T808 lo 1 6 ∧ Fr n0 lo := ⟨_, X808, N808⟩
  clear X808 N808
  obtain ⟨sv0, hsv0⟩ : ∃ z : Int32, z = own_stI sv1 (kc c0) := ⟨_, rfl⟩
  rw [← hsv0] at k809
  have k810 : Rch p e below S0 T808 (mkF m 263 #[.val (.long p1), .second, .val (.long p2), .second, vI p3, vI 6, vR b729, vI c0, vI c1, vI c2, vI c3, vI c4, vI c5, vI c6, vI sv0, vU] []) := fun t h => k809 t (by
      show Steps p.tables e below (T808.setTop (mkF m 261 #[.val (.long p1), .second, .val (.long p2), .second, vI p3, vI 6, vR b729, vI c0, vI c1, vI c2, vI c3, vI c4, vI c5, vI c6, vI sv1, vU] [(.int sv0)])) _
      refine XS.istore Y808.here hx rfl (hb hby at_261) rfl (l' := #[.val (.long p1), .second, .val (.long p2), .second, vI p3, vI 6, vR b729, vI c0, vI c1, vI c2, vI c3, vI c4, vI c5, vI c6, vI sv0, vU]) rfl ?_
      exact h)
  have hpc : ∀ c ∈ ([c0, c1, c2, c3, c4, c5] : List Int32), ¬ c < 0 ∧ ¬ (255 : Int32) < c := by
    intro c hc
    simp only [List.mem_cons, List.not_mem_nil, or_false] at hc
    rcases hc with rfl | rfl | rfl | rfl | rfl | rfl
    · exact hc0
    · exact hc1
    · exact hc2
    · exact hc3
    · exact hc4
    · exact hc5
  have hpl := own_plain (([c0, c1, c2, c3, c4, c5] : List Int32).map kc) 6 rfl (by decide) (fun y hy => by obtain ⟨c, -, rfl⟩ := List.mem_map.mp hy; exact kc_lt c)
  cases hM : own_mem (([c0, c1, c2, c3, c4, c5] : List Int32).map kc) 6 with
  | true =>
    have hF : sv0 = 4 := by
      have q := hpl.1 hM
      simp only [own_fsI, List.map_cons, List.map_nil, List.foldr_cons, List.foldr_nil] at q
      rw [hsv0, hsv1, hsv2, hsv3, hsv4, hsv5]; exact q
    clear hpl hsv0 hsv1 hsv2 hsv3 hsv4 hsv5
    have hbm : own_b (own_mem (([c0, c1, c2, c3, c4, c5] : List Int32).map kc) 6) = 1 := by rw [hM]; rfl
    clear hM
    have k811 : Rch p e below S0 T808 (mkF m 276 #[.val (.long p1), .second, .val (.long p2), .second, vI p3, vI 6, vR b729, vI c0, vI c1, vI c2, vI c3, vI c4, vI c5, vI c6, vI sv0, vI 1] []) := fun t h => k810 t (by
        show Steps p.tables e below (T808.setTop (mkF m 263 #[.val (.long p1), .second, .val (.long p2), .second, vI p3, vI 6, vR b729, vI c0, vI c1, vI c2, vI c3, vI c4, vI c5, vI c6, vI sv0, vU] [])) _
        refine XS.iload Y808.here hx rfl (hb hby at_263) rfl ?_
        refine XS.iconst Y808.here hx rfl (hb hby at_265) ?_
        refine XS.icmpNo Y808.here hx rfl (hb hby at_266) rfl (teq (hF : sv0 = (4 : Int32))).2 ?_
        refine XS.iconst Y808.here hx rfl (hb hby at_269) ?_
        refine XS.goto Y808.here hx rfl (pc0 := 270) (pc' := 274) rfl (hb hby at_270) (by decide) (by decide) ?_
        refine XS.istore Y808.here hx rfl (hb hby at_274) rfl (l' := #[.val (.long p1), .second, .val (.long p2), .second, vI p3, vI 6, vR b729, vI c0, vI c1, vI c2, vI c3, vI c4, vI c5, vI c6, vI sv0, vI 1]) rfl ?_
        exact h)
    clear hF
    obtain ⟨T812, h812, X812, e812, E812, A812, D812, -, st812⟩ := newO Y808 hx hZ hown (hw _ (gm 6 rfl)) (hw _ (gm 7 rfl)) (hw _ (gm 8 rfl)) hh808 (g := (mkF m 276 #[.val (.long p1), .second, .val (.long p2), .second, vI p3, vI 6, vR b729, vI c0, vI c1, vI c2, vI c3, vI c4, vI c5, vI c6, vI sv0, vI 1] [])) rfl (hb hby at_276) (by decide) (by decide)
    obtain ⟨b812, g812⟩ : ∃ z, z = h786.size := ⟨_, rfl⟩
    rw [← g812] at A812 D812 st812
    have k813 : Rch p e below S0 T812 (mkF m 279 #[.val (.long p1), .second, .val (.long p2), .second, vI p3, vI 6, vR b729, vI c0, vI c1, vI c2, vI c3, vI c4, vI c5, vI c6, vI sv0, vI 1] [(.ref b812)]) := fun t h => k811 t (st812 t h)
    have ne_b729_b812 : b729 ≠ b812 := own_ne V_b729.lt (Nat.le_of_eq g812.symm)
    have ge_b812 : n0 ≤ b812 := own_ge O790 (Nat.le_of_eq g812.symm)
    have sf_b812 : Safe Z consts_1 s.vm h786 b812 := Safe.new (Nat.le_of_eq g812.symm)
    replace sf_b729 := Safe.ext E812 hC789 sf_b729
    replace sf_b812 := Safe.ext E812 hC789 sf_b812
    have hC814 := hC789.ext E812
    have rC814 := rC789.trans (CHr.ext E812 hC789)
    have O815 := O790.ext E812
    replace V_b729 := V_b729.ext E812
    have hkk816 := Nat.le_trans hkk791 E812.1
    have E_b812 := A812
    have F_b812_value : Fld Z h812 b812 "java/lang/String" "value" "[B" .null := D812 (Or.inr (hw _ (gm 21 rfl))) (ty := (.array .byte)) (by decide)
    have F_b812_coder : Fld Z h812 b812 "java/lang/String" "coder" "B" (.int (0 : Int32)) := D812 (Or.inr (hw _ (gm 22 rfl))) (ty := .byte) (by decide)
    have k817 : Rch p e below S0 T812 (mkF m 282 #[.val (.long p1), .second, .val (.long p2), .second, vI p3, vI 6, vR b729, vI c0, vI c1, vI c2, vI c3, vI c4, vI c5, vI c6, vI sv0, vI 1] [(.ref b729), (.ref b812), (.ref b812)]) := fun t h => k813 t (by
        show Steps p.tables e below (T812.setTop (mkF m 279 #[.val (.long p1), .second, .val (.long p2), .second, vI p3, vI 6, vR b729, vI c0, vI c1, vI c2, vI c3, vI c4, vI c5, vI c6, vI sv0, vI 1] [(.ref b812)])) _
        refine XS.dup X812.here hx rfl (hb hby at_279) rfl rfl ?_
        refine XS.aload X812.here hx rfl (hb hby at_280) rfl rfl ?_
        exact h)
    have hws : ∀ d ∈ StrChars.Road.words, d.before a0 Z = true := fun d hd => hw d ((by decide +kernel : ∀ d ∈ StrChars.Road.words, d ∈ tables_1) d hd)
    have hp : ∀ c ∈ ([c0, c1, c2, c3, c4, c5] : List Int32), ¬ c < 0 ∧ ¬ (255 : Int32) < c := hpc
    obtain ⟨_, _, ⟨T818, L818, kk818, n818⟩, -, X818, ⟨Lc818, hQ818, l818, y818, z818⟩, st818⟩ := X812.specialBack hx (y := (⟨"java/lang/String", "<init>", "([C)V"⟩ : MethodName)) rfl hown (mvT hZ (hw _ (gm 9 rfl))) (mvT hZ (hw _ (gm 10 rfl))) (mvT hZ (hw _ (gm 11 rfl))) (by decide) (StrChars.Road.backV (W := 1) hZ hws (kI := 4) (hw _ (gm 7 rfl)) (cs := [c0, c1, c2, c3, c4, c5]) (bs := [c0, c1, c2, c3, c4, c5].map (fun c => c.toInt8.toInt32)) (n := 6) ge_b812 (own_le O815) E_b812 F_b812_value F_b812_coder V_b729 (SC.ext O815.2) hzC rfl rfl (by decide) (by decide) hp rfl (by decide) (by decide)) (g := (mkF m 282 #[.val (.long p1), .second, .val (.long p2), .second, vI p3, vI 6, vR b729, vI c0, vI c1, vI c2, vI c3, vI c4, vI c5, vI c6, vI sv0, vI 1] [(.ref b729), (.ref b812), (.ref b812)])) rfl (by rw [hml]; rfl) (Steps.refl _) (a := b812) (argsL := [(.ref b729)]) (rest := [(.ref b812)]) (lenOf pd_1 rfl) rfl (by show 2 * 0 + _ ≤ _; exact Nat.le_of_eq rfl) (hb hby at_282) (fun _ _ => ⟨rfl, e812, (by decide : 2 + 1 ≤ _), (by decide : 10 + 6 ≤ _)⟩)
    dsimp only [Pt.U, Pt.locs, Pt.cells, Pt.slots] at X818 l818 y818 z818 st818 hQ818
    subst l818 y818 z818
    obtain ⟨rfl, Nq818, K818, Eb818, Cb818, t818, kb818, u818, v818, ww818, Vb818, Ab818⟩ := hQ818
    have N818 := Fr.app M808 Nq818
    have k819 : Rch p e below S0 T818 (mkF m 285 #[.val (.long p1), .second, .val (.long p2), .second, vI p3, vI 6, vR b729, vI c0, vI c1, vI c2, vI c3, vI c4, vI c5, vI c6, vI sv0, vI 1] [(.ref b812)]) := fun t h => k817 t (st818.trans h)
    have hC820 := hC814.keep K818 (sfS sf_b812 sf0)
    have rC820 := rC814.trans (CHr.keep K818 (sfS sf_b812 sf0) hC814)
    have sfx821 := (sfS sf_b812 sf0)
    replace sf_b729 := Safe.keep K818 sfx821 hC814 sf_b729
    replace sf_b812 := Safe.keep K818 sfx821 hC814 sf_b812
    have O822 := O815.keep K818 (allS ge_b812 all0)
    replace V_b729 := V_b729.keep K818 (ninS ne_b729_b812 nin0)
    replace E_b812 := E_b812.keep K818
    have hkk823 := Nat.le_trans hkk816 K818.1
    obtain ⟨_, _, ⟨T824, L824, kk824, n824⟩, -, X824, ⟨Lc824, hQ824, l824, y824, z824⟩, st824⟩ := Jvm.LawKit.callS X818 hx (y := (⟨"com/example/nuthatch/nuthatch/EntryName", "isMember", "(Ljava/lang/String;)Z"⟩ : MethodName)) hown (mvT hZ (hw _ (gm 27 rfl))) (mvT hZ (hw _ (gm 28 rfl))) (mvT hZ (hw _ (gm 29 rfl))) (mvT hZ (hw _ (gm 30 rfl))) (by decide) (backOf (W := 0) (rmIM l Z a0 hw []  b812 t818 kb818 6 [c0, c1, c2, c3, c4, c5] zC fm T818.heap n0 O822 SC hzC Eb818 Vb818 Cb818 Ab818 rfl (by decide) hpc SP hfm) hZ (hw _ (gm 30 rfl)) (hw _ (gm 29 rfl)) (by decide) (by decide)) (g := (mkF m 285 #[.val (.long p1), .second, .val (.long p2), .second, vI p3, vI 6, vR b729, vI c0, vI c1, vI c2, vI c3, vI c4, vI c5, vI c6, vI sv0, vI 1] [(.ref b812)])) rfl (by rw [hml]; rfl) (argsL := [(.ref b812)]) (rest := []) (lenOf pd_4 rfl) rfl (by show 2 * 0 + _ ≤ _; exact Nat.le_of_eq rfl) (hb hby at_285) (fun _ _ => ⟨rfl, rfl, (by decide : 3 + 0 ≤ _), (by decide : 16 + 0 ≤ _)⟩)
    dsimp only [Pt.U, Pt.locs, Pt.cells, Pt.slots] at X824 l824 y824 z824 st824 hQ824
    subst l824 y824 z824
    obtain ⟨rfl, Nq824, hh824⟩ := hQ824
    have N824 := Fr.app N818 Nq824
    have k825 : Rch p e below S0 T824 (mkF m 288 #[.val (.long p1), .second, .val (.long p2), .second, vI p3, vI 6, vR b729, vI c0, vI c1, vI c2, vI c3, vI c4, vI c5, vI c6, vI sv0, vI 1] [(.int (1 : Int32))]) := fun t h => k819 t (st824 t (by rw [hbm]; exact h))
    obtain ⟨lo824, Y824, M824⟩ : ∃ lo, Stand p l e room_1 (s.setVm s.vm) m #[(.long p1), (.long p2), (.int p3)] below meth c T824 lo 3 16 ∧ Fr n0 lo := ⟨_, X824, N824⟩
    clear X824 N824
    clear hbm
    have k826 : Rch p e below S0 T824 (mkF m 298 #[.val (.long p1), .second, .val (.long p2), .second, vI p3, vI 6, vR b729, vI c0, vI c1, vI c2, vI c3, vI c4, vI c5, vI c6, vI sv0, vI 1] [(.int (1 : Int32))]) := fun t h => k825 t (by
        show Steps p.tables e below (T824.setTop (mkF m 288 #[.val (.long p1), .second, .val (.long p2), .second, vI p3, vI 6, vR b729, vI c0, vI c1, vI c2, vI c3, vI c4, vI c5, vI c6, vI sv0, vI 1] [(.int (1 : Int32))])) _
        refine XS.iload Y824.here hx rfl (hb hby at_288) rfl ?_
        refine XS.icmpNo Y824.here hx rfl (hb hby at_290) rfl (teq (by decide : (1 : Int32) = (1 : Int32))).2 ?_
        refine XS.iconst Y824.here hx rfl (hb hby at_293) ?_
        refine XS.goto Y824.here hx rfl (pc0 := 294) (pc' := 298) rfl (hb hby at_294) (by decide) (by decide) ?_
        show Steps p.tables e below (T824.setTop (mkF m 298 #[.val (.long p1), .second, .val (.long p2), .second, vI p3, vI 6, vR b729, vI c0, vI c1, vI c2, vI c3, vI c4, vI c5, vI c6, vI sv0, vI 1] [(.int (1 : Int32))])) _
        exact h)
    obtain ⟨fs, hr, hrun, hended, hfin⟩ := Y824.leaveW hS (by rw [hh824]; exact hkk823) (v := (some (.int (1 : Int32)))) (fun h => by rw [Bd.returns] at h; cases h)
    refine ⟨_, _, ?_, hrun, hended, _, _, rfl, ?_, (by rw [hh]; have q := own_chr rC820 (CHv.at Y824 hZ hEL hC820) hh824; exact q), hfin.1, hfin.2.1, hfin.2.2.1, hfin.2.2.2.mono (by decide) (by decide)⟩
    · rw [← hS0]
      refine k826 _ ?_
      show Steps p.tables e below (T824.setTop (mkF m 298 #[.val (.long p1), .second, .val (.long p2), .second, vI p3, vI 6, vR b729, vI c0, vI c1, vI c2, vI c3, vI c4, vI c5, vI c6, vI sv0, vI 1] [(.int (1 : Int32))])) _
      exact retN Y824 hx (t := .boolean) Bd.returns (by simp) (hb hby at_298) hr
    · show Q_rm0_6 Z  h0 n0 _ T824.heap _
      rw [hh824]
      exact ⟨rfl, M824⟩
  | false =>
    have hF : ¬ sv0 = 4 := by
      have q := hpl.2 hM
      simp only [own_fsI, List.map_cons, List.map_nil, List.foldr_cons, List.foldr_nil] at q
      rw [hsv0, hsv1, hsv2, hsv3, hsv4, hsv5]; exact q
    clear hpl hsv0 hsv1 hsv2 hsv3 hsv4 hsv5
    have hbm : own_b (own_mem (([c0, c1, c2, c3, c4, c5] : List Int32).map kc) 6) = 0 := by rw [hM]; rfl
    clear hM
    have k827 : Rch p e below S0 T808 (mkF m 276 #[.val (.long p1), .second, .val (.long p2), .second, vI p3, vI 6, vR b729, vI c0, vI c1, vI c2, vI c3, vI c4, vI c5, vI c6, vI sv0, vI 0] []) := fun t h => k810 t (by
        show Steps p.tables e below (T808.setTop (mkF m 263 #[.val (.long p1), .second, .val (.long p2), .second, vI p3, vI 6, vR b729, vI c0, vI c1, vI c2, vI c3, vI c4, vI c5, vI c6, vI sv0, vU] [])) _
        refine XS.iload Y808.here hx rfl (hb hby at_263) rfl ?_
        refine XS.iconst Y808.here hx rfl (hb hby at_265) ?_
        refine XS.icmpYes Y808.here hx rfl (pc0 := 266) (pc' := 273) rfl (hb hby at_266) rfl (feq (hF : ¬ (sv0 = (4 : Int32)))).2 (by decide) (by decide) ?_
        refine XS.iconst Y808.here hx rfl (hb hby at_273) ?_
        refine XS.istore Y808.here hx rfl (hb hby at_274) rfl (l' := #[.val (.long p1), .second, .val (.long p2), .second, vI p3, vI 6, vR b729, vI c0, vI c1, vI c2, vI c3, vI c4, vI c5, vI c6, vI sv0, vI 0]) rfl ?_
        exact h)
    clear hF
    obtain ⟨T828, h828, X828, e828, E828, A828, D828, -, st828⟩ := newO Y808 hx hZ hown (hw _ (gm 6 rfl)) (hw _ (gm 7 rfl)) (hw _ (gm 8 rfl)) hh808 (g := (mkF m 276 #[.val (.long p1), .second, .val (.long p2), .second, vI p3, vI 6, vR b729, vI c0, vI c1, vI c2, vI c3, vI c4, vI c5, vI c6, vI sv0, vI 0] [])) rfl (hb hby at_276) (by decide) (by decide)
    obtain ⟨b828, g828⟩ : ∃ z, z = h786.size := ⟨_, rfl⟩
    rw [← g828] at A828 D828 st828
    have k829 : Rch p e below S0 T828 (mkF m 279 #[.val (.long p1), .second, .val (.long p2), .second, vI p3, vI 6, vR b729, vI c0, vI c1, vI c2, vI c3, vI c4, vI c5, vI c6, vI sv0, vI 0] [(.ref b828)]) := fun t h => k827 t (st828 t h)
    have ne_b729_b828 : b729 ≠ b828 := own_ne V_b729.lt (Nat.le_of_eq g828.symm)
    have ge_b828 : n0 ≤ b828 := own_ge O790 (Nat.le_of_eq g828.symm)
    have sf_b828 : Safe Z consts_1 s.vm h786 b828 := Safe.new (Nat.le_of_eq g828.symm)
    replace sf_b729 := Safe.ext E828 hC789 sf_b729
    replace sf_b828 := Safe.ext E828 hC789 sf_b828
    have hC830 := hC789.ext E828
    have rC830 := rC789.trans (CHr.ext E828 hC789)
    have O831 := O790.ext E828
    replace V_b729 := V_b729.ext E828
    have hkk832 := Nat.le_trans hkk791 E828.1
    have E_b828 := A828
    have F_b828_value : Fld Z h828 b828 "java/lang/String" "value" "[B" .null := D828 (Or.inr (hw _ (gm 21 rfl))) (ty := (.array .byte)) (by decide)
    have F_b828_coder : Fld Z h828 b828 "java/lang/String" "coder" "B" (.int (0 : Int32)) := D828 (Or.inr (hw _ (gm 22 rfl))) (ty := .byte) (by decide)
    have k833 : Rch p e below S0 T828 (mkF m 282 #[.val (.long p1), .second, .val (.long p2), .second, vI p3, vI 6, vR b729, vI c0, vI c1, vI c2, vI c3, vI c4, vI c5, vI c6, vI sv0, vI 0] [(.ref b729), (.ref b828), (.ref b828)]) := fun t h => k829 t (by
        show Steps p.tables e below (T828.setTop (mkF m 279 #[.val (.long p1), .second, .val (.long p2), .second, vI p3, vI 6, vR b729, vI c0, vI c1, vI c2, vI c3, vI c4, vI c5, vI c6, vI sv0, vI 0] [(.ref b828)])) _
        refine XS.dup X828.here hx rfl (hb hby at_279) rfl rfl ?_
        refine XS.aload X828.here hx rfl (hb hby at_280) rfl rfl ?_
        exact h)
    have hws : ∀ d ∈ StrChars.Road.words, d.before a0 Z = true := fun d hd => hw d ((by decide +kernel : ∀ d ∈ StrChars.Road.words, d ∈ tables_1) d hd)
    have hp : ∀ c ∈ ([c0, c1, c2, c3, c4, c5] : List Int32), ¬ c < 0 ∧ ¬ (255 : Int32) < c := hpc
    obtain ⟨_, _, ⟨T834, L834, kk834, n834⟩, -, X834, ⟨Lc834, hQ834, l834, y834, z834⟩, st834⟩ := X828.specialBack hx (y := (⟨"java/lang/String", "<init>", "([C)V"⟩ : MethodName)) rfl hown (mvT hZ (hw _ (gm 9 rfl))) (mvT hZ (hw _ (gm 10 rfl))) (mvT hZ (hw _ (gm 11 rfl))) (by decide) (StrChars.Road.backV (W := 1) hZ hws (kI := 4) (hw _ (gm 7 rfl)) (cs := [c0, c1, c2, c3, c4, c5]) (bs := [c0, c1, c2, c3, c4, c5].map (fun c => c.toInt8.toInt32)) (n := 6) ge_b828 (own_le O831) E_b828 F_b828_value F_b828_coder V_b729 (SC.ext O831.2) hzC rfl rfl (by decide) (by decide) hp rfl (by decide) (by decide)) (g := (mkF m 282 #[.val (.long p1), .second, .val (.long p2), .second, vI p3, vI 6, vR b729, vI c0, vI c1, vI c2, vI c3, vI c4, vI c5, vI c6, vI sv0, vI 0] [(.ref b729), (.ref b828), (.ref b828)])) rfl (by rw [hml]; rfl) (Steps.refl _) (a := b828) (argsL := [(.ref b729)]) (rest := [(.ref b828)]) (lenOf pd_1 rfl) rfl (by show 2 * 0 + _ ≤ _; exact Nat.le_of_eq rfl) (hb hby at_282) (fun _ _ => ⟨rfl, e828, (by decide : 2 + 1 ≤ _), (by decide : 10 + 6 ≤ _)⟩)
    dsimp only [Pt.U, Pt.locs, Pt.cells, Pt.slots] at X834 l834 y834 z834 st834 hQ834
    subst l834 y834 z834
    obtain ⟨rfl, Nq834, K834, Eb834, Cb834, t834, kb834, u834, v834, ww834, Vb834, Ab834⟩ := hQ834
    have N834 := Fr.app M808 Nq834
    have k835 : Rch p e below S0 T834 (mkF m 285 #[.val (.long p1), .second, .val (.long p2), .second, vI p3, vI 6, vR b729, vI c0, vI c1, vI c2, vI c3, vI c4, vI c5, vI c6, vI sv0, vI 0] [(.ref b828)]) := fun t h => k833 t (st834.trans h)
    have hC836 := hC830.keep K834 (sfS sf_b828 sf0)
    have rC836 := rC830.trans (CHr.keep K834 (sfS sf_b828 sf0) hC830)
    have sfx837 := (sfS sf_b828 sf0)
    replace sf_b729 := Safe.keep K834 sfx837 hC830 sf_b729
    replace sf_b828 := Safe.keep K834 sfx837 hC830 sf_b828
    have O838 := O831.keep K834 (allS ge_b828 all0)
    replace V_b729 := V_b729.keep K834 (ninS ne_b729_b828 nin0)
    replace E_b828 := E_b828.keep K834
    have hkk839 := Nat.le_trans hkk832 K834.1
    obtain ⟨_, _, ⟨T840, L840, kk840, n840⟩, -, X840, ⟨Lc840, hQ840, l840, y840, z840⟩, st840⟩ := Jvm.LawKit.callS X834 hx (y := (⟨"com/example/nuthatch/nuthatch/EntryName", "isMember", "(Ljava/lang/String;)Z"⟩ : MethodName)) hown (mvT hZ (hw _ (gm 27 rfl))) (mvT hZ (hw _ (gm 28 rfl))) (mvT hZ (hw _ (gm 29 rfl))) (mvT hZ (hw _ (gm 30 rfl))) (by decide) (backOf (W := 0) (rmIM l Z a0 hw []  b828 t834 kb834 6 [c0, c1, c2, c3, c4, c5] zC fm T834.heap n0 O838 SC hzC Eb834 Vb834 Cb834 Ab834 rfl (by decide) hpc SP hfm) hZ (hw _ (gm 30 rfl)) (hw _ (gm 29 rfl)) (by decide) (by decide)) (g := (mkF m 285 #[.val (.long p1), .second, .val (.long p2), .second, vI p3, vI 6, vR b729, vI c0, vI c1, vI c2, vI c3, vI c4, vI c5, vI c6, vI sv0, vI 0] [(.ref b828)])) rfl (by rw [hml]; rfl) (argsL := [(.ref b828)]) (rest := []) (lenOf pd_4 rfl) rfl (by show 2 * 0 + _ ≤ _; exact Nat.le_of_eq rfl) (hb hby at_285) (fun _ _ => ⟨rfl, rfl, (by decide : 3 + 0 ≤ _), (by decide : 16 + 0 ≤ _)⟩)
    dsimp only [Pt.U, Pt.locs, Pt.cells, Pt.slots] at X840 l840 y840 z840 st840 hQ840
    subst l840 y840 z840
    obtain ⟨rfl, Nq840, hh840⟩ := hQ840
    have N840 := Fr.app N834 Nq840
    have k841 : Rch p e below S0 T840 (mkF m 288 #[.val (.long p1), .second, .val (.long p2), .second, vI p3, vI 6, vR b729, vI c0, vI c1, vI c2, vI c3, vI c4, vI c5, vI c6, vI sv0, vI 0] [(.int (0 : Int32))]) := fun t h => k835 t (st840 t (by rw [hbm]; exact h))
    obtain ⟨lo840, Y840, M840⟩ : ∃ lo, Stand p l e room_1 (s.setVm s.vm) m #[(.long p1), (.long p2), (.int p3)] below meth c T840 lo 3 16 ∧ Fr n0 lo := ⟨_, X840, N840⟩
    clear X840 N840
    clear hbm
    have k842 : Rch p e below S0 T840 (mkF m 298 #[.val (.long p1), .second, .val (.long p2), .second, vI p3, vI 6, vR b729, vI c0, vI c1, vI c2, vI c3, vI c4, vI c5, vI c6, vI sv0, vI 0] [(.int (1 : Int32))]) := fun t h => k841 t (by
        show Steps p.tables e below (T840.setTop (mkF m 288 #[.val (.long p1), .second, .val (.long p2), .second, vI p3, vI 6, vR b729, vI c0, vI c1, vI c2, vI c3, vI c4, vI c5, vI c6, vI sv0, vI 0] [(.int (0 : Int32))])) _
        refine XS.iload Y840.here hx rfl (hb hby at_288) rfl ?_
        refine XS.icmpNo Y840.here hx rfl (hb hby at_290) rfl (teq (by decide : (0 : Int32) = (0 : Int32))).2 ?_
        refine XS.iconst Y840.here hx rfl (hb hby at_293) ?_
        refine XS.goto Y840.here hx rfl (pc0 := 294) (pc' := 298) rfl (hb hby at_294) (by decide) (by decide) ?_
        exact h)
    obtain ⟨fs, hr, hrun, hended, hfin⟩ := Y840.leaveW hS (by rw [hh840]; exact hkk839) (v := (some (.int (1 : Int32)))) (fun h => by rw [Bd.returns] at h; cases h)
    refine ⟨_, _, ?_, hrun, hended, _, _, rfl, ?_, (by rw [hh]; have q := own_chr rC836 (CHv.at Y840 hZ hEL hC836) hh840; exact q), hfin.1, hfin.2.1, hfin.2.2.1, hfin.2.2.2.mono (by decide) (by decide)⟩
    · rw [← hS0]
      refine k842 _ ?_
      show Steps p.tables e below (T840.setTop (mkF m 298 #[.val (.long p1), .second, .val (.long p2), .second, vI p3, vI 6, vR b729, vI c0, vI c1, vI c2, vI c3, vI c4, vI c5, vI c6, vI sv0, vI 0] [(.int (1 : Int32))])) _
      exact retN Y840 hx (t := .boolean) Bd.returns (by simp) (hb hby at_298) hr
    · show Q_rm0_6 Z  h0 n0 _ T840.heap _
      rw [hh840]
      exact ⟨rfl, M840⟩
def Q_rm0_7 (Z : State)  (h0 : Heap) (n0 : Nat) (v : Option Value) (h : Heap) (L : List Loc) : Prop := v = some (.int (1 : Int32)) ∧ Fr n0 L
set_option maxRecDepth 65536 in
set_option maxHeartbeats 40000000 in
theorem rm0_7 (l : Launch) (Z : State) (a0 : Array Value) (hw : ∀ d ∈ tables_1, d.before a0 Z = true) (ws : List Jvm.Cond) (p1 : Int64) (p2 : Int64) (p3 : Int32) (zC : Int32) (fm : Value) (h0 : Heap) (n0 : Nat) (O0 : Old Z n0 h0) (SC : Sta Z Z.heap "java/lang/String" "COMPACT_STRINGS" "Z" (.int zC)) (hzC : ¬ zC = 0) (SP : Sta Z Z.heap "jdk/internal/util/Preconditions" "SIOOBE_FORMATTER" "Ljava/util/function/BiFunction;" fm) (hfm : fm = .null ∨ ∃ wP, fm = .ref wP) (hlen : p3 &&& 7 = (7 : Int32)) :
    MetFree l x (head1 (Jvm.Cond.code x code maxLocals ret :: ws) room_1) (fun a U => a = #[(.long p1), (.long p2), (.int p3)] ∧ Z.Warmed39 U.vm ∧ U.heap = h0 ∧ CHv Z consts_1 U.vm h0) (fun _ _ _ _ _ => True) (fun _ U o U' => ∃ v L, o = .returned v ∧ Q_rm0_7 Z  h0 n0 v U'.heap L ∧ CHr Z consts_1 U.vm U.heap U'.vm U'.heap ∧ ReturnedEndW U o U' L room_1.cells room_1.slots) := by
  refine MetFree.of_bodySF (plainFor_of_name pn_EntryNameIsMemberPinLaw) hisR ?_
  intro p e s m args below meth c s₁ Bd hml0 hP hK
  obtain ⟨rfl, hZ, hh, hC0⟩ := hP
  have hx := Bd.exec
  have hby := Bd.bytes
  have hml : c.maxLocals = 16 := hml0
  have hown : s.vm.findClass "com/example/nuthatch/nuthatch/EntryNameIsMemberPinLaw" = some m.cls := findClass_of_methodNamed Bd.named
  have hnm := (name_of_methodNamed Bd.named Bd.method).1
  have X0 : Stand p l e room_1 (s.setVm s.vm) m #[(.long p1), (.long p2), (.int p3)] below meth c s₁ [] 0 0 := Stand.of_body Bd
  have e0 : s₁.heap = h0 := by rw [← hh, Bd.state]; rfl
  have N0 := Fr.nil n0
  obtain ⟨S0, hS0⟩ : ∃ z, z = s₁.setTop (entryFrame m #[(.long p1), (.long p2), (.int p3)] maxLocals) := ⟨_, rfl⟩
  have k0 : Rch p e below S0 s₁ (mkF m 0 #[.val (.long p1), .second, .val (.long p2), .second, vI p3, vU, vU, vU, vU, vU, vU, vU, vU, vU, vU, vU] []) := fun t kq => hS0 ▸ castTop (ef_0 m p1 p2 p3) kq
  have hS : s.Since s.vm s.heap.size := (State.WarmedH.refl s).since _
  have hk : s.heap.size ≤ h0.size := by rw [← hh]; exact Nat.le_refl _
  have hwS : ∀ d ∈ Bundle.stringAtoms, d.before a0 Z = true := fun d hd => hw d ((by decide +kernel : ∀ d ∈ Bundle.stringAtoms, d ∈ tables_1) d hd)
  have rC0 : CHr Z consts_1 s.vm h0 s.vm h0 := CHr.refl hC0
  have hEL : EW Z a0 consts_1 := (EW.cons (hw _ (gm 19 rfl)) (by decide +kernel) EW.nil)
  have k844 : Rch p e below S0 s₁ (mkF m 9 #[.val (.long p1), .second, .val (.long p2), .second, vI p3, vI 7, vU, vU, vU, vU, vU, vU, vU, vU, vU, vU] [(.int (7 : Int32))]) := fun t h => k0 t (by
      show Steps p.tables e below (s₁.setTop (mkF m 0 #[.val (.long p1), .second, .val (.long p2), .second, vI p3, vU, vU, vU, vU, vU, vU, vU, vU, vU, vU, vU] [])) _
      refine XS.iload X0.here hx rfl (hb hby at_0) rfl ?_
      refine XS.bipush X0.here hx rfl (hb hby at_2) ?_
      show Steps p.tables e below (s₁.setTop (mkF m 4 #[.val (.long p1), .second, .val (.long p2), .second, vI p3, vU, vU, vU, vU, vU, vU, vU, vU, vU, vU, vU] [(.int (7 : Int32)), (.int p3)])) _
      refine XS.iand X0.here hx rfl (hb hby at_4) rfl ?_
      rw [hlen]
      refine XS.istore X0.here hx rfl (hb hby at_5) rfl (l' := #[.val (.long p1), .second, .val (.long p2), .second, vI p3, vI 7, vU, vU, vU, vU, vU, vU, vU, vU, vU, vU]) rfl ?_
      refine XS.iload X0.here hx rfl (hb hby at_7) rfl ?_
      exact h)
  obtain ⟨T843, h843, k843, X843, e843, E843, A843, st843⟩ := newP X0 hx hZ (hw _ (gm 0 rfl)) e0 (g := (mkF m 9 #[.val (.long p1), .second, .val (.long p2), .second, vI p3, vI 7, vU, vU, vU, vU, vU, vU, vU, vU, vU, vU] [(.int (7 : Int32))])) rfl (hb hby at_9) rfl (by decide) (cap := 7) (by decide) (by decide) (by decide) (by decide)
  obtain ⟨b843, g843⟩ : ∃ z, z = h0.size := ⟨_, rfl⟩
  rw [← g843] at A843 st843
  have k845 : Rch p e below S0 T843 (mkF m 11 #[.val (.long p1), .second, .val (.long p2), .second, vI p3, vI 7, vU, vU, vU, vU, vU, vU, vU, vU, vU, vU] [(.ref b843)]) := fun t h => k844 t (st843 t h)
  have ge_b843 : n0 ≤ b843 := own_ge O0 (Nat.le_of_eq g843.symm)
  have sf_b843 : Safe Z consts_1 s.vm h0 b843 := Safe.new (Nat.le_of_eq g843.symm)
  replace sf_b843 := Safe.ext E843 hC0 sf_b843
  have hC846 := hC0.ext E843
  have rC846 := rC0.trans (CHr.ext E843 hC0)
  have O847 := O0.ext E843
  have hkk848 := Nat.le_trans hk E843.1
  have V_b843 : Arv Z h843 b843 k843 .char (7 : Int32) [(.int (0 : Int32)), (.int (0 : Int32)), (.int (0 : Int32)), (.int (0 : Int32)), (.int (0 : Int32)), (.int (0 : Int32)), (.int (0 : Int32))] (.int (0 : Int32)) := (Arv.new A843 (by decide)).pad (pad_rep [] (.int (0 : Int32)) 7)
  have k849 : Rch p e below S0 T843 (mkF m 14 #[.val (.long p1), .second, .val (.long p2), .second, vI p3, vI 7, vR b843, vU, vU, vU, vU, vU, vU, vU, vU, vU] [(.long p1)]) := fun t h => k845 t (by
      show Steps p.tables e below (T843.setTop (mkF m 11 #[.val (.long p1), .second, .val (.long p2), .second, vI p3, vI 7, vU, vU, vU, vU, vU, vU, vU, vU, vU, vU] [(.ref b843)])) _
      refine XS.astore X843.here hx rfl (hb hby at_11) rfl rfl (l' := #[.val (.long p1), .second, .val (.long p2), .second, vI p3, vI 7, vR b843, vU, vU, vU, vU, vU, vU, vU, vU, vU]) rfl ?_
      refine XS.lloadN X843.here hx rfl (hb hby at_13) rfl ?_
      exact h)
  obtain ⟨_, _, ⟨T850, L850, kk850, n850⟩, -, X850, ⟨Lc850, hQ850, l850, y850, z850⟩, st850⟩ := Jvm.LawKit.callS X843 hx (y := (⟨"com/example/nuthatch/nuthatch/EntryNameIsMemberPinLaw", "ch", "(J)C"⟩ : MethodName)) hown (mvT hZ (hw _ (gm 1 rfl))) (mvT hZ (hw _ (gm 2 rfl))) (mvT hZ (hw _ (gm 3 rfl))) (mvT hZ (hw _ (gm 4 rfl))) (by decide) (backOf (W := 0) (rmCh l Z a0 hw [] p1  h843 n0 O847 ) hZ (hw _ (gm 4 rfl)) (hw _ (gm 3 rfl)) (by decide) (by decide)) (g := (mkF m 14 #[.val (.long p1), .second, .val (.long p2), .second, vI p3, vI 7, vR b843, vU, vU, vU, vU, vU, vU, vU, vU, vU] [(.long p1)])) rfl (by rw [hml]; rfl) (argsL := [(.long p1)]) (rest := []) (lenOf pd_0 rfl) rfl (by show 2 * 0 + _ ≤ _; exact Nat.le_of_eq rfl) (hb hby at_14) (fun _ _ => ⟨rfl, e843, (by decide : 1 + 0 ≤ _), (by decide : 7 + 0 ≤ _)⟩)
  dsimp only [Pt.U, Pt.locs, Pt.cells, Pt.slots] at X850 l850 y850 z850 st850 hQ850
  subst l850 y850 z850
  obtain ⟨c0, rfl, Nq850, hh850, hc0⟩ := hQ850
  have N850 := Fr.app N0 Nq850
  have k851 : Rch p e below S0 T850 (mkF m 17 #[.val (.long p1), .second, .val (.long p2), .second, vI p3, vI 7, vR b843, vU, vU, vU, vU, vU, vU, vU, vU, vU] [(.int c0)]) := fun t h => k849 t (st850 t h)
  obtain ⟨lo850, Y850, M850⟩ : ∃ lo, Stand p l e room_1 (s.setVm s.vm) m #[(.long p1), (.long p2), (.int p3)] below meth c T850 lo 1 7 ∧ Fr n0 lo := ⟨_, X850, N850⟩
  clear X850 N850
  have k852 : Rch p e below S0 T850 (mkF m 23 #[.val (.long p1), .second, .val (.long p2), .second, vI p3, vI 7, vR b843, vI c0, vU, vU, vU, vU, vU, vU, vU, vU] [(.long ((p1.toUInt64 >>> ((10 : Int32) &&& 0x3f).toInt64.toUInt64).toInt64))]) := fun t h => k851 t (by
      show Steps p.tables e below (T850.setTop (mkF m 17 #[.val (.long p1), .second, .val (.long p2), .second, vI p3, vI 7, vR b843, vU, vU, vU, vU, vU, vU, vU, vU, vU] [(.int c0)])) _
      refine XS.istore Y850.here hx rfl (hb hby at_17) rfl (l' := #[.val (.long p1), .second, .val (.long p2), .second, vI p3, vI 7, vR b843, vI c0, vU, vU, vU, vU, vU, vU, vU, vU]) rfl ?_
      refine XS.lloadN Y850.here hx rfl (hb hby at_19) rfl ?_
      refine XS.bipush Y850.here hx rfl (hb hby at_20) ?_
      refine XS.lushr Y850.here hx rfl (hb hby at_22) rfl ?_
      exact h)
  obtain ⟨_, _, ⟨T853, L853, kk853, n853⟩, -, X853, ⟨Lc853, hQ853, l853, y853, z853⟩, st853⟩ := Jvm.LawKit.callS Y850 hx (y := (⟨"com/example/nuthatch/nuthatch/EntryNameIsMemberPinLaw", "ch", "(J)C"⟩ : MethodName)) hown (mvT hZ (hw _ (gm 1 rfl))) (mvT hZ (hw _ (gm 2 rfl))) (mvT hZ (hw _ (gm 3 rfl))) (mvT hZ (hw _ (gm 4 rfl))) (by decide) (backOf (W := 0) (rmCh l Z a0 hw [] ((p1.toUInt64 >>> ((10 : Int32) &&& 0x3f).toInt64.toUInt64).toInt64)  h843 n0 O847 ) hZ (hw _ (gm 4 rfl)) (hw _ (gm 3 rfl)) (by decide) (by decide)) (g := (mkF m 23 #[.val (.long p1), .second, .val (.long p2), .second, vI p3, vI 7, vR b843, vI c0, vU, vU, vU, vU, vU, vU, vU, vU] [(.long ((p1.toUInt64 >>> ((10 : Int32) &&& 0x3f).toInt64.toUInt64).toInt64))])) rfl (by rw [hml]; rfl) (argsL := [(.long ((p1.toUInt64 >>> ((10 : Int32) &&& 0x3f).toInt64.toUInt64).toInt64))]) (rest := []) (lenOf pd_0 rfl) rfl (by show 2 * 0 + _ ≤ _; exact Nat.le_of_eq rfl) (hb hby at_23) (fun _ _ => ⟨rfl, hh850, (by decide : 1 + 0 ≤ _), (by decide : 7 + 0 ≤ _)⟩)
  dsimp only [Pt.U, Pt.locs, Pt.cells, Pt.slots] at X853 l853 y853 z853 st853 hQ853
  subst l853 y853 z853
  obtain ⟨c1, rfl, Nq853, hh853, hc1⟩ := hQ853
  have N853 := Fr.app M850 Nq853
  have k854 : Rch p e below S0 T853 (mkF m 26 #[.val (.long p1), .second, .val (.long p2), .second, vI p3, vI 7, vR b843, vI c0, vU, vU, vU, vU, vU, vU, vU, vU] [(.int c1)]) := fun t h => k852 t (st853 t h)
  obtain ⟨lo853, Y853, M853⟩ : ∃ lo, Stand p l e room_1 (s.setVm s.vm) m #[(.long p1), (.long p2), (.int p3)] below meth c T853 lo 1 7 ∧ Fr n0 lo := ⟨_, X853, N853⟩
  clear X853 N853
  have k855 : Rch p e below S0 T853 (mkF m 32 #[.val (.long p1), .second, .val (.long p2), .second, vI p3, vI 7, vR b843, vI c0, vI c1, vU, vU, vU, vU, vU, vU, vU] [(.long ((p1.toUInt64 >>> ((20 : Int32) &&& 0x3f).toInt64.toUInt64).toInt64))]) := fun t h => k854 t (by
      show Steps p.tables e below (T853.setTop (mkF m 26 #[.val (.long p1), .second, .val (.long p2), .second, vI p3, vI 7, vR b843, vI c0, vU, vU, vU, vU, vU, vU, vU, vU] [(.int c1)])) _
      refine XS.istore Y853.here hx rfl (hb hby at_26) rfl (l' := #[.val (.long p1), .second, .val (.long p2), .second, vI p3, vI 7, vR b843, vI c0, vI c1, vU, vU, vU, vU, vU, vU, vU]) rfl ?_
      refine XS.lloadN Y853.here hx rfl (hb hby at_28) rfl ?_
      refine XS.bipush Y853.here hx rfl (hb hby at_29) ?_
      refine XS.lushr Y853.here hx rfl (hb hby at_31) rfl ?_
      exact h)
  obtain ⟨_, _, ⟨T856, L856, kk856, n856⟩, -, X856, ⟨Lc856, hQ856, l856, y856, z856⟩, st856⟩ := Jvm.LawKit.callS Y853 hx (y := (⟨"com/example/nuthatch/nuthatch/EntryNameIsMemberPinLaw", "ch", "(J)C"⟩ : MethodName)) hown (mvT hZ (hw _ (gm 1 rfl))) (mvT hZ (hw _ (gm 2 rfl))) (mvT hZ (hw _ (gm 3 rfl))) (mvT hZ (hw _ (gm 4 rfl))) (by decide) (backOf (W := 0) (rmCh l Z a0 hw [] ((p1.toUInt64 >>> ((20 : Int32) &&& 0x3f).toInt64.toUInt64).toInt64)  h843 n0 O847 ) hZ (hw _ (gm 4 rfl)) (hw _ (gm 3 rfl)) (by decide) (by decide)) (g := (mkF m 32 #[.val (.long p1), .second, .val (.long p2), .second, vI p3, vI 7, vR b843, vI c0, vI c1, vU, vU, vU, vU, vU, vU, vU] [(.long ((p1.toUInt64 >>> ((20 : Int32) &&& 0x3f).toInt64.toUInt64).toInt64))])) rfl (by rw [hml]; rfl) (argsL := [(.long ((p1.toUInt64 >>> ((20 : Int32) &&& 0x3f).toInt64.toUInt64).toInt64))]) (rest := []) (lenOf pd_0 rfl) rfl (by show 2 * 0 + _ ≤ _; exact Nat.le_of_eq rfl) (hb hby at_32) (fun _ _ => ⟨rfl, hh853, (by decide : 1 + 0 ≤ _), (by decide : 7 + 0 ≤ _)⟩)
  dsimp only [Pt.U, Pt.locs, Pt.cells, Pt.slots] at X856 l856 y856 z856 st856 hQ856
  subst l856 y856 z856
  obtain ⟨c2, rfl, Nq856, hh856, hc2⟩ := hQ856
  have N856 := Fr.app M853 Nq856
  have k857 : Rch p e below S0 T856 (mkF m 35 #[.val (.long p1), .second, .val (.long p2), .second, vI p3, vI 7, vR b843, vI c0, vI c1, vU, vU, vU, vU, vU, vU, vU] [(.int c2)]) := fun t h => k855 t (st856 t h)
  obtain ⟨lo856, Y856, M856⟩ : ∃ lo, Stand p l e room_1 (s.setVm s.vm) m #[(.long p1), (.long p2), (.int p3)] below meth c T856 lo 1 7 ∧ Fr n0 lo := ⟨_, X856, N856⟩
  clear X856 N856
  have k858 : Rch p e below S0 T856 (mkF m 41 #[.val (.long p1), .second, .val (.long p2), .second, vI p3, vI 7, vR b843, vI c0, vI c1, vI c2, vU, vU, vU, vU, vU, vU] [(.long ((p1.toUInt64 >>> ((30 : Int32) &&& 0x3f).toInt64.toUInt64).toInt64))]) := fun t h => k857 t (by
      show Steps p.tables e below (T856.setTop (mkF m 35 #[.val (.long p1), .second, .val (.long p2), .second, vI p3, vI 7, vR b843, vI c0, vI c1, vU, vU, vU, vU, vU, vU, vU] [(.int c2)])) _
      refine XS.istore Y856.here hx rfl (hb hby at_35) rfl (l' := #[.val (.long p1), .second, .val (.long p2), .second, vI p3, vI 7, vR b843, vI c0, vI c1, vI c2, vU, vU, vU, vU, vU, vU]) rfl ?_
      refine XS.lloadN Y856.here hx rfl (hb hby at_37) rfl ?_
      refine XS.bipush Y856.here hx rfl (hb hby at_38) ?_
      refine XS.lushr Y856.here hx rfl (hb hby at_40) rfl ?_
      exact h)
  obtain ⟨_, _, ⟨T859, L859, kk859, n859⟩, -, X859, ⟨Lc859, hQ859, l859, y859, z859⟩, st859⟩ := Jvm.LawKit.callS Y856 hx (y := (⟨"com/example/nuthatch/nuthatch/EntryNameIsMemberPinLaw", "ch", "(J)C"⟩ : MethodName)) hown (mvT hZ (hw _ (gm 1 rfl))) (mvT hZ (hw _ (gm 2 rfl))) (mvT hZ (hw _ (gm 3 rfl))) (mvT hZ (hw _ (gm 4 rfl))) (by decide) (backOf (W := 0) (rmCh l Z a0 hw [] ((p1.toUInt64 >>> ((30 : Int32) &&& 0x3f).toInt64.toUInt64).toInt64)  h843 n0 O847 ) hZ (hw _ (gm 4 rfl)) (hw _ (gm 3 rfl)) (by decide) (by decide)) (g := (mkF m 41 #[.val (.long p1), .second, .val (.long p2), .second, vI p3, vI 7, vR b843, vI c0, vI c1, vI c2, vU, vU, vU, vU, vU, vU] [(.long ((p1.toUInt64 >>> ((30 : Int32) &&& 0x3f).toInt64.toUInt64).toInt64))])) rfl (by rw [hml]; rfl) (argsL := [(.long ((p1.toUInt64 >>> ((30 : Int32) &&& 0x3f).toInt64.toUInt64).toInt64))]) (rest := []) (lenOf pd_0 rfl) rfl (by show 2 * 0 + _ ≤ _; exact Nat.le_of_eq rfl) (hb hby at_41) (fun _ _ => ⟨rfl, hh856, (by decide : 1 + 0 ≤ _), (by decide : 7 + 0 ≤ _)⟩)
  dsimp only [Pt.U, Pt.locs, Pt.cells, Pt.slots] at X859 l859 y859 z859 st859 hQ859
  subst l859 y859 z859
  obtain ⟨c3, rfl, Nq859, hh859, hc3⟩ := hQ859
  have N859 := Fr.app M856 Nq859
  have k860 : Rch p e below S0 T859 (mkF m 44 #[.val (.long p1), .second, .val (.long p2), .second, vI p3, vI 7, vR b843, vI c0, vI c1, vI c2, vU, vU, vU, vU, vU, vU] [(.int c3)]) := fun t h => k858 t (st859 t h)
  obtain ⟨lo859, Y859, M859⟩ : ∃ lo, Stand p l e room_1 (s.setVm s.vm) m #[(.long p1), (.long p2), (.int p3)] below meth c T859 lo 1 7 ∧ Fr n0 lo := ⟨_, X859, N859⟩
  clear X859 N859
  have k861 : Rch p e below S0 T859 (mkF m 50 #[.val (.long p1), .second, .val (.long p2), .second, vI p3, vI 7, vR b843, vI c0, vI c1, vI c2, vI c3, vU, vU, vU, vU, vU] [(.long ((p1.toUInt64 >>> ((40 : Int32) &&& 0x3f).toInt64.toUInt64).toInt64))]) := fun t h => k860 t (by
      show Steps p.tables e below (T859.setTop (mkF m 44 #[.val (.long p1), .second, .val (.long p2), .second, vI p3, vI 7, vR b843, vI c0, vI c1, vI c2, vU, vU, vU, vU, vU, vU] [(.int c3)])) _
      refine XS.istore Y859.here hx rfl (hb hby at_44) rfl (l' := #[.val (.long p1), .second, .val (.long p2), .second, vI p3, vI 7, vR b843, vI c0, vI c1, vI c2, vI c3, vU, vU, vU, vU, vU]) rfl ?_
      refine XS.lloadN Y859.here hx rfl (hb hby at_46) rfl ?_
      refine XS.bipush Y859.here hx rfl (hb hby at_47) ?_
      refine XS.lushr Y859.here hx rfl (hb hby at_49) rfl ?_
      exact h)
  obtain ⟨_, _, ⟨T862, L862, kk862, n862⟩, -, X862, ⟨Lc862, hQ862, l862, y862, z862⟩, st862⟩ := Jvm.LawKit.callS Y859 hx (y := (⟨"com/example/nuthatch/nuthatch/EntryNameIsMemberPinLaw", "ch", "(J)C"⟩ : MethodName)) hown (mvT hZ (hw _ (gm 1 rfl))) (mvT hZ (hw _ (gm 2 rfl))) (mvT hZ (hw _ (gm 3 rfl))) (mvT hZ (hw _ (gm 4 rfl))) (by decide) (backOf (W := 0) (rmCh l Z a0 hw [] ((p1.toUInt64 >>> ((40 : Int32) &&& 0x3f).toInt64.toUInt64).toInt64)  h843 n0 O847 ) hZ (hw _ (gm 4 rfl)) (hw _ (gm 3 rfl)) (by decide) (by decide)) (g := (mkF m 50 #[.val (.long p1), .second, .val (.long p2), .second, vI p3, vI 7, vR b843, vI c0, vI c1, vI c2, vI c3, vU, vU, vU, vU, vU] [(.long ((p1.toUInt64 >>> ((40 : Int32) &&& 0x3f).toInt64.toUInt64).toInt64))])) rfl (by rw [hml]; rfl) (argsL := [(.long ((p1.toUInt64 >>> ((40 : Int32) &&& 0x3f).toInt64.toUInt64).toInt64))]) (rest := []) (lenOf pd_0 rfl) rfl (by show 2 * 0 + _ ≤ _; exact Nat.le_of_eq rfl) (hb hby at_50) (fun _ _ => ⟨rfl, hh859, (by decide : 1 + 0 ≤ _), (by decide : 7 + 0 ≤ _)⟩)
  dsimp only [Pt.U, Pt.locs, Pt.cells, Pt.slots] at X862 l862 y862 z862 st862 hQ862
  subst l862 y862 z862
  obtain ⟨c4, rfl, Nq862, hh862, hc4⟩ := hQ862
  have N862 := Fr.app M859 Nq862
  have k863 : Rch p e below S0 T862 (mkF m 53 #[.val (.long p1), .second, .val (.long p2), .second, vI p3, vI 7, vR b843, vI c0, vI c1, vI c2, vI c3, vU, vU, vU, vU, vU] [(.int c4)]) := fun t h => k861 t (st862 t h)
  obtain ⟨lo862, Y862, M862⟩ : ∃ lo, Stand p l e room_1 (s.setVm s.vm) m #[(.long p1), (.long p2), (.int p3)] below meth c T862 lo 1 7 ∧ Fr n0 lo := ⟨_, X862, N862⟩
  clear X862 N862
  have k864 : Rch p e below S0 T862 (mkF m 59 #[.val (.long p1), .second, .val (.long p2), .second, vI p3, vI 7, vR b843, vI c0, vI c1, vI c2, vI c3, vI c4, vU, vU, vU, vU] [(.long ((p1.toUInt64 >>> ((50 : Int32) &&& 0x3f).toInt64.toUInt64).toInt64))]) := fun t h => k863 t (by
      show Steps p.tables e below (T862.setTop (mkF m 53 #[.val (.long p1), .second, .val (.long p2), .second, vI p3, vI 7, vR b843, vI c0, vI c1, vI c2, vI c3, vU, vU, vU, vU, vU] [(.int c4)])) _
      refine XS.istore Y862.here hx rfl (hb hby at_53) rfl (l' := #[.val (.long p1), .second, .val (.long p2), .second, vI p3, vI 7, vR b843, vI c0, vI c1, vI c2, vI c3, vI c4, vU, vU, vU, vU]) rfl ?_
      refine XS.lloadN Y862.here hx rfl (hb hby at_55) rfl ?_
      refine XS.bipush Y862.here hx rfl (hb hby at_56) ?_
      refine XS.lushr Y862.here hx rfl (hb hby at_58) rfl ?_
      exact h)
  obtain ⟨_, _, ⟨T865, L865, kk865, n865⟩, -, X865, ⟨Lc865, hQ865, l865, y865, z865⟩, st865⟩ := Jvm.LawKit.callS Y862 hx (y := (⟨"com/example/nuthatch/nuthatch/EntryNameIsMemberPinLaw", "ch", "(J)C"⟩ : MethodName)) hown (mvT hZ (hw _ (gm 1 rfl))) (mvT hZ (hw _ (gm 2 rfl))) (mvT hZ (hw _ (gm 3 rfl))) (mvT hZ (hw _ (gm 4 rfl))) (by decide) (backOf (W := 0) (rmCh l Z a0 hw [] ((p1.toUInt64 >>> ((50 : Int32) &&& 0x3f).toInt64.toUInt64).toInt64)  h843 n0 O847 ) hZ (hw _ (gm 4 rfl)) (hw _ (gm 3 rfl)) (by decide) (by decide)) (g := (mkF m 59 #[.val (.long p1), .second, .val (.long p2), .second, vI p3, vI 7, vR b843, vI c0, vI c1, vI c2, vI c3, vI c4, vU, vU, vU, vU] [(.long ((p1.toUInt64 >>> ((50 : Int32) &&& 0x3f).toInt64.toUInt64).toInt64))])) rfl (by rw [hml]; rfl) (argsL := [(.long ((p1.toUInt64 >>> ((50 : Int32) &&& 0x3f).toInt64.toUInt64).toInt64))]) (rest := []) (lenOf pd_0 rfl) rfl (by show 2 * 0 + _ ≤ _; exact Nat.le_of_eq rfl) (hb hby at_59) (fun _ _ => ⟨rfl, hh862, (by decide : 1 + 0 ≤ _), (by decide : 7 + 0 ≤ _)⟩)
  dsimp only [Pt.U, Pt.locs, Pt.cells, Pt.slots] at X865 l865 y865 z865 st865 hQ865
  subst l865 y865 z865
  obtain ⟨c5, rfl, Nq865, hh865, hc5⟩ := hQ865
  have N865 := Fr.app M862 Nq865
  have k866 : Rch p e below S0 T865 (mkF m 62 #[.val (.long p1), .second, .val (.long p2), .second, vI p3, vI 7, vR b843, vI c0, vI c1, vI c2, vI c3, vI c4, vU, vU, vU, vU] [(.int c5)]) := fun t h => k864 t (st865 t h)
  obtain ⟨lo865, Y865, M865⟩ : ∃ lo, Stand p l e room_1 (s.setVm s.vm) m #[(.long p1), (.long p2), (.int p3)] below meth c T865 lo 1 7 ∧ Fr n0 lo := ⟨_, X865, N865⟩
  clear X865 N865
  have k867 : Rch p e below S0 T865 (mkF m 65 #[.val (.long p1), .second, .val (.long p2), .second, vI p3, vI 7, vR b843, vI c0, vI c1, vI c2, vI c3, vI c4, vI c5, vU, vU, vU] [(.long p2)]) := fun t h => k866 t (by
      show Steps p.tables e below (T865.setTop (mkF m 62 #[.val (.long p1), .second, .val (.long p2), .second, vI p3, vI 7, vR b843, vI c0, vI c1, vI c2, vI c3, vI c4, vU, vU, vU, vU] [(.int c5)])) _
      refine XS.istore Y865.here hx rfl (hb hby at_62) rfl (l' := #[.val (.long p1), .second, .val (.long p2), .second, vI p3, vI 7, vR b843, vI c0, vI c1, vI c2, vI c3, vI c4, vI c5, vU, vU, vU]) rfl ?_
      refine XS.lloadN Y865.here hx rfl (hb hby at_64) rfl ?_
      exact h)
  obtain ⟨_, _, ⟨T868, L868, kk868, n868⟩, -, X868, ⟨Lc868, hQ868, l868, y868, z868⟩, st868⟩ := Jvm.LawKit.callS Y865 hx (y := (⟨"com/example/nuthatch/nuthatch/EntryNameIsMemberPinLaw", "ch", "(J)C"⟩ : MethodName)) hown (mvT hZ (hw _ (gm 1 rfl))) (mvT hZ (hw _ (gm 2 rfl))) (mvT hZ (hw _ (gm 3 rfl))) (mvT hZ (hw _ (gm 4 rfl))) (by decide) (backOf (W := 0) (rmCh l Z a0 hw [] p2  h843 n0 O847 ) hZ (hw _ (gm 4 rfl)) (hw _ (gm 3 rfl)) (by decide) (by decide)) (g := (mkF m 65 #[.val (.long p1), .second, .val (.long p2), .second, vI p3, vI 7, vR b843, vI c0, vI c1, vI c2, vI c3, vI c4, vI c5, vU, vU, vU] [(.long p2)])) rfl (by rw [hml]; rfl) (argsL := [(.long p2)]) (rest := []) (lenOf pd_0 rfl) rfl (by show 2 * 0 + _ ≤ _; exact Nat.le_of_eq rfl) (hb hby at_65) (fun _ _ => ⟨rfl, hh865, (by decide : 1 + 0 ≤ _), (by decide : 7 + 0 ≤ _)⟩)
  dsimp only [Pt.U, Pt.locs, Pt.cells, Pt.slots] at X868 l868 y868 z868 st868 hQ868
  subst l868 y868 z868
  obtain ⟨c6, rfl, Nq868, hh868, hc6⟩ := hQ868
  have N868 := Fr.app M865 Nq868
  have k869 : Rch p e below S0 T868 (mkF m 68 #[.val (.long p1), .second, .val (.long p2), .second, vI p3, vI 7, vR b843, vI c0, vI c1, vI c2, vI c3, vI c4, vI c5, vU, vU, vU] [(.int c6)]) := fun t h => k867 t (st868 t h)
  obtain ⟨lo868, Y868, M868⟩ : ∃ lo, Stand p l e room_1 (s.setVm s.vm) m #[(.long p1), (.long p2), (.int p3)] below meth c T868 lo 1 7 ∧ Fr n0 lo := ⟨_, X868, N868⟩
  clear X868 N868
  have k871 : Rch p e below S0 T868 (mkF m 80 #[.val (.long p1), .second, .val (.long p2), .second, vI p3, vI 7, vR b843, vI c0, vI c1, vI c2, vI c3, vI c4, vI c5, vI c6, vU, vU] [(.int c0), (.int (0 : Int32)), (.ref b843)]) := fun t h => k869 t (by
      show Steps p.tables e below (T868.setTop (mkF m 68 #[.val (.long p1), .second, .val (.long p2), .second, vI p3, vI 7, vR b843, vI c0, vI c1, vI c2, vI c3, vI c4, vI c5, vU, vU, vU] [(.int c6)])) _
      refine XS.istore Y868.here hx rfl (hb hby at_68) rfl (l' := #[.val (.long p1), .second, .val (.long p2), .second, vI p3, vI 7, vR b843, vI c0, vI c1, vI c2, vI c3, vI c4, vI c5, vI c6, vU, vU]) rfl ?_
      refine XS.iload Y868.here hx rfl (hb hby at_70) rfl ?_
      refine XS.ifNo Y868.here hx rfl (hb hby at_72) rfl ((if0 _ _).trans (tlt (by decide : (0 : Int32) < (7 : Int32))).2.2.2) ?_
      refine XS.aload Y868.here hx rfl (hb hby at_75) rfl rfl ?_
      refine XS.iconst Y868.here hx rfl (hb hby at_77) ?_
      refine XS.iload Y868.here hx rfl (hb hby at_78) rfl ?_
      exact h)
  obtain ⟨cl870, Ar870, q870, Sz870, Ng870, Hs870, G870⟩ := id V_b843
  have hin870 : ¬ ((0 : Int32) < 0 ∨ cl870.slots.size ≤ ((0 : Int32)).toNatClampNeg) := inb_of Sz870 ⟨by decide, by decide⟩
  obtain ⟨T870, h870, X870, e870, W870, st870⟩ := stC Y868 hx hZ hh868 Ar870 (j := (0 : Int32)) hin870 (g := (mkF m 80 #[.val (.long p1), .second, .val (.long p2), .second, vI p3, vI 7, vR b843, vI c0, vI c1, vI c2, vI c3, vI c4, vI c5, vI c6, vU, vU] [(.int c0), (.int (0 : Int32)), (.ref b843)])) rfl rfl (hb hby at_80)
  have k872 : Rch p e below S0 T870 (mkF m 81 #[.val (.long p1), .second, .val (.long p2), .second, vI p3, vI 7, vR b843, vI c0, vI c1, vI c2, vI c3, vI c4, vI c5, vI c6, vU, vU] []) := fun t h => k871 t (st870 t h)
  have N870 := Fr.snoc X870 M868 ge_b843
  have V_b843' := Arv.set Ar870 q870 Sz870 Ng870 Hs870 G870 (fits_nar_char _) W870 0 rfl (Nat.le_of_ble_eq_true rfl)
  replace V_b843 : Arv Z h870 b843 k843 .char (7 : Int32) [(.int c0), (.int (0 : Int32)), (.int (0 : Int32)), (.int (0 : Int32)), (.int (0 : Int32)), (.int (0 : Int32)), (.int (0 : Int32))] (.int (0 : Int32)) := (by have q := V_b843'; rw [(own_nar c0 hc0).1] at q; exact q)
  have hC873 := hC846.wr W870 sf_b843
  have rC873 := rC846.trans (CHr.wr W870 sf_b843 hC846)
  replace sf_b843 := Safe.wr W870 sf_b843 hC846 sf_b843
  have O874 := O847.wr W870 ge_b843
  have hkk875 := Nat.le_trans hkk848 (Keep.of_wr W870).1
  have k877 : Rch p e below S0 T870 (mkF m 92 #[.val (.long p1), .second, .val (.long p2), .second, vI p3, vI 7, vR b843, vI c0, vI c1, vI c2, vI c3, vI c4, vI c5, vI c6, vU, vU] [(.int c1), (.int (1 : Int32)), (.ref b843)]) := fun t h => k872 t (by
      show Steps p.tables e below (T870.setTop (mkF m 81 #[.val (.long p1), .second, .val (.long p2), .second, vI p3, vI 7, vR b843, vI c0, vI c1, vI c2, vI c3, vI c4, vI c5, vI c6, vU, vU] [])) _
      refine XS.iload X870.here hx rfl (hb hby at_81) rfl ?_
      refine XS.iconst X870.here hx rfl (hb hby at_83) ?_
      refine XS.icmpNo X870.here hx rfl (hb hby at_84) rfl (tlt (by decide : (1 : Int32) < (7 : Int32))).2.2.2 ?_
      refine XS.aload X870.here hx rfl (hb hby at_87) rfl rfl ?_
      refine XS.iconst X870.here hx rfl (hb hby at_89) ?_
      refine XS.iload X870.here hx rfl (hb hby at_90) rfl ?_
      exact h)
  obtain ⟨cl876, Ar876, q876, Sz876, Ng876, Hs876, G876⟩ := id V_b843
  have hin876 : ¬ ((1 : Int32) < 0 ∨ cl876.slots.size ≤ ((1 : Int32)).toNatClampNeg) := inb_of Sz876 ⟨by decide, by decide⟩
  obtain ⟨T876, h876, X876, e876, W876, st876⟩ := stC X870 hx hZ e870 Ar876 (j := (1 : Int32)) hin876 (g := (mkF m 92 #[.val (.long p1), .second, .val (.long p2), .second, vI p3, vI 7, vR b843, vI c0, vI c1, vI c2, vI c3, vI c4, vI c5, vI c6, vU, vU] [(.int c1), (.int (1 : Int32)), (.ref b843)])) rfl rfl (hb hby at_92)
  have k878 : Rch p e below S0 T876 (mkF m 93 #[.val (.long p1), .second, .val (.long p2), .second, vI p3, vI 7, vR b843, vI c0, vI c1, vI c2, vI c3, vI c4, vI c5, vI c6, vU, vU] []) := fun t h => k877 t (st876 t h)
  have N876 := Fr.snoc X876 N870 ge_b843
  have V_b843' := Arv.set Ar876 q876 Sz876 Ng876 Hs876 G876 (fits_nar_char _) W876 1 rfl (Nat.le_of_ble_eq_true rfl)
  replace V_b843 : Arv Z h876 b843 k843 .char (7 : Int32) [(.int c0), (.int c1), (.int (0 : Int32)), (.int (0 : Int32)), (.int (0 : Int32)), (.int (0 : Int32)), (.int (0 : Int32))] (.int (0 : Int32)) := (by have q := V_b843'; rw [(own_nar c1 hc1).1] at q; exact q)
  have hC879 := hC873.wr W876 sf_b843
  have rC879 := rC873.trans (CHr.wr W876 sf_b843 hC873)
  replace sf_b843 := Safe.wr W876 sf_b843 hC873 sf_b843
  have O880 := O874.wr W876 ge_b843
  have hkk881 := Nat.le_trans hkk875 (Keep.of_wr W876).1
  have k883 : Rch p e below S0 T876 (mkF m 104 #[.val (.long p1), .second, .val (.long p2), .second, vI p3, vI 7, vR b843, vI c0, vI c1, vI c2, vI c3, vI c4, vI c5, vI c6, vU, vU] [(.int c2), (.int (2 : Int32)), (.ref b843)]) := fun t h => k878 t (by
      show Steps p.tables e below (T876.setTop (mkF m 93 #[.val (.long p1), .second, .val (.long p2), .second, vI p3, vI 7, vR b843, vI c0, vI c1, vI c2, vI c3, vI c4, vI c5, vI c6, vU, vU] [])) _
      refine XS.iload X876.here hx rfl (hb hby at_93) rfl ?_
      refine XS.iconst X876.here hx rfl (hb hby at_95) ?_
      refine XS.icmpNo X876.here hx rfl (hb hby at_96) rfl (tlt (by decide : (2 : Int32) < (7 : Int32))).2.2.2 ?_
      refine XS.aload X876.here hx rfl (hb hby at_99) rfl rfl ?_
      refine XS.iconst X876.here hx rfl (hb hby at_101) ?_
      refine XS.iload X876.here hx rfl (hb hby at_102) rfl ?_
      exact h)
  obtain ⟨cl882, Ar882, q882, Sz882, Ng882, Hs882, G882⟩ := id V_b843
  have hin882 : ¬ ((2 : Int32) < 0 ∨ cl882.slots.size ≤ ((2 : Int32)).toNatClampNeg) := inb_of Sz882 ⟨by decide, by decide⟩
  obtain ⟨T882, h882, X882, e882, W882, st882⟩ := stC X876 hx hZ e876 Ar882 (j := (2 : Int32)) hin882 (g := (mkF m 104 #[.val (.long p1), .second, .val (.long p2), .second, vI p3, vI 7, vR b843, vI c0, vI c1, vI c2, vI c3, vI c4, vI c5, vI c6, vU, vU] [(.int c2), (.int (2 : Int32)), (.ref b843)])) rfl rfl (hb hby at_104)
  have k884 : Rch p e below S0 T882 (mkF m 105 #[.val (.long p1), .second, .val (.long p2), .second, vI p3, vI 7, vR b843, vI c0, vI c1, vI c2, vI c3, vI c4, vI c5, vI c6, vU, vU] []) := fun t h => k883 t (st882 t h)
  have N882 := Fr.snoc X882 N876 ge_b843
  have V_b843' := Arv.set Ar882 q882 Sz882 Ng882 Hs882 G882 (fits_nar_char _) W882 2 rfl (Nat.le_of_ble_eq_true rfl)
  replace V_b843 : Arv Z h882 b843 k843 .char (7 : Int32) [(.int c0), (.int c1), (.int c2), (.int (0 : Int32)), (.int (0 : Int32)), (.int (0 : Int32)), (.int (0 : Int32))] (.int (0 : Int32)) := (by have q := V_b843'; rw [(own_nar c2 hc2).1] at q; exact q)
  have hC885 := hC879.wr W882 sf_b843
  have rC885 := rC879.trans (CHr.wr W882 sf_b843 hC879)
  replace sf_b843 := Safe.wr W882 sf_b843 hC879 sf_b843
  have O886 := O880.wr W882 ge_b843
  have hkk887 := Nat.le_trans hkk881 (Keep.of_wr W882).1
  have k889 : Rch p e below S0 T882 (mkF m 116 #[.val (.long p1), .second, .val (.long p2), .second, vI p3, vI 7, vR b843, vI c0, vI c1, vI c2, vI c3, vI c4, vI c5, vI c6, vU, vU] [(.int c3), (.int (3 : Int32)), (.ref b843)]) := fun t h => k884 t (by
      show Steps p.tables e below (T882.setTop (mkF m 105 #[.val (.long p1), .second, .val (.long p2), .second, vI p3, vI 7, vR b843, vI c0, vI c1, vI c2, vI c3, vI c4, vI c5, vI c6, vU, vU] [])) _
      refine XS.iload X882.here hx rfl (hb hby at_105) rfl ?_
      refine XS.iconst X882.here hx rfl (hb hby at_107) ?_
      refine XS.icmpNo X882.here hx rfl (hb hby at_108) rfl (tlt (by decide : (3 : Int32) < (7 : Int32))).2.2.2 ?_
      refine XS.aload X882.here hx rfl (hb hby at_111) rfl rfl ?_
      refine XS.iconst X882.here hx rfl (hb hby at_113) ?_
      refine XS.iload X882.here hx rfl (hb hby at_114) rfl ?_
      exact h)
  obtain ⟨cl888, Ar888, q888, Sz888, Ng888, Hs888, G888⟩ := id V_b843
  have hin888 : ¬ ((3 : Int32) < 0 ∨ cl888.slots.size ≤ ((3 : Int32)).toNatClampNeg) := inb_of Sz888 ⟨by decide, by decide⟩
  obtain ⟨T888, h888, X888, e888, W888, st888⟩ := stC X882 hx hZ e882 Ar888 (j := (3 : Int32)) hin888 (g := (mkF m 116 #[.val (.long p1), .second, .val (.long p2), .second, vI p3, vI 7, vR b843, vI c0, vI c1, vI c2, vI c3, vI c4, vI c5, vI c6, vU, vU] [(.int c3), (.int (3 : Int32)), (.ref b843)])) rfl rfl (hb hby at_116)
  have k890 : Rch p e below S0 T888 (mkF m 117 #[.val (.long p1), .second, .val (.long p2), .second, vI p3, vI 7, vR b843, vI c0, vI c1, vI c2, vI c3, vI c4, vI c5, vI c6, vU, vU] []) := fun t h => k889 t (st888 t h)
  have N888 := Fr.snoc X888 N882 ge_b843
  have V_b843' := Arv.set Ar888 q888 Sz888 Ng888 Hs888 G888 (fits_nar_char _) W888 3 rfl (Nat.le_of_ble_eq_true rfl)
  replace V_b843 : Arv Z h888 b843 k843 .char (7 : Int32) [(.int c0), (.int c1), (.int c2), (.int c3), (.int (0 : Int32)), (.int (0 : Int32)), (.int (0 : Int32))] (.int (0 : Int32)) := (by have q := V_b843'; rw [(own_nar c3 hc3).1] at q; exact q)
  have hC891 := hC885.wr W888 sf_b843
  have rC891 := rC885.trans (CHr.wr W888 sf_b843 hC885)
  replace sf_b843 := Safe.wr W888 sf_b843 hC885 sf_b843
  have O892 := O886.wr W888 ge_b843
  have hkk893 := Nat.le_trans hkk887 (Keep.of_wr W888).1
  have k895 : Rch p e below S0 T888 (mkF m 128 #[.val (.long p1), .second, .val (.long p2), .second, vI p3, vI 7, vR b843, vI c0, vI c1, vI c2, vI c3, vI c4, vI c5, vI c6, vU, vU] [(.int c4), (.int (4 : Int32)), (.ref b843)]) := fun t h => k890 t (by
      show Steps p.tables e below (T888.setTop (mkF m 117 #[.val (.long p1), .second, .val (.long p2), .second, vI p3, vI 7, vR b843, vI c0, vI c1, vI c2, vI c3, vI c4, vI c5, vI c6, vU, vU] [])) _
      refine XS.iload X888.here hx rfl (hb hby at_117) rfl ?_
      refine XS.iconst X888.here hx rfl (hb hby at_119) ?_
      refine XS.icmpNo X888.here hx rfl (hb hby at_120) rfl (tlt (by decide : (4 : Int32) < (7 : Int32))).2.2.2 ?_
      refine XS.aload X888.here hx rfl (hb hby at_123) rfl rfl ?_
      refine XS.iconst X888.here hx rfl (hb hby at_125) ?_
      refine XS.iload X888.here hx rfl (hb hby at_126) rfl ?_
      exact h)
  obtain ⟨cl894, Ar894, q894, Sz894, Ng894, Hs894, G894⟩ := id V_b843
  have hin894 : ¬ ((4 : Int32) < 0 ∨ cl894.slots.size ≤ ((4 : Int32)).toNatClampNeg) := inb_of Sz894 ⟨by decide, by decide⟩
  obtain ⟨T894, h894, X894, e894, W894, st894⟩ := stC X888 hx hZ e888 Ar894 (j := (4 : Int32)) hin894 (g := (mkF m 128 #[.val (.long p1), .second, .val (.long p2), .second, vI p3, vI 7, vR b843, vI c0, vI c1, vI c2, vI c3, vI c4, vI c5, vI c6, vU, vU] [(.int c4), (.int (4 : Int32)), (.ref b843)])) rfl rfl (hb hby at_128)
  have k896 : Rch p e below S0 T894 (mkF m 129 #[.val (.long p1), .second, .val (.long p2), .second, vI p3, vI 7, vR b843, vI c0, vI c1, vI c2, vI c3, vI c4, vI c5, vI c6, vU, vU] []) := fun t h => k895 t (st894 t h)
  have N894 := Fr.snoc X894 N888 ge_b843
  have V_b843' := Arv.set Ar894 q894 Sz894 Ng894 Hs894 G894 (fits_nar_char _) W894 4 rfl (Nat.le_of_ble_eq_true rfl)
  replace V_b843 : Arv Z h894 b843 k843 .char (7 : Int32) [(.int c0), (.int c1), (.int c2), (.int c3), (.int c4), (.int (0 : Int32)), (.int (0 : Int32))] (.int (0 : Int32)) := (by have q := V_b843'; rw [(own_nar c4 hc4).1] at q; exact q)
  have hC897 := hC891.wr W894 sf_b843
  have rC897 := rC891.trans (CHr.wr W894 sf_b843 hC891)
  replace sf_b843 := Safe.wr W894 sf_b843 hC891 sf_b843
  have O898 := O892.wr W894 ge_b843
  have hkk899 := Nat.le_trans hkk893 (Keep.of_wr W894).1
  have k901 : Rch p e below S0 T894 (mkF m 140 #[.val (.long p1), .second, .val (.long p2), .second, vI p3, vI 7, vR b843, vI c0, vI c1, vI c2, vI c3, vI c4, vI c5, vI c6, vU, vU] [(.int c5), (.int (5 : Int32)), (.ref b843)]) := fun t h => k896 t (by
      show Steps p.tables e below (T894.setTop (mkF m 129 #[.val (.long p1), .second, .val (.long p2), .second, vI p3, vI 7, vR b843, vI c0, vI c1, vI c2, vI c3, vI c4, vI c5, vI c6, vU, vU] [])) _
      refine XS.iload X894.here hx rfl (hb hby at_129) rfl ?_
      show Steps p.tables e below (T894.setTop (mkF m 131 #[.val (.long p1), .second, .val (.long p2), .second, vI p3, vI 7, vR b843, vI c0, vI c1, vI c2, vI c3, vI c4, vI c5, vI c6, vU, vU] [(.int (7 : Int32))])) _
      refine XS.iconst X894.here hx rfl (hb hby at_131) ?_
      refine XS.icmpNo X894.here hx rfl (hb hby at_132) rfl (tlt (by decide : (5 : Int32) < (7 : Int32))).2.2.2 ?_
      refine XS.aload X894.here hx rfl (hb hby at_135) rfl rfl ?_
      refine XS.iconst X894.here hx rfl (hb hby at_137) ?_
      refine XS.iload X894.here hx rfl (hb hby at_138) rfl ?_
      exact h)
  obtain ⟨cl900, Ar900, q900, Sz900, Ng900, Hs900, G900⟩ := id V_b843
  have hin900 : ¬ ((5 : Int32) < 0 ∨ cl900.slots.size ≤ ((5 : Int32)).toNatClampNeg) := inb_of Sz900 ⟨by decide, by decide⟩
  obtain ⟨T900, h900, X900, e900, W900, st900⟩ := stC X894 hx hZ e894 Ar900 (j := (5 : Int32)) hin900 (g := (mkF m 140 #[.val (.long p1), .second, .val (.long p2), .second, vI p3, vI 7, vR b843, vI c0, vI c1, vI c2, vI c3, vI c4, vI c5, vI c6, vU, vU] [(.int c5), (.int (5 : Int32)), (.ref b843)])) rfl rfl (hb hby at_140)
  have k902 : Rch p e below S0 T900 (mkF m 141 #[.val (.long p1), .second, .val (.long p2), .second, vI p3, vI 7, vR b843, vI c0, vI c1, vI c2, vI c3, vI c4, vI c5, vI c6, vU, vU] []) := fun t h => k901 t (st900 t h)
  have N900 := Fr.snoc X900 N894 ge_b843
  have V_b843' := Arv.set Ar900 q900 Sz900 Ng900 Hs900 G900 (fits_nar_char _) W900 5 rfl (Nat.le_of_ble_eq_true rfl)
  replace V_b843 : Arv Z h900 b843 k843 .char (7 : Int32) [(.int c0), (.int c1), (.int c2), (.int c3), (.int c4), (.int c5), (.int (0 : Int32))] (.int (0 : Int32)) := (by have q := V_b843'; rw [(own_nar c5 hc5).1] at q; exact q)
  have hC903 := hC897.wr W900 sf_b843
  have rC903 := rC897.trans (CHr.wr W900 sf_b843 hC897)
  replace sf_b843 := Safe.wr W900 sf_b843 hC897 sf_b843
  have O904 := O898.wr W900 ge_b843
  have hkk905 := Nat.le_trans hkk899 (Keep.of_wr W900).1
  have k907 : Rch p e below S0 T900 (mkF m 154 #[.val (.long p1), .second, .val (.long p2), .second, vI p3, vI 7, vR b843, vI c0, vI c1, vI c2, vI c3, vI c4, vI c5, vI c6, vU, vU] [(.int c6), (.int (6 : Int32)), (.ref b843)]) := fun t h => k902 t (by
      show Steps p.tables e below (T900.setTop (mkF m 141 #[.val (.long p1), .second, .val (.long p2), .second, vI p3, vI 7, vR b843, vI c0, vI c1, vI c2, vI c3, vI c4, vI c5, vI c6, vU, vU] [])) _
      refine XS.iload X900.here hx rfl (hb hby at_141) rfl ?_
      refine XS.bipush X900.here hx rfl (hb hby at_143) ?_
      refine XS.icmpNo X900.here hx rfl (hb hby at_145) rfl (tlt (by decide : (6 : Int32) < (7 : Int32))).2.2.2 ?_
      refine XS.aload X900.here hx rfl (hb hby at_148) rfl rfl ?_
      refine XS.bipush X900.here hx rfl (hb hby at_150) ?_
      refine XS.iload X900.here hx rfl (hb hby at_152) rfl ?_
      exact h)
  obtain ⟨cl906, Ar906, q906, Sz906, Ng906, Hs906, G906⟩ := id V_b843
  have hin906 : ¬ ((6 : Int32) < 0 ∨ cl906.slots.size ≤ ((6 : Int32)).toNatClampNeg) := inb_of Sz906 ⟨by decide, by decide⟩
  obtain ⟨T906, h906, X906, e906, W906, st906⟩ := stC X900 hx hZ e900 Ar906 (j := (6 : Int32)) hin906 (g := (mkF m 154 #[.val (.long p1), .second, .val (.long p2), .second, vI p3, vI 7, vR b843, vI c0, vI c1, vI c2, vI c3, vI c4, vI c5, vI c6, vU, vU] [(.int c6), (.int (6 : Int32)), (.ref b843)])) rfl rfl (hb hby at_154)
  have k908 : Rch p e below S0 T906 (mkF m 155 #[.val (.long p1), .second, .val (.long p2), .second, vI p3, vI 7, vR b843, vI c0, vI c1, vI c2, vI c3, vI c4, vI c5, vI c6, vU, vU] []) := fun t h => k907 t (st906 t h)
  have N906 := Fr.snoc X906 N900 ge_b843
  have V_b843' := Arv.set Ar906 q906 Sz906 Ng906 Hs906 G906 (fits_nar_char _) W906 6 rfl (Nat.le_of_ble_eq_true rfl)
  replace V_b843 : Arv Z h906 b843 k843 .char (7 : Int32) [(.int c0), (.int c1), (.int c2), (.int c3), (.int c4), (.int c5), (.int c6)] (.int (0 : Int32)) := (by have q := V_b843'; rw [(own_nar c6 hc6).1] at q; exact q)
  have hC909 := hC903.wr W906 sf_b843
  have rC909 := rC903.trans (CHr.wr W906 sf_b843 hC903)
  replace sf_b843 := Safe.wr W906 sf_b843 hC903 sf_b843
  have O910 := O904.wr W906 ge_b843
  have hkk911 := Nat.le_trans hkk905 (Keep.of_wr W906).1
  have k912 : Rch p e below S0 T906 (mkF m 169 #[.val (.long p1), .second, .val (.long p2), .second, vI p3, vI 7, vR b843, vI c0, vI c1, vI c2, vI c3, vI c4, vI c5, vI c6, vI 0, vU] [(.int c6), (.int (0 : Int32))]) := fun t h => k908 t (by
      show Steps p.tables e below (T906.setTop (mkF m 155 #[.val (.long p1), .second, .val (.long p2), .second, vI p3, vI 7, vR b843, vI c0, vI c1, vI c2, vI c3, vI c4, vI c5, vI c6, vU, vU] [])) _
      refine XS.iconst X906.here hx rfl (hb hby at_155) ?_
      refine XS.istore X906.here hx rfl (hb hby at_156) rfl (l' := #[.val (.long p1), .second, .val (.long p2), .second, vI p3, vI 7, vR b843, vI c0, vI c1, vI c2, vI c3, vI c4, vI c5, vI c6, vI 0, vU]) rfl ?_
      refine XS.iload X906.here hx rfl (hb hby at_158) rfl ?_
      refine XS.bipush X906.here hx rfl (hb hby at_160) ?_
      refine XS.icmpNo X906.here hx rfl (hb hby at_162) rfl (tlt (by decide : (6 : Int32) < (7 : Int32))).2.2.2 ?_
      refine XS.iload X906.here hx rfl (hb hby at_165) rfl ?_
      refine XS.iload X906.here hx rfl (hb hby at_167) rfl ?_
      exact h)
  obtain ⟨_, _, ⟨T913, L913, kk913, n913⟩, -, X913, ⟨Lc913, hQ913, l913, y913, z913⟩, st913⟩ := Jvm.LawKit.callS X906 hx (y := (⟨"com/example/nuthatch/nuthatch/EntryNameIsMemberPinLaw", "step", "(IC)I"⟩ : MethodName)) hown (mvT hZ (hw _ (gm 71 rfl))) (mvT hZ (hw _ (gm 72 rfl))) (mvT hZ (hw _ (gm 3 rfl))) (mvT hZ (hw _ (gm 73 rfl))) (by decide) (backOf (W := 0) (rmST l Z a0 hw [] (0 : Int32) c6  h906 n0 O910 ) hZ (hw _ (gm 73 rfl)) (hw _ (gm 3 rfl)) (by decide) (by decide)) (g := (mkF m 169 #[.val (.long p1), .second, .val (.long p2), .second, vI p3, vI 7, vR b843, vI c0, vI c1, vI c2, vI c3, vI c4, vI c5, vI c6, vI 0, vU] [(.int c6), (.int (0 : Int32))])) rfl (by rw [hml]; rfl) (argsL := [(.int (0 : Int32)), (.int c6)]) (rest := []) (lenOf pd_13 rfl) rfl (by show 2 * 0 + _ ≤ _; exact Nat.le_of_eq rfl) (hb hby at_169) (fun _ _ => ⟨rfl, e906, (by decide : 1 + 0 ≤ _), (by decide : 7 + 0 ≤ _)⟩)
  dsimp only [Pt.U, Pt.locs, Pt.cells, Pt.slots] at X913 l913 y913 z913 st913 hQ913
  subst l913 y913 z913
  obtain ⟨rfl, Nq913, hh913⟩ := hQ913
  have N913 := Fr.app N906 Nq913
  have k914 : Rch p e below S0 T913 (mkF m 172 #[.val (.long p1), .second, .val (.long p2), .second, vI p3, vI 7, vR b843, vI c0, vI c1, vI c2, vI c3, vI c4, vI c5, vI c6, vI 0, vU] [(.int (own_stI (0 : Int32) (kc c6)))]) := fun t h => k912 t (st913 t h)
  obtain ⟨lo913, Y913, M913⟩ : ∃ lo, Stand p l e room_1 (s.setVm s.vm) m #[(.long p1), (.long p2), (.int p3)] below meth c T913 lo 1 7 ∧ Fr n0 lo := ⟨_, X913, N913⟩
  clear X913 N913
  obtain ⟨sv6, hsv6⟩ : ∃ z : Int32, z = own_stI (0 : Int32) (kc c6) := ⟨_, rfl⟩
  rw [← hsv6] at k914
  have k915 : Rch p e below S0 T913 (mkF m 184 #[.val (.long p1), .second, .val (.long p2), .second, vI p3, vI 7, vR b843, vI c0, vI c1, vI c2, vI c3, vI c4, vI c5, vI c6, vI sv6, vU] [(.int c5), (.int sv6)]) := fun t h => k914 t (by
      show Steps p.tables e below (T913.setTop (mkF m 172 #[.val (.long p1), .second, .val (.long p2), .second, vI p3, vI 7, vR b843, vI c0, vI c1, vI c2, vI c3, vI c4, vI c5, vI c6, vI 0, vU] [(.int sv6)])) _
      refine XS.istore Y913.here hx rfl (hb hby at_172) rfl (l' := #[.val (.long p1), .second, .val (.long p2), .second, vI p3, vI 7, vR b843, vI c0, vI c1, vI c2, vI c3, vI c4, vI c5, vI c6, vI sv6, vU]) rfl ?_
      refine XS.iload Y913.here hx rfl (hb hby at_174) rfl ?_
      refine XS.iconst Y913.here hx rfl (hb hby at_176) ?_
      refine XS.icmpNo Y913.here hx rfl (hb hby at_177) rfl (tlt (by decide : (5 : Int32) < (7 : Int32))).2.2.2 ?_
      refine XS.iload Y913.here hx rfl (hb hby at_180) rfl ?_
      refine XS.iload Y913.here hx rfl (hb hby at_182) rfl ?_
      exact h)
  obtain ⟨_, _, ⟨T916, L916, kk916, n916⟩, -, X916, ⟨Lc916, hQ916, l916, y916, z916⟩, st916⟩ := Jvm.LawKit.callS Y913 hx (y := (⟨"com/example/nuthatch/nuthatch/EntryNameIsMemberPinLaw", "step", "(IC)I"⟩ : MethodName)) hown (mvT hZ (hw _ (gm 71 rfl))) (mvT hZ (hw _ (gm 72 rfl))) (mvT hZ (hw _ (gm 3 rfl))) (mvT hZ (hw _ (gm 73 rfl))) (by decide) (backOf (W := 0) (rmST l Z a0 hw [] sv6 c5  h906 n0 O910 ) hZ (hw _ (gm 73 rfl)) (hw _ (gm 3 rfl)) (by decide) (by decide)) (g := (mkF m 184 #[.val (.long p1), .second, .val (.long p2), .second, vI p3, vI 7, vR b843, vI c0, vI c1, vI c2, vI c3, vI c4, vI c5, vI c6, vI sv6, vU] [(.int c5), (.int sv6)])) rfl (by rw [hml]; rfl) (argsL := [(.int sv6), (.int c5)]) (rest := []) (lenOf pd_13 rfl) rfl (by show 2 * 0 + _ ≤ _; exact Nat.le_of_eq rfl) (hb hby at_184) (fun _ _ => ⟨rfl, hh913, (by decide : 1 + 0 ≤ _), (by decide : 7 + 0 ≤ _)⟩)
  dsimp only [Pt.U, Pt.locs, Pt.cells, Pt.slots] at X916 l916 y916 z916 st916 hQ916
  subst l916 y916 z916
  obtain ⟨rfl, Nq916, hh916⟩ := hQ916
  have N916 := Fr.app M913 Nq916
  have k917 : Rch p e below S0 T916 (mkF m 187 #[.val (.long p1), .second, .val (.long p2), .second, vI p3, vI 7, vR b843, vI c0, vI c1, vI c2, vI c3, vI c4, vI c5, vI c6, vI sv6, vU] [(.int (own_stI sv6 (kc c5)))]) := fun t h => k915 t (st916 t h)
  obtain ⟨lo916, Y916, M916⟩ : ∃ lo, Stand p l e room_1 (s.setVm s.vm) m #[(.long p1), (.long p2), (.int p3)] below meth c T916 lo 1 7 ∧ Fr n0 lo := ⟨_, X916, N916⟩
  clear X916 N916
  obtain ⟨sv5, hsv5⟩ : ∃ z : Int32, z = own_stI sv6 (kc c5) := ⟨_, rfl⟩
  rw [← hsv5] at k917
  have k918 : Rch p e below S0 T916 (mkF m 199 #[.val (.long p1), .second, .val (.long p2), .second, vI p3, vI 7, vR b843, vI c0, vI c1, vI c2, vI c3, vI c4, vI c5, vI c6, vI sv5, vU] [(.int c4), (.int sv5)]) := fun t h => k917 t (by
      show Steps p.tables e below (T916.setTop (mkF m 187 #[.val (.long p1), .second, .val (.long p2), .second, vI p3, vI 7, vR b843, vI c0, vI c1, vI c2, vI c3, vI c4, vI c5, vI c6, vI sv6, vU] [(.int sv5)])) _
      refine XS.istore Y916.here hx rfl (hb hby at_187) rfl (l' := #[.val (.long p1), .second, .val (.long p2), .second, vI p3, vI 7, vR b843, vI c0, vI c1, vI c2, vI c3, vI c4, vI c5, vI c6, vI sv5, vU]) rfl ?_
      refine XS.iload Y916.here hx rfl (hb hby at_189) rfl ?_
      refine XS.iconst Y916.here hx rfl (hb hby at_191) ?_
      refine XS.icmpNo Y916.here hx rfl (hb hby at_192) rfl (tlt (by decide : (4 : Int32) < (7 : Int32))).2.2.2 ?_
      refine XS.iload Y916.here hx rfl (hb hby at_195) rfl ?_
      refine XS.iload Y916.here hx rfl (hb hby at_197) rfl ?_
      exact h)
  obtain ⟨_, _, ⟨T919, L919, kk919, n919⟩, -, X919, ⟨Lc919, hQ919, l919, y919, z919⟩, st919⟩ := Jvm.LawKit.callS Y916 hx (y := (⟨"com/example/nuthatch/nuthatch/EntryNameIsMemberPinLaw", "step", "(IC)I"⟩ : MethodName)) hown (mvT hZ (hw _ (gm 71 rfl))) (mvT hZ (hw _ (gm 72 rfl))) (mvT hZ (hw _ (gm 3 rfl))) (mvT hZ (hw _ (gm 73 rfl))) (by decide) (backOf (W := 0) (rmST l Z a0 hw [] sv5 c4  h906 n0 O910 ) hZ (hw _ (gm 73 rfl)) (hw _ (gm 3 rfl)) (by decide) (by decide)) (g := (mkF m 199 #[.val (.long p1), .second, .val (.long p2), .second, vI p3, vI 7, vR b843, vI c0, vI c1, vI c2, vI c3, vI c4, vI c5, vI c6, vI sv5, vU] [(.int c4), (.int sv5)])) rfl (by rw [hml]; rfl) (argsL := [(.int sv5), (.int c4)]) (rest := []) (lenOf pd_13 rfl) rfl (by show 2 * 0 + _ ≤ _; exact Nat.le_of_eq rfl) (hb hby at_199) (fun _ _ => ⟨rfl, hh916, (by decide : 1 + 0 ≤ _), (by decide : 7 + 0 ≤ _)⟩)
  dsimp only [Pt.U, Pt.locs, Pt.cells, Pt.slots] at X919 l919 y919 z919 st919 hQ919
  subst l919 y919 z919
  obtain ⟨rfl, Nq919, hh919⟩ := hQ919
  have N919 := Fr.app M916 Nq919
  have k920 : Rch p e below S0 T919 (mkF m 202 #[.val (.long p1), .second, .val (.long p2), .second, vI p3, vI 7, vR b843, vI c0, vI c1, vI c2, vI c3, vI c4, vI c5, vI c6, vI sv5, vU] [(.int (own_stI sv5 (kc c4)))]) := fun t h => k918 t (st919 t h)
  obtain ⟨lo919, Y919, M919⟩ : ∃ lo, Stand p l e room_1 (s.setVm s.vm) m #[(.long p1), (.long p2), (.int p3)] below meth c T919 lo 1 7 ∧ Fr n0 lo := ⟨_, X919, N919⟩
  clear X919 N919
  obtain ⟨sv4, hsv4⟩ : ∃ z : Int32, z = own_stI sv5 (kc c4) := ⟨_, rfl⟩
  rw [← hsv4] at k920
  have k921 : Rch p e below S0 T919 (mkF m 214 #[.val (.long p1), .second, .val (.long p2), .second, vI p3, vI 7, vR b843, vI c0, vI c1, vI c2, vI c3, vI c4, vI c5, vI c6, vI sv4, vU] [(.int c3), (.int sv4)]) := fun t h => k920 t (by
      show Steps p.tables e below (T919.setTop (mkF m 202 #[.val (.long p1), .second, .val (.long p2), .second, vI p3, vI 7, vR b843, vI c0, vI c1, vI c2, vI c3, vI c4, vI c5, vI c6, vI sv5, vU] [(.int sv4)])) _
      refine XS.istore Y919.here hx rfl (hb hby at_202) rfl (l' := #[.val (.long p1), .second, .val (.long p2), .second, vI p3, vI 7, vR b843, vI c0, vI c1, vI c2, vI c3, vI c4, vI c5, vI c6, vI sv4, vU]) rfl ?_
      refine XS.iload Y919.here hx rfl (hb hby at_204) rfl ?_
      refine XS.iconst Y919.here hx rfl (hb hby at_206) ?_
      refine XS.icmpNo Y919.here hx rfl (hb hby at_207) rfl (tlt (by decide : (3 : Int32) < (7 : Int32))).2.2.2 ?_
      refine XS.iload Y919.here hx rfl (hb hby at_210) rfl ?_
      refine XS.iload Y919.here hx rfl (hb hby at_212) rfl ?_
      exact h)
  obtain ⟨_, _, ⟨T922, L922, kk922, n922⟩, -, X922, ⟨Lc922, hQ922, l922, y922, z922⟩, st922⟩ := Jvm.LawKit.callS Y919 hx (y := (⟨"com/example/nuthatch/nuthatch/EntryNameIsMemberPinLaw", "step", "(IC)I"⟩ : MethodName)) hown (mvT hZ (hw _ (gm 71 rfl))) (mvT hZ (hw _ (gm 72 rfl))) (mvT hZ (hw _ (gm 3 rfl))) (mvT hZ (hw _ (gm 73 rfl))) (by decide) (backOf (W := 0) (rmST l Z a0 hw [] sv4 c3  h906 n0 O910 ) hZ (hw _ (gm 73 rfl)) (hw _ (gm 3 rfl)) (by decide) (by decide)) (g := (mkF m 214 #[.val (.long p1), .second, .val (.long p2), .second, vI p3, vI 7, vR b843, vI c0, vI c1, vI c2, vI c3, vI c4, vI c5, vI c6, vI sv4, vU] [(.int c3), (.int sv4)])) rfl (by rw [hml]; rfl) (argsL := [(.int sv4), (.int c3)]) (rest := []) (lenOf pd_13 rfl) rfl (by show 2 * 0 + _ ≤ _; exact Nat.le_of_eq rfl) (hb hby at_214) (fun _ _ => ⟨rfl, hh919, (by decide : 1 + 0 ≤ _), (by decide : 7 + 0 ≤ _)⟩)
  dsimp only [Pt.U, Pt.locs, Pt.cells, Pt.slots] at X922 l922 y922 z922 st922 hQ922
  subst l922 y922 z922
  obtain ⟨rfl, Nq922, hh922⟩ := hQ922
  have N922 := Fr.app M919 Nq922
  have k923 : Rch p e below S0 T922 (mkF m 217 #[.val (.long p1), .second, .val (.long p2), .second, vI p3, vI 7, vR b843, vI c0, vI c1, vI c2, vI c3, vI c4, vI c5, vI c6, vI sv4, vU] [(.int (own_stI sv4 (kc c3)))]) := fun t h => k921 t (st922 t h)
  obtain ⟨lo922, Y922, M922⟩ : ∃ lo, Stand p l e room_1 (s.setVm s.vm) m #[(.long p1), (.long p2), (.int p3)] below meth c T922 lo 1 7 ∧ Fr n0 lo := ⟨_, X922, N922⟩
  clear X922 N922
  obtain ⟨sv3, hsv3⟩ : ∃ z : Int32, z = own_stI sv4 (kc c3) := ⟨_, rfl⟩
  rw [← hsv3] at k923
  have k924 : Rch p e below S0 T922 (mkF m 229 #[.val (.long p1), .second, .val (.long p2), .second, vI p3, vI 7, vR b843, vI c0, vI c1, vI c2, vI c3, vI c4, vI c5, vI c6, vI sv3, vU] [(.int c2), (.int sv3)]) := fun t h => k923 t (by
      show Steps p.tables e below (T922.setTop (mkF m 217 #[.val (.long p1), .second, .val (.long p2), .second, vI p3, vI 7, vR b843, vI c0, vI c1, vI c2, vI c3, vI c4, vI c5, vI c6, vI sv4, vU] [(.int sv3)])) _
      refine XS.istore Y922.here hx rfl (hb hby at_217) rfl (l' := #[.val (.long p1), .second, .val (.long p2), .second, vI p3, vI 7, vR b843, vI c0, vI c1, vI c2, vI c3, vI c4, vI c5, vI c6, vI sv3, vU]) rfl ?_
      refine XS.iload Y922.here hx rfl (hb hby at_219) rfl ?_
      refine XS.iconst Y922.here hx rfl (hb hby at_221) ?_
      refine XS.icmpNo Y922.here hx rfl (hb hby at_222) rfl (tlt (by decide : (2 : Int32) < (7 : Int32))).2.2.2 ?_
      refine XS.iload Y922.here hx rfl (hb hby at_225) rfl ?_
      refine XS.iload Y922.here hx rfl (hb hby at_227) rfl ?_
      exact h)
  obtain ⟨_, _, ⟨T925, L925, kk925, n925⟩, -, X925, ⟨Lc925, hQ925, l925, y925, z925⟩, st925⟩ := Jvm.LawKit.callS Y922 hx (y := (⟨"com/example/nuthatch/nuthatch/EntryNameIsMemberPinLaw", "step", "(IC)I"⟩ : MethodName)) hown (mvT hZ (hw _ (gm 71 rfl))) (mvT hZ (hw _ (gm 72 rfl))) (mvT hZ (hw _ (gm 3 rfl))) (mvT hZ (hw _ (gm 73 rfl))) (by decide) (backOf (W := 0) (rmST l Z a0 hw [] sv3 c2  h906 n0 O910 ) hZ (hw _ (gm 73 rfl)) (hw _ (gm 3 rfl)) (by decide) (by decide)) (g := (mkF m 229 #[.val (.long p1), .second, .val (.long p2), .second, vI p3, vI 7, vR b843, vI c0, vI c1, vI c2, vI c3, vI c4, vI c5, vI c6, vI sv3, vU] [(.int c2), (.int sv3)])) rfl (by rw [hml]; rfl) (argsL := [(.int sv3), (.int c2)]) (rest := []) (lenOf pd_13 rfl) rfl (by show 2 * 0 + _ ≤ _; exact Nat.le_of_eq rfl) (hb hby at_229) (fun _ _ => ⟨rfl, hh922, (by decide : 1 + 0 ≤ _), (by decide : 7 + 0 ≤ _)⟩)
  dsimp only [Pt.U, Pt.locs, Pt.cells, Pt.slots] at X925 l925 y925 z925 st925 hQ925
  subst l925 y925 z925
  obtain ⟨rfl, Nq925, hh925⟩ := hQ925
  have N925 := Fr.app M922 Nq925
  have k926 : Rch p e below S0 T925 (mkF m 232 #[.val (.long p1), .second, .val (.long p2), .second, vI p3, vI 7, vR b843, vI c0, vI c1, vI c2, vI c3, vI c4, vI c5, vI c6, vI sv3, vU] [(.int (own_stI sv3 (kc c2)))]) := fun t h => k924 t (st925 t h)
  obtain ⟨lo925, Y925, M925⟩ : ∃ lo, Stand p l e room_1 (s.setVm s.vm) m #[(.long p1), (.long p2), (.int p3)] below meth c T925 lo 1 7 ∧ Fr n0 lo := ⟨_, X925, N925⟩
  clear X925 N925
  obtain ⟨sv2, hsv2⟩ : ∃ z : Int32, z = own_stI sv3 (kc c2) := ⟨_, rfl⟩
  rw [← hsv2] at k926
  have k927 : Rch p e below S0 T925 (mkF m 244 #[.val (.long p1), .second, .val (.long p2), .second, vI p3, vI 7, vR b843, vI c0, vI c1, vI c2, vI c3, vI c4, vI c5, vI c6, vI sv2, vU] [(.int c1), (.int sv2)]) := fun t h => k926 t (by
      show Steps p.tables e below (T925.setTop (mkF m 232 #[.val (.long p1), .second, .val (.long p2), .second, vI p3, vI 7, vR b843, vI c0, vI c1, vI c2, vI c3, vI c4, vI c5, vI c6, vI sv3, vU] [(.int sv2)])) _
      refine XS.istore Y925.here hx rfl (hb hby at_232) rfl (l' := #[.val (.long p1), .second, .val (.long p2), .second, vI p3, vI 7, vR b843, vI c0, vI c1, vI c2, vI c3, vI c4, vI c5, vI c6, vI sv2, vU]) rfl ?_
      refine XS.iload Y925.here hx rfl (hb hby at_234) rfl ?_
      refine XS.iconst Y925.here hx rfl (hb hby at_236) ?_
      refine XS.icmpNo Y925.here hx rfl (hb hby at_237) rfl (tlt (by decide : (1 : Int32) < (7 : Int32))).2.2.2 ?_
      refine XS.iload Y925.here hx rfl (hb hby at_240) rfl ?_
      refine XS.iload Y925.here hx rfl (hb hby at_242) rfl ?_
      exact h)
  obtain ⟨_, _, ⟨T928, L928, kk928, n928⟩, -, X928, ⟨Lc928, hQ928, l928, y928, z928⟩, st928⟩ := Jvm.LawKit.callS Y925 hx (y := (⟨"com/example/nuthatch/nuthatch/EntryNameIsMemberPinLaw", "step", "(IC)I"⟩ : MethodName)) hown (mvT hZ (hw _ (gm 71 rfl))) (mvT hZ (hw _ (gm 72 rfl))) (mvT hZ (hw _ (gm 3 rfl))) (mvT hZ (hw _ (gm 73 rfl))) (by decide) (backOf (W := 0) (rmST l Z a0 hw [] sv2 c1  h906 n0 O910 ) hZ (hw _ (gm 73 rfl)) (hw _ (gm 3 rfl)) (by decide) (by decide)) (g := (mkF m 244 #[.val (.long p1), .second, .val (.long p2), .second, vI p3, vI 7, vR b843, vI c0, vI c1, vI c2, vI c3, vI c4, vI c5, vI c6, vI sv2, vU] [(.int c1), (.int sv2)])) rfl (by rw [hml]; rfl) (argsL := [(.int sv2), (.int c1)]) (rest := []) (lenOf pd_13 rfl) rfl (by show 2 * 0 + _ ≤ _; exact Nat.le_of_eq rfl) (hb hby at_244) (fun _ _ => ⟨rfl, hh925, (by decide : 1 + 0 ≤ _), (by decide : 7 + 0 ≤ _)⟩)
  dsimp only [Pt.U, Pt.locs, Pt.cells, Pt.slots] at X928 l928 y928 z928 st928 hQ928
  subst l928 y928 z928
  obtain ⟨rfl, Nq928, hh928⟩ := hQ928
  have N928 := Fr.app M925 Nq928
  have k929 : Rch p e below S0 T928 (mkF m 247 #[.val (.long p1), .second, .val (.long p2), .second, vI p3, vI 7, vR b843, vI c0, vI c1, vI c2, vI c3, vI c4, vI c5, vI c6, vI sv2, vU] [(.int (own_stI sv2 (kc c1)))]) := fun t h => k927 t (st928 t h)
  obtain ⟨lo928, Y928, M928⟩ : ∃ lo, Stand p l e room_1 (s.setVm s.vm) m #[(.long p1), (.long p2), (.int p3)] below meth c T928 lo 1 7 ∧ Fr n0 lo := ⟨_, X928, N928⟩
  clear X928 N928
  obtain ⟨sv1, hsv1⟩ : ∃ z : Int32, z = own_stI sv2 (kc c1) := ⟨_, rfl⟩
  rw [← hsv1] at k929
  have k930 : Rch p e below S0 T928 (mkF m 258 #[.val (.long p1), .second, .val (.long p2), .second, vI p3, vI 7, vR b843, vI c0, vI c1, vI c2, vI c3, vI c4, vI c5, vI c6, vI sv1, vU] [(.int c0), (.int sv1)]) := fun t h => k929 t (by
      show Steps p.tables e below (T928.setTop (mkF m 247 #[.val (.long p1), .second, .val (.long p2), .second, vI p3, vI 7, vR b843, vI c0, vI c1, vI c2, vI c3, vI c4, vI c5, vI c6, vI sv2, vU] [(.int sv1)])) _
      refine XS.istore Y928.here hx rfl (hb hby at_247) rfl (l' := #[.val (.long p1), .second, .val (.long p2), .second, vI p3, vI 7, vR b843, vI c0, vI c1, vI c2, vI c3, vI c4, vI c5, vI c6, vI sv1, vU]) rfl ?_
      refine XS.iload Y928.here hx rfl (hb hby at_249) rfl ?_
      refine XS.ifNo Y928.here hx rfl (hb hby at_251) rfl ((if0 _ _).trans (tlt (by decide : (0 : Int32) < (7 : Int32))).2.2.2) ?_
      refine XS.iload Y928.here hx rfl (hb hby at_254) rfl ?_
      refine XS.iload Y928.here hx rfl (hb hby at_256) rfl ?_
      exact h)
  obtain ⟨_, _, ⟨T931, L931, kk931, n931⟩, -, X931, ⟨Lc931, hQ931, l931, y931, z931⟩, st931⟩ := Jvm.LawKit.callS Y928 hx (y := (⟨"com/example/nuthatch/nuthatch/EntryNameIsMemberPinLaw", "step", "(IC)I"⟩ : MethodName)) hown (mvT hZ (hw _ (gm 71 rfl))) (mvT hZ (hw _ (gm 72 rfl))) (mvT hZ (hw _ (gm 3 rfl))) (mvT hZ (hw _ (gm 73 rfl))) (by decide) (backOf (W := 0) (rmST l Z a0 hw [] sv1 c0  h906 n0 O910 ) hZ (hw _ (gm 73 rfl)) (hw _ (gm 3 rfl)) (by decide) (by decide)) (g := (mkF m 258 #[.val (.long p1), .second, .val (.long p2), .second, vI p3, vI 7, vR b843, vI c0, vI c1, vI c2, vI c3, vI c4, vI c5, vI c6, vI sv1, vU] [(.int c0), (.int sv1)])) rfl (by rw [hml]; rfl) (argsL := [(.int sv1), (.int c0)]) (rest := []) (lenOf pd_13 rfl) rfl (by show 2 * 0 + _ ≤ _; exact Nat.le_of_eq rfl) (hb hby at_258) (fun _ _ => ⟨rfl, hh928, (by decide : 1 + 0 ≤ _), (by decide : 7 + 0 ≤ _)⟩)
  dsimp only [Pt.U, Pt.locs, Pt.cells, Pt.slots] at X931 l931 y931 z931 st931 hQ931
  subst l931 y931 z931
  obtain ⟨rfl, Nq931, hh931⟩ := hQ931
  have N931 := Fr.app M928 Nq931
  have k932 : Rch p e below S0 T931 (mkF m 261 #[.val (.long p1), .second, .val (.long p2), .second, vI p3, vI 7, vR b843, vI c0, vI c1, vI c2, vI c3, vI c4, vI c5, vI c6, vI sv1, vU] [(.int (own_stI sv1 (kc c0)))]) := fun t h => k930 t (st931 t h)
  obtain ⟨lo931, Y931, M931⟩ : ∃ lo, Stand p l e room_1 (s.setVm s.vm) m #[(.long p1), (.long p2), (.int p3)] below meth c T931 lo 1 7 ∧ Fr n0 lo := ⟨_, X931, N931⟩
  clear X931 N931
  obtain ⟨sv0, hsv0⟩ : ∃ z : Int32, z = own_stI sv1 (kc c0) := ⟨_, rfl⟩
  rw [← hsv0] at k932
  have k933 : Rch p e below S0 T931 (mkF m 263 #[.val (.long p1), .second, .val (.long p2), .second, vI p3, vI 7, vR b843, vI c0, vI c1, vI c2, vI c3, vI c4, vI c5, vI c6, vI sv0, vU] []) := fun t h => k932 t (by
      show Steps p.tables e below (T931.setTop (mkF m 261 #[.val (.long p1), .second, .val (.long p2), .second, vI p3, vI 7, vR b843, vI c0, vI c1, vI c2, vI c3, vI c4, vI c5, vI c6, vI sv1, vU] [(.int sv0)])) _
      refine XS.istore Y931.here hx rfl (hb hby at_261) rfl (l' := #[.val (.long p1), .second, .val (.long p2), .second, vI p3, vI 7, vR b843, vI c0, vI c1, vI c2, vI c3, vI c4, vI c5, vI c6, vI sv0, vU]) rfl ?_
      exact h)
  have hpc : ∀ c ∈ ([c0, c1, c2, c3, c4, c5, c6] : List Int32), ¬ c < 0 ∧ ¬ (255 : Int32) < c := by
    intro c hc
    simp only [List.mem_cons, List.not_mem_nil, or_false] at hc
    rcases hc with rfl | rfl | rfl | rfl | rfl | rfl | rfl
    · exact hc0
    · exact hc1
    · exact hc2
    · exact hc3
    · exact hc4
    · exact hc5
    · exact hc6
  have hpl := own_plain (([c0, c1, c2, c3, c4, c5, c6] : List Int32).map kc) 7 rfl (by decide) (fun y hy => by obtain ⟨c, -, rfl⟩ := List.mem_map.mp hy; exact kc_lt c)
  cases hM : own_mem (([c0, c1, c2, c3, c4, c5, c6] : List Int32).map kc) 7 with
  | true =>
    have hF : sv0 = 4 := by
      have q := hpl.1 hM
      simp only [own_fsI, List.map_cons, List.map_nil, List.foldr_cons, List.foldr_nil] at q
      rw [hsv0, hsv1, hsv2, hsv3, hsv4, hsv5, hsv6]; exact q
    clear hpl hsv0 hsv1 hsv2 hsv3 hsv4 hsv5 hsv6
    have hbm : own_b (own_mem (([c0, c1, c2, c3, c4, c5, c6] : List Int32).map kc) 7) = 1 := by rw [hM]; rfl
    clear hM
    have k934 : Rch p e below S0 T931 (mkF m 276 #[.val (.long p1), .second, .val (.long p2), .second, vI p3, vI 7, vR b843, vI c0, vI c1, vI c2, vI c3, vI c4, vI c5, vI c6, vI sv0, vI 1] []) := fun t h => k933 t (by
        show Steps p.tables e below (T931.setTop (mkF m 263 #[.val (.long p1), .second, .val (.long p2), .second, vI p3, vI 7, vR b843, vI c0, vI c1, vI c2, vI c3, vI c4, vI c5, vI c6, vI sv0, vU] [])) _
        refine XS.iload Y931.here hx rfl (hb hby at_263) rfl ?_
        refine XS.iconst Y931.here hx rfl (hb hby at_265) ?_
        refine XS.icmpNo Y931.here hx rfl (hb hby at_266) rfl (teq (hF : sv0 = (4 : Int32))).2 ?_
        refine XS.iconst Y931.here hx rfl (hb hby at_269) ?_
        refine XS.goto Y931.here hx rfl (pc0 := 270) (pc' := 274) rfl (hb hby at_270) (by decide) (by decide) ?_
        refine XS.istore Y931.here hx rfl (hb hby at_274) rfl (l' := #[.val (.long p1), .second, .val (.long p2), .second, vI p3, vI 7, vR b843, vI c0, vI c1, vI c2, vI c3, vI c4, vI c5, vI c6, vI sv0, vI 1]) rfl ?_
        show Steps p.tables e below (T931.setTop (mkF m 276 #[.val (.long p1), .second, .val (.long p2), .second, vI p3, vI 7, vR b843, vI c0, vI c1, vI c2, vI c3, vI c4, vI c5, vI c6, vI sv0, vI 1] [])) _
        exact h)
    clear hF
    obtain ⟨T935, h935, X935, e935, E935, A935, D935, -, st935⟩ := newO Y931 hx hZ hown (hw _ (gm 6 rfl)) (hw _ (gm 7 rfl)) (hw _ (gm 8 rfl)) hh931 (g := (mkF m 276 #[.val (.long p1), .second, .val (.long p2), .second, vI p3, vI 7, vR b843, vI c0, vI c1, vI c2, vI c3, vI c4, vI c5, vI c6, vI sv0, vI 1] [])) rfl (hb hby at_276) (by decide) (by decide)
    obtain ⟨b935, g935⟩ : ∃ z, z = h906.size := ⟨_, rfl⟩
    rw [← g935] at A935 D935 st935
    have k936 : Rch p e below S0 T935 (mkF m 279 #[.val (.long p1), .second, .val (.long p2), .second, vI p3, vI 7, vR b843, vI c0, vI c1, vI c2, vI c3, vI c4, vI c5, vI c6, vI sv0, vI 1] [(.ref b935)]) := fun t h => k934 t (st935 t h)
    have ne_b843_b935 : b843 ≠ b935 := own_ne V_b843.lt (Nat.le_of_eq g935.symm)
    have ge_b935 : n0 ≤ b935 := own_ge O910 (Nat.le_of_eq g935.symm)
    have sf_b935 : Safe Z consts_1 s.vm h906 b935 := Safe.new (Nat.le_of_eq g935.symm)
    replace sf_b843 := Safe.ext E935 hC909 sf_b843
    replace sf_b935 := Safe.ext E935 hC909 sf_b935
    have hC937 := hC909.ext E935
    have rC937 := rC909.trans (CHr.ext E935 hC909)
    have O938 := O910.ext E935
    replace V_b843 := V_b843.ext E935
    have hkk939 := Nat.le_trans hkk911 E935.1
    have E_b935 := A935
    have F_b935_value : Fld Z h935 b935 "java/lang/String" "value" "[B" .null := D935 (Or.inr (hw _ (gm 21 rfl))) (ty := (.array .byte)) (by decide)
    have F_b935_coder : Fld Z h935 b935 "java/lang/String" "coder" "B" (.int (0 : Int32)) := D935 (Or.inr (hw _ (gm 22 rfl))) (ty := .byte) (by decide)
    have k940 : Rch p e below S0 T935 (mkF m 282 #[.val (.long p1), .second, .val (.long p2), .second, vI p3, vI 7, vR b843, vI c0, vI c1, vI c2, vI c3, vI c4, vI c5, vI c6, vI sv0, vI 1] [(.ref b843), (.ref b935), (.ref b935)]) := fun t h => k936 t (by
        show Steps p.tables e below (T935.setTop (mkF m 279 #[.val (.long p1), .second, .val (.long p2), .second, vI p3, vI 7, vR b843, vI c0, vI c1, vI c2, vI c3, vI c4, vI c5, vI c6, vI sv0, vI 1] [(.ref b935)])) _
        refine XS.dup X935.here hx rfl (hb hby at_279) rfl rfl ?_
        refine XS.aload X935.here hx rfl (hb hby at_280) rfl rfl ?_
        exact h)
    have hws : ∀ d ∈ StrChars.Road.words, d.before a0 Z = true := fun d hd => hw d ((by decide +kernel : ∀ d ∈ StrChars.Road.words, d ∈ tables_1) d hd)
    have hp : ∀ c ∈ ([c0, c1, c2, c3, c4, c5, c6] : List Int32), ¬ c < 0 ∧ ¬ (255 : Int32) < c := hpc
    obtain ⟨_, _, ⟨T941, L941, kk941, n941⟩, -, X941, ⟨Lc941, hQ941, l941, y941, z941⟩, st941⟩ := X935.specialBack hx (y := (⟨"java/lang/String", "<init>", "([C)V"⟩ : MethodName)) rfl hown (mvT hZ (hw _ (gm 9 rfl))) (mvT hZ (hw _ (gm 10 rfl))) (mvT hZ (hw _ (gm 11 rfl))) (by decide) (StrChars.Road.backV (W := 1) hZ hws (kI := 4) (hw _ (gm 7 rfl)) (cs := [c0, c1, c2, c3, c4, c5, c6]) (bs := [c0, c1, c2, c3, c4, c5, c6].map (fun c => c.toInt8.toInt32)) (n := 7) ge_b935 (own_le O938) E_b935 F_b935_value F_b935_coder V_b843 (SC.ext O938.2) hzC rfl rfl (by decide) (by decide) hp rfl (by decide) (by decide)) (g := (mkF m 282 #[.val (.long p1), .second, .val (.long p2), .second, vI p3, vI 7, vR b843, vI c0, vI c1, vI c2, vI c3, vI c4, vI c5, vI c6, vI sv0, vI 1] [(.ref b843), (.ref b935), (.ref b935)])) rfl (by rw [hml]; rfl) (Steps.refl _) (a := b935) (argsL := [(.ref b843)]) (rest := [(.ref b935)]) (lenOf pd_1 rfl) rfl (by show 2 * 0 + _ ≤ _; exact Nat.le_of_eq rfl) (hb hby at_282) (fun _ _ => ⟨rfl, e935, (by decide : 2 + 1 ≤ _), (by decide : 11 + 7 ≤ _)⟩)
    dsimp only [Pt.U, Pt.locs, Pt.cells, Pt.slots] at X941 l941 y941 z941 st941 hQ941
    subst l941 y941 z941
    obtain ⟨rfl, Nq941, K941, Eb941, Cb941, t941, kb941, u941, v941, ww941, Vb941, Ab941⟩ := hQ941
    have N941 := Fr.app M931 Nq941
    have k942 : Rch p e below S0 T941 (mkF m 285 #[.val (.long p1), .second, .val (.long p2), .second, vI p3, vI 7, vR b843, vI c0, vI c1, vI c2, vI c3, vI c4, vI c5, vI c6, vI sv0, vI 1] [(.ref b935)]) := fun t h => k940 t (st941.trans h)
    have hC943 := hC937.keep K941 (sfS sf_b935 sf0)
    have rC943 := rC937.trans (CHr.keep K941 (sfS sf_b935 sf0) hC937)
    have sfx944 := (sfS sf_b935 sf0)
    replace sf_b843 := Safe.keep K941 sfx944 hC937 sf_b843
    replace sf_b935 := Safe.keep K941 sfx944 hC937 sf_b935
    have O945 := O938.keep K941 (allS ge_b935 all0)
    replace V_b843 := V_b843.keep K941 (ninS ne_b843_b935 nin0)
    replace E_b935 := E_b935.keep K941
    have hkk946 := Nat.le_trans hkk939 K941.1
    obtain ⟨_, _, ⟨T947, L947, kk947, n947⟩, -, X947, ⟨Lc947, hQ947, l947, y947, z947⟩, st947⟩ := Jvm.LawKit.callS X941 hx (y := (⟨"com/example/nuthatch/nuthatch/EntryName", "isMember", "(Ljava/lang/String;)Z"⟩ : MethodName)) hown (mvT hZ (hw _ (gm 27 rfl))) (mvT hZ (hw _ (gm 28 rfl))) (mvT hZ (hw _ (gm 29 rfl))) (mvT hZ (hw _ (gm 30 rfl))) (by decide) (backOf (W := 0) (rmIM l Z a0 hw []  b935 t941 kb941 7 [c0, c1, c2, c3, c4, c5, c6] zC fm T941.heap n0 O945 SC hzC Eb941 Vb941 Cb941 Ab941 rfl (by decide) hpc SP hfm) hZ (hw _ (gm 30 rfl)) (hw _ (gm 29 rfl)) (by decide) (by decide)) (g := (mkF m 285 #[.val (.long p1), .second, .val (.long p2), .second, vI p3, vI 7, vR b843, vI c0, vI c1, vI c2, vI c3, vI c4, vI c5, vI c6, vI sv0, vI 1] [(.ref b935)])) rfl (by rw [hml]; rfl) (argsL := [(.ref b935)]) (rest := []) (lenOf pd_4 rfl) rfl (by show 2 * 0 + _ ≤ _; exact Nat.le_of_eq rfl) (hb hby at_285) (fun _ _ => ⟨rfl, rfl, (by decide : 3 + 0 ≤ _), (by decide : 18 + 0 ≤ _)⟩)
    dsimp only [Pt.U, Pt.locs, Pt.cells, Pt.slots] at X947 l947 y947 z947 st947 hQ947
    subst l947 y947 z947
    obtain ⟨rfl, Nq947, hh947⟩ := hQ947
    have N947 := Fr.app N941 Nq947
    have k948 : Rch p e below S0 T947 (mkF m 288 #[.val (.long p1), .second, .val (.long p2), .second, vI p3, vI 7, vR b843, vI c0, vI c1, vI c2, vI c3, vI c4, vI c5, vI c6, vI sv0, vI 1] [(.int (1 : Int32))]) := fun t h => k942 t (st947 t (by rw [hbm]; exact h))
    obtain ⟨lo947, Y947, M947⟩ : ∃ lo, Stand p l e room_1 (s.setVm s.vm) m #[(.long p1), (.long p2), (.int p3)] below meth c T947 lo 3 18 ∧ Fr n0 lo := ⟨_, X947, N947⟩
    clear X947 N947
    clear hbm
    have k949 : Rch p e below S0 T947 (mkF m 298 #[.val (.long p1), .second, .val (.long p2), .second, vI p3, vI 7, vR b843, vI c0, vI c1, vI c2, vI c3, vI c4, vI c5, vI c6, vI sv0, vI 1] [(.int (1 : Int32))]) := fun t h => k948 t (by
        show Steps p.tables e below (T947.setTop (mkF m 288 #[.val (.long p1), .second, .val (.long p2), .second, vI p3, vI 7, vR b843, vI c0, vI c1, vI c2, vI c3, vI c4, vI c5, vI c6, vI sv0, vI 1] [(.int (1 : Int32))])) _
        refine XS.iload Y947.here hx rfl (hb hby at_288) rfl ?_
        refine XS.icmpNo Y947.here hx rfl (hb hby at_290) rfl (teq (by decide : (1 : Int32) = (1 : Int32))).2 ?_
        refine XS.iconst Y947.here hx rfl (hb hby at_293) ?_
        refine XS.goto Y947.here hx rfl (pc0 := 294) (pc' := 298) rfl (hb hby at_294) (by decide) (by decide) ?_
        exact h)
    obtain ⟨fs, hr, hrun, hended, hfin⟩ := Y947.leaveW hS (by rw [hh947]; exact hkk946) (v := (some (.int (1 : Int32)))) (fun h => by rw [Bd.returns] at h; cases h)
    refine ⟨_, _, ?_, hrun, hended, _, _, rfl, ?_, (by rw [hh]; have q := own_chr rC943 (CHv.at Y947 hZ hEL hC943) hh947; exact q), hfin.1, hfin.2.1, hfin.2.2.1, hfin.2.2.2.mono (by decide) (by decide)⟩
    · rw [← hS0]
      refine k949 _ ?_
      show Steps p.tables e below (T947.setTop (mkF m 298 #[.val (.long p1), .second, .val (.long p2), .second, vI p3, vI 7, vR b843, vI c0, vI c1, vI c2, vI c3, vI c4, vI c5, vI c6, vI sv0, vI 1] [(.int (1 : Int32))])) _
      exact retN Y947 hx (t := .boolean) Bd.returns (by simp) (hb hby at_298) hr
    · show Q_rm0_7 Z  h0 n0 _ T947.heap _
      rw [hh947]
      exact ⟨rfl, M947⟩
  | false =>
    have hF : ¬ sv0 = 4 := by
      have q := hpl.2 hM
      simp only [own_fsI, List.map_cons, List.map_nil, List.foldr_cons, List.foldr_nil] at q
      rw [hsv0, hsv1, hsv2, hsv3, hsv4, hsv5, hsv6]; exact q
    clear hpl hsv0 hsv1 hsv2 hsv3 hsv4 hsv5 hsv6
    have hbm : own_b (own_mem (([c0, c1, c2, c3, c4, c5, c6] : List Int32).map kc) 7) = 0 := by rw [hM]; rfl
    clear hM
    have k950 : Rch p e below S0 T931 (mkF m 276 #[.val (.long p1), .second, .val (.long p2), .second, vI p3, vI 7, vR b843, vI c0, vI c1, vI c2, vI c3, vI c4, vI c5, vI c6, vI sv0, vI 0] []) := fun t h => k933 t (by
        show Steps p.tables e below (T931.setTop (mkF m 263 #[.val (.long p1), .second, .val (.long p2), .second, vI p3, vI 7, vR b843, vI c0, vI c1, vI c2, vI c3, vI c4, vI c5, vI c6, vI sv0, vU] [])) _
        refine XS.iload Y931.here hx rfl (hb hby at_263) rfl ?_
        refine XS.iconst Y931.here hx rfl (hb hby at_265) ?_
        refine XS.icmpYes Y931.here hx rfl (pc0 := 266) (pc' := 273) rfl (hb hby at_266) rfl (feq (hF : ¬ (sv0 = (4 : Int32)))).2 (by decide) (by decide) ?_
        refine XS.iconst Y931.here hx rfl (hb hby at_273) ?_
        refine XS.istore Y931.here hx rfl (hb hby at_274) rfl (l' := #[.val (.long p1), .second, .val (.long p2), .second, vI p3, vI 7, vR b843, vI c0, vI c1, vI c2, vI c3, vI c4, vI c5, vI c6, vI sv0, vI 0]) rfl ?_
        exact h)
    clear hF
    obtain ⟨T951, h951, X951, e951, E951, A951, D951, -, st951⟩ := newO Y931 hx hZ hown (hw _ (gm 6 rfl)) (hw _ (gm 7 rfl)) (hw _ (gm 8 rfl)) hh931 (g := (mkF m 276 #[.val (.long p1), .second, .val (.long p2), .second, vI p3, vI 7, vR b843, vI c0, vI c1, vI c2, vI c3, vI c4, vI c5, vI c6, vI sv0, vI 0] [])) rfl (hb hby at_276) (by decide) (by decide)
    obtain ⟨b951, g951⟩ : ∃ z, z = h906.size := ⟨_, rfl⟩
    rw [← g951] at A951 D951 st951
    have k952 : Rch p e below S0 T951 (mkF m 279 #[.val (.long p1), .second, .val (.long p2), .second, vI p3, vI 7, vR b843, vI c0, vI c1, vI c2, vI c3, vI c4, vI c5, vI c6, vI sv0, vI 0] [(.ref b951)]) := fun t h => k950 t (st951 t h)
    have ne_b843_b951 : b843 ≠ b951 := own_ne V_b843.lt (Nat.le_of_eq g951.symm)
    have ge_b951 : n0 ≤ b951 := own_ge O910 (Nat.le_of_eq g951.symm)
    have sf_b951 : Safe Z consts_1 s.vm h906 b951 := Safe.new (Nat.le_of_eq g951.symm)
    replace sf_b843 := Safe.ext E951 hC909 sf_b843
    replace sf_b951 := Safe.ext E951 hC909 sf_b951
    have hC953 := hC909.ext E951
    have rC953 := rC909.trans (CHr.ext E951 hC909)
    have O954 := O910.ext E951
    replace V_b843 := V_b843.ext E951
    have hkk955 := Nat.le_trans hkk911 E951.1
    have E_b951 := A951
    have F_b951_value : Fld Z h951 b951 "java/lang/String" "value" "[B" .null := D951 (Or.inr (hw _ (gm 21 rfl))) (ty := (.array .byte)) (by decide)
    have F_b951_coder : Fld Z h951 b951 "java/lang/String" "coder" "B" (.int (0 : Int32)) := D951 (Or.inr (hw _ (gm 22 rfl))) (ty := .byte) (by decide)
    have k956 : Rch p e below S0 T951 (mkF m 282 #[.val (.long p1), .second, .val (.long p2), .second, vI p3, vI 7, vR b843, vI c0, vI c1, vI c2, vI c3, vI c4, vI c5, vI c6, vI sv0, vI 0] [(.ref b843), (.ref b951), (.ref b951)]) := fun t h => k952 t (by
        show Steps p.tables e below (T951.setTop (mkF m 279 #[.val (.long p1), .second, .val (.long p2), .second, vI p3, vI 7, vR b843, vI c0, vI c1, vI c2, vI c3, vI c4, vI c5, vI c6, vI sv0, vI 0] [(.ref b951)])) _
        refine XS.dup X951.here hx rfl (hb hby at_279) rfl rfl ?_
        show Steps p.tables e below (T951.setTop (mkF m 280 #[.val (.long p1), .second, .val (.long p2), .second, vI p3, vI 7, vR b843, vI c0, vI c1, vI c2, vI c3, vI c4, vI c5, vI c6, vI sv0, vI 0] [(.ref b951), (.ref b951)])) _
        refine XS.aload X951.here hx rfl (hb hby at_280) rfl rfl ?_
        exact h)
    have hws : ∀ d ∈ StrChars.Road.words, d.before a0 Z = true := fun d hd => hw d ((by decide +kernel : ∀ d ∈ StrChars.Road.words, d ∈ tables_1) d hd)
    have hp : ∀ c ∈ ([c0, c1, c2, c3, c4, c5, c6] : List Int32), ¬ c < 0 ∧ ¬ (255 : Int32) < c := hpc
    obtain ⟨_, _, ⟨T957, L957, kk957, n957⟩, -, X957, ⟨Lc957, hQ957, l957, y957, z957⟩, st957⟩ := X951.specialBack hx (y := (⟨"java/lang/String", "<init>", "([C)V"⟩ : MethodName)) rfl hown (mvT hZ (hw _ (gm 9 rfl))) (mvT hZ (hw _ (gm 10 rfl))) (mvT hZ (hw _ (gm 11 rfl))) (by decide) (StrChars.Road.backV (W := 1) hZ hws (kI := 4) (hw _ (gm 7 rfl)) (cs := [c0, c1, c2, c3, c4, c5, c6]) (bs := [c0, c1, c2, c3, c4, c5, c6].map (fun c => c.toInt8.toInt32)) (n := 7) ge_b951 (own_le O954) E_b951 F_b951_value F_b951_coder V_b843 (SC.ext O954.2) hzC rfl rfl (by decide) (by decide) hp rfl (by decide) (by decide)) (g := (mkF m 282 #[.val (.long p1), .second, .val (.long p2), .second, vI p3, vI 7, vR b843, vI c0, vI c1, vI c2, vI c3, vI c4, vI c5, vI c6, vI sv0, vI 0] [(.ref b843), (.ref b951), (.ref b951)])) rfl (by rw [hml]; rfl) (Steps.refl _) (a := b951) (argsL := [(.ref b843)]) (rest := [(.ref b951)]) (lenOf pd_1 rfl) rfl (by show 2 * 0 + _ ≤ _; exact Nat.le_of_eq rfl) (hb hby at_282) (fun _ _ => ⟨rfl, e951, (by decide : 2 + 1 ≤ _), (by decide : 11 + 7 ≤ _)⟩)
    dsimp only [Pt.U, Pt.locs, Pt.cells, Pt.slots] at X957 l957 y957 z957 st957 hQ957
    subst l957 y957 z957
    obtain ⟨rfl, Nq957, K957, Eb957, Cb957, t957, kb957, u957, v957, ww957, Vb957, Ab957⟩ := hQ957
    have N957 := Fr.app M931 Nq957
    have k958 : Rch p e below S0 T957 (mkF m 285 #[.val (.long p1), .second, .val (.long p2), .second, vI p3, vI 7, vR b843, vI c0, vI c1, vI c2, vI c3, vI c4, vI c5, vI c6, vI sv0, vI 0] [(.ref b951)]) := fun t h => k956 t (st957.trans h)
    have hC959 := hC953.keep K957 (sfS sf_b951 sf0)
    have rC959 := rC953.trans (CHr.keep K957 (sfS sf_b951 sf0) hC953)
    have sfx960 := (sfS sf_b951 sf0)
    replace sf_b843 := Safe.keep K957 sfx960 hC953 sf_b843
    replace sf_b951 := Safe.keep K957 sfx960 hC953 sf_b951
    have O961 := O954.keep K957 (allS ge_b951 all0)
    replace V_b843 := V_b843.keep K957 (ninS ne_b843_b951 nin0)
    replace E_b951 := E_b951.keep K957
    have hkk962 := Nat.le_trans hkk955 K957.1
    obtain ⟨_, _, ⟨T963, L963, kk963, n963⟩, -, X963, ⟨Lc963, hQ963, l963, y963, z963⟩, st963⟩ := Jvm.LawKit.callS X957 hx (y := (⟨"com/example/nuthatch/nuthatch/EntryName", "isMember", "(Ljava/lang/String;)Z"⟩ : MethodName)) hown (mvT hZ (hw _ (gm 27 rfl))) (mvT hZ (hw _ (gm 28 rfl))) (mvT hZ (hw _ (gm 29 rfl))) (mvT hZ (hw _ (gm 30 rfl))) (by decide) (backOf (W := 0) (rmIM l Z a0 hw []  b951 t957 kb957 7 [c0, c1, c2, c3, c4, c5, c6] zC fm T957.heap n0 O961 SC hzC Eb957 Vb957 Cb957 Ab957 rfl (by decide) hpc SP hfm) hZ (hw _ (gm 30 rfl)) (hw _ (gm 29 rfl)) (by decide) (by decide)) (g := (mkF m 285 #[.val (.long p1), .second, .val (.long p2), .second, vI p3, vI 7, vR b843, vI c0, vI c1, vI c2, vI c3, vI c4, vI c5, vI c6, vI sv0, vI 0] [(.ref b951)])) rfl (by rw [hml]; rfl) (argsL := [(.ref b951)]) (rest := []) (lenOf pd_4 rfl) rfl (by show 2 * 0 + _ ≤ _; exact Nat.le_of_eq rfl) (hb hby at_285) (fun _ _ => ⟨rfl, rfl, (by decide : 3 + 0 ≤ _), (by decide : 18 + 0 ≤ _)⟩)
    dsimp only [Pt.U, Pt.locs, Pt.cells, Pt.slots] at X963 l963 y963 z963 st963 hQ963
    subst l963 y963 z963
    obtain ⟨rfl, Nq963, hh963⟩ := hQ963
    have N963 := Fr.app N957 Nq963
    have k964 : Rch p e below S0 T963 (mkF m 288 #[.val (.long p1), .second, .val (.long p2), .second, vI p3, vI 7, vR b843, vI c0, vI c1, vI c2, vI c3, vI c4, vI c5, vI c6, vI sv0, vI 0] [(.int (0 : Int32))]) := fun t h => k958 t (st963 t (by rw [hbm]; exact h))
    obtain ⟨lo963, Y963, M963⟩ : ∃ lo, Stand p l e room_1 (s.setVm s.vm) m #[(.long p1), (.long p2), (.int p3)] below meth c T963 lo 3 18 ∧ Fr n0 lo := ⟨_, X963, N963⟩
    clear X963 N963
    clear hbm
    have k965 : Rch p e below S0 T963 (mkF m 298 #[.val (.long p1), .second, .val (.long p2), .second, vI p3, vI 7, vR b843, vI c0, vI c1, vI c2, vI c3, vI c4, vI c5, vI c6, vI sv0, vI 0] [(.int (1 : Int32))]) := fun t h => k964 t (by
        show Steps p.tables e below (T963.setTop (mkF m 288 #[.val (.long p1), .second, .val (.long p2), .second, vI p3, vI 7, vR b843, vI c0, vI c1, vI c2, vI c3, vI c4, vI c5, vI c6, vI sv0, vI 0] [(.int (0 : Int32))])) _
        refine XS.iload Y963.here hx rfl (hb hby at_288) rfl ?_
        refine XS.icmpNo Y963.here hx rfl (hb hby at_290) rfl (teq (by decide : (0 : Int32) = (0 : Int32))).2 ?_
        refine XS.iconst Y963.here hx rfl (hb hby at_293) ?_
        refine XS.goto Y963.here hx rfl (pc0 := 294) (pc' := 298) rfl (hb hby at_294) (by decide) (by decide) ?_
        exact h)
    obtain ⟨fs, hr, hrun, hended, hfin⟩ := Y963.leaveW hS (by rw [hh963]; exact hkk962) (v := (some (.int (1 : Int32)))) (fun h => by rw [Bd.returns] at h; cases h)
    refine ⟨_, _, ?_, hrun, hended, _, _, rfl, ?_, (by rw [hh]; have q := own_chr rC959 (CHv.at Y963 hZ hEL hC959) hh963; exact q), hfin.1, hfin.2.1, hfin.2.2.1, hfin.2.2.2.mono (by decide) (by decide)⟩
    · rw [← hS0]
      refine k965 _ ?_
      show Steps p.tables e below (T963.setTop (mkF m 298 #[.val (.long p1), .second, .val (.long p2), .second, vI p3, vI 7, vR b843, vI c0, vI c1, vI c2, vI c3, vI c4, vI c5, vI c6, vI sv0, vI 0] [(.int (1 : Int32))])) _
      exact retN Y963 hx (t := .boolean) Bd.returns (by simp) (hb hby at_298) hr
    · show Q_rm0_7 Z  h0 n0 _ T963.heap _
      rw [hh963]
      exact ⟨rfl, M963⟩
theorem own_len8 (p3 : Int32) : p3 &&& 7 = (0 : Int32) ∨ p3 &&& 7 = (1 : Int32) ∨ p3 &&& 7 = (2 : Int32) ∨ p3 &&& 7 = (3 : Int32) ∨ p3 &&& 7 = (4 : Int32) ∨ p3 &&& 7 = (5 : Int32) ∨ p3 &&& 7 = (6 : Int32) ∨ p3 &&& 7 = (7 : Int32) := by
  have h := c_mask p3 7 3 (by decide) (by decide)
  have e : ∀ k : Int32, (p3 &&& 7).toInt = k.toInt → p3 &&& 7 = k := fun k q => Int32.toInt_inj.mp q
  have r : (p3 &&& 7).toInt = 0 ∨ (p3 &&& 7).toInt = 1 ∨ (p3 &&& 7).toInt = 2 ∨ (p3 &&& 7).toInt = 3 ∨ (p3 &&& 7).toInt = 4 ∨ (p3 &&& 7).toInt = 5 ∨ (p3 &&& 7).toInt = 6 ∨ (p3 &&& 7).toInt = 7 := by omega
  rcases r with r | r | r | r | r | r | r | r
  · exact Or.inl (e _ (r.trans (by decide)))
  · exact Or.inr (Or.inl (e _ (r.trans (by decide))))
  · exact Or.inr (Or.inr (Or.inl (e _ (r.trans (by decide)))))
  · exact Or.inr (Or.inr (Or.inr (Or.inl (e _ (r.trans (by decide))))))
  · exact Or.inr (Or.inr (Or.inr (Or.inr (Or.inl (e _ (r.trans (by decide)))))))
  · exact Or.inr (Or.inr (Or.inr (Or.inr (Or.inr (Or.inl (e _ (r.trans (by decide))))))))
  · exact Or.inr (Or.inr (Or.inr (Or.inr (Or.inr (Or.inr (Or.inl (e _ (r.trans (by decide)))))))))
  · exact Or.inr (Or.inr (Or.inr (Or.inr (Or.inr (Or.inr (Or.inr ((e _ (r.trans (by decide))))))))))
theorem own_all (l : Launch) (Z : State) (a0 : Array Value) (hw : ∀ d ∈ tables_1, d.before a0 Z = true) (ws : List Jvm.Cond) (p1 p2 : Int64) (p3 zC : Int32) (fm : Value) (h0 : Heap) (n0 : Nat) (O0 : Old Z n0 h0) (SC : Sta Z Z.heap "java/lang/String" "COMPACT_STRINGS" "Z" (.int zC)) (hzC : ¬ zC = 0) (SP : Sta Z Z.heap "jdk/internal/util/Preconditions" "SIOOBE_FORMATTER" "Ljava/util/function/BiFunction;" fm) (hfm : fm = .null ∨ ∃ wP, fm = .ref wP) :
    MetFree l x (head1 (Jvm.Cond.code x code maxLocals ret :: ws) room_1) (fun a U => a = #[(.long p1), (.long p2), (.int p3)] ∧ Z.Warmed39 U.vm ∧ U.heap = h0 ∧ CHv Z consts_1 U.vm h0) (fun _ _ _ _ _ => True) (fun _ U o U' => ∃ v L, o = .returned v ∧ Q_rm0_0 Z h0 n0 v U'.heap L ∧ CHr Z consts_1 U.vm U.heap U'.vm U'.heap ∧ ReturnedEndW U o U' L room_1.cells room_1.slots) := by
  rcases own_len8 p3 with hq | hq | hq | hq | hq | hq | hq | hq
  · exact rm0_0 l Z a0 hw ws p1 p2 p3 zC fm h0 n0 O0 SC hzC SP hfm hq
  · exact rm0_1 l Z a0 hw ws p1 p2 p3 zC fm h0 n0 O0 SC hzC SP hfm hq
  · exact rm0_2 l Z a0 hw ws p1 p2 p3 zC fm h0 n0 O0 SC hzC SP hfm hq
  · exact rm0_3 l Z a0 hw ws p1 p2 p3 zC fm h0 n0 O0 SC hzC SP hfm hq
  · exact rm0_4 l Z a0 hw ws p1 p2 p3 zC fm h0 n0 O0 SC hzC SP hfm hq
  · exact rm0_5 l Z a0 hw ws p1 p2 p3 zC fm h0 n0 O0 SC hzC SP hfm hq
  · exact rm0_6 l Z a0 hw ws p1 p2 p3 zC fm h0 n0 O0 SC hzC SP hfm hq
  · exact rm0_7 l Z a0 hw ws p1 p2 p3 zC fm h0 n0 O0 SC hzC SP hfm hq
set_option maxRecDepth 65536 in
set_option maxHeartbeats 40000000 in
theorem comes_1 {Post : Tables → Env → Array Value → State → Outcome → State → Prop} (hpost : ∀ tb e args s v u, (limb_1_1.after args s (.returned v) u = true ∧ limb_1_2.after args s (.returned v) u = true ∧ True) → ReturnedEndW s (.returned v) u (Jvm.fieldLocs frame_1_writes args s ++ Jvm.arrayLocs frame_1_arrays args s ++ Jvm.staticLocs frame_1_statics s) 16 1152 → Post tb e args s (.returned v) u) :
    ArmFor flags0 classFile x code maxLocals ret World_1 tables_1 room_1 Calls_1 rest_1 Pre_1 Post := by
  intro l hfl _ _ p e ha hc hk s m args below hf hA hF happ hP
  obtain ⟨hcalls, hrest, hpre⟩ := hP
  obtain ⟨-, -, -, hnamed, -, -, -, hat⟩ := (Spec.applies_iff hf).mp happ
  obtain ⟨hg, hn⟩ := and_e (Cond.before_iff.mp (show (Jvm.Cond.and given_1 narrow_1).before args s = true from hpre))
  obtain ⟨g_0, g_1⟩ := and_e hg
  obtain ⟨gi_0, gr_0⟩ := and_e g_1
  obtain ⟨gi_1, gr_1⟩ := and_e gr_0
  obtain ⟨w0, w1, w2, rfl⟩ : ∃ w0 w1 w2 : Value, args = #[w0, w1, w2] := by
    have hs : args.size = 3 := by simpa [Cond.value, given_1] using g_0
    obtain ⟨L⟩ := args
    match L, hs with
    | [w0, w1, w2], _ => exact ⟨w0, w1, w2, rfl⟩
  have hw := fun d (hd : d ∈ tables_1) => atoms_spec (ws := Jvm.Cond.code x code maxLocals ret :: tables_1) hat d (List.mem_cons_of_mem _ hd)
  have hfit : Fit s := fun {y c} hc i hi => by
    obtain ⟨ha, rfl⟩ := Array.getElem?_eq_some_iff.mp hc
    have q := List.all_eq_true.mp ((Array.all_eq_true_iff_forall_mem.mp hF) _ (Array.getElem_mem ha)) i (List.mem_range.mpr hi)
    simpa [Array.getElem?_eq_getElem hi] using q
  obtain ⟨i0, ei0⟩ := isL_v gi_0
  obtain rfl : w0 = (.long i0) := Option.some.inj ei0
  obtain ⟨i1, ei1⟩ := isL_v gi_1
  obtain rfl : w1 = (.long i1) := Option.some.inj ei1
  obtain ⟨i2, ei2⟩ := is_v gr_1
  obtain rfl : w2 = (.int i2) := Option.some.inj ei2
  obtain ⟨hsets, hown0⟩ := atoms_of _ (rest_1_c_eq ▸ (show rest_1_c.before _ s = true from hrest))
  have hr0 := Cond.before_iff.mp hown0
  obtain ⟨zC, eC⟩ := is_v (Cond.before_iff.mp (hsets _ (gm 1 rfl)))
  have SC := Sta.start eC (Or.inl (hsets _ (gm 0 rfl)))
  have hzC : ¬ zC = 0 := fun q => by
    have u := not_v (Cond.before_iff.mp (hsets _ (gm 2 rfl)))
    simp only [Cond.value, eC, Term.int_eval, q] at u
    simp at u
  obtain ⟨fm, eP, rP⟩ := isR_v (Cond.before_iff.mp (hsets _ (gm 8 rfl)))
  have SP := Sta.start eP (Or.inl (hsets _ (gm 7 rfl)))
  have hfm := ref_cases rP
  have hEL : EW s _ consts_1 := (EW.cons (hw _ (gm 19 rfl)) (by decide +kernel) EW.nil)
  have hCH : CHv s consts_1 s.vm s.heap := CHv.start hEL (fun p hp => hcalls.1 p hp) (hsets _ (gm 2 rfl)) (hw _ (gm 20 rfl)) (hw _ (gm 7 rfl))
  obtain ⟨n, o, h1, h2, h3, _, L, rfl, ⟨rfl, N⟩, -, hq⟩ := own_all l s _ hw tables_1 i0 i1 i2 zC fm s.heap s.heap.size (Old.start s) SC hzC SP hfm p e ha hc hk s m _ below hf ((Spec.applies_iff_loose hf).mp happ).1 ⟨rfl, State.Warmed39.refl s, rfl, hCH⟩ trivial
  refine ⟨n, _, h1, h2, h3, hpost _ _ _ _ _ _ ⟨Cond.after_iff.mpr rfl, Cond.after_iff.mpr (eq_i res_at (Term.int_eval (1)) rfl), trivial⟩ ⟨hq.1, hq.2.1, hq.2.2.1, (hq.2.2.2.sift fun y hy => Or.inr (N y hy)).mono (by decide) (by decide)⟩⟩
theorem main_1_1 : Claimed_1_1 := comes_1 fun _ _ _ _ _ _ h hF => ⟨h.1, hF⟩
theorem main_1_2 : Claimed_1_2 := comes_1 fun _ _ _ _ _ _ h hF => ⟨h.2.1, hF⟩
end Jvm.Pilot.@@N@@
namespace Jvm.Pilot.@@N@@
open Jvm Jvm.ClassFile Sem Op Lib Jvm.Free Jvm.Stand Jvm.Pilot.@@N@@.Jvm.D
/-! MADE BY PROGRAM (witnessworld.py) out of the Statement's table words and the real class files: 21 classes; the members and pool entries that the words name. The judged class is class 1, her method 1. -/
namespace start1
open Jvm.ClassFile
def u (s : String) : CpInfo := .utf8 (stringToUtf16 s)
/-- a pool by its gaps: so many unusable entries, then the entry; so many at the end -/
def gap : Nat → List CpInfo → List CpInfo
  | 0, r => r
  | n + 1, r => .unusable :: gap n r
def poolList (es : List (Nat × CpInfo)) (last : Nat) : List CpInfo := es.foldr (fun e r => gap e.1 (e.2 :: r)) (gap last [])
def pool (es : List (Nat × CpInfo)) (last : Nat) : Array CpInfo := ⟨poolList es last⟩
def fileOf (pool : Array CpInfo) (this : Nat) (attrs : Array Attribute := #[]) (ms : Array MethodInfo := #[]) (fl : Nat := 33) (sup : Nat := 0) (ifs : Array Nat := #[]) (fds : Array FieldInfo := #[]) : ClassFile where
  minorVersion := 0
  majorVersion := 65
  constantPool := pool
  accessFlags := fl
  thisClass := this
  superClass := sup
  interfaces := ifs
  fields := fds
  methods := ms
  attributes := attrs
def plain (name : String) (sup : Option ClassId) : Class where
  name := name
  kind := .ordinary
  loader := none
  accessFlags := 33
  super := sup
  interfaces := #[]
  cf := none
  fields := #[]
  methods := #[]
  instanceTypes := #[]
  staticTypes := #[]
  resolved := #[]
  callSites := []
  init := .initialized
  statics := none
  mirror := none

def pool0 : Array CpInfo := pool [(5, u "<init>"), (0, u "()V"), (1, .class_ 10), (1, u "java/lang/Object")] 113

def k0c0 : Code := { maxStack := 0, maxLocals := 1, code := object_method_1_code, exceptionTable := #[], attributes := #[] }
def k0m0 : Method := { name := "<init>", desc := "()V", sig := { parameters := [], returnType := none }, accessFlags := 1, code := some k0c0 }
/-- java/lang/Object -/
def k0 : Class := { plain "java/lang/Object" none with
  accessFlags := 33
  interfaces := #[]
  cf := some (fileOf pool0 8 #[] #[{ accessFlags := 1, nameIndex := 5, descriptorIndex := 6, attributes := #[] }] 33 0 #[] #[])
  fields := #[]
  methods := #[k0m0]
  instanceTypes := #[]
  staticTypes := #[]
  resolved := Array.replicate 124 none
  statics := none }

def pool1 : Array CpInfo := pool [(2, .class_ 4), (1, u "java/lang/Object"), (0, u "<init>"), (0, u "()V"), (0, .methodref 8 9), (0, .class_ 10), (0, .nameAndType 11 12), (0, u "com/example/nuthatch/nuthatch/EntryNameIsMemberPinLaw"), (0, u "ch"), (0, u "(J)C"), (0, .methodref 8 14), (0, .nameAndType 15 16), (0, u "step"), (0, u "(IC)I"), (0, .class_ 18), (0, u "java/lang/String"), (0, .methodref 17 20), (0, .nameAndType 5 21), (0, u "([C)V"), (0, .methodref 23 24), (0, .class_ 25), (0, .nameAndType 26 27), (0, u "com/example/nuthatch/nuthatch/EntryName"), (0, u "isMember"), (0, u "(Ljava/lang/String;)Z"), (0, .long 1023), (3, u "law"), (0, u "(JJI)Z")] 5

def k1m0 : Method := { name := "<init>", desc := "()V", sig := { parameters := [], returnType := none }, accessFlags := 2, code := none }
def k1c1 : Code := { maxStack := 3, maxLocals := 16, code := code, exceptionTable := #[], attributes := #[] }
def k1m1 : Method := { name := "law", desc := "(JJI)Z", sig := { parameters := [.long, .long, .int], returnType := some .boolean }, accessFlags := 9, code := some k1c1 }
def k1c2 : Code := { maxStack := 4, maxLocals := 5, code := method_3_code, exceptionTable := #[], attributes := #[] }
def k1m2 : Method := { name := "ch", desc := "(J)C", sig := { parameters := [.long], returnType := some .char }, accessFlags := 10, code := some k1c2 }
def k1c3 : Code := { maxStack := 2, maxLocals := 5, code := method_4_code, exceptionTable := #[], attributes := #[] }
def k1m3 : Method := { name := "step", desc := "(IC)I", sig := { parameters := [.int, .char], returnType := some .int }, accessFlags := 10, code := some k1c3 }
/-- com/example/nuthatch/nuthatch/EntryNameIsMemberPinLaw -/
def k1 : Class := { plain "com/example/nuthatch/nuthatch/EntryNameIsMemberPinLaw" (some 0) with
  accessFlags := 49
  interfaces := #[]
  cf := some (fileOf pool1 8 #[] #[{ accessFlags := 2, nameIndex := 5, descriptorIndex := 6, attributes := #[] }, { accessFlags := 9, nameIndex := 32, descriptorIndex := 33, attributes := #[] }, { accessFlags := 10, nameIndex := 11, descriptorIndex := 12, attributes := #[] }, { accessFlags := 10, nameIndex := 15, descriptorIndex := 16, attributes := #[] }] 49 2 #[] #[])
  fields := #[]
  methods := #[k1m0, k1m1, k1m2, k1m3]
  instanceTypes := #[]
  staticTypes := #[]
  resolved := Array.replicate 39 none
  statics := none }

def pool2 : Array CpInfo := pool [(1, .class_ 2), (0, u "java/io/Serializable"), (0, .class_ 4), (0, u "java/lang/Object")] 2

/-- java/io/Serializable -/
def k2 : Class := { plain "java/io/Serializable" (some 0) with
  accessFlags := 1537
  interfaces := #[]
  cf := some (fileOf pool2 1 #[] #[] 1537 3 #[] #[])
  fields := #[]
  methods := #[]
  instanceTypes := #[]
  staticTypes := #[]
  resolved := Array.replicate 7 none
  statics := none }

def pool3 : Array CpInfo := pool [(1, .class_ 2), (0, u "java/lang/Comparable"), (0, .class_ 4), (0, u "java/lang/Object")] 7

/-- java/lang/Comparable -/
def k3 : Class := { plain "java/lang/Comparable" (some 0) with
  accessFlags := 1537
  interfaces := #[]
  cf := some (fileOf pool3 1 #[] #[] 1537 3 #[] #[])
  fields := #[]
  methods := #[]
  instanceTypes := #[]
  staticTypes := #[]
  resolved := Array.replicate 12 none
  statics := none }

def pool4 : Array CpInfo := pool [(2, .class_ 4), (1, u "java/lang/CharSequence"), (42, .class_ 48), (0, u "java/lang/CharSequence$1CodePointIterator"), (10, .class_ 60), (0, u "java/lang/CharSequence$1CharIterator"), (5, .class_ 67), (0, u "java/lang/Object")] 63

/-- java/lang/CharSequence -/
def k4 : Class := { plain "java/lang/CharSequence" (some 0) with
  accessFlags := 1537
  interfaces := #[]
  cf := some (fileOf pool4 2 #[.nestMembers #[47, 59]] #[] 1537 66 #[] #[])
  fields := #[]
  methods := #[]
  instanceTypes := #[]
  staticTypes := #[]
  resolved := Array.replicate 131 none
  statics := none }

def pool5 : Array CpInfo := pool [(1, .class_ 2), (0, u "java/lang/constant/Constable"), (0, .class_ 4), (0, u "java/lang/Object")] 6

/-- java/lang/constant/Constable -/
def k5 : Class := { plain "java/lang/constant/Constable" (some 0) with
  accessFlags := 1537
  interfaces := #[]
  cf := some (fileOf pool5 1 #[] #[] 1537 3 #[] #[])
  fields := #[]
  methods := #[]
  instanceTypes := #[]
  staticTypes := #[]
  resolved := Array.replicate 11 none
  statics := none }

def pool6 : Array CpInfo := pool [(1, .class_ 2), (0, u "java/lang/constant/ConstantDesc"), (0, .class_ 4), (0, u "java/lang/Object")] 32

/-- java/lang/constant/ConstantDesc -/
def k6 : Class := { plain "java/lang/constant/ConstantDesc" (some 0) with
  accessFlags := 1537
  interfaces := #[]
  cf := some (fileOf pool6 1 #[] #[] 1537 3 #[] #[])
  fields := #[]
  methods := #[]
  instanceTypes := #[]
  staticTypes := #[]
  resolved := Array.replicate 37 none
  statics := none }

def pool7 : Array CpInfo := pool [(1, .methodref 2 3), (0, .class_ 4), (0, .nameAndType 5 6), (0, u "java/lang/Object"), (0, u "<init>"), (0, u "()V"), (0, .string 8), (0, u ""), (0, .fieldref 10 11), (0, .class_ 12), (0, .nameAndType 13 14), (0, u "java/lang/String"), (0, u "value"), (0, u "[B"), (0, .fieldref 10 16), (0, .nameAndType 17 18), (0, u "coder"), (0, u "B"), (2, u "hash"), (0, u "I"), (2, u "hashIsZero"), (0, u "Z"), (0, .methodref 10 28), (0, .nameAndType 5 29), (0, u "([CIILjava/lang/Void;)V"), (8, .fieldref 10 39), (0, .nameAndType 40 26), (0, u "COMPACT_STRINGS"), (1, .class_ 44), (1, u "java/lang/StringUTF16"), (0, u "compress"), (1, .methodref 42 48), (0, .nameAndType 49 50), (0, u "coderFromArrayLen"), (0, u "([BI)B"), (46, u "([BII)I"), (9, .class_ 109), (1, u "java/lang/StringLatin1"), (32, u "()Z"), (34, .methodref 42 178), (0, .nameAndType 45 179), (0, u "([CII)[B"), (154, u "()I"), (0, .methodref 10 336), (0, .nameAndType 17 337), (0, u "()B"), (25, u "([BI)C"), (27, u "(II)V"), (35, u "(I)C"), (64, .methodref 10 493), (0, .nameAndType 494 142), (0, u "isLatin1"), (0, .methodref 107 496), (0, .nameAndType 497 363), (0, u "charAt"), (3, u "checkIndex"), (3, .methodref 10 506), (0, .nameAndType 507 334), (0, u "length"), (67, .class_ 576), (0, u "java/lang/CharSequence"), (22, u "CASE_INSENSITIVE_ORDER"), (0, u "Ljava/util/Comparator;"), (35, u "(II)I"), (4, .methodref 10 642), (0, .nameAndType 643 636), (0, u "lastIndexOf"), (0, .methodref 107 645), (0, .nameAndType 643 97), (119, u "(I)I"), (244, u "([C)V"), (42, .fieldref 1054 1055), (0, .class_ 1056), (0, .nameAndType 1057 1058), (0, u "jdk/internal/util/Preconditions"), (0, u "SIOOBE_FORMATTER"), (0, u "Ljava/util/function/BiFunction;"), (0, .methodref 1054 1060), (0, .nameAndType 501 1061), (0, u "(IILjava/util/function/BiFunction;)I"), (39, u "serialPersistentFields"), (0, u "[Ljava/io/ObjectStreamField;"), (0, .class_ 1104), (0, u "java/lang/String$CaseInsensitiveComparator"), (1, .class_ 1107), (0, u "java/io/Serializable"), (0, .class_ 1109), (0, u "java/lang/Comparable"), (0, .class_ 1111), (0, u "java/lang/constant/Constable"), (0, .class_ 1113), (0, u "java/lang/constant/ConstantDesc"), (2, u "serialVersionUID"), (0, u "J"), (3, u "REPL"), (0, u "C"), (2, u "LATIN1"), (1, u "UTF16")] 323

def k7m0 : Method := { name := "<init>", desc := "()V", sig := { parameters := [], returnType := none }, accessFlags := 1, code := none }
def k7c1 : Code := { maxStack := 5, maxLocals := 2, code := jdk_42_method_3_code, exceptionTable := #[], attributes := #[] }
def k7m1 : Method := { name := "<init>", desc := "([C)V", sig := { parameters := [(.array .char)], returnType := none }, accessFlags := 1, code := some k7c1 }
def k7c2 : Code := { maxStack := 2, maxLocals := 1, code := jdk_42_method_54_code, exceptionTable := #[], attributes := #[] }
def k7m2 : Method := { name := "length", desc := "()I", sig := { parameters := [], returnType := some .int }, accessFlags := 1, code := some k7c2 }
def k7c3 : Code := { maxStack := 2, maxLocals := 2, code := jdk_42_method_56_code, exceptionTable := #[], attributes := #[] }
def k7m3 : Method := { name := "charAt", desc := "(I)C", sig := { parameters := [.int], returnType := some .char }, accessFlags := 1, code := some k7c3 }
def k7c4 : Code := { maxStack := 4, maxLocals := 2, code := jdk_42_method_82_code, exceptionTable := #[], attributes := #[] }
def k7m4 : Method := { name := "lastIndexOf", desc := "(I)I", sig := { parameters := [.int], returnType := some .int }, accessFlags := 1, code := some k7c4 }
def k7c5 : Code := { maxStack := 3, maxLocals := 3, code := jdk_42_method_83_code, exceptionTable := #[], attributes := #[] }
def k7m5 : Method := { name := "lastIndexOf", desc := "(II)I", sig := { parameters := [.int, .int], returnType := some .int }, accessFlags := 1, code := some k7c5 }
def k7c6 : Code := { maxStack := 4, maxLocals := 6, code := jdk_42_method_149_code, exceptionTable := #[], attributes := #[] }
def k7m6 : Method := { name := "<init>", desc := "([CIILjava/lang/Void;)V", sig := { parameters := [(.array .char), .int, .int, (.object "java/lang/Void")], returnType := none }, accessFlags := 2, code := some k7c6 }
def k7c7 : Code := { maxStack := 1, maxLocals := 1, code := jdk_42_method_152_code, exceptionTable := #[], attributes := #[] }
def k7m7 : Method := { name := "coder", desc := "()B", sig := { parameters := [], returnType := some .byte }, accessFlags := 0, code := some k7c7 }
def k7c8 : Code := { maxStack := 1, maxLocals := 1, code := jdk_42_method_154_code, exceptionTable := #[], attributes := #[] }
def k7m8 : Method := { name := "isLatin1", desc := "()Z", sig := { parameters := [], returnType := some .boolean }, accessFlags := 0, code := some k7c8 }
def k7c9 : Code := { maxStack := 3, maxLocals := 2, code := jdk_42_method_155_code, exceptionTable := #[], attributes := #[] }
def k7m9 : Method := { name := "checkIndex", desc := "(II)V", sig := { parameters := [.int, .int], returnType := none }, accessFlags := 8, code := some k7c9 }
/-- java/lang/String -/
def k7 : Class := { plain "java/lang/String" (some 0) with
  accessFlags := 49
  interfaces := #[2, 3, 4, 5, 6]
  cf := some (fileOf pool7 10 #[.nestMembers #[1103]] #[{ accessFlags := 1, nameIndex := 5, descriptorIndex := 6, attributes := #[] }, { accessFlags := 1, nameIndex := 5, descriptorIndex := 1010, attributes := #[] }, { accessFlags := 1, nameIndex := 507, descriptorIndex := 334, attributes := #[] }, { accessFlags := 1, nameIndex := 497, descriptorIndex := 427, attributes := #[] }, { accessFlags := 1, nameIndex := 643, descriptorIndex := 765, attributes := #[] }, { accessFlags := 1, nameIndex := 643, descriptorIndex := 636, attributes := #[] }, { accessFlags := 2, nameIndex := 5, descriptorIndex := 29, attributes := #[] }, { accessFlags := 0, nameIndex := 17, descriptorIndex := 337, attributes := #[] }, { accessFlags := 0, nameIndex := 494, descriptorIndex := 142, attributes := #[] }, { accessFlags := 8, nameIndex := 501, descriptorIndex := 391, attributes := #[] }] 49 2 #[1106, 1108, 575, 1110, 1112] #[{ accessFlags := 18, nameIndex := 13, descriptorIndex := 14, attributes := #[] }, { accessFlags := 18, nameIndex := 17, descriptorIndex := 18, attributes := #[] }, { accessFlags := 2, nameIndex := 21, descriptorIndex := 22, attributes := #[] }, { accessFlags := 2, nameIndex := 25, descriptorIndex := 26, attributes := #[] }, { accessFlags := 26, nameIndex := 1116, descriptorIndex := 1117, attributes := #[] }, { accessFlags := 24, nameIndex := 40, descriptorIndex := 26, attributes := #[] }, { accessFlags := 26, nameIndex := 1101, descriptorIndex := 1102, attributes := #[] }, { accessFlags := 26, nameIndex := 1121, descriptorIndex := 1122, attributes := #[] }, { accessFlags := 25, nameIndex := 599, descriptorIndex := 600, attributes := #[] }, { accessFlags := 24, nameIndex := 1125, descriptorIndex := 18, attributes := #[] }, { accessFlags := 24, nameIndex := 1127, descriptorIndex := 18, attributes := #[] }])
  fields := #[{ name := "value", type := (.array .byte), accessFlags := 18, slot := 0, constantValue := 0 }, { name := "coder", type := .byte, accessFlags := 18, slot := 1, constantValue := 0 }, { name := "hash", type := .int, accessFlags := 2, slot := 2, constantValue := 0 }, { name := "hashIsZero", type := .boolean, accessFlags := 2, slot := 3, constantValue := 0 }, { name := "serialVersionUID", type := .long, accessFlags := 26, slot := 0, constantValue := 0 }, { name := "COMPACT_STRINGS", type := .boolean, accessFlags := 24, slot := 1, constantValue := 0 }, { name := "serialPersistentFields", type := (.array (.object "java/io/ObjectStreamField")), accessFlags := 26, slot := 2, constantValue := 0 }, { name := "REPL", type := .char, accessFlags := 26, slot := 3, constantValue := 0 }, { name := "CASE_INSENSITIVE_ORDER", type := (.object "java/util/Comparator"), accessFlags := 25, slot := 4, constantValue := 0 }, { name := "LATIN1", type := .byte, accessFlags := 24, slot := 5, constantValue := 0 }, { name := "UTF16", type := .byte, accessFlags := 24, slot := 6, constantValue := 0 }]
  methods := #[k7m0, k7m1, k7m2, k7m3, k7m4, k7m5, k7m6, k7m7, k7m8, k7m9]
  instanceTypes := #[(.array .byte), .byte, .int, .boolean]
  staticTypes := #[.long, .boolean, (.array (.object "java/io/ObjectStreamField")), .char, (.object "java/util/Comparator"), .byte, .byte]
  resolved := Array.replicate 1451 none
  statics := some 0 }

def pool8 : Array CpInfo := pool [(4, .class_ 6), (1, u "java/lang/Object"), (0, u "<init>"), (0, u "()V"), (11, .methodref 21 22), (0, .class_ 23), (0, .nameAndType 24 25), (0, u "java/lang/String"), (0, u "length"), (0, u "()I"), (0, .methodref 21 27), (0, .nameAndType 28 29), (0, u "charAt"), (0, u "(I)C"), (0, .class_ 31), (0, u "com/example/nuthatch/nuthatch/EntryName"), (11, .methodref 30 44), (0, .nameAndType 45 46), (0, u "uniqueStart"), (0, u "(Ljava/lang/String;)I"), (7, .methodref 21 55), (0, .nameAndType 56 57), (0, u "lastIndexOf"), (0, u "(I)I"), (0, .methodref 21 59), (0, .nameAndType 56 60), (0, u "(II)I"), (0, .methodref 30 62), (0, .nameAndType 63 64), (0, u "digits"), (0, u "(Ljava/lang/String;III)Z"), (4, .methodref 30 70), (0, .nameAndType 71 72), (0, u "isDigit"), (0, u "(CI)Z"), (18, u "(Ljava/lang/String;)Z"), (8, u "NOT_AN_ENTRY"), (0, u "J"), (1, u "NUMBER"), (0, u "C"), (1, u "HOST"), (0, u "SEQUENCE"), (1, u "UNNAMEABLE"), (0, u "MAX_SEQUENCE_DIGITS"), (0, u "I"), (1, u "READER"), (0, u "Ljava/lang/String;"), (2, u "WRITER"), (2, u "CONTENDER"), (0, u "OTHER_CONTENDER"), (6, u "isMember")] 29

def k8m0 : Method := { name := "<init>", desc := "()V", sig := { parameters := [], returnType := none }, accessFlags := 2, code := none }
def k8c1 : Code := { maxStack := 1, maxLocals := 1, code := prog_2_method_4_code, exceptionTable := #[], attributes := #[] }
def k8m1 : Method := { name := "isMember", desc := "(Ljava/lang/String;)Z", sig := { parameters := [(.object "java/lang/String")], returnType := some .boolean }, accessFlags := 8, code := some k8c1 }
def k8c2 : Code := { maxStack := 4, maxLocals := 4, code := prog_2_method_6_code, exceptionTable := #[], attributes := #[] }
def k8m2 : Method := { name := "uniqueStart", desc := "(Ljava/lang/String;)I", sig := { parameters := [(.object "java/lang/String")], returnType := some .int }, accessFlags := 10, code := some k8c2 }
def k8c3 : Code := { maxStack := 2, maxLocals := 5, code := prog_2_method_15_code, exceptionTable := #[], attributes := #[] }
def k8m3 : Method := { name := "digits", desc := "(Ljava/lang/String;III)Z", sig := { parameters := [(.object "java/lang/String"), .int, .int, .int], returnType := some .boolean }, accessFlags := 10, code := some k8c3 }
def k8c4 : Code := { maxStack := 2, maxLocals := 2, code := prog_2_method_17_code, exceptionTable := #[], attributes := #[] }
def k8m4 : Method := { name := "isDigit", desc := "(CI)Z", sig := { parameters := [.char, .int], returnType := some .boolean }, accessFlags := 10, code := some k8c4 }
/-- com/example/nuthatch/nuthatch/EntryName -/
def k8 : Class := { plain "com/example/nuthatch/nuthatch/EntryName" (some 0) with
  accessFlags := 48
  interfaces := #[]
  cf := some (fileOf pool8 30 #[] #[{ accessFlags := 2, nameIndex := 7, descriptorIndex := 8, attributes := #[] }, { accessFlags := 8, nameIndex := 128, descriptorIndex := 91, attributes := #[] }, { accessFlags := 10, nameIndex := 45, descriptorIndex := 46, attributes := #[] }, { accessFlags := 10, nameIndex := 63, descriptorIndex := 64, attributes := #[] }, { accessFlags := 10, nameIndex := 71, descriptorIndex := 72, attributes := #[] }] 48 4 #[] #[{ accessFlags := 24, nameIndex := 100, descriptorIndex := 101, attributes := #[] }, { accessFlags := 26, nameIndex := 103, descriptorIndex := 104, attributes := #[] }, { accessFlags := 26, nameIndex := 106, descriptorIndex := 104, attributes := #[] }, { accessFlags := 26, nameIndex := 107, descriptorIndex := 104, attributes := #[] }, { accessFlags := 26, nameIndex := 109, descriptorIndex := 104, attributes := #[] }, { accessFlags := 26, nameIndex := 110, descriptorIndex := 111, attributes := #[] }, { accessFlags := 24, nameIndex := 113, descriptorIndex := 114, attributes := #[] }, { accessFlags := 24, nameIndex := 117, descriptorIndex := 114, attributes := #[] }, { accessFlags := 26, nameIndex := 120, descriptorIndex := 114, attributes := #[] }, { accessFlags := 26, nameIndex := 121, descriptorIndex := 114, attributes := #[] }])
  fields := #[{ name := "NOT_AN_ENTRY", type := .long, accessFlags := 24, slot := 0, constantValue := 0 }, { name := "NUMBER", type := .char, accessFlags := 26, slot := 1, constantValue := 0 }, { name := "HOST", type := .char, accessFlags := 26, slot := 2, constantValue := 0 }, { name := "SEQUENCE", type := .char, accessFlags := 26, slot := 3, constantValue := 0 }, { name := "UNNAMEABLE", type := .char, accessFlags := 26, slot := 4, constantValue := 0 }, { name := "MAX_SEQUENCE_DIGITS", type := .int, accessFlags := 26, slot := 5, constantValue := 0 }, { name := "READER", type := (.object "java/lang/String"), accessFlags := 24, slot := 6, constantValue := 0 }, { name := "WRITER", type := (.object "java/lang/String"), accessFlags := 24, slot := 7, constantValue := 0 }, { name := "CONTENDER", type := (.object "java/lang/String"), accessFlags := 26, slot := 8, constantValue := 0 }, { name := "OTHER_CONTENDER", type := (.object "java/lang/String"), accessFlags := 26, slot := 9, constantValue := 0 }]
  methods := #[k8m0, k8m1, k8m2, k8m3, k8m4]
  instanceTypes := #[]
  staticTypes := #[.long, .char, .char, .char, .char, .int, (.object "java/lang/String"), (.object "java/lang/String"), (.object "java/lang/String"), (.object "java/lang/String")]
  resolved := Array.replicate 158 none
  statics := none }

def pool9 : Array CpInfo := pool [(1, .class_ 2), (0, u "java/lang/String"), (1, .class_ 6), (1, u "java/lang/Object"), (0, u "<init>"), (0, u "()V"), (0, .methodref 1 10), (0, .nameAndType 11 12), (0, u "checkIndex"), (0, u "(II)V"), (1, .class_ 16), (1, u "java/lang/StringLatin1"), (21, .methodref 39 40), (0, .class_ 41), (0, .nameAndType 42 43), (0, u "java/lang/Math"), (0, u "min"), (0, u "(II)I"), (9, u "([BI)C"), (34, .methodref 14 89), (0, .nameAndType 90 91), (0, u "canEncode"), (0, u "(I)Z"), (29, u "$assertionsDisabled"), (0, u "Z"), (98, .class_ 223), (1, u "java/lang/StringLatin1$LinesSpliterator"), (28, u "charAt"), (8, u "([BII)I"), (47, u "lastIndexOf"), (80, .class_ 391), (0, u "java/lang/StringLatin1$CharsSpliterator")] 3

def k9m0 : Method := { name := "<init>", desc := "()V", sig := { parameters := [], returnType := none }, accessFlags := 0, code := none }
def k9c1 : Code := { maxStack := 2, maxLocals := 2, code := jdk_43_method_2_code, exceptionTable := #[], attributes := #[] }
def k9m1 : Method := { name := "charAt", desc := "([BI)C", sig := { parameters := [(.array .byte), .int], returnType := some .char }, accessFlags := 9, code := some k9c1 }
def k9c2 : Code := { maxStack := 2, maxLocals := 1, code := jdk_43_method_4_code, exceptionTable := #[], attributes := #[] }
def k9m2 : Method := { name := "canEncode", desc := "(I)Z", sig := { parameters := [.int], returnType := some .boolean }, accessFlags := 9, code := some k9c2 }
def k9c3 : Code := { maxStack := 3, maxLocals := 4, code := jdk_43_method_27_code, exceptionTable := #[], attributes := #[] }
def k9m3 : Method := { name := "lastIndexOf", desc := "([BII)I", sig := { parameters := [(.array .byte), .int, .int], returnType := some .int }, accessFlags := 9, code := some k9c3 }
/-- java/lang/StringLatin1 -/
def k9 : Class := { plain "java/lang/StringLatin1" (some 0) with
  accessFlags := 48
  interfaces := #[]
  cf := some (fileOf pool9 14 #[.nestMembers #[390, 221]] #[{ accessFlags := 0, nameIndex := 7, descriptorIndex := 8, attributes := #[] }, { accessFlags := 9, nameIndex := 252, descriptorIndex := 53, attributes := #[] }, { accessFlags := 9, nameIndex := 90, descriptorIndex := 91, attributes := #[] }, { accessFlags := 9, nameIndex := 309, descriptorIndex := 261, attributes := #[] }] 48 4 #[] #[{ accessFlags := 4120, nameIndex := 121, descriptorIndex := 122, attributes := #[] }])
  fields := #[{ name := "$assertionsDisabled", type := .boolean, accessFlags := 4120, slot := 0, constantValue := 0 }]
  methods := #[k9m0, k9m1, k9m2, k9m3]
  instanceTypes := #[]
  staticTypes := #[.boolean]
  resolved := Array.replicate 395 none
  statics := none }

def pool10 : Array CpInfo := pool [(1, .class_ 2), (0, u "java/lang/Math"), (1, .class_ 6), (1, u "java/lang/Object"), (0, u "<init>"), (0, u "()V"), (89, .class_ 100), (1, u "java/lang/Math$RandomNumberGeneratorHolder"), (71, u "negativeZeroFloatBits"), (0, u "J"), (2, u "negativeZeroDoubleBits"), (24, u "min"), (43, u "$assertionsDisabled"), (0, u "Z"), (88, u "(II)I"), (2, u "twoToTheDoubleScaleDown"), (0, u "D"), (4, u "twoToTheDoubleScaleUp"), (9, u "E"), (3, u "PI"), (2, u "TAU"), (2, u "DEGREES_TO_RADIANS"), (0, u "RADIANS_TO_DEGREES")] 94

def k10m0 : Method := { name := "<init>", desc := "()V", sig := { parameters := [], returnType := none }, accessFlags := 2, code := none }
def k10c1 : Code := { maxStack := 2, maxLocals := 2, code := jdk_29_method_69_code, exceptionTable := #[], attributes := #[] }
def k10m1 : Method := { name := "min", desc := "(II)I", sig := { parameters := [.int, .int], returnType := some .int }, accessFlags := 9, code := some k10c1 }
/-- java/lang/Math -/
def k10 : Class := { plain "java/lang/Math" (some 0) with
  accessFlags := 49
  interfaces := #[]
  cf := some (fileOf pool10 1 #[.nestMembers #[98]] #[{ accessFlags := 2, nameIndex := 7, descriptorIndex := 8, attributes := #[] }, { accessFlags := 9, nameIndex := 201, descriptorIndex := 335, attributes := #[] }] 49 4 #[] #[{ accessFlags := 25, nameIndex := 354, descriptorIndex := 339, attributes := #[] }, { accessFlags := 25, nameIndex := 358, descriptorIndex := 339, attributes := #[] }, { accessFlags := 25, nameIndex := 361, descriptorIndex := 339, attributes := #[] }, { accessFlags := 26, nameIndex := 364, descriptorIndex := 339, attributes := #[] }, { accessFlags := 26, nameIndex := 365, descriptorIndex := 339, attributes := #[] }, { accessFlags := 26, nameIndex := 172, descriptorIndex := 173, attributes := #[] }, { accessFlags := 26, nameIndex := 176, descriptorIndex := 173, attributes := #[] }, { accessFlags := 8, nameIndex := 344, descriptorIndex := 339, attributes := #[] }, { accessFlags := 8, nameIndex := 338, descriptorIndex := 339, attributes := #[] }, { accessFlags := 4120, nameIndex := 245, descriptorIndex := 246, attributes := #[] }])
  fields := #[{ name := "E", type := .double, accessFlags := 25, slot := 0, constantValue := 0 }, { name := "PI", type := .double, accessFlags := 25, slot := 1, constantValue := 0 }, { name := "TAU", type := .double, accessFlags := 25, slot := 2, constantValue := 0 }, { name := "DEGREES_TO_RADIANS", type := .double, accessFlags := 26, slot := 3, constantValue := 0 }, { name := "RADIANS_TO_DEGREES", type := .double, accessFlags := 26, slot := 4, constantValue := 0 }, { name := "negativeZeroFloatBits", type := .long, accessFlags := 26, slot := 5, constantValue := 0 }, { name := "negativeZeroDoubleBits", type := .long, accessFlags := 26, slot := 6, constantValue := 0 }, { name := "twoToTheDoubleScaleUp", type := .double, accessFlags := 8, slot := 7, constantValue := 0 }, { name := "twoToTheDoubleScaleDown", type := .double, accessFlags := 8, slot := 8, constantValue := 0 }, { name := "$assertionsDisabled", type := .boolean, accessFlags := 4120, slot := 9, constantValue := 0 }]
  methods := #[k10m0, k10m1]
  instanceTypes := #[]
  staticTypes := #[.double, .double, .double, .double, .double, .long, .long, .double, .double, .boolean]
  resolved := Array.replicate 460 none
  statics := none }

def pool11 : Array CpInfo := pool [(6, .class_ 8), (1, u "java/lang/Object"), (0, u "<init>"), (0, u "()V"), (1, .class_ 14), (1, u "java/lang/StringUTF16"), (31, u "$assertionsDisabled"), (0, u "Z"), (13, u "HI_BYTE_SHIFT"), (0, u "I"), (2, u "LO_BYTE_SHIFT"), (49, .methodref 12 116), (0, .nameAndType 117 118), (0, u "compress"), (0, u "([CI[BII)I"), (3, u "([CII)[B"), (138, u "coderFromArrayLen"), (0, u "([BI)B"), (106, .class_ 371), (1, u "java/lang/StringUTF16$LinesSpliterator"), (58, u "MAX_LENGTH"), (196, .class_ 628), (0, u "java/lang/StringUTF16$CodePointsSpliterator"), (0, .class_ 630), (0, u "java/lang/StringUTF16$CharsSpliterator")] 4

def k11m0 : Method := { name := "<init>", desc := "()V", sig := { parameters := [], returnType := none }, accessFlags := 0, code := none }
def k11c1 : Code := { maxStack := 2, maxLocals := 2, code := jdk_52_method_15_code, exceptionTable := #[], attributes := #[] }
def k11m1 : Method := { name := "coderFromArrayLen", desc := "([BI)B", sig := { parameters := [(.array .byte), .int], returnType := some .byte }, accessFlags := 8, code := some k11c1 }
def k11c2 : Code := { maxStack := 5, maxLocals := 6, code := jdk_52_method_16_code, exceptionTable := #[], attributes := #[] }
def k11m2 : Method := { name := "compress", desc := "([CII)[B", sig := { parameters := [(.array .char), .int, .int], returnType := some (.array .byte) }, accessFlags := 9, code := some k11c2 }
def k11c3 : Code := { maxStack := 3, maxLocals := 7, code := jdk_52_method_21_code, exceptionTable := #[], attributes := #[] }
def k11m3 : Method := { name := "compress", desc := "([CI[BII)I", sig := { parameters := [(.array .char), .int, (.array .byte), .int, .int], returnType := some .int }, accessFlags := 9, code := some k11c3 }
/-- java/lang/StringUTF16 -/
def k11 : Class := { plain "java/lang/StringUTF16" (some 0) with
  accessFlags := 48
  interfaces := #[]
  cf := some (fileOf pool11 12 #[.nestMembers #[627, 629, 369]] #[{ accessFlags := 0, nameIndex := 9, descriptorIndex := 10, attributes := #[] }, { accessFlags := 8, nameIndex := 261, descriptorIndex := 262, attributes := #[] }, { accessFlags := 9, nameIndex := 117, descriptorIndex := 122, attributes := #[] }, { accessFlags := 9, nameIndex := 117, descriptorIndex := 118, attributes := #[] }] 48 6 #[] #[{ accessFlags := 26, nameIndex := 61, descriptorIndex := 62, attributes := #[] }, { accessFlags := 26, nameIndex := 65, descriptorIndex := 62, attributes := #[] }, { accessFlags := 24, nameIndex := 430, descriptorIndex := 62, attributes := #[] }, { accessFlags := 4120, nameIndex := 46, descriptorIndex := 47, attributes := #[] }])
  fields := #[{ name := "HI_BYTE_SHIFT", type := .int, accessFlags := 26, slot := 0, constantValue := 0 }, { name := "LO_BYTE_SHIFT", type := .int, accessFlags := 26, slot := 1, constantValue := 0 }, { name := "MAX_LENGTH", type := .int, accessFlags := 24, slot := 2, constantValue := 0 }, { name := "$assertionsDisabled", type := .boolean, accessFlags := 4120, slot := 3, constantValue := 0 }]
  methods := #[k11m0, k11m1, k11m2, k11m3]
  instanceTypes := #[]
  staticTypes := #[.int, .int, .int, .boolean]
  resolved := Array.replicate 635 none
  statics := none }

def pool12 : Array CpInfo := pool [(2, .class_ 4), (1, u "java/lang/Object"), (0, u "<init>"), (0, u "()V"), (17, .class_ 26), (1, u "jdk/internal/util/Preconditions"), (6, u "checkIndex"), (21, .class_ 56), (0, u "jdk/internal/util/Preconditions$4"), (57, .class_ 115), (0, u "jdk/internal/util/Preconditions$1"), (7, u "SIOOBE_FORMATTER"), (0, u "Ljava/util/function/BiFunction;"), (0, .class_ 126), (0, u "jdk/internal/util/Preconditions$2"), (3, u "AIOOBE_FORMATTER"), (0, .class_ 132), (0, u "jdk/internal/util/Preconditions$3"), (3, u "IOOBE_FORMATTER"), (41, u "(IILjava/util/function/BiFunction;)I")] 15

def k12m0 : Method := { name := "<init>", desc := "()V", sig := { parameters := [], returnType := none }, accessFlags := 1, code := none }
def k12c1 : Code := { maxStack := 3, maxLocals := 3, code := jdk_41_method_11_code, exceptionTable := #[], attributes := #[] }
def k12m1 : Method := { name := "checkIndex", desc := "(IILjava/util/function/BiFunction;)I", sig := { parameters := [.int, .int, (.object "java/util/function/BiFunction")], returnType := some .int }, accessFlags := 9, code := some k12c1 }
/-- jdk/internal/util/Preconditions -/
def k12 : Class := { plain "jdk/internal/util/Preconditions" (some 0) with
  accessFlags := 33
  interfaces := #[]
  cf := some (fileOf pool12 24 #[.nestMembers #[55, 131, 125, 114]] #[{ accessFlags := 1, nameIndex := 5, descriptorIndex := 6, attributes := #[] }, { accessFlags := 9, nameIndex := 33, descriptorIndex := 178, attributes := #[] }] 33 2 #[] #[{ accessFlags := 25, nameIndex := 123, descriptorIndex := 124, attributes := #[] }, { accessFlags := 25, nameIndex := 130, descriptorIndex := 124, attributes := #[] }, { accessFlags := 25, nameIndex := 136, descriptorIndex := 124, attributes := #[] }])
  fields := #[{ name := "SIOOBE_FORMATTER", type := (.object "java/util/function/BiFunction"), accessFlags := 25, slot := 0, constantValue := 0 }, { name := "AIOOBE_FORMATTER", type := (.object "java/util/function/BiFunction"), accessFlags := 25, slot := 1, constantValue := 0 }, { name := "IOOBE_FORMATTER", type := (.object "java/util/function/BiFunction"), accessFlags := 25, slot := 2, constantValue := 0 }]
  methods := #[k12m0, k12m1]
  instanceTypes := #[]
  staticTypes := #[(.object "java/util/function/BiFunction"), (.object "java/util/function/BiFunction"), (.object "java/util/function/BiFunction")]
  resolved := Array.replicate 194 none
  statics := some 1 }

def pool13 : Array CpInfo := pool [(9, u "<init>"), (6, .class_ 18), (1, u "java/lang/Object"), (0, u "()V"), (1, .class_ 23), (1, u "jdk/internal/util/ArraysSupport"), (0, u "LOG2_ARRAY_LONG_INDEX_SCALE"), (0, u "I"), (2, u "U"), (0, u "Ljdk/internal/misc/Unsafe;"), (8, u "BIG_ENDIAN"), (0, u "Z"), (8, u "LOG2_BYTE_BIT_SIZE"), (4, u "LOG2_ARRAY_INT_INDEX_SCALE"), (54, u "JLA"), (0, u "Ljdk/internal/access/JavaLangAccess;"), (11, u "LOG2_ARRAY_BOOLEAN_INDEX_SCALE"), (9, u "LOG2_ARRAY_BYTE_INDEX_SCALE"), (5, u "LOG2_ARRAY_CHAR_INDEX_SCALE"), (5, u "LOG2_ARRAY_SHORT_INDEX_SCALE"), (18, u "LOG2_ARRAY_FLOAT_INDEX_SCALE"), (24, u "LOG2_ARRAY_DOUBLE_INDEX_SCALE"), (89, u "T_BOOLEAN"), (2, u "T_CHAR"), (1, u "T_FLOAT"), (1, u "T_DOUBLE"), (1, u "T_BYTE"), (1, u "T_SHORT"), (1, u "T_INT"), (1, u "T_LONG"), (1, u "SOFT_MAX_ARRAY_LENGTH")] 83

def k13m0 : Method := { name := "<init>", desc := "()V", sig := { parameters := [], returnType := none }, accessFlags := 2, code := none }
/-- jdk/internal/util/ArraysSupport -/
def k13 : Class := { plain "jdk/internal/util/ArraysSupport" (some 0) with
  accessFlags := 33
  interfaces := #[]
  cf := some (fileOf pool13 21 #[] #[{ accessFlags := 2, nameIndex := 9, descriptorIndex := 19, attributes := #[] }] 33 16 #[] #[{ accessFlags := 24, nameIndex := 28, descriptorIndex := 29, attributes := #[] }, { accessFlags := 26, nameIndex := 38, descriptorIndex := 39, attributes := #[] }, { accessFlags := 25, nameIndex := 121, descriptorIndex := 25, attributes := #[] }, { accessFlags := 25, nameIndex := 131, descriptorIndex := 25, attributes := #[] }, { accessFlags := 25, nameIndex := 137, descriptorIndex := 25, attributes := #[] }, { accessFlags := 25, nameIndex := 143, descriptorIndex := 25, attributes := #[] }, { accessFlags := 25, nameIndex := 53, descriptorIndex := 25, attributes := #[] }, { accessFlags := 25, nameIndex := 24, descriptorIndex := 25, attributes := #[] }, { accessFlags := 25, nameIndex := 162, descriptorIndex := 25, attributes := #[] }, { accessFlags := 25, nameIndex := 187, descriptorIndex := 25, attributes := #[] }, { accessFlags := 26, nameIndex := 48, descriptorIndex := 25, attributes := #[] }, { accessFlags := 25, nameIndex := 277, descriptorIndex := 25, attributes := #[] }, { accessFlags := 25, nameIndex := 280, descriptorIndex := 25, attributes := #[] }, { accessFlags := 25, nameIndex := 282, descriptorIndex := 25, attributes := #[] }, { accessFlags := 25, nameIndex := 284, descriptorIndex := 25, attributes := #[] }, { accessFlags := 25, nameIndex := 286, descriptorIndex := 25, attributes := #[] }, { accessFlags := 25, nameIndex := 288, descriptorIndex := 25, attributes := #[] }, { accessFlags := 25, nameIndex := 290, descriptorIndex := 25, attributes := #[] }, { accessFlags := 25, nameIndex := 292, descriptorIndex := 25, attributes := #[] }, { accessFlags := 26, nameIndex := 108, descriptorIndex := 109, attributes := #[] }, { accessFlags := 25, nameIndex := 294, descriptorIndex := 25, attributes := #[] }])
  fields := #[{ name := "U", type := (.object "jdk/internal/misc/Unsafe"), accessFlags := 24, slot := 0, constantValue := 0 }, { name := "BIG_ENDIAN", type := .boolean, accessFlags := 26, slot := 1, constantValue := 0 }, { name := "LOG2_ARRAY_BOOLEAN_INDEX_SCALE", type := .int, accessFlags := 25, slot := 2, constantValue := 0 }, { name := "LOG2_ARRAY_BYTE_INDEX_SCALE", type := .int, accessFlags := 25, slot := 3, constantValue := 0 }, { name := "LOG2_ARRAY_CHAR_INDEX_SCALE", type := .int, accessFlags := 25, slot := 4, constantValue := 0 }, { name := "LOG2_ARRAY_SHORT_INDEX_SCALE", type := .int, accessFlags := 25, slot := 5, constantValue := 0 }, { name := "LOG2_ARRAY_INT_INDEX_SCALE", type := .int, accessFlags := 25, slot := 6, constantValue := 0 }, { name := "LOG2_ARRAY_LONG_INDEX_SCALE", type := .int, accessFlags := 25, slot := 7, constantValue := 0 }, { name := "LOG2_ARRAY_FLOAT_INDEX_SCALE", type := .int, accessFlags := 25, slot := 8, constantValue := 0 }, { name := "LOG2_ARRAY_DOUBLE_INDEX_SCALE", type := .int, accessFlags := 25, slot := 9, constantValue := 0 }, { name := "LOG2_BYTE_BIT_SIZE", type := .int, accessFlags := 26, slot := 10, constantValue := 0 }, { name := "T_BOOLEAN", type := .int, accessFlags := 25, slot := 11, constantValue := 0 }, { name := "T_CHAR", type := .int, accessFlags := 25, slot := 12, constantValue := 0 }, { name := "T_FLOAT", type := .int, accessFlags := 25, slot := 13, constantValue := 0 }, { name := "T_DOUBLE", type := .int, accessFlags := 25, slot := 14, constantValue := 0 }, { name := "T_BYTE", type := .int, accessFlags := 25, slot := 15, constantValue := 0 }, { name := "T_SHORT", type := .int, accessFlags := 25, slot := 16, constantValue := 0 }, { name := "T_INT", type := .int, accessFlags := 25, slot := 17, constantValue := 0 }, { name := "T_LONG", type := .int, accessFlags := 25, slot := 18, constantValue := 0 }, { name := "JLA", type := (.object "jdk/internal/access/JavaLangAccess"), accessFlags := 26, slot := 19, constantValue := 0 }, { name := "SOFT_MAX_ARRAY_LENGTH", type := .int, accessFlags := 25, slot := 20, constantValue := 0 }]
  methods := #[k13m0]
  instanceTypes := #[]
  staticTypes := #[(.object "jdk/internal/misc/Unsafe"), .boolean, .int, .int, .int, .int, .int, .int, .int, .int, .int, .int, .int, .int, .int, .int, .int, .int, .int, (.object "jdk/internal/access/JavaLangAccess"), .int]
  resolved := Array.replicate 378 none
  statics := none }

def pool14 : Array CpInfo := pool [(1, u "java/lang/Cloneable"), (0, .class_ 1), (0, u "java/lang/Object"), (0, .class_ 3)] 3

/-- java/lang/Cloneable -/
def k14 : Class := { plain "java/lang/Cloneable" (some 0) with
  accessFlags := 1537
  interfaces := #[]
  cf := some (fileOf pool14 2 #[] #[] 1537 4 #[] #[])
  fields := #[]
  methods := #[]
  instanceTypes := #[]
  staticTypes := #[]
  resolved := Array.replicate 8 none
  statics := none }

/-- the primitive byte -/
def k15 : Class := { plain "byte" none with kind := .primitive 'B', accessFlags := 0x411 }
/-- [B -/
def k16 : Class := { plain "[B" (some 0) with kind := .array 15 .byte, interfaces := #[14, 2], accessFlags := 1041 }

/-- the primitive char -/
def k17 : Class := { plain "char" none with kind := .primitive 'C', accessFlags := 0x411 }
/-- [C -/
def k18 : Class := { plain "[C" (some 0) with kind := .array 17 .char, interfaces := #[14, 2], accessFlags := 1041 }

/-- the primitive int -/
def k19 : Class := { plain "int" none with kind := .primitive 'I', accessFlags := 0x411 }
/-- [I -/
def k20 : Class := { plain "[I" (some 0) with kind := .array 19 .int, interfaces := #[14, 2], accessFlags := 1041 }

def heap : Heap := #[{ cls := 7, slots := #[.long 0, .int 1, .null, .int 0, .null, .int 0, .int 0], vm := .statics 7 },
  { cls := 12, slots := #[.null, .null, .null], vm := .statics 12 }]
def classes : Array Class := #[k0, k1, k2, k3, k4, k5, k6, k7, k8, k9, k10, k11, k12, k13, k14, k15, k16, k17, k18, k19, k20]
def interned : List (Array UInt16 × Addr) := []
def slotsUsed : Nat := 10
def theMethod : MethodId := ⟨1, 1⟩
def args0 : Array Value := #[.long 5, .long 3, .int 1]
def aboutOver (below : List Frame) : State where
  vm := { classes := classes, interned := interned.toArray }
  heap := heap
  slotsUsed := slotsUsed
  threads := #[{ frames := .invoking theMethod args0 :: below }]
def below0 : List Frame := [.native { method := ⟨0, 0⟩, args := #[] }]
def about1 : State := aboutOver below0
def p0 : Program := .bare "" "" ""
def e0 : Env := launch0.env 0 0 0
theorem w_frames : about1.frames = Frame.invoking theMethod args0 :: below0 := rfl
set_option maxRecDepth 65536 in
theorem w_args : argsFit about1.vm theMethod args0 = true := by decide +kernel
set_option maxRecDepth 65536 in
theorem w_heap : heapFits about1 = true := by decide +kernel
set_option maxRecDepth 65536 in
theorem w_runnable : about1.curStatus? = some .runnable := by decide +kernel
set_option maxRecDepth 65536 in
theorem w_alone : about1.alone = true := by decide +kernel
set_option maxRecDepth 65536 in
theorem w_named : about1.methodNamed? x = some theMethod := by decide +kernel
set_option maxRecDepth 65536 in
theorem w_hears : about1.hears theMethod below0 = true := by decide +kernel
set_option maxRecDepth 65536 in
theorem w_ripe : about1.ripe theMethod args0 below0 = true := by decide +kernel
theorem w_running : about1.status = .running := rfl
set_option maxRecDepth 65536 in
theorem w_room : about1.hasRoom e0.platform room_1 = true :=
  launch0.hasRoom_least _ room_1 (by decide +kernel) (by decide +kernel) (by decide +kernel) (by decide +kernel) (by decide +kernel) (by decide +kernel)
theorem allAtoms_all (ts : List Jvm.Cond) (a : Array Jvm.Value) (st : Jvm.State) : (allAtoms ts).before a st = ts.all (fun c => c.before a st) := by
  induction ts with
  | nil => rfl
  | cons c t ih =>
    show (Jvm.Cond.and c (allAtoms t)).before a st = _
    rw [Jvm.Cond.before_and, ih, List.all_cons]
def words1 : List Jvm.Cond := Jvm.Cond.code x code maxLocals ret :: tables_1
/-- a 'code' word, met by the world's own term for the bytes: nothing is compared byte by byte -/
theorem code_word {y : MethodName} {bytes : ByteArray} {mx : Nat} {rt : Option FieldType} {a : Array Value} {s : State} {m : MethodId} {meth : Method} {c : Code} (h1 : s.methodNamed? y = some m) (h2 : s.vm.method? m = some meth) (h3 : meth.code = some c) (h4 : c.code = bytes)
    (h5 : (c.maxLocals == mx && c.exceptionTable.isEmpty && decide (c.maxStack ≤ mostOperands) && decide (meth.sig.returnType = rt) && !meth.locks && decide (parseMethodDescriptor y.desc = some meth.sig)) = true) : (Jvm.Cond.code y bytes mx rt).before a s = true := by
  simp only [Bool.and_eq_true, beq_iff_eq, Bool.not_eq_true', decide_eq_true_eq] at h5
  obtain ⟨⟨⟨⟨⟨g1, g2⟩, g3⟩, g4⟩, g5⟩, g6⟩ := h5
  simp [Cond.before, Cond.holds, Cond.value, h1, h2, h3, h4, g1, g2, g3, g4, g5, g6]
def isCode : Jvm.Cond → Bool
  | .code _ _ _ _ => true
  | _ => false
theorem all_split {L : List Jvm.Cond} {P : Jvm.Cond → Bool} (h1 : L.all (fun c => isCode c || P c) = true) (h2 : ∀ c ∈ L.filter isCode, P c = true) : L.all P = true := by
  refine List.all_eq_true.mpr fun c hc => ?_
  have h := List.all_eq_true.mp h1 c hc
  rcases Bool.eq_false_or_eq_true (isCode c) with hi | hi
  · exact h2 c (List.mem_filter.mpr ⟨hc, hi⟩)
  · simpa [hi] using h
set_option maxRecDepth 65536 in
theorem w_c0 : (Jvm.Cond.code x code maxLocals ret).before args0 about1 = true := code_word (m := ⟨1, 1⟩) (meth := k1m1) (c := k1c1) (by decide +kernel) rfl rfl rfl (by decide +kernel)
set_option maxRecDepth 65536 in
theorem w_c1 : (Jvm.Cond.code ({ cls := "com/example/nuthatch/nuthatch/EntryNameIsMemberPinLaw", name := "ch", desc := "(J)C" } : Jvm.MethodName) method_3_code (5 : Nat) (Option.some Jvm.ClassFile.FieldType.char)).before args0 about1 = true := code_word (m := ⟨1, 2⟩) (meth := k1m2) (c := k1c2) (by decide +kernel) rfl rfl rfl (by decide +kernel)
set_option maxRecDepth 65536 in
theorem w_c2 : (Jvm.Cond.code ({ cls := "java/lang/String", name := "<init>", desc := "([C)V" } : Jvm.MethodName) jdk_42_method_3_code (2 : Nat) (Option.none : Option Jvm.ClassFile.FieldType)).before args0 about1 = true := code_word (m := ⟨7, 1⟩) (meth := k7m1) (c := k7c1) (by decide +kernel) rfl rfl rfl (by decide +kernel)
set_option maxRecDepth 65536 in
theorem w_c3 : (Jvm.Cond.code ({ cls := "java/lang/String", name := "<init>", desc := "([CIILjava/lang/Void;)V" } : Jvm.MethodName) jdk_42_method_149_code (6 : Nat) (Option.none : Option Jvm.ClassFile.FieldType)).before args0 about1 = true := code_word (m := ⟨7, 6⟩) (meth := k7m6) (c := k7c6) (by decide +kernel) rfl rfl rfl (by decide +kernel)
set_option maxRecDepth 65536 in
theorem w_c4 : (Jvm.Cond.code ({ cls := "java/lang/Object", name := "<init>", desc := "()V" } : Jvm.MethodName) object_method_1_code (1 : Nat) (Option.none : Option Jvm.ClassFile.FieldType)).before args0 about1 = true := code_word (m := ⟨0, 0⟩) (meth := k0m0) (c := k0c0) (by decide +kernel) rfl rfl rfl (by decide +kernel)
set_option maxRecDepth 65536 in
theorem w_c5 : (Jvm.Cond.code ({ cls := "com/example/nuthatch/nuthatch/EntryName", name := "isMember", desc := "(Ljava/lang/String;)Z" } : Jvm.MethodName) prog_2_method_4_code (1 : Nat) (Option.some Jvm.ClassFile.FieldType.boolean)).before args0 about1 = true := code_word (m := ⟨8, 1⟩) (meth := k8m1) (c := k8c1) (by decide +kernel) rfl rfl rfl (by decide +kernel)
set_option maxRecDepth 65536 in
theorem w_c6 : (Jvm.Cond.code ({ cls := "com/example/nuthatch/nuthatch/EntryName", name := "uniqueStart", desc := "(Ljava/lang/String;)I" } : Jvm.MethodName) prog_2_method_6_code (4 : Nat) (Option.some Jvm.ClassFile.FieldType.int)).before args0 about1 = true := code_word (m := ⟨8, 2⟩) (meth := k8m2) (c := k8c2) (by decide +kernel) rfl rfl rfl (by decide +kernel)
set_option maxRecDepth 65536 in
theorem w_c7 : (Jvm.Cond.code ({ cls := "java/lang/String", name := "lastIndexOf", desc := "(I)I" } : Jvm.MethodName) jdk_42_method_82_code (2 : Nat) (Option.some Jvm.ClassFile.FieldType.int)).before args0 about1 = true := code_word (m := ⟨7, 4⟩) (meth := k7m4) (c := k7c4) (by decide +kernel) rfl rfl rfl (by decide +kernel)
set_option maxRecDepth 65536 in
theorem w_c8 : (Jvm.Cond.code ({ cls := "java/lang/String", name := "length", desc := "()I" } : Jvm.MethodName) jdk_42_method_54_code (1 : Nat) (Option.some Jvm.ClassFile.FieldType.int)).before args0 about1 = true := code_word (m := ⟨7, 2⟩) (meth := k7m2) (c := k7c2) (by decide +kernel) rfl rfl rfl (by decide +kernel)
set_option maxRecDepth 65536 in
theorem w_c9 : (Jvm.Cond.code ({ cls := "java/lang/String", name := "coder", desc := "()B" } : Jvm.MethodName) jdk_42_method_152_code (1 : Nat) (Option.some Jvm.ClassFile.FieldType.byte)).before args0 about1 = true := code_word (m := ⟨7, 7⟩) (meth := k7m7) (c := k7c7) (by decide +kernel) rfl rfl rfl (by decide +kernel)
set_option maxRecDepth 65536 in
theorem w_c10 : (Jvm.Cond.code ({ cls := "java/lang/String", name := "lastIndexOf", desc := "(II)I" } : Jvm.MethodName) jdk_42_method_83_code (3 : Nat) (Option.some Jvm.ClassFile.FieldType.int)).before args0 about1 = true := code_word (m := ⟨7, 5⟩) (meth := k7m5) (c := k7c5) (by decide +kernel) rfl rfl rfl (by decide +kernel)
set_option maxRecDepth 65536 in
theorem w_c11 : (Jvm.Cond.code ({ cls := "java/lang/String", name := "isLatin1", desc := "()Z" } : Jvm.MethodName) jdk_42_method_154_code (1 : Nat) (Option.some Jvm.ClassFile.FieldType.boolean)).before args0 about1 = true := code_word (m := ⟨7, 8⟩) (meth := k7m8) (c := k7c8) (by decide +kernel) rfl rfl rfl (by decide +kernel)
set_option maxRecDepth 65536 in
theorem w_c12 : (Jvm.Cond.code ({ cls := "java/lang/StringLatin1", name := "lastIndexOf", desc := "([BII)I" } : Jvm.MethodName) jdk_43_method_27_code (4 : Nat) (Option.some Jvm.ClassFile.FieldType.int)).before args0 about1 = true := code_word (m := ⟨9, 3⟩) (meth := k9m3) (c := k9c3) (by decide +kernel) rfl rfl rfl (by decide +kernel)
set_option maxRecDepth 65536 in
theorem w_c13 : (Jvm.Cond.code ({ cls := "java/lang/StringLatin1", name := "canEncode", desc := "(I)Z" } : Jvm.MethodName) jdk_43_method_4_code (1 : Nat) (Option.some Jvm.ClassFile.FieldType.boolean)).before args0 about1 = true := code_word (m := ⟨9, 2⟩) (meth := k9m2) (c := k9c2) (by decide +kernel) rfl rfl rfl (by decide +kernel)
set_option maxRecDepth 65536 in
theorem w_c14 : (Jvm.Cond.code ({ cls := "java/lang/Math", name := "min", desc := "(II)I" } : Jvm.MethodName) jdk_29_method_69_code (2 : Nat) (Option.some Jvm.ClassFile.FieldType.int)).before args0 about1 = true := code_word (m := ⟨10, 1⟩) (meth := k10m1) (c := k10c1) (by decide +kernel) rfl rfl rfl (by decide +kernel)
set_option maxRecDepth 65536 in
theorem w_c15 : (Jvm.Cond.code ({ cls := "com/example/nuthatch/nuthatch/EntryNameIsMemberPinLaw", name := "step", desc := "(IC)I" } : Jvm.MethodName) method_4_code (5 : Nat) (Option.some Jvm.ClassFile.FieldType.int)).before args0 about1 = true := code_word (m := ⟨1, 3⟩) (meth := k1m3) (c := k1c3) (by decide +kernel) rfl rfl rfl (by decide +kernel)
set_option maxRecDepth 65536 in
theorem w_c16 : (Jvm.Cond.code ({ cls := "java/lang/StringUTF16", name := "compress", desc := "([CII)[B" } : Jvm.MethodName) jdk_52_method_16_code (6 : Nat) (Option.some (Jvm.ClassFile.FieldType.array Jvm.ClassFile.FieldType.byte))).before args0 about1 = true := code_word (m := ⟨11, 2⟩) (meth := k11m2) (c := k11c2) (by decide +kernel) rfl rfl rfl (by decide +kernel)
set_option maxRecDepth 65536 in
theorem w_c17 : (Jvm.Cond.code ({ cls := "java/lang/StringUTF16", name := "compress", desc := "([CI[BII)I" } : Jvm.MethodName) jdk_52_method_21_code (7 : Nat) (Option.some Jvm.ClassFile.FieldType.int)).before args0 about1 = true := code_word (m := ⟨11, 3⟩) (meth := k11m3) (c := k11c3) (by decide +kernel) rfl rfl rfl (by decide +kernel)
set_option maxRecDepth 65536 in
theorem w_c18 : (Jvm.Cond.code ({ cls := "java/lang/StringUTF16", name := "coderFromArrayLen", desc := "([BI)B" } : Jvm.MethodName) jdk_52_method_15_code (2 : Nat) (Option.some Jvm.ClassFile.FieldType.byte)).before args0 about1 = true := code_word (m := ⟨11, 1⟩) (meth := k11m1) (c := k11c1) (by decide +kernel) rfl rfl rfl (by decide +kernel)
set_option maxRecDepth 65536 in
theorem w_c19 : (Jvm.Cond.code ({ cls := "com/example/nuthatch/nuthatch/EntryName", name := "digits", desc := "(Ljava/lang/String;III)Z" } : Jvm.MethodName) prog_2_method_15_code (5 : Nat) (Option.some Jvm.ClassFile.FieldType.boolean)).before args0 about1 = true := code_word (m := ⟨8, 3⟩) (meth := k8m3) (c := k8c3) (by decide +kernel) rfl rfl rfl (by decide +kernel)
set_option maxRecDepth 65536 in
theorem w_c20 : (Jvm.Cond.code ({ cls := "java/lang/String", name := "charAt", desc := "(I)C" } : Jvm.MethodName) jdk_42_method_56_code (2 : Nat) (Option.some Jvm.ClassFile.FieldType.char)).before args0 about1 = true := code_word (m := ⟨7, 3⟩) (meth := k7m3) (c := k7c3) (by decide +kernel) rfl rfl rfl (by decide +kernel)
set_option maxRecDepth 65536 in
theorem w_c21 : (Jvm.Cond.code ({ cls := "java/lang/StringLatin1", name := "charAt", desc := "([BI)C" } : Jvm.MethodName) jdk_43_method_2_code (2 : Nat) (Option.some Jvm.ClassFile.FieldType.char)).before args0 about1 = true := code_word (m := ⟨9, 1⟩) (meth := k9m1) (c := k9c1) (by decide +kernel) rfl rfl rfl (by decide +kernel)
set_option maxRecDepth 65536 in
theorem w_c22 : (Jvm.Cond.code ({ cls := "java/lang/String", name := "checkIndex", desc := "(II)V" } : Jvm.MethodName) jdk_42_method_155_code (2 : Nat) (Option.none : Option Jvm.ClassFile.FieldType)).before args0 about1 = true := code_word (m := ⟨7, 9⟩) (meth := k7m9) (c := k7c9) (by decide +kernel) rfl rfl rfl (by decide +kernel)
set_option maxRecDepth 65536 in
theorem w_c23 : (Jvm.Cond.code ({ cls := "jdk/internal/util/Preconditions", name := "checkIndex", desc := "(IILjava/util/function/BiFunction;)I" } : Jvm.MethodName) jdk_41_method_11_code (3 : Nat) (Option.some Jvm.ClassFile.FieldType.int)).before args0 about1 = true := code_word (m := ⟨12, 1⟩) (meth := k12m1) (c := k12c1) (by decide +kernel) rfl rfl rfl (by decide +kernel)
set_option maxRecDepth 65536 in
theorem w_c24 : (Jvm.Cond.code ({ cls := "com/example/nuthatch/nuthatch/EntryName", name := "isDigit", desc := "(CI)Z" } : Jvm.MethodName) prog_2_method_17_code (2 : Nat) (Option.some Jvm.ClassFile.FieldType.boolean)).before args0 about1 = true := code_word (m := ⟨8, 4⟩) (meth := k8m4) (c := k8c4) (by decide +kernel) rfl rfl rfl (by decide +kernel)
def codes1 : List Jvm.Cond := [Jvm.Cond.code x code maxLocals ret, Jvm.Cond.code ({ cls := "com/example/nuthatch/nuthatch/EntryNameIsMemberPinLaw", name := "ch", desc := "(J)C" } : Jvm.MethodName) method_3_code (5 : Nat) (Option.some Jvm.ClassFile.FieldType.char), Jvm.Cond.code ({ cls := "java/lang/String", name := "<init>", desc := "([C)V" } : Jvm.MethodName) jdk_42_method_3_code (2 : Nat) (Option.none : Option Jvm.ClassFile.FieldType), Jvm.Cond.code ({ cls := "java/lang/String", name := "<init>", desc := "([CIILjava/lang/Void;)V" } : Jvm.MethodName) jdk_42_method_149_code (6 : Nat) (Option.none : Option Jvm.ClassFile.FieldType), Jvm.Cond.code ({ cls := "java/lang/Object", name := "<init>", desc := "()V" } : Jvm.MethodName) object_method_1_code (1 : Nat) (Option.none : Option Jvm.ClassFile.FieldType), Jvm.Cond.code ({ cls := "com/example/nuthatch/nuthatch/EntryName", name := "isMember", desc := "(Ljava/lang/String;)Z" } : Jvm.MethodName) prog_2_method_4_code (1 : Nat) (Option.some Jvm.ClassFile.FieldType.boolean), Jvm.Cond.code ({ cls := "com/example/nuthatch/nuthatch/EntryName", name := "uniqueStart", desc := "(Ljava/lang/String;)I" } : Jvm.MethodName) prog_2_method_6_code (4 : Nat) (Option.some Jvm.ClassFile.FieldType.int), Jvm.Cond.code ({ cls := "java/lang/String", name := "lastIndexOf", desc := "(I)I" } : Jvm.MethodName) jdk_42_method_82_code (2 : Nat) (Option.some Jvm.ClassFile.FieldType.int), Jvm.Cond.code ({ cls := "java/lang/String", name := "length", desc := "()I" } : Jvm.MethodName) jdk_42_method_54_code (1 : Nat) (Option.some Jvm.ClassFile.FieldType.int), Jvm.Cond.code ({ cls := "java/lang/String", name := "coder", desc := "()B" } : Jvm.MethodName) jdk_42_method_152_code (1 : Nat) (Option.some Jvm.ClassFile.FieldType.byte), Jvm.Cond.code ({ cls := "java/lang/String", name := "lastIndexOf", desc := "(II)I" } : Jvm.MethodName) jdk_42_method_83_code (3 : Nat) (Option.some Jvm.ClassFile.FieldType.int), Jvm.Cond.code ({ cls := "java/lang/String", name := "isLatin1", desc := "()Z" } : Jvm.MethodName) jdk_42_method_154_code (1 : Nat) (Option.some Jvm.ClassFile.FieldType.boolean), Jvm.Cond.code ({ cls := "java/lang/StringLatin1", name := "lastIndexOf", desc := "([BII)I" } : Jvm.MethodName) jdk_43_method_27_code (4 : Nat) (Option.some Jvm.ClassFile.FieldType.int), Jvm.Cond.code ({ cls := "java/lang/StringLatin1", name := "canEncode", desc := "(I)Z" } : Jvm.MethodName) jdk_43_method_4_code (1 : Nat) (Option.some Jvm.ClassFile.FieldType.boolean), Jvm.Cond.code ({ cls := "java/lang/Math", name := "min", desc := "(II)I" } : Jvm.MethodName) jdk_29_method_69_code (2 : Nat) (Option.some Jvm.ClassFile.FieldType.int), Jvm.Cond.code ({ cls := "com/example/nuthatch/nuthatch/EntryNameIsMemberPinLaw", name := "step", desc := "(IC)I" } : Jvm.MethodName) method_4_code (5 : Nat) (Option.some Jvm.ClassFile.FieldType.int), Jvm.Cond.code ({ cls := "java/lang/StringUTF16", name := "compress", desc := "([CII)[B" } : Jvm.MethodName) jdk_52_method_16_code (6 : Nat) (Option.some (Jvm.ClassFile.FieldType.array Jvm.ClassFile.FieldType.byte)), Jvm.Cond.code ({ cls := "java/lang/StringUTF16", name := "compress", desc := "([CI[BII)I" } : Jvm.MethodName) jdk_52_method_21_code (7 : Nat) (Option.some Jvm.ClassFile.FieldType.int), Jvm.Cond.code ({ cls := "java/lang/StringUTF16", name := "coderFromArrayLen", desc := "([BI)B" } : Jvm.MethodName) jdk_52_method_15_code (2 : Nat) (Option.some Jvm.ClassFile.FieldType.byte), Jvm.Cond.code ({ cls := "com/example/nuthatch/nuthatch/EntryName", name := "digits", desc := "(Ljava/lang/String;III)Z" } : Jvm.MethodName) prog_2_method_15_code (5 : Nat) (Option.some Jvm.ClassFile.FieldType.boolean), Jvm.Cond.code ({ cls := "java/lang/String", name := "charAt", desc := "(I)C" } : Jvm.MethodName) jdk_42_method_56_code (2 : Nat) (Option.some Jvm.ClassFile.FieldType.char), Jvm.Cond.code ({ cls := "java/lang/StringLatin1", name := "charAt", desc := "([BI)C" } : Jvm.MethodName) jdk_43_method_2_code (2 : Nat) (Option.some Jvm.ClassFile.FieldType.char), Jvm.Cond.code ({ cls := "java/lang/String", name := "checkIndex", desc := "(II)V" } : Jvm.MethodName) jdk_42_method_155_code (2 : Nat) (Option.none : Option Jvm.ClassFile.FieldType), Jvm.Cond.code ({ cls := "jdk/internal/util/Preconditions", name := "checkIndex", desc := "(IILjava/util/function/BiFunction;)I" } : Jvm.MethodName) jdk_41_method_11_code (3 : Nat) (Option.some Jvm.ClassFile.FieldType.int), Jvm.Cond.code ({ cls := "com/example/nuthatch/nuthatch/EntryName", name := "isDigit", desc := "(CI)Z" } : Jvm.MethodName) prog_2_method_17_code (2 : Nat) (Option.some Jvm.ClassFile.FieldType.boolean)]
set_option maxRecDepth 65536 in
theorem codes_eq : words1.filter isCode = codes1 := rfl
theorem w_codes : ∀ c ∈ words1.filter isCode, c.before args0 about1 = true := by
  rw [codes_eq]
  intro c hc
  simp only [codes1, List.mem_cons, List.not_mem_nil, or_false] at hc
  rcases hc with rfl | rfl | rfl | rfl | rfl | rfl | rfl | rfl | rfl | rfl | rfl | rfl | rfl | rfl | rfl | rfl | rfl | rfl | rfl | rfl | rfl | rfl | rfl | rfl | rfl
  · exact w_c0
  · exact w_c1
  · exact w_c2
  · exact w_c3
  · exact w_c4
  · exact w_c5
  · exact w_c6
  · exact w_c7
  · exact w_c8
  · exact w_c9
  · exact w_c10
  · exact w_c11
  · exact w_c12
  · exact w_c13
  · exact w_c14
  · exact w_c15
  · exact w_c16
  · exact w_c17
  · exact w_c18
  · exact w_c19
  · exact w_c20
  · exact w_c21
  · exact w_c22
  · exact w_c23
  · exact w_c24
set_option maxRecDepth 65536 in
theorem w_t1 : (words1.take 24).all (fun c => isCode c || c.before args0 about1) = true := by decide +kernel
set_option maxRecDepth 65536 in
theorem w_t2 : ((words1.drop 24).take 24).all (fun c => isCode c || c.before args0 about1) = true := by decide +kernel
set_option maxRecDepth 65536 in
theorem w_t3 : (((words1.drop 24).drop 24).take 24).all (fun c => isCode c || c.before args0 about1) = true := by decide +kernel
set_option maxRecDepth 65536 in
theorem w_t4 : ((((words1.drop 24).drop 24).drop 24).take 24).all (fun c => isCode c || c.before args0 about1) = true := by decide +kernel
set_option maxRecDepth 65536 in
theorem w_t5 : ((((words1.drop 24).drop 24).drop 24).drop 24).all (fun c => isCode c || c.before args0 about1) = true := by decide +kernel
theorem w_tables : (allAtoms (Jvm.Cond.code x code maxLocals ret :: tables_1)).before args0 about1 = true := by
  rw [allAtoms_all]
  show words1.all (fun c => c.before args0 about1) = true
  refine all_split ?_ w_codes
  rw [← List.take_append_drop 24 words1, List.all_append, w_t1, ← List.take_append_drop 24 (words1.drop 24), List.all_append, w_t2, ← List.take_append_drop 24 ((words1.drop 24).drop 24), List.all_append, w_t3, ← List.take_append_drop 24 (((words1.drop 24).drop 24).drop 24), List.all_append, w_t4, w_t5]
  rfl
set_option maxRecDepth 65536 in
theorem w_rest : rest_1_c.before args0 about1 = true := by decide +kernel
set_option maxRecDepth 65536 in
theorem w_case : (Jvm.Cond.and given_1 narrow_1).before args0 about1 = true := by decide +kernel
set_option maxRecDepth 65536 in
theorem w_consts : constsHeld consts_1 about1 := Jvm.Lit.constsHeldB_iff.mp (by decide +kernel)
theorem w_applies : (headSpec (Jvm.Cond.code x code maxLocals ret :: tables_1) room_1).applies x e0.platform about1 = true :=
  (Spec.applies_iff w_frames).mpr ⟨w_running, w_runnable, w_alone, w_named, w_hears, w_ripe, w_room, w_tables⟩
theorem atStart : AtStart classFile x code maxLocals ret World_1 tables_1 room_1 Calls_1 rest_1 Pre_1 launch0 p0 e0 about1 theMethod args0 below0 :=
  ⟨lists_1, trivial, launch0.admits_env _ _ _, launch0.least_env, fairChoices_fair.cas, fairChoices_fair.clock, w_frames, w_args, w_heap, w_applies, ⟨w_consts, trivial⟩, w_rest, w_case⟩
end start1
theorem witness_1 : WitnessClaimed_1 := ⟨start1.p0, start1.e0, start1.about1, start1.theMethod, start1.args0, start1.below0, start1.atStart⟩
end Jvm.Pilot.@@N@@
