import JvmDerived
import JvmDerived.Pilot.@@N@@Statement
import JvmDerived.Pilot.@@N@@Code
set_option linter.unusedVariables false
set_option linter.unusedSimpArgs false
namespace Jvm.RoadKit
open Sem ClassFile Op Lib Jvm.Stand Jvm.Free Jvm.LawKit
section New
variable {p : Program} {l : Launch} {e : Env} {R : Room} {s : State} {m : MethodId} {args : Array Value} {below : List Frame} {meth : Method} {c : Code} {T : State} {locs : List Loc} {cells slots : Nat}
theorem retI (X : Stand p l e R s m args below meth c T locs cells slots) (hx : p.tables.exec = Jvm.exec) {pc : Nat} {Ls : Array Slot} {z : Int32} {rest : List Value} (hret : meth.sig.returnType = some .int) (hd : decode c.code pc = .ok (.ireturn, 1)) {fs : List Frame}
    (hl : ∀ (f : JFrame) (acts : List Action), f.method = m → f.locked = none → f.entered = [] → (doReturn e (T.setTop f) acts (some (.int z))).1 = T.setFrames fs) : Steps p.tables e below (T.setTop (mkF m pc Ls (.int z :: rest))) (T.setFrames fs) := by
  have hm' : T.vm.method? m = some meth := X.method'
  have hn : narrow .int (.int z) = .int z := rfl
  show Steps p.tables e below (T.setTop { method := m, pc := pc, locals := Ls, stack := _ :: rest, locked := none }) _
  jvm_step X.here [X.here.top, hx, hd, hm', hret, hn]
  first | (intro acts; rw [hl _ acts rfl rfl rfl]) | rw [hl _ _ rfl rfl rfl]
  exact Steps.refl _
end New
end Jvm.RoadKit
/- laws to paste: Road.backV (cut by pick.py; bodies as the Statement names them) -/
namespace Jvm.Pilot.@@N@@
namespace StrChars
open Jvm Sem ClassFile Op Lib Jvm.Stand Jvm.Free.XT Jvm.Free.ALB Jvm.Free.JM Jvm.Free
open Jvm.Lib.Cold (StaticIs)
/-- a char array whose places are chars -/
def Ch (a : Addr) (A : Cell) (U : State) : Prop := Arr .char a A U ∧ Typed .char A
theorem Ch.mv {a : Addr} {A : Cell} {U U' : State} (h : Ch a A U) (hal : U.vm.Alike U'.vm) (hh : U'.heap = U.heap) : Ch a A U' := ⟨h.1.mv hal hh, h.2⟩
theorem Ch.keep {a : Addr} {A : Cell} {U U' : State} (h : Ch a A U) (hal : U.vm.Alike U'.vm) (hk : U'.heap[a]? = some A) : Ch a A U' := ⟨h.1.keep hal hk, h.2⟩
/-- what place i of a char[]'s cell holds -/
def cv (A : Cell) (i : Nat) : Int32 := match A.slots[i]? with | some (.int x) => x | _ => 0
theorem Ch.get {a : Addr} {A : Cell} {U : State} (h : Ch a A U) {i : Nat} (hi : i < A.slots.size) : A.slots[i]? = some (.int (cv A i)) := by
  have e := Array.getElem?_eq_getElem hi
  have f := h.2 i _ e
  unfold cv; rw [e]
  generalize A.slots[i] = v at f
  cases v <;> simp [fits] at f ⊢
/-- the byte that i2b leaves of a char -/
def lo8 (x : Int32) : Int32 := x.toInt8.toInt32
theorem fits_lo8 (y : Int32) : fits .byte (.int (lo8 y)) = true := by
  have h1 := y.toInt8.le_toInt
  have h2 := y.toInt8.toInt_lt
  simp only [lo8, fits, Bool.and_eq_true, decide_eq_true_eq, Int32.le_iff_toInt_le, Int8.toInt_toInt32, show (-128 : Int32).toInt = -128 from by decide, show (127 : Int32).toInt = 127 from by decide]
  omega
/-- A' is A but that each place j of lo .. hi - 1 holds f j -/
def Laid (A A' : Cell) (lo hi : Nat) (f : Nat → Value) : Prop := A'.cls = A.cls ∧ A'.vm = A.vm ∧ A'.slots.size = A.slots.size ∧ ∀ i, A'.slots[i]? = if lo ≤ i ∧ i < hi then some (f i) else A.slots[i]?
theorem Laid.zero (A : Cell) (lo : Nat) (f : Nat → Value) : Laid A A lo (lo + 0) f := ⟨rfl, rfl, rfl, fun i => by rw [if_neg (by omega)]⟩
theorem Laid.step {A Ak : Cell} {lo k : Nat} {f : Nat → Value} {v : Value} (h : Laid A Ak lo k f) (hlo : lo ≤ k) (hk : k < Ak.slots.size) (hv : v = f k) : Laid A (Ak.setSlot k v) lo (k + 1) f := by
  refine ⟨h.1, h.2.1, by simpa [Cell.setSlot] using h.2.2.1, fun i => ?_⟩
  by_cases e : k = i
  · subst e; rw [Cell.slots_setSlot_self v hk, if_pos (by omega), hv]
  · rw [Cell.slots_setSlot_ne v e, h.2.2.2 i]
    by_cases q : lo ≤ i ∧ i < k
    · rw [if_pos q, if_pos (by omega)]
    · rw [if_neg q, if_neg (by omega)]
def U16 : String := "java/lang/StringUTF16"
namespace Cmp5
def yN : MethodName := ⟨"java/lang/StringUTF16", "compress", "([CI[BII)I"⟩
abbrev yB : ByteArray := jdk_52_method_21_code
theorem d0 : decode yB 0 = .ok (.iconst 0, 1) := by decide +kernel
theorem d1 : decode yB 1 = .ok (.istore 5, 2) := by decide +kernel
theorem d3 : decode yB 3 = .ok (.iload 5, 2) := by decide +kernel
theorem d5 : decode yB 5 = .ok (.iload 4, 2) := by decide +kernel
theorem d7 : decode yB 7 = .ok (.if_icmp (.ge) 37, 3) := by decide +kernel
theorem d10 : decode yB 10 = .ok (.aload_n 0, 1) := by decide +kernel
theorem d11 : decode yB 11 = .ok (.iload_n 1, 1) := by decide +kernel
theorem d12 : decode yB 12 = .ok (.caload, 1) := by decide +kernel
theorem d13 : decode yB 13 = .ok (.istore 6, 2) := by decide +kernel
theorem d15 : decode yB 15 = .ok (.iload 6, 2) := by decide +kernel
theorem d17 : decode yB 17 = .ok (.sipush 255, 3) := by decide +kernel
theorem d20 : decode yB 20 = .ok (.if_icmp (.le) 6, 3) := by decide +kernel
theorem d26 : decode yB 26 = .ok (.aload_n 2, 1) := by decide +kernel
theorem d27 : decode yB 27 = .ok (.iload_n 3, 1) := by decide +kernel
theorem d28 : decode yB 28 = .ok (.iload 6, 2) := by decide +kernel
theorem d30 : decode yB 30 = .ok (.i2b, 1) := by decide +kernel
theorem d31 : decode yB 31 = .ok (.bastore, 1) := by decide +kernel
theorem d32 : decode yB 32 = .ok (.iinc 1 1, 3) := by decide +kernel
theorem d35 : decode yB 35 = .ok (.iinc 3 1, 3) := by decide +kernel
theorem d38 : decode yB 38 = .ok (.iinc 5 1, 3) := by decide +kernel
theorem d41 : decode yB 41 = .ok (.goto (-38), 3) := by decide +kernel
theorem d44 : decode yB 44 = .ok (.iload 4, 2) := by decide +kernel
theorem d46 : decode yB 46 = .ok (.ireturn, 1) := by decide +kernel
def site : List Cond := []
def tab : Cond := tabOf yN yB 7 (some .int) site
def P (b : Addr) (A : Cell) (d : Addr) (B : Cell) (o q len : Nat) (args : Array Value) (s : State) : Prop := args = #[.ref b, .int (Int32.ofNat o), .ref d, .int (Int32.ofNat q), .int (Int32.ofNat len)] ∧ Ch b A s ∧ Arr .byte d B s ∧ b ≠ d ∧ o + len ≤ A.slots.size ∧ q + len ≤ B.slots.size ∧ ∀ i, i < len → ¬ 255 < cv A (o + i)
def E (b : Addr) (A : Cell) (d : Addr) (B : Cell) (o q len : Nat) (r : Option Value) (s u : State) : Prop := r = some (.int (Int32.ofNat len)) ∧ ∃ B', Put d B' s u ∧ Laid B B' q (q + len) (fun j => Value.int (lo8 (cv A (o + (j - q)))))
/-- no char of the range above 255: len; the places written hold each char's low byte -/
theorem law (l : Launch) (b : Addr) (A : Cell) (d : Addr) (B : Cell) (o q len : Nat) : Law l yN 5 5 0 0 yB 7 (some .int) site (P b A d B o q len) (E b A d B o q len) (copyLocs d q len) 0 0 := by
  refine Law.of_walk (plainFor_of_name (by decide +kernel)) (by decide +kernel) (by decide +kernel) (by decide) (fun _ _ h => by rw [h.1]; rfl) (fun _ U U' hal hh h => ⟨h.1, h.2.1.mv hal hh, h.2.2.1.mv hal hh, h.2.2.2⟩) (fun r U U' V V' h1 hal h2 h => ⟨h.1, h.2.elim fun B' q => ⟨B', q.1.mv h1 h2, q.2⟩⟩) ?_
  intro p e s m args below meth c s₁ X0 hexec hbytes hml hret hlk hnm hown hh0 W hP
  obtain ⟨rfl, hA, hB, hne, l1, l2, hp⟩ := hP
  have c1 : Steps p.tables e below (s₁.setTop (entryFrame m #[.ref b, .int (Int32.ofNat o), .ref d, .int (Int32.ofNat q), .int (Int32.ofNat len)] 7)) (s₁.setTop (mkF m 0 #[.val (.ref b), .val (.int (Int32.ofNat o)), .val (.ref d), .val (.int (Int32.ofNat q)), .val (.int (Int32.ofNat len)), .unset, .unset] [])) := entry rfl
  have hA0 := hA.1.mv X0.warmed.alike hh0
  have hB0 := hB.mv X0.warmed.alike hh0
  have a31 := hA.1.2.2.2
  have c2 : Steps p.tables e below (s₁.setTop (entryFrame m #[.ref b, .int (Int32.ofNat o), .ref d, .int (Int32.ofNat q), .int (Int32.ofNat len)] 7)) (s₁.setTop (mkF m 3 #[.val (.ref b), .val (.int (Int32.ofNat o)), .val (.ref d), .val (.int (Int32.ofNat q)), .val (.int (Int32.ofNat len)), .val (.int 0), .unset] [])) := c1.trans (by
    refine iconstV X0.here hexec rfl 0 (hb hbytes d0) (by decide) ?_
    refine XS.istore X0.here hexec rfl (hb hbytes d1) rfl rfl ?_
    exact Steps.refl _)
  have loop : ∀ (r i : Nat), i + r = len → ∀ (z : Slot), (z = .unset ∨ ∃ w, z = .val w ∧ w.category = 1) → ∀ (Tl : State) (Bk : Cell), Stand p l e { frames := 0, locals := 0, cells := 0, slots := 0 } s m #[.ref b, .int (Int32.ofNat o), .ref d, .int (Int32.ofNat q), .int (Int32.ofNat len)] below meth c Tl ([] ++ copyLocs d q i) 0 0 → Put d Bk s₁ Tl → Laid B Bk q (q + i) (fun j => Value.int (lo8 (cv A (o + (j - q))))) →
      Steps p.tables e below (s₁.setTop (entryFrame m #[.ref b, .int (Int32.ofNat o), .ref d, .int (Int32.ofNat q), .int (Int32.ofNat len)] 7)) (Tl.setTop (mkF m 3 #[.val (.ref b), .val (.int (Int32.ofNat (o + i))), .val (.ref d), .val (.int (Int32.ofNat (q + i))), .val (.int (Int32.ofNat len)), .val (.int (Int32.ofNat i)), z] [])) → ∃ (T' : State) (B' : Cell) (z' : Slot), Stand p l e { frames := 0, locals := 0, cells := 0, slots := 0 } s m #[.ref b, .int (Int32.ofNat o), .ref d, .int (Int32.ofNat q), .int (Int32.ofNat len)] below meth c T' ([] ++ copyLocs d q len) 0 0 ∧ Put d B' s₁ T' ∧ Laid B B' q (q + len) (fun j => Value.int (lo8 (cv A (o + (j - q))))) ∧
      Steps p.tables e below (s₁.setTop (entryFrame m #[.ref b, .int (Int32.ofNat o), .ref d, .int (Int32.ofNat q), .int (Int32.ofNat len)] 7)) (T'.setTop (mkF m 3 #[.val (.ref b), .val (.int (Int32.ofNat (o + len))), .val (.ref d), .val (.int (Int32.ofNat (q + len))), .val (.int (Int32.ofNat len)), .val (.int (Int32.ofNat len)), z'] [])) := by
    intro r
    induction r with
    | zero =>
      intro i hi z hz Tl Bk Xl pl fl cl
      have hil : i = len := by omega
      rw [hil] at Xl fl cl
      exact ⟨Tl, Bk, z, Xl, pl, fl, cl⟩
    | succ r ih =>
      intro i hi z hz Tl Bk Xl pl fl cl
      have all := X0.warmed.alike.symm.trans Xl.warmed.alike
      have hAl := hA0.keep all (pl.other hne hA0.1)
      have hBk := hB0.like all pl.1 fl.1 fl.2.1 fl.2.2.1
      have hlt : q + i < Bk.slots.size := by rw [fl.2.2.1]; omega
      have c3 : Steps p.tables e below (s₁.setTop (entryFrame m #[.ref b, .int (Int32.ofNat o), .ref d, .int (Int32.ofNat q), .int (Int32.ofNat len)] 7)) (Tl.setTop (mkF m 12 #[.val (.ref b), .val (.int (Int32.ofNat (o + i))), .val (.ref d), .val (.int (Int32.ofNat (q + i))), .val (.int (Int32.ofNat len)), .val (.int (Int32.ofNat i)), z] [.int (Int32.ofNat (o + i)), .ref b])) := cl.trans (by
        refine XS.iload Xl.here hexec rfl (hb hbytes d3) rfl ?_
        refine XS.iload Xl.here hexec rfl (hb hbytes d5) rfl ?_
        refine XS.icmpNo Xl.here hexec rfl (hb hbytes d7) rfl (ii_ge_f (lt32 (by omega) (by omega))) ?_
        refine XS.aloadN Xl.here hexec rfl (hb hbytes d10) rfl rfl ?_
        refine XS.iloadN Xl.here hexec rfl (hb hbytes d11) rfl ?_
        exact Steps.refl _)
      have c4 : Steps p.tables e below (s₁.setTop (entryFrame m #[.ref b, .int (Int32.ofNat o), .ref d, .int (Int32.ofNat q), .int (Int32.ofNat len)] 7)) (Tl.setTop (mkF m 13 #[.val (.ref b), .val (.int (Int32.ofNat (o + i))), .val (.ref d), .val (.int (Int32.ofNat (q + i))), .val (.int (Int32.ofNat len)), .val (.int (Int32.ofNat i)), z] [.int (cv A (o + i))])) := c3.trans (by
        refine Xl.aget hexec hAl rfl (hA.get (i := o + i) (by omega)) rfl rfl (hb hbytes d12) ?_
        exact Steps.refl _)
      have c5 : Steps p.tables e below (s₁.setTop (entryFrame m #[.ref b, .int (Int32.ofNat o), .ref d, .int (Int32.ofNat q), .int (Int32.ofNat len)] 7)) (Tl.setTop (mkF m 15 #[.val (.ref b), .val (.int (Int32.ofNat (o + i))), .val (.ref d), .val (.int (Int32.ofNat (q + i))), .val (.int (Int32.ofNat len)), .val (.int (Int32.ofNat i)), .val (.int (cv A (o + i)))] [])) := c4.trans (by
        refine XS.istoreS Xl.here hexec rfl (hb hbytes d13) rfl rfl hz ?_
        exact Steps.refl _)
      have c6 : Steps p.tables e below (s₁.setTop (entryFrame m #[.ref b, .int (Int32.ofNat o), .ref d, .int (Int32.ofNat q), .int (Int32.ofNat len)] 7)) (Tl.setTop (mkF m 31 #[.val (.ref b), .val (.int (Int32.ofNat (o + i))), .val (.ref d), .val (.int (Int32.ofNat (q + i))), .val (.int (Int32.ofNat len)), .val (.int (Int32.ofNat i)), .val (.int (cv A (o + i)))] [.int (lo8 (cv A (o + i))), .int (Int32.ofNat (q + i)), .ref d])) := c5.trans (by
        refine XS.iload Xl.here hexec rfl (hb hbytes d15) rfl ?_
        refine sipushV Xl.here hexec rfl 255 (hb hbytes d17) (by decide) ?_
        refine XS.icmpYes Xl.here hexec rfl (pc0 := 20) rfl (hb hbytes d20) rfl (ii_le_t (hp i (by omega))) (by decide) rfl ?_
        refine XS.aloadN Xl.here hexec rfl (hb hbytes d26) rfl rfl ?_
        refine XS.iloadN Xl.here hexec rfl (hb hbytes d27) rfl ?_
        refine XS.iload Xl.here hexec rfl (hb hbytes d28) rfl ?_
        refine i2b Xl.here hexec rfl (hb hbytes d30) rfl ?_
        exact Steps.refl _)
      obtain ⟨T7, X7, p7, st7⟩ := Xl.aput hexec hBk rfl hlt rfl (fits_lo8 (cv A (o + i))) (g := (mkF m 31 #[.val (.ref b), .val (.int (Int32.ofNat (o + i))), .val (.ref d), .val (.int (Int32.ofNat (q + i))), .val (.int (Int32.ofNat len)), .val (.int (Int32.ofNat i)), .val (.int (cv A (o + i)))] [.int (lo8 (cv A (o + i))), .int (Int32.ofNat (q + i)), .ref d])) rfl (rest := []) rfl (hb hbytes d31)
      have c8 : Steps p.tables e below (s₁.setTop (entryFrame m #[.ref b, .int (Int32.ofNat o), .ref d, .int (Int32.ofNat q), .int (Int32.ofNat len)] 7)) (T7.setTop (mkF m 32 #[.val (.ref b), .val (.int (Int32.ofNat (o + i))), .val (.ref d), .val (.int (Int32.ofNat (q + i))), .val (.int (Int32.ofNat len)), .val (.int (Int32.ofNat i)), .val (.int (cv A (o + i)))] [])) := c6.trans (st7 _ (Steps.refl _))
      have c9 : Steps p.tables e below (s₁.setTop (entryFrame m #[.ref b, .int (Int32.ofNat o), .ref d, .int (Int32.ofNat q), .int (Int32.ofNat len)] 7)) (T7.setTop (mkF m 3 #[.val (.ref b), .val (.int (Int32.ofNat (o + i) + 1)), .val (.ref d), .val (.int (Int32.ofNat (q + i) + 1)), .val (.int (Int32.ofNat len)), .val (.int (Int32.ofNat i + 1)), .val (.int (cv A (o + i)))] [])) := c8.trans (by
        refine iincV X7.here hexec rfl 1 (hb hbytes d32) (by decide) rfl rfl ?_
        refine iincV X7.here hexec rfl 1 (hb hbytes d35) (by decide) rfl rfl ?_
        refine iincV X7.here hexec rfl 1 (hb hbytes d38) (by decide) rfl rfl ?_
        refine XS.goto X7.here hexec rfl (pc0 := 41) rfl (hb hbytes d41) (by decide) rfl ?_
        exact Steps.refl _)
      have c10 : Steps p.tables e below (s₁.setTop (entryFrame m #[.ref b, .int (Int32.ofNat o), .ref d, .int (Int32.ofNat q), .int (Int32.ofNat len)] 7)) (T7.setTop (mkF m 3 #[.val (.ref b), .val (.int (Int32.ofNat (o + (i + 1)))), .val (.ref d), .val (.int (Int32.ofNat (q + (i + 1)))), .val (.int (Int32.ofNat len)), .val (.int (Int32.ofNat (i + 1))), .val (.int (cv A (o + i)))] [])) := by
        have := c9
        rw [succ32, succ32, succ32] at this
        exact this
      exact ih (i + 1) (by omega) _ (Or.inr ⟨_, rfl, rfl⟩) T7 _ (by rw [copyLocs_step, ← List.append_assoc]; exact X7) (pl.trans p7) (fl.step (by omega) hlt (by simp)) c10
  obtain ⟨T9, B9, z9, X9, p9, f9, g9⟩ := loop len 0 (by omega) .unset (Or.inl rfl) s₁ B (by simpa [copyLocs] using X0) ⟨hB0.1, fun _ _ => rfl, rfl⟩ (Laid.zero _ _ _) c2
  have c11 : Steps p.tables e below (s₁.setTop (entryFrame m #[.ref b, .int (Int32.ofNat o), .ref d, .int (Int32.ofNat q), .int (Int32.ofNat len)] 7)) (T9.setTop (mkF m 46 #[.val (.ref b), .val (.int (Int32.ofNat (o + len))), .val (.ref d), .val (.int (Int32.ofNat (q + len))), .val (.int (Int32.ofNat len)), .val (.int (Int32.ofNat len)), z9] [.int (Int32.ofNat len)])) := g9.trans (by
    refine XS.iload X9.here hexec rfl (hb hbytes d3) rfl ?_
    refine XS.iload X9.here hexec rfl (hb hbytes d5) rfl ?_
    refine XS.icmpYes X9.here hexec rfl (pc0 := 7) rfl (hb hbytes d7) rfl (ii_ge_t (nlt32 (by omega) (Nat.le_refl _))) (by decide) rfl ?_
    refine XS.iload X9.here hexec rfl (hb hbytes d44) rfl ?_
    exact Steps.refl _)
  exact ⟨T9, some (.int (Int32.ofNat len)), _, _, _, X9, by simp, rfl, rfl, (fun h => by cases h), ⟨rfl, B9, p9.from hh0, f9⟩, fun fs hl => c11.trans (X9.ireturnOut hexec hret rfl (Or.inl rfl) (hb hbytes d46) hl)⟩
end Cmp5
namespace Cmp3
def yN : MethodName := ⟨"java/lang/StringUTF16", "compress", "([CII)[B"⟩
abbrev yB : ByteArray := jdk_52_method_16_code
theorem d0 : decode yB 0 = .ok (.iload_n 2, 1) := by decide +kernel
theorem d1 : decode yB 1 = .ok (.newarray .byte, 2) := by decide +kernel
theorem d3 : decode yB 3 = .ok (.astore_n 3, 1) := by decide +kernel
theorem d4 : decode yB 4 = .ok (.aload_n 0, 1) := by decide +kernel
theorem d5 : decode yB 5 = .ok (.iload_n 1, 1) := by decide +kernel
theorem d6 : decode yB 6 = .ok (.aload_n 3, 1) := by decide +kernel
theorem d7 : decode yB 7 = .ok (.iconst 0, 1) := by decide +kernel
theorem d8 : decode yB 8 = .ok (.iload_n 2, 1) := by decide +kernel
theorem d9 : decode yB 9 = .ok (.invokestatic 115, 3) := by decide +kernel
theorem d12 : decode yB 12 = .ok (.istore 4, 2) := by decide +kernel
theorem d14 : decode yB 14 = .ok (.iload 4, 2) := by decide +kernel
theorem d16 : decode yB 16 = .ok (.iload_n 2, 1) := by decide +kernel
theorem d17 : decode yB 17 = .ok (.if_icmp (.eq) 40, 3) := by decide +kernel
theorem d57 : decode yB 57 = .ok (.aload_n 3, 1) := by decide +kernel
theorem d58 : decode yB 58 = .ok (.areturn, 1) := by decide +kernel
def site : List Cond := [.arrayClass .byte, Cmp5.tab] ++ staticW U16 115 Cmp5.yN
def tab : Cond := tabOf yN yB 6 (some (.array .byte)) site
def P (b : Addr) (A : Cell) (o len : Nat) (args : Array Value) (s : State) : Prop := args = #[.ref b, .int (Int32.ofNat o), .int (Int32.ofNat len)] ∧ Ch b A s ∧ o + len ≤ A.slots.size ∧ len ≤ 536870912 ∧ ∀ i, i < len → ¬ 255 < cv A (o + i)
def E (b : Addr) (A : Cell) (o len : Nat) (r : Option Value) (s u : State) : Prop := NewArr .byte "[B" len (fun j => .int (lo8 (cv A (o + j)))) r s u ∧ u.heap.size = s.heap.size + 1
/-- no char of the range above 255: a new byte[] of their low bytes -/
theorem law (l : Launch) (b : Addr) (A : Cell) (o len : Nat) : Law l yN 3 3 1 18 yB 6 (some (.array .byte)) site (P b A o len) (E b A o len) [] 1 len := by
  refine Law.of_walk (plainFor_of_name (by decide +kernel)) (by decide +kernel) (by decide +kernel) (by decide) (fun _ _ h => by rw [h.1]; rfl) (fun _ U U' hal hh h => ⟨h.1, h.2.1.mv hal hh, h.2.2⟩) (fun r U U' V V' h1 hal h2 h => ⟨NewArr.mv r U U' V V' h1 hal h2 h.1, by rw [h1, h2]; exact h.2⟩) ?_
  intro p e s m args below meth c s₁ X0 hexec hbytes hml hret hlk hnm hown hh0 W hP
  obtain ⟨rfl, hA, l1, l2, hp⟩ := hP
  have a31 := hA.1.2.2.2
  have c1 : Steps p.tables e below (s₁.setTop (entryFrame m #[.ref b, .int (Int32.ofNat o), .int (Int32.ofNat len)] 6)) (s₁.setTop (mkF m 0 #[.val (.ref b), .val (.int (Int32.ofNat o)), .val (.int (Int32.ofNat len)), .unset, .unset, .unset] [])) := entry rfl
  have c2 : Steps p.tables e below (s₁.setTop (entryFrame m #[.ref b, .int (Int32.ofNat o), .int (Int32.ofNat len)] 6)) (s₁.setTop (mkF m 1 #[.val (.ref b), .val (.int (Int32.ofNat o)), .val (.int (Int32.ofNat len)), .unset, .unset, .unset] [.int (Int32.ofNat len)])) := c1.trans (by
    refine XS.iloadN X0.here hexec rfl (hb hbytes d0) rfl ?_
    exact Steps.refl _)
  obtain ⟨T3, B3, X3, ba3, bs3, bv3, bh3, bf3, st3⟩ := X0.anew hexec (atype := .byte) (wk W (.arrayClass .byte)) rfl (by show len * 1 ≤ _; omega) (by omega) (g := (mkF m 1 #[.val (.ref b), .val (.int (Int32.ofNat o)), .val (.int (Int32.ofNat len)), .unset, .unset, .unset] [.int (Int32.ofNat len)])) rfl (hb hbytes d1) (rest := []) rfl (Nat.le_refl _) (by show 0 + len ≤ len; omega)
  rw [hh0] at ba3 st3
  have kp3 : XT.Kept s T3 := (XT.Kept.of_eq hh0).push bh3
  have hA3 := hA.keep X3.warmed.alike (kp3 _ _ hA.1.1)
  have hne : b ≠ s.heap.size := hA.1.ne
  have c4 : Steps p.tables e below (s₁.setTop (entryFrame m #[.ref b, .int (Int32.ofNat o), .int (Int32.ofNat len)] 6)) (T3.setTop (mkF m 3 #[.val (.ref b), .val (.int (Int32.ofNat o)), .val (.int (Int32.ofNat len)), .unset, .unset, .unset] [.ref s.heap.size])) := c2.trans (st3 _ (Steps.refl _))
  have c5 : Steps p.tables e below (s₁.setTop (entryFrame m #[.ref b, .int (Int32.ofNat o), .int (Int32.ofNat len)] 6)) (T3.setTop (mkF m 9 #[.val (.ref b), .val (.int (Int32.ofNat o)), .val (.int (Int32.ofNat len)), .val (.ref s.heap.size), .unset, .unset] [.int (Int32.ofNat len), .int 0, .ref s.heap.size, .int (Int32.ofNat o), .ref b])) := c4.trans (by
    refine XS.astoreN X3.here hexec rfl (hb hbytes d3) rfl rfl rfl ?_
    refine XS.aloadN X3.here hexec rfl (hb hbytes d4) rfl rfl ?_
    refine XS.iloadN X3.here hexec rfl (hb hbytes d5) rfl ?_
    refine XS.aloadN X3.here hexec rfl (hb hbytes d6) rfl rfl ?_
    refine iconstV X3.here hexec rfl 0 (hb hbytes d7) (by decide) ?_
    refine XS.iloadN X3.here hexec rfl (hb hbytes d8) rfl ?_
    exact Steps.refl _)
  obtain ⟨v6, T6, X6, E6, g6⟩ := X3.callS hexec (Cmp5.law l b A s.heap.size B3 o 0 len) hown (wks W (staticW U16 115 Cmp5.yN)) (wk W Cmp5.tab) (W := 0) (Nat.le_of_ble_eq_true rfl) (Nat.le_of_ble_eq_true rfl) (Nat.le_refl _) (by show 0 + len + 0 ≤ len; omega) (g := (mkF m 9 #[.val (.ref b), .val (.int (Int32.ofNat o)), .val (.int (Int32.ofNat len)), .val (.ref s.heap.size), .unset, .unset] [.int (Int32.ofNat len), .int (Int32.ofNat 0), .ref s.heap.size, .int (Int32.ofNat o), .ref b])) rfl (by rw [hml]; rfl) c5 (argsL := [.ref b, .int (Int32.ofNat o), .ref s.heap.size, .int (Int32.ofNat 0), .int (Int32.ofNat len)]) (rest := []) rfl rfl (by show 2 * 0 + 0 ≤ _; decide) (hb hbytes d9) (⟨rfl, hA3, ba3, hne, l1, by rw [bs3]; simp, hp⟩)
  obtain ⟨rfl, B6, p6, f6⟩ := E6
  have c7 : Steps p.tables e below (s₁.setTop (entryFrame m #[.ref b, .int (Int32.ofNat o), .int (Int32.ofNat len)] 6)) (T6.setTop (mkF m 12 #[.val (.ref b), .val (.int (Int32.ofNat o)), .val (.int (Int32.ofNat len)), .val (.ref s.heap.size), .unset, .unset] [.int (Int32.ofNat len)])) := g6
  have c8 : Steps p.tables e below (s₁.setTop (entryFrame m #[.ref b, .int (Int32.ofNat o), .int (Int32.ofNat len)] 6)) (T6.setTop (mkF m 58 #[.val (.ref b), .val (.int (Int32.ofNat o)), .val (.int (Int32.ofNat len)), .val (.ref s.heap.size), .val (.int (Int32.ofNat len)), .unset] [.ref s.heap.size])) := c7.trans (by
    refine XS.istore X6.here hexec rfl (hb hbytes d12) rfl rfl ?_
    refine XS.iload X6.here hexec rfl (hb hbytes d14) rfl ?_
    refine XS.iloadN X6.here hexec rfl (hb hbytes d16) rfl ?_
    refine XS.icmpYes X6.here hexec rfl (pc0 := 17) rfl (hb hbytes d17) rfl (ii_eq_t rfl) (by decide) rfl ?_
    refine XS.aloadN X6.here hexec rfl (hb hbytes d57) rfl rfl ?_
    exact Steps.refl _)
  have X8 := X6.wide (L' := []) (cells' := 1) (slots' := len) (fun x hx hlt => by
    simp only [List.nil_append, copyLocs, List.mem_map, List.mem_range] at hx
    obtain ⟨i, -, rfl⟩ := hx
    exact absurd hlt (Nat.lt_irrefl _)) (Nat.le_refl _) (by omega)
  exact ⟨T6, some (.ref s.heap.size), _, _, _, X8, rfl, rfl, rfl, (fun h => by cases h), ⟨⟨rfl, B6, ba3.like (X3.warmed.alike.symm.trans X6.warmed.alike) p6.1 f6.1 f6.2.1 f6.2.2.1, f6.2.1.trans bv3, by rw [X6.warmed.alike.findClass, f6.1]; exact bf3, by rw [f6.2.2.1, bs3]; simp, fun j hj => by rw [f6.2.2.2 j, if_pos (by omega)]; rfl, kp3.put p6 (Nat.le_refl _)⟩, by rw [p6.2.2, bh3, hh0]; simp⟩, fun fs hl => c8.trans (X8.areturnOut hexec rfl hret rfl (hb hbytes d58) hl)⟩
end Cmp3
namespace CodL
def yN : MethodName := ⟨"java/lang/StringUTF16", "coderFromArrayLen", "([BI)B"⟩
abbrev yB : ByteArray := jdk_52_method_15_code
theorem d0 : decode yB 0 = .ok (.iload_n 1, 1) := by decide +kernel
theorem d1 : decode yB 1 = .ok (.aload_n 0, 1) := by decide +kernel
theorem d2 : decode yB 2 = .ok (.arraylength, 1) := by decide +kernel
theorem d3 : decode yB 3 = .ok (.isub, 1) := by decide +kernel
theorem d4 : decode yB 4 = .ok (.bipush 31, 2) := by decide +kernel
theorem d6 : decode yB 6 = .ok (.iushr, 1) := by decide +kernel
theorem d7 : decode yB 7 = .ok (.i2b, 1) := by decide +kernel
theorem d8 : decode yB 8 = .ok (.ireturn, 1) := by decide +kernel
def site : List Cond := []
def tab : Cond := tabOf yN yB 2 (some .byte) site
def P (d : Addr) (B : Cell) (args : Array Value) (s : State) : Prop := args = #[.ref d, .int (Int32.ofNat B.slots.size)] ∧ Arr .byte d B s
def E (r : Option Value) (s u : State) : Prop := XT.PureE (some (.int 0)) r s u
/-- an array as long as the number of chars: LATIN1 -/
theorem law (l : Launch) (d : Addr) (B : Cell) : Law l yN 2 2 0 0 yB 2 (some .byte) site (P d B) E [] 0 0 := by
  refine Law.of_walk (plainFor_of_name (by decide +kernel)) (by decide +kernel) (by decide +kernel) (by decide) (fun _ _ h => by rw [h.1]; rfl) (fun _ U U' hal hh h => ⟨h.1, h.2.mv hal hh⟩) (fun r U U' V V' h1 hal h2 h => XT.PureE.mv r U U' V V' h1 hal h2 h) ?_
  intro p e s m args below meth c s₁ X0 hexec hbytes hml hret hlk hnm hown hh0 W hP
  obtain ⟨rfl, hB⟩ := hP
  have hB0 := hB.mv X0.warmed.alike hh0
  have c1 : Steps p.tables e below (s₁.setTop (entryFrame m #[.ref d, .int (Int32.ofNat B.slots.size)] 2)) (s₁.setTop (mkF m 0 #[.val (.ref d), .val (.int (Int32.ofNat B.slots.size))] [])) := entry rfl
  have c2 : Steps p.tables e below (s₁.setTop (entryFrame m #[.ref d, .int (Int32.ofNat B.slots.size)] 2)) (s₁.setTop (mkF m 2 #[.val (.ref d), .val (.int (Int32.ofNat B.slots.size))] [.ref d, .int (Int32.ofNat B.slots.size)])) := c1.trans (by
    refine XS.iloadN X0.here hexec rfl (hb hbytes d0) rfl ?_
    refine XS.aloadN X0.here hexec rfl (hb hbytes d1) rfl rfl ?_
    exact Steps.refl _)
  have c3 : Steps p.tables e below (s₁.setTop (entryFrame m #[.ref d, .int (Int32.ofNat B.slots.size)] 2)) (s₁.setTop (mkF m 8 #[.val (.ref d), .val (.int (Int32.ofNat B.slots.size))] [.int (lo8 (ushr (Int32.ofNat B.slots.size - Int32.ofNat B.slots.size) 31))])) := c2.trans (by
    refine X0.alen hexec hB0 rfl rfl (hb hbytes d2) ?_
    refine XS.isub X0.here hexec rfl (hb hbytes d3) rfl ?_
    refine bipushV X0.here hexec rfl 31 (hb hbytes d4) (by decide) ?_
    refine iushr X0.here hexec rfl (hb hbytes d6) rfl ?_
    refine i2b X0.here hexec rfl (hb hbytes d7) rfl ?_
    exact Steps.refl _)
  have e0 : lo8 (ushr (Int32.ofNat B.slots.size - Int32.ofNat B.slots.size) 31) = 0 := by rw [Int32.sub_self]; decide
  rw [e0] at c3
  exact ⟨s₁, some (.int 0), _, _, _, X0, rfl, rfl, rfl, (fun h => by cases h), ⟨rfl, hh0⟩, fun fs hl => c3.trans (X0.ireturnOut hexec hret rfl (Or.inr (Or.inr (Or.inl rfl))) (hb hbytes d8) hl)⟩
end CodL
/-- the String at a is Latin-1 over a new byte[] (the heap's one new cell): the low bytes of the len chars of A from o on; every cell but a is kept -/
def Got (a : Addr) (D : Cell) (fV fC : Field) (A : Cell) (o len : Nat) (r : Option Value) (s u : State) : Prop := r = none ∧ ∃ D' V : Cell, Blank "java/lang/String" a D' u ∧ Same D D' [fV.slot, fC.slot] ∧ D'.slots[fV.slot]? = some (.ref s.heap.size) ∧ D'.slots[fC.slot]? = some (.int 0) ∧ Arr .byte s.heap.size V u ∧ V.vm = .none ∧ u.vm.findClass "[B" = some V.cls ∧ V.slots.size = len ∧ (∀ j, j < len → V.slots[j]? = some (.int (lo8 (cv A (o + j))))) ∧ (∀ (y : Addr) (c : Cell), y ≠ a → s.heap[y]? = some c → u.heap[y]? = some c) ∧ u.heap.size = s.heap.size + 1
theorem Got.mv {a : Addr} {D A : Cell} {fV fC : Field} {o len : Nat} : ∀ r (U U' V V' : State), U'.heap = U.heap → V.vm.Alike V'.vm → V'.heap = V.heap → Got a D fV fC A o len r U V → Got a D fV fC A o len r U' V' :=
  fun r U U' V V' h1 hal h2 ⟨e0, D', X, a1, a2, a3, a4, a5, a6, a7, a8, a9, a10, a11⟩ => ⟨e0, D', X, a1.mv hal h2, a2, by rw [h1]; exact a3, a4, by rw [h1]; exact a5.mv hal h2, a6, by rw [hal.findClass]; exact a7, a8, a9, by rw [h1, h2]; exact a10, by rw [h1, h2]; exact a11⟩
namespace New4
def yN : MethodName := ⟨"java/lang/String", "<init>", "([CIILjava/lang/Void;)V"⟩
abbrev yB : ByteArray := jdk_42_method_149_code
theorem d0 : decode yB 0 = .ok (.aload_n 0, 1) := by decide +kernel
theorem d1 : decode yB 1 = .ok (.invokespecial 1, 3) := by decide +kernel
theorem d4 : decode yB 4 = .ok (.iload_n 3, 1) := by decide +kernel
theorem d5 : decode yB 5 = .ok (.ifCond (.ne) 22, 3) := by decide +kernel
theorem d27 : decode yB 27 = .ok (.getstatic 38, 3) := by decide +kernel
theorem d30 : decode yB 30 = .ok (.ifCond (.eq) 28, 3) := by decide +kernel
theorem d33 : decode yB 33 = .ok (.aload_n 1, 1) := by decide +kernel
theorem d34 : decode yB 34 = .ok (.iload_n 2, 1) := by decide +kernel
theorem d35 : decode yB 35 = .ok (.iload_n 3, 1) := by decide +kernel
theorem d36 : decode yB 36 = .ok (.invokestatic 177, 3) := by decide +kernel
theorem d39 : decode yB 39 = .ok (.astore 5, 2) := by decide +kernel
theorem d41 : decode yB 41 = .ok (.aload_n 0, 1) := by decide +kernel
theorem d42 : decode yB 42 = .ok (.aload 5, 2) := by decide +kernel
theorem d44 : decode yB 44 = .ok (.iload_n 3, 1) := by decide +kernel
theorem d45 : decode yB 45 = .ok (.invokestatic 47, 3) := by decide +kernel
theorem d48 : decode yB 48 = .ok (.putfield 15, 3) := by decide +kernel
theorem d51 : decode yB 51 = .ok (.aload_n 0, 1) := by decide +kernel
theorem d52 : decode yB 52 = .ok (.aload 5, 2) := by decide +kernel
theorem d54 : decode yB 54 = .ok (.putfield 9, 3) := by decide +kernel
theorem d57 : decode yB 57 = .ok (.return_, 1) := by decide +kernel
def site : List Cond := [.fieldLink "java/lang/String" 38 "java/lang/String" "COMPACT_STRINGS" "Z", Cmp3.tab, CodL.tab, .laysFinal "java/lang/String" "java/lang/String" "value" "[B", .fieldLink "java/lang/String" 9 "java/lang/String" "value" "[B", .laysFinal "java/lang/String" "java/lang/String" "coder" "B", .fieldLink "java/lang/String" 15 "java/lang/String" "coder" "B"] ++ objW "java/lang/String" 1 ++ staticW "java/lang/String" 177 Cmp3.yN ++ staticW "java/lang/String" 47 CodL.yN
def tab : Cond := tabOf yN yB 6 none site
def P (a : Addr) (D : Cell) (fV fC : Field) (b : Addr) (A : Cell) (z : Int32) (o len : Nat) (args : Array Value) (s : State) : Prop := args = #[.ref a, .ref b, .int (Int32.ofNat o), .int (Int32.ofNat len), .null] ∧ Blank "java/lang/String" a D s ∧ Found "java/lang/String" "value" "[B" fV s ∧ Found "java/lang/String" "coder" "B" fC s ∧ Ch b A s ∧ StaticIs s "java/lang/String" "COMPACT_STRINGS" "Z" (.int z) ∧ ¬ z = 0 ∧ 0 < len ∧ o + len ≤ A.slots.size ∧ len ≤ 536870912 ∧ ∀ i, i < len → ¬ 255 < cv A (o + i)
def E (a : Addr) (D : Cell) (fV fC : Field) (A : Cell) (o len : Nat) (r : Option Value) (s u : State) : Prop := Got a D fV fC A o len r s u
/-- len > 0, no char of the range above 255: a Latin-1 String of their low bytes -/
theorem law (l : Launch) (a : Addr) (D : Cell) (fV fC : Field) (b : Addr) (A : Cell) (z : Int32) (o len : Nat) : Law l yN 5 4 2 35 yB 6 none site (P a D fV fC b A z o len) (E a D fV fC A o len) [⟨a, fC.slot⟩, ⟨a, fV.slot⟩] 1 len := by
  refine Law.of_walk (plainFor_of_name (by decide +kernel)) (by decide +kernel) (by decide +kernel) (by decide) (fun _ _ h => by rw [h.1]; rfl) (fun _ U U' hal hh h => ⟨h.1, h.2.1.mv hal hh, h.2.2.1.al hal, h.2.2.2.1.al hal, h.2.2.2.2.1.mv hal hh, h.2.2.2.2.2.1.there hal hh, h.2.2.2.2.2.2⟩) (fun r U U' V V' h1 hal h2 h => Got.mv r U U' V V' h1 hal h2 h) ?_
  intro p e s m args below meth c s₁ X0 hexec hbytes hml hret hlk hnm hown hh0 W hP
  obtain ⟨rfl, hB, f1, f2, hA, s1, hz, l0, l1, l2, hp⟩ := hP
  have a31 := hA.1.2.2.2
  have c1 : Steps p.tables e below (s₁.setTop (entryFrame m #[.ref a, .ref b, .int (Int32.ofNat o), .int (Int32.ofNat len), .null] 6)) (s₁.setTop (mkF m 0 #[.val (.ref a), .val (.ref b), .val (.int (Int32.ofNat o)), .val (.int (Int32.ofNat len)), .val .null, .unset] [])) := entry rfl
  have c2 : Steps p.tables e below (s₁.setTop (entryFrame m #[.ref a, .ref b, .int (Int32.ofNat o), .int (Int32.ofNat len), .null] 6)) (s₁.setTop (mkF m 1 #[.val (.ref a), .val (.ref b), .val (.int (Int32.ofNat o)), .val (.int (Int32.ofNat len)), .val .null, .unset] [.ref a])) := c1.trans (by
    refine XS.aloadN X0.here hexec rfl (hb hbytes d0) rfl rfl ?_
    exact Steps.refl _)
  obtain ⟨T3, X3, q3, st3⟩ := X0.oinit hexec hown (wks W (objW "java/lang/String" 1)) (g := (mkF m 1 #[.val (.ref a), .val (.ref b), .val (.int (Int32.ofNat o)), .val (.int (Int32.ofNat len)), .val .null, .unset] [.ref a])) rfl (by rw [hml]; rfl) (rest := []) rfl (hb hbytes d1) (W := 0) (by show 2 * 0 + 0 ≤ _; decide) (Nat.le_of_ble_eq_true rfl) (Nat.le_of_ble_eq_true rfl)
  have hh3 := q3.trans hh0
  have c4 : Steps p.tables e below (s₁.setTop (entryFrame m #[.ref a, .ref b, .int (Int32.ofNat o), .int (Int32.ofNat len), .null] 6)) (T3.setTop (mkF m 27 #[.val (.ref a), .val (.ref b), .val (.int (Int32.ofNat o)), .val (.int (Int32.ofNat len)), .val .null, .unset] [])) := (c2.trans (st3 _ (Steps.refl _))).trans (by
    refine XS.iloadN X3.here hexec rfl (hb hbytes d4) rfl ?_
    refine XS.ifYes X3.here hexec rfl (pc0 := 5) rfl (hb hbytes d5) rfl (i0_ne_t (nz32 (by omega) l0)) (by decide) rfl ?_
    exact Steps.refl _)
  obtain ⟨T5, X5, q5, st5⟩ := X3.sget hexec hown (wk W (.fieldLink "java/lang/String" 38 "java/lang/String" "COMPACT_STRINGS" "Z")) s1 (fun _ _ h => by rw [hh3]; exact h) (g := (mkF m 27 #[.val (.ref a), .val (.ref b), .val (.int (Int32.ofNat o)), .val (.int (Int32.ofNat len)), .val .null, .unset] [])) rfl (hb hbytes d27)
  have hh5 := q5.trans hh3
  have c6 : Steps p.tables e below (s₁.setTop (entryFrame m #[.ref a, .ref b, .int (Int32.ofNat o), .int (Int32.ofNat len), .null] 6)) (T5.setTop (mkF m 30 #[.val (.ref a), .val (.ref b), .val (.int (Int32.ofNat o)), .val (.int (Int32.ofNat len)), .val .null, .unset] [.int z])) := c4.trans (st5 _ (Steps.refl _))
  have c7 : Steps p.tables e below (s₁.setTop (entryFrame m #[.ref a, .ref b, .int (Int32.ofNat o), .int (Int32.ofNat len), .null] 6)) (T5.setTop (mkF m 36 #[.val (.ref a), .val (.ref b), .val (.int (Int32.ofNat o)), .val (.int (Int32.ofNat len)), .val .null, .unset] [.int (Int32.ofNat len), .int (Int32.ofNat o), .ref b])) := c6.trans (by
    refine XS.ifNo X5.here hexec rfl (hb hbytes d30) rfl (i0_eq_f hz) ?_
    refine XS.aloadN X5.here hexec rfl (hb hbytes d33) rfl rfl ?_
    refine XS.iloadN X5.here hexec rfl (hb hbytes d34) rfl ?_
    refine XS.iloadN X5.here hexec rfl (hb hbytes d35) rfl ?_
    exact Steps.refl _)
  obtain ⟨v8, T8, X8, E8, g8⟩ := X5.callS hexec (Cmp3.law l b A o len) hown (wks W (staticW "java/lang/String" 177 Cmp3.yN)) (wk W Cmp3.tab) (W := 0) (Nat.le_of_ble_eq_true rfl) (Nat.le_of_ble_eq_true rfl) (Nat.le_refl _) (by show 0 + len ≤ len; omega) (g := (mkF m 36 #[.val (.ref a), .val (.ref b), .val (.int (Int32.ofNat o)), .val (.int (Int32.ofNat len)), .val .null, .unset] [.int (Int32.ofNat len), .int (Int32.ofNat o), .ref b])) rfl (by rw [hml]; rfl) c7 (argsL := [.ref b, .int (Int32.ofNat o), .int (Int32.ofNat len)]) (rest := []) rfl rfl (by show 2 * 0 + 0 ≤ _; decide) (hb hbytes d36) (⟨rfl, hA.mv X5.warmed.alike hh5, l1, l2, hp⟩)
  obtain ⟨e8, z8⟩ := E8
  obtain ⟨rfl, N, n1, n2, n3, n4, n5, n6⟩ := NewArr.mv _ T5 s _ _ hh5.symm (Vm.Alike.refl _) rfl e8
  rw [hh5] at z8
  have hB1 := hB.keep X8.warmed.alike (n6 _ _ hB.1)
  have hne : s.heap.size ≠ a := (Nat.ne_of_lt (Array.getElem?_eq_some_iff.mp hB.1).1).symm
  have c9 : Steps p.tables e below (s₁.setTop (entryFrame m #[.ref a, .ref b, .int (Int32.ofNat o), .int (Int32.ofNat len), .null] 6)) (T8.setTop (mkF m 39 #[.val (.ref a), .val (.ref b), .val (.int (Int32.ofNat o)), .val (.int (Int32.ofNat len)), .val .null, .unset] [.ref s.heap.size])) := g8
  have c10 : Steps p.tables e below (s₁.setTop (entryFrame m #[.ref a, .ref b, .int (Int32.ofNat o), .int (Int32.ofNat len), .null] 6)) (T8.setTop (mkF m 45 #[.val (.ref a), .val (.ref b), .val (.int (Int32.ofNat o)), .val (.int (Int32.ofNat len)), .val .null, .val (.ref s.heap.size)] [.int (Int32.ofNat N.slots.size), .ref s.heap.size, .ref a])) := by
    have hc : Steps p.tables e below (s₁.setTop (entryFrame m #[.ref a, .ref b, .int (Int32.ofNat o), .int (Int32.ofNat len), .null] 6)) (T8.setTop (mkF m 45 #[.val (.ref a), .val (.ref b), .val (.int (Int32.ofNat o)), .val (.int (Int32.ofNat len)), .val .null, .val (.ref s.heap.size)] [.int (Int32.ofNat len), .ref s.heap.size, .ref a])) := c9.trans (by
      refine XS.astore X8.here hexec rfl (hb hbytes d39) rfl rfl rfl ?_
      refine XS.aloadN X8.here hexec rfl (hb hbytes d41) rfl rfl ?_
      refine XS.aload X8.here hexec rfl (hb hbytes d42) rfl rfl ?_
      refine XS.iloadN X8.here hexec rfl (hb hbytes d44) rfl ?_
      exact Steps.refl _)
    rw [n4]; exact hc
  obtain ⟨v11, T11, X11, E11, g11⟩ := X8.callS hexec (CodL.law l s.heap.size N) hown (wks W (staticW "java/lang/String" 47 CodL.yN)) (wk W CodL.tab) (W := 1) (Nat.le_of_ble_eq_true rfl) (Nat.le_of_ble_eq_true rfl) (Nat.le_refl _) (by show 0 + len + 0 ≤ len; omega) (g := (mkF m 45 #[.val (.ref a), .val (.ref b), .val (.int (Int32.ofNat o)), .val (.int (Int32.ofNat len)), .val .null, .val (.ref s.heap.size)] [.int (Int32.ofNat N.slots.size), .ref s.heap.size, .ref a])) rfl (by rw [hml]; rfl) c10 (argsL := [.ref s.heap.size, .int (Int32.ofNat N.slots.size)]) (rest := [.ref a]) rfl rfl (by show 2 * 0 + (1 + 0) ≤ _; decide) (hb hbytes d45) (⟨rfl, n1⟩)
  obtain ⟨rfl, q11⟩ := E11
  have hB11 := hB1.mv (X8.warmed.alike.symm.trans X11.warmed.alike) q11
  have c12 : Steps p.tables e below (s₁.setTop (entryFrame m #[.ref a, .ref b, .int (Int32.ofNat o), .int (Int32.ofNat len), .null] 6)) (T11.setTop (mkF m 48 #[.val (.ref a), .val (.ref b), .val (.int (Int32.ofNat o)), .val (.int (Int32.ofNat len)), .val .null, .val (.ref s.heap.size)] [.int 0, .ref a])) := g11
  obtain ⟨T13, X13, p13, bl13, sl13, st13⟩ := X11.finit hexec hown (wk W (.fieldLink "java/lang/String" 15 "java/lang/String" "coder" "B")) (Or.inr ⟨_, (wk W (.laysFinal "java/lang/String" "java/lang/String" "coder" "B"))⟩) (Or.inl ⟨rfl, hnm⟩) f2 (Or.inl rfl) hB11 (t := .byte) (by decide +kernel) rfl (g := (mkF m 48 #[.val (.ref a), .val (.ref b), .val (.int (Int32.ofNat o)), .val (.int (Int32.ofNat len)), .val .null, .val (.ref s.heap.size)] [.int 0, .ref a])) rfl (rest := []) rfl (hb hbytes d48)
  have c14 : Steps p.tables e below (s₁.setTop (entryFrame m #[.ref a, .ref b, .int (Int32.ofNat o), .int (Int32.ofNat len), .null] 6)) (T13.setTop (mkF m 54 #[.val (.ref a), .val (.ref b), .val (.int (Int32.ofNat o)), .val (.int (Int32.ofNat len)), .val .null, .val (.ref s.heap.size)] [.ref s.heap.size, .ref a])) := (c12.trans (st13 _ (Steps.refl _))).trans (by
    refine XS.aloadN X13.here hexec rfl (hb hbytes d51) rfl rfl ?_
    refine XS.aload X13.here hexec rfl (hb hbytes d52) rfl rfl ?_
    exact Steps.refl _)
  obtain ⟨T15, X15, p15, bl15, sl15, st15⟩ := X13.finit hexec hown (wk W (.fieldLink "java/lang/String" 9 "java/lang/String" "value" "[B")) (Or.inr ⟨_, (wk W (.laysFinal "java/lang/String" "java/lang/String" "value" "[B"))⟩) (Or.inl ⟨rfl, hnm⟩) f1 (Or.inl rfl) bl13 (t := (.array .byte)) (by decide +kernel) rfl (g := (mkF m 54 #[.val (.ref a), .val (.ref b), .val (.int (Int32.ofNat o)), .val (.int (Int32.ofNat len)), .val .null, .val (.ref s.heap.size)] [.ref s.heap.size, .ref a])) rfl (rest := []) rfl (hb hbytes d54)
  have c16 : Steps p.tables e below (s₁.setTop (entryFrame m #[.ref a, .ref b, .int (Int32.ofNat o), .int (Int32.ofNat len), .null] 6)) (T15.setTop (mkF m 57 #[.val (.ref a), .val (.ref b), .val (.int (Int32.ofNat o)), .val (.int (Int32.ofNat len)), .val .null, .val (.ref s.heap.size)] [])) := c14.trans (st15 _ (Steps.refl _))
  have ap := apart (Or.inr ⟨_, (wk W (.laysFinal "java/lang/String" "java/lang/String" "value" "[B"))⟩) (Or.inr ⟨_, (wk W (.laysFinal "java/lang/String" "java/lang/String" "coder" "B"))⟩) f1 f2 (t₁ := .array .byte) (t₂ := .byte) (by decide +kernel) (by decide +kernel) (by decide)
  have al := X8.warmed.alike.symm.trans X15.warmed.alike
  have n7 : T11.heap[s.heap.size]? = some N := by rw [q11]; exact n1.1
  exact ⟨T15, none, _, _, _, X15, by simp, rfl, by omega, (fun _ => rfl), ⟨rfl, _, N, bl15, ((Same.refl D _).set _ (by simp)).set _ (by simp), sl15, (Cell.slots_setSlot_ne _ ap).trans sl13, n1.keep al (p15.other hne (p13.other hne n7)), n2, by rw [al.findClass]; exact n3, n4, n5, fun y c h1 h2 => p15.other h1 (p13.other h1 (by rw [q11]; exact n6 y c h2)), by rw [p15.2.2, p13.2.2, q11]; exact z8⟩, fun fs hl => c16.trans (X15.returnOut hexec hret (hb hbytes d57) hl)⟩
end New4
namespace New1
def yN : MethodName := ⟨"java/lang/String", "<init>", "([C)V"⟩
abbrev yB : ByteArray := jdk_42_method_3_code
theorem d0 : decode yB 0 = .ok (.aload_n 0, 1) := by decide +kernel
theorem d1 : decode yB 1 = .ok (.aload_n 1, 1) := by decide +kernel
theorem d2 : decode yB 2 = .ok (.iconst 0, 1) := by decide +kernel
theorem d3 : decode yB 3 = .ok (.aload_n 1, 1) := by decide +kernel
theorem d4 : decode yB 4 = .ok (.arraylength, 1) := by decide +kernel
theorem d5 : decode yB 5 = .ok (.aconst_null, 1) := by decide +kernel
theorem d6 : decode yB 6 = .ok (.invokespecial 27, 3) := by decide +kernel
theorem d9 : decode yB 9 = .ok (.return_, 1) := by decide +kernel
def site : List Cond := [New4.tab] ++ initW "java/lang/String" 27 New4.yN
def tab : Cond := tabOf yN yB 2 none site
def P (a : Addr) (D : Cell) (fV fC : Field) (b : Addr) (A : Cell) (z : Int32) (args : Array Value) (s : State) : Prop := args = #[.ref a, .ref b] ∧ Blank "java/lang/String" a D s ∧ Found "java/lang/String" "value" "[B" fV s ∧ Found "java/lang/String" "coder" "B" fC s ∧ Ch b A s ∧ StaticIs s "java/lang/String" "COMPACT_STRINGS" "Z" (.int z) ∧ ¬ z = 0 ∧ 0 < A.slots.size ∧ A.slots.size ≤ 536870912 ∧ ∀ i, i < A.slots.size → ¬ 255 < cv A i
def E (a : Addr) (D : Cell) (fV fC : Field) (A : Cell) (r : Option Value) (s u : State) : Prop := Got a D fV fC A 0 A.slots.size r s u
/-- new String(chars), not empty, no char above 255: a Latin-1 String of their low bytes -/
theorem law (l : Launch) (a : Addr) (D : Cell) (fV fC : Field) (b : Addr) (A : Cell) (z : Int32) : Law l yN 2 1 3 52 yB 2 none site (P a D fV fC b A z) (E a D fV fC A) [⟨a, fC.slot⟩, ⟨a, fV.slot⟩] 1 A.slots.size := by
  refine Law.of_walk (plainFor_of_name (by decide +kernel)) (by decide +kernel) (by decide +kernel) (by decide) (fun _ _ h => by rw [h.1]; rfl) (fun _ U U' hal hh h => ⟨h.1, h.2.1.mv hal hh, h.2.2.1.al hal, h.2.2.2.1.al hal, h.2.2.2.2.1.mv hal hh, h.2.2.2.2.2.1.there hal hh, h.2.2.2.2.2.2⟩) (fun r U U' V V' h1 hal h2 h => Got.mv r U U' V V' h1 hal h2 h) ?_
  intro p e s m args below meth c s₁ X0 hexec hbytes hml hret hlk hnm hown hh0 W hP
  obtain ⟨rfl, hB, f1, f2, hA, s1, hz, l0, l2, hp⟩ := hP
  have c1 : Steps p.tables e below (s₁.setTop (entryFrame m #[.ref a, .ref b] 2)) (s₁.setTop (mkF m 0 #[.val (.ref a), .val (.ref b)] [])) := entry rfl
  have c2 : Steps p.tables e below (s₁.setTop (entryFrame m #[.ref a, .ref b] 2)) (s₁.setTop (mkF m 6 #[.val (.ref a), .val (.ref b)] [.null, .int (Int32.ofNat A.slots.size), .int 0, .ref b, .ref a])) := c1.trans (by
    refine XS.aloadN X0.here hexec rfl (hb hbytes d0) rfl rfl ?_
    refine XS.aloadN X0.here hexec rfl (hb hbytes d1) rfl rfl ?_
    refine iconstV X0.here hexec rfl 0 (hb hbytes d2) (by decide) ?_
    refine XS.aloadN X0.here hexec rfl (hb hbytes d3) rfl rfl ?_
    refine X0.alen hexec (hA.1.mv X0.warmed.alike hh0) rfl rfl (hb hbytes d4) ?_
    refine XS.aconstNull X0.here hexec rfl (hb hbytes d5) ?_
    exact Steps.refl _)
  obtain ⟨v3, T3, X3, E3, g3⟩ := X0.callN hexec (New4.law l a D fV fC b A z 0 A.slots.size) rfl hown (wks W (initW "java/lang/String" 27 New4.yN)) (W New4.tab (by simp only [site, List.mem_cons, List.mem_append, true_or, or_true])) (W := 0) (Nat.le_of_ble_eq_true rfl) (Nat.le_of_ble_eq_true rfl) (Nat.le_refl _) (by show 0 + A.slots.size ≤ A.slots.size; omega) (g := (mkF m 6 #[.val (.ref a), .val (.ref b)] [.null, .int (Int32.ofNat A.slots.size), .int (Int32.ofNat 0), .ref b, .ref a])) rfl (by rw [hml]; rfl) c2 (argsL := [.ref b, .int (Int32.ofNat 0), .int (Int32.ofNat A.slots.size), .null]) (rest := []) rfl rfl (by show 2 * 0 + 0 ≤ _; decide) (hb hbytes d6) (⟨rfl, hB.mv X0.warmed.alike hh0, f1.al X0.warmed.alike, f2.al X0.warmed.alike, hA.mv X0.warmed.alike hh0, s1.there X0.warmed.alike hh0, hz, l0, by omega, l2, fun i hi => by rw [Nat.zero_add]; exact hp i hi⟩)
  have e0 := Got.mv _ s₁ s _ _ hh0.symm (Vm.Alike.refl _) rfl E3
  obtain rfl := e0.1
  have c4 : Steps p.tables e below (s₁.setTop (entryFrame m #[.ref a, .ref b] 2)) (T3.setTop (mkF m 9 #[.val (.ref a), .val (.ref b)] [])) := g3
  exact ⟨T3, none, _, _, _, X3, by simp, rfl, by omega, (fun _ => rfl), e0, fun fs hl => c4.trans (X3.returnOut hexec hret (hb hbytes d9) hl)⟩
theorem pays {l : Launch} {R : Room} {p : Program} {e : Env} {below : List Frame} {s : State} {sargs : Array Value} {len W : Nat} (a : Addr) (D : Cell) (fV fC : Field) (b : Addr) (A : Cell) (z : Int32) (htab : tab.before sargs s = true) (hfr : 4 ≤ R.frames) (hlo : W + 65 ≤ R.locals) :
    Back l R p e below s sargs yN len W (fun A₁ a₁ => A₁.cells + 1 ≤ R.cells ∧ A₁.slots + A.slots.size ≤ R.slots ∧ P a D fV fC b A z a₁ A₁.U) (fun A₁ _ v₁ B₁ => E a D fV fC A v₁ A₁.U B₁.U ∧ B₁.locs = A₁.locs ++ [⟨a, fC.slot⟩, ⟨a, fV.slot⟩] ∧ B₁.cells = A₁.cells + 1 ∧ B₁.slots = A₁.slots + A.slots.size) :=
  (law l a D fV fC b A z).pays htab hfr (by omega)
end New1
end StrChars
namespace StrChars.Road
open Jvm Sem ClassFile Op Lib Jvm.Stand Jvm.Free Jvm.Free.XT
open Jvm.Lib.Cold (StaticIs)
abbrev ST : String := "java/lang/String"
/-- every table word that New1's law asks, flat -/
abbrev words : List Jvm.Cond := [.code New1.yN New1.yB 2 none, .initialized ST, .methodLink ST 27 New4.yN, .instanceMethod New4.yN,
  .code New4.yN New4.yB 6 none, .fieldLink ST 38 ST "COMPACT_STRINGS" "Z", .laysFinal ST ST "value" "[B", .fieldLink ST 9 ST "value" "[B", .laysFinal ST ST "coder" "B", .fieldLink ST 15 ST "coder" "B",
  .methodLink ST 1 Lib.objectInit, .instanceMethod Lib.objectInit, .code Lib.objectInit ⟨#[0xb1]⟩ 1 none, .methodLink ST 177 Cmp3.yN, .static Cmp3.yN, .methodLink ST 47 CodL.yN, .static CodL.yN,
  .code Cmp3.yN Cmp3.yB 6 (some (.array .byte)), .initialized U16, .arrayClass .byte, .methodLink U16 115 Cmp5.yN, .static Cmp5.yN, .code Cmp5.yN Cmp5.yB 7 (some .int), .code CodL.yN CodL.yB 2 (some .byte)]
theorem tab_of {a : Array Value} {s : State} (h : ∀ w ∈ words, w.before a s = true) : New1.tab.before a s = true := by
  have h5 : Cmp5.tab.before a s = true := unparts (wk h (.code Cmp5.yN Cmp5.yB 7 (some .int))) (wks h (.initialized Cmp5.yN.cls :: Cmp5.site))
  have hc : CodL.tab.before a s = true := unparts (wk h (.code CodL.yN CodL.yB 2 (some .byte))) (wks h (.initialized CodL.yN.cls :: CodL.site))
  have q5 : ∀ w ∈ Cmp5.tab :: words, w.before a s = true := fun w hw => (List.mem_cons.mp hw).elim (fun e => e ▸ h5) (h w)
  have h3 : Cmp3.tab.before a s = true := unparts (wk q5 (.code Cmp3.yN Cmp3.yB 6 (some (.array .byte)))) (wks q5 (.initialized Cmp3.yN.cls :: Cmp3.site))
  have q3 : ∀ w ∈ Cmp3.tab :: CodL.tab :: words, w.before a s = true := fun w hw => (List.mem_cons.mp hw).elim (fun e => e ▸ h3) fun hw => (List.mem_cons.mp hw).elim (fun e => e ▸ hc) (h w)
  have h4 : New4.tab.before a s = true := unparts (wk q3 (.code New4.yN New4.yB 6 none)) (wks q3 (.initialized New4.yN.cls :: New4.site))
  have q4 : ∀ w ∈ New4.tab :: words, w.before a s = true := fun w hw => (List.mem_cons.mp hw).elim (fun e => e ▸ h4) (h w)
  exact unparts (wk q4 (.code New1.yN New1.yB 2 none)) (wks q4 (.initialized New1.yN.cls :: New1.site))
/-- the words ride from the start Z to the walk's own state -/
theorem moved {Z s : State} {a0 args : Array Value} (hZ : Z.Warmed39 s.vm) (hw : ∀ d ∈ words, d.before a0 Z = true) : ∀ d ∈ words, d.before args s = true := fun d hd => by
  have q := hw d hd
  have t : ∀ d ∈ words, d = .arrayClass .byte ∨ (d.onTables && d.keepsFace) = true := by decide +kernel
  rcases t d hd with rfl | t
  · exact RoadKit.mvA hZ q
  · exact RoadKit.mv hZ q t
/-- WHAT COMES BACK, over the tables of the start Z: h the heap at the call, h' behind it -/
def Q (Z : State) (x : Addr) (A : Cell) (h : Heap) (v : Option Value) (h' : Heap) (L : List Loc) : Prop := v = none ∧ (∀ y ∈ L, y.base = x) ∧ RoadKit.Keep h h' [x] ∧ h'.size = h.size + 1 ∧ RoadKit.Exa Z h' x ST ∧ RoadKit.Fld Z h' x ST "value" "[B" (.ref h.size) ∧ RoadKit.Fld Z h' x ST "coder" "B" (.int 0) ∧
  (∃ V : Cell, RoadKit.Arr Z h' h.size V .byte ∧ V.vm = .none ∧ Z.vm.findClass "[B" = some V.cls ∧ V.slots.size = A.slots.size ∧ ∀ j, j < A.slots.size → V.slots[j]? = some (.int (lo8 (cv A j)))) ∧
  ∀ (O n d : String) (w : Value), RoadKit.Fld Z h x O n d w → RoadKit.slotOf Z O n d ≠ RoadKit.slotOf Z ST "value" "[B" → RoadKit.slotOf Z O n d ≠ RoadKit.slotOf Z ST "coder" "B" → RoadKit.Fld Z h' x O n d w
/-- **new String(chars) AT A CALL, IN THE ROAD'S FORM**: for specialBack behind newO: x the fresh String, b the char[] with the cell A -/
theorem back {p : Program} {l : Launch} {e : Env} {R : Room} {s : State} {args : Array Value} {below : List Frame} {len W : Nat} {Z : State} {a0 : Array Value} {h : Heap} (hZ : Z.Warmed39 s.vm) (hw : ∀ d ∈ words, d.before a0 Z = true) {kI : Nat} (wi : (Jvm.Cond.instantiable ST kI).before a0 Z = true)
    {x b : Addr} {A : Cell} {z : Int32} {v0 c0 : Value} (E : RoadKit.Exa Z h x ST) (V : RoadKit.Fld Z h x ST "value" "[B" v0) (C : RoadKit.Fld Z h x ST "coder" "B" c0) (K : RoadKit.Arr Z h b A .char) (hty : Typed .char A) (S : RoadKit.Sta Z h ST "COMPACT_STRINGS" "Z" (.int z)) (hz : ¬ z = 0)
    (l0 : 0 < A.slots.size) (l2 : A.slots.size ≤ 536870912) (hp : ∀ i, i < A.slots.size → ¬ 255 < cv A i) (hfr : 4 ≤ R.frames) (hlo : W + 65 ≤ R.locals) :
    Back l R p e below s args New1.yN len W (fun P a => a = #[.ref x, .ref b] ∧ P.U.heap = h ∧ P.cells + 1 ≤ R.cells ∧ P.slots + A.slots.size ≤ R.slots)
      (fun P _ v B => ∃ L, Q Z x A h v B.U.heap L ∧ B.locs = P.locs ++ L ∧ B.cells = P.cells + 1 ∧ B.slots = P.slots + A.slots.size) := by
  intro m meth c P g ig mk a X hg hsize hdg hW hn hp'
  obtain ⟨rfl, rfl, r1, r2⟩ := hp'
  have al : Z.vm.Alike P.U.vm := hZ.alike.trans X.warmed.alike
  obtain ⟨D, cfV, kV, iV, fV, hD, gV, stV, knV, obV, asV, slV⟩ := id V
  obtain ⟨D', cfC, kC, iC, fC, hD', gC, stC, -, -, asC, slC⟩ := id C
  cases hD.symm.trans hD'
  obtain ⟨D2, kD, e1, e2, e3, e4, e5⟩ := id E
  cases hD.symm.trans e1
  obtain ⟨c2, k2, i1, i2, i3, -⟩ := Cond.instantiable_spec wi
  cases e2.symm.trans i1
  cases e3.symm.trans i2
  obtain ⟨kU, u1, u2⟩ := al.2.2 _ _ e3
  have hB : Blank ST x D P.U := ⟨hD, ⟨knV, fun q hq => by rw [hq] at obV; cases obV⟩, by rw [al.findClass]; exact e2, kU, u1, by rw [u2]; exact i3, by rw [u2]; exact e5 i3⟩
  have F1 : Found ST "value" "[B" fV P.U := ⟨SBG.found_only al ⟨cfV, kV, iV, gV⟩, stV⟩
  have F2 : Found ST "coder" "B" fC P.U := ⟨SBG.found_only al ⟨cfC, kC, iC, gC⟩, stC⟩
  have hA : Ch b A P.U := ⟨⟨K.1, State.isArrayOf_alike al K.2.1, K.2.2, by omega⟩, hty⟩
  have hS : StaticIs P.U ST "COMPACT_STRINGS" "Z" (.int z) := by
    obtain ⟨cfS, iS, kS, fS, st, cS, t1, t2, t3, t4, t5, t6, t7⟩ := S
    exact StaticIs.there (s := { Z with heap := P.U.heap }) ⟨cfS, iS, kS, fS, st, cS, t1, t2, t3, t4, t5, (fun q => by rw [q] at t6; cases t6), t7⟩ al rfl
  obtain ⟨v, B, X', ⟨⟨hv, E', V', q1, q2, q3, q4, q5, q6, q7, q8, q9, q10, q11⟩, hl, hc, hs⟩, st⟩ := New1.pays x D fV fC b A z (tab_of (moved hZ hw)) hfr hlo m meth c P g ig mk _ X hg hsize hdg hW hn ⟨r1, r2, rfl, hB, F1, F2, hA, hS, hz, l0, l2, hp⟩
  have al' : Z.vm.Alike B.U.vm := hZ.alike.trans X'.warmed.alike
  have hsz : E'.slots.size = D.slots.size := by
    obtain ⟨-, -, -, kB, w1, w2, w3⟩ := q1
    obtain ⟨kB', y1, y2⟩ := al'.2.2 _ _ e3
    rw [q2.2.1] at w1
    cases w1.symm.trans y1
    rw [w3, e5 i3, y2]
  refine ⟨v, B, X', ⟨_, ⟨hv, ?_, ⟨by omega, fun y cy hy hn' => q10 y cy (by simpa using hn') hy, fun y cy hy => ?_⟩, q11, ⟨E', _, q1.1, by rw [q2.2.1]; exact e2, by rw [q2.2.1]; exact e3, by rw [q2.1]; exact obV, fun _ => by rw [hsz]; exact e5 i3⟩,
    ⟨E', cfV, kV, iV, fV, q1.1, gV, stV, by rw [q2.1]; exact knV, by rw [q2.1]; exact obV, by rw [q2.2.1]; exact asV, q3⟩, ⟨E', cfC, kC, iC, fC, q1.1, gC, stC, by rw [q2.1]; exact knV, by rw [q2.1]; exact obV, by rw [q2.2.1]; exact asC, q4⟩,
    ⟨V', ⟨q5.1, State.isArrayOf_alike al'.symm q5.2.1, q5.2.2.1⟩, q6, by rw [← al'.findClass]; exact q7, q8, fun j hj => by have := q9 j hj; rwa [Nat.zero_add] at this⟩, fun O n d w F n1 n2 => ?_⟩, hl, hc, hs⟩, st⟩
  · intro y hy
    simp only [List.mem_cons, List.not_mem_nil, or_false] at hy
    rcases hy with rfl | rfl <;> rfl
  · by_cases q : y = x
    · subst q
      cases hD.symm.trans hy
      exact ⟨E', q1.1, q2.2.1, q2.1, hsz⟩
    · exact ⟨cy, q10 y cy q hy, rfl, rfl, rfl⟩
  · obtain ⟨D3, cf, k, i, f, g1, g2, g3, g4, g5, g6, g7⟩ := F
    cases hD.symm.trans g1
    simp only [RoadKit.slotOf, g2, gV, gC, Option.map_some, Option.getD_some] at n1 n2
    exact ⟨E', cf, k, i, f, q1.1, g2, g3, by rw [q2.1]; exact g4, by rw [q2.1]; exact g5, by rw [q2.2.1]; exact g6, by rw [q2.2.2 f.slot (by simp [n1, n2])]; exact g7⟩
end StrChars.Road
namespace StrChars.Road
open Jvm Sem ClassFile Op Lib Jvm.Stand Jvm.Free Jvm.Free.XT
/-- WHAT COMES BACK, the byte[] as a list of values -/
def QA (Z : State) (x : Addr) (zn : Int32) (cs : List Int32) (h : Heap) (v : Option Value) (h' : Heap) (L : List Loc) : Prop := v = none ∧ (∀ y ∈ L, y.base = x) ∧ RoadKit.Keep h h' [x] ∧ h'.size = h.size + 1 ∧ RoadKit.Exa Z h' x ST ∧ RoadKit.Fld Z h' x ST "value" "[B" (.ref h.size) ∧ RoadKit.Fld Z h' x ST "coder" "B" (.int 0) ∧
  (∃ kb, Z.vm.findClass "[B" = some kb ∧ RoadKit.Arv Z h' h.size kb .byte zn (cs.map fun c => .int (lo8 c)) (.int 0)) ∧
  ∀ (O n d : String) (w : Value), RoadKit.Fld Z h x O n d w → RoadKit.slotOf Z O n d ≠ RoadKit.slotOf Z ST "value" "[B" → RoadKit.slotOf Z O n d ≠ RoadKit.slotOf Z ST "coder" "B" → RoadKit.Fld Z h' x O n d w
/-- **new String(chars) AT A CALL, THE ARRAYS AS LISTS**: the char[] at b holds cs, not empty, no char above 255 -/
theorem backArv {p : Program} {l : Launch} {e : Env} {R : Room} {s : State} {args : Array Value} {below : List Frame} {len W : Nat} {Z : State} {a0 : Array Value} {h : Heap} (hZ : Z.Warmed39 s.vm) (hw : ∀ d ∈ words, d.before a0 Z = true) {kI : Nat} (wi : (Jvm.Cond.instantiable ST kI).before a0 Z = true)
    {x b : Addr} {k : ClassId} {zn z : Int32} {cs : List Int32} {dv v0 c0 : Value} (E : RoadKit.Exa Z h x ST) (V : RoadKit.Fld Z h x ST "value" "[B" v0) (C : RoadKit.Fld Z h x ST "coder" "B" c0) (K : RoadKit.Arv Z h b k .char zn (cs.map Value.int) dv) (S : RoadKit.Sta Z h ST "COMPACT_STRINGS" "Z" (.int z)) (hz : ¬ z = 0)
    (hlen : zn.toNatClampNeg = cs.length) (h0 : 0 < cs.length) (hbig : cs.length ≤ 536870912) (hall : ∀ c ∈ cs, ¬ 255 < c) (hfr : 4 ≤ R.frames) (hlo : W + 65 ≤ R.locals) :
    Back l R p e below s args New1.yN len W (fun P a => a = #[.ref x, .ref b] ∧ P.U.heap = h ∧ P.cells + 1 ≤ R.cells ∧ P.slots + cs.length ≤ R.slots)
      (fun P _ v B => ∃ L, QA Z x zn cs h v B.U.heap L ∧ B.locs = P.locs ++ L ∧ B.cells = P.cells + 1 ∧ B.slots = P.slots + cs.length) := by
  obtain ⟨A, K1, K2, K3, K4, K5, K6⟩ := K
  have e : A.slots.size = cs.length := K3.trans hlen
  have hat : ∀ (i : Nat) (hi : i < cs.length), A.slots[i]? = some (.int cs[i]) := fun i hi => by rw [K5 i (by omega)]; simp [List.getD_eq_getElem?_getD, hi]
  have hcv : ∀ (i : Nat) (hi : i < cs.length), cv A i = cs[i] := fun i hi => by unfold cv; rw [hat i hi]
  have hty : Typed .char A := fun i v hv => by
    have hi : i < A.slots.size := (Array.getElem?_eq_some_iff.mp hv).1
    have q := K5 i hi
    rw [hv] at q
    rw [Option.some.inj q]
    exact K6 i hi
  refine Back.mono (back hZ hw wi E V C K1 hty S hz (by omega) (by omega) (fun i hi => by rw [hcv i (by omega)]; exact hall _ (List.getElem_mem _)) hfr hlo) (fun P a hp => ⟨hp.1, hp.2.1, hp.2.2.1, by rw [e]; exact hp.2.2.2⟩) (fun P a v B hp hq => ?_)
  obtain ⟨L, ⟨q1, q2, q3, q4, q5, q6, q7, ⟨V', v1, v2, v3, v4, v5⟩, q9⟩, hl, hc, hs⟩ := hq
  refine ⟨L, ⟨q1, q2, q3, q4, q5, q6, q7, ⟨V'.cls, v3, V', v1, rfl, by rw [v4, e, hlen], K4, fun i hi => ?_, fun i hi => ?_⟩, q9⟩, hl, hc, by rw [hs, e]⟩
  · have hi' : i < cs.length := by omega
    rw [v5 i (by omega), hcv i hi']; simp [List.getD_eq_getElem?_getD, hi']
  · have hi' : i < cs.length := by omega
    simp only [List.getD_eq_getElem?_getD, List.getElem?_map, List.getElem?_eq_getElem hi', Option.map_some, Option.getD_some]
    exact fits_lo8 _
end StrChars.Road
namespace StrChars.Road
open Jvm Sem ClassFile Op Lib Jvm.Stand Jvm.Free Jvm.Free.XT
/-- WHAT COMES BACK, in the writer's own shape -/
def QV (Z : State) (x : Addr) (N : Int32) (bs : List Int32) (h : Heap) (n0 : Nat) (v : Option Value) (h' : Heap) (L : List Loc) : Prop := v = none ∧ RoadKit.Fr n0 L ∧ RoadKit.Keep h h' [x] ∧ RoadKit.Exa Z h' x ST ∧ RoadKit.Fld Z h' x ST "coder" "B" (.int 0) ∧
  ∃ (t : Addr) (kb : ClassId), n0 ≤ t ∧ h.size ≤ t ∧ ¬ t = x ∧ RoadKit.Fld Z h' x ST "value" "[B" (.ref t) ∧ RoadKit.Arv Z h' t kb .byte N (bs.map Value.int) (.int 0)
/-- **new String(chars) AT A CALL, FOR THE WRITER**: a char[] of n known ints, each 0 to 255 -/
theorem backV {p : Program} {l : Launch} {e : Env} {R : Room} {s : State} {args : Array Value} {below : List Frame} {len W : Nat} {Z : State} {a0 : Array Value} {h : Heap} (hZ : Z.Warmed39 s.vm) (hw : ∀ d ∈ words, d.before a0 Z = true) {kI : Nat} (wi : (Jvm.Cond.instantiable ST kI).before a0 Z = true)
    {x b : Addr} {kC : ClassId} {cs bs : List Int32} {d v0 c0 : Value} {z N : Int32} {n n0 : Nat} (hx0 : n0 ≤ x) (hh0 : n0 ≤ h.size) (E : RoadKit.Exa Z h x ST) (V : RoadKit.Fld Z h x ST "value" "[B" v0) (C : RoadKit.Fld Z h x ST "coder" "B" c0) (K : RoadKit.Arv Z h b kC .char N (cs.map Value.int) d) (S : RoadKit.Sta Z h ST "COMPACT_STRINGS" "Z" (.int z)) (hz : ¬ z = 0)
    (hn : cs.length = n) (hN : N = Int32.ofNat n) (l0 : 0 < n) (l2 : n ≤ 4000) (hp : ∀ c ∈ cs, ¬ c < 0 ∧ ¬ (255 : Int32) < c) (hb : bs = cs.map (fun c => c.toInt8.toInt32)) (hfr : 4 ≤ R.frames) (hlo : W + 65 ≤ R.locals) :
    Back l R p e below s args (⟨"java/lang/String", "<init>", "([C)V"⟩ : MethodName) len W (fun P a => a = #[.ref x, .ref b] ∧ P.U.heap = h ∧ P.cells + 1 ≤ R.cells ∧ P.slots + n ≤ R.slots)
      (fun P _ v B => ∃ L, QV Z x N bs h n0 v B.U.heap L ∧ B.locs = P.locs ++ L ∧ B.cells = P.cells + 1 ∧ B.slots = P.slots + n) := by
  subst hn hN hb
  refine Back.mono (backArv hZ hw wi E V C K S hz (n32 (by omega)) l0 (by omega) (fun c hc => (hp c hc).2) hfr hlo) (fun P a hp => hp) (fun P a v B hp hq => ?_)
  obtain ⟨L, ⟨q1, q2, q3, q4, q5, q6, q7, ⟨kb, v1, v2⟩, q9⟩, hl, hc, hs⟩ := hq
  exact ⟨L, ⟨q1, fun y hy => by rw [q2 y hy]; exact hx0, q3, q5, q7, h.size, kb, hh0, Nat.le_refl _, Nat.ne_of_gt E.lt, q6, by rw [List.map_map]; exact v2⟩, hl, hc, hs⟩
end StrChars.Road
end Jvm.Pilot.@@N@@
namespace Jvm.Pilot.@@N@@
open Jvm Jvm.ClassFile Sem Op Lib Jvm.Free Jvm.Stand Jvm.LawKit Jvm.RoadKit Bundle Jvm.Pilot.@@N@@.Jvm.D
abbrev vI (x : Int32) : Slot := .val (.int x)
abbrev vR (x : Addr) : Slot := .val (.ref x)
abbrev vU : Slot := .unset
theorem gm {α : Type} {l : List α} {a : α} (i : Nat) (h : l[i]? = some a) : a ∈ l := List.mem_of_getElem? h
abbrev HW (Z : State) (a0 : Array Value) : Prop := ∀ d ∈ tables_1, d.before a0 Z = true
abbrev MF (l : Launch) (Z : State) (y : MethodName) (bts : ByteArray) (ml : Nat) (rt : Option FieldType) (ws : List Jvm.Cond) (R : Room) (A : Array Value) (h0 : Heap) (Q : Option Value → Heap → List Loc → Prop) : Prop := MetFree l y (head1 (Jvm.Cond.code y bts ml rt :: ws) R) (fun a U => a = A ∧ Z.Warmed39 U.vm ∧ U.heap = h0) (fun _ _ _ _ _ => True) (fun _ U o U' => ∃ v L, o = .returned v ∧ Q v U'.heap L ∧ FrameEnd U o U' L R.cells R.slots)
abbrev MFC (l : Launch) (Z : State) (y : MethodName) (bts : ByteArray) (ml : Nat) (rt : Option FieldType) (ws : List Jvm.Cond) (R : Room) (A : Array Value) (h0 : Heap) (Q : Option Value → Heap → List Loc → Prop) : Prop := MetFree l y (head1 (Jvm.Cond.code y bts ml rt :: ws) R) (fun a U => a = A ∧ Z.Warmed39 U.vm ∧ U.heap = h0 ∧ CHv Z consts_1 U.vm h0) (fun _ _ _ _ _ => True) (fun _ U o U' => ∃ v L, o = .returned v ∧ Q v U'.heap L ∧ CHr Z consts_1 U.vm U.heap U'.vm U'.heap ∧ ReturnedEndW U o U' L R.cells R.slots)
set_option maxRecDepth 65536
set_option maxHeartbeats 40000000
def Rch (p : Program) (e : Env) (below : List Frame) (S0 T : State) (g : JFrame) : Prop := ∀ t, Steps p.tables e below (T.setTop g) t → Steps p.tables e below S0 t
theorem own_le {Z : State} {n0 : Nat} {h : Heap} (O : Old Z n0 h) : n0 ≤ h.size := O.1 ▸ O.2.1
theorem own_ge {Z : State} {n0 : Nat} {h : Heap} {x : Nat} (O : Old Z n0 h) (g : h.size ≤ x) : n0 ≤ x := Nat.le_trans (own_le O) g
theorem own_ne {y x k : Nat} (h : y < k) (g : k ≤ x) : y ≠ x := Nat.ne_of_lt (Nat.lt_of_lt_of_le h g)
section Own
variable {p : Program} {l : Launch} {e : Env} {R : Room} {s : State} {m : MethodId} {args : Array Value} {below : List Frame} {meth : Method} {c : Code} {T : State} {locs : List Loc} {cells slots : Nat}
def Like (X : Stand p l e R s m args below meth c T locs cells slots) (T' : State) : Prop := Stand p l e R s m args below meth c T' locs cells slots
def LikeL (X : Stand p l e R s m args below meth c T locs cells slots) (T' : State) (L' : List Loc) : Prop := Stand p l e R s m args below meth c T' L' cells slots
theorem LikeL.out {X : Stand p l e R s m args below meth c T locs cells slots} {T' : State} {L' : List Loc} (h : LikeL X T' L') : Stand p l e R s m args below meth c T' L' cells slots := h
theorem Like.out {X : Stand p l e R s m args below meth c T locs cells slots} {T' : State} (h : Like X T') : Stand p l e R s m args below meth c T' locs cells slots := h
end Own
theorem own_eqi {args : Array Value} {first s : State} {o : Option Outcome} {idx : List Nat} {a : Term} {n : Int32} (h : (Jvm.Cond.eq a (Jvm.Term.int n)).value args first o s idx = some true) : a.eval args first o idx s = some (.int n) := by
  simp only [Cond.value, Term.int_eval] at h
  cases ha : a.eval args first o idx s with
  | none => simp [ha] at h
  | some x => cases x <;> simp [ha] at h ⊢; exact h
theorem own_eqr {args : Array Value} {first s : State} {o : Option Outcome} {idx : List Nat} {a b : Term} {w : Addr} (eb : b.eval args first o idx s = some (.ref w)) (h : (Jvm.Cond.eq a b).value args first o s idx = some true) : a.eval args first o idx s = some (.ref w) := by
  simp only [Cond.value, eb] at h
  cases ha : a.eval args first o idx s with
  | none => simp [ha] at h
  | some x => cases x <;> simp [ha] at h ⊢; exact h
theorem own_ext {h h' : Heap} (K : Keep h h' []) : Ext h h' := ⟨K.1, fun a c q => K.2.1 a c q nin0⟩
theorem own_safe_null {Z : State} {EL : List (String × Nat)} {vm : Vm} {h : Heap} {x : Addr} {a0 : Array Value} {kI : Nat} (hal : Z.vm.Alike vm) (E : Exa Z h x "java/lang/String") (F : Fld Z h x "java/lang/String" "value" "[B" .null) (wi : (Jvm.Cond.instantiable "java/lang/String" kI).before a0 Z = true) : Safe Z EL vm h x := fun B => by
  obtain ⟨cell, k, e1, e2, e3, -, -⟩ := E
  obtain ⟨p, -, u, a, -, q, -, S, rfl | rfl⟩ := B
  · cases (show h[q.sa]? = some q.sC from S.ha).symm.trans e1
    obtain ⟨cS, ⟨⟨-, -, -, ⟨c, kf, i, ff, -⟩, -, -, -, hv, -⟩, -, -⟩, -⟩ := S
    obtain ⟨cell', cf, k', i', f', g1, g2, g3, g4, g5, g6, g7⟩ := F
    cases e1.symm.trans g1
    obtain ⟨k'', hi, -⟩ := State.fieldFound?_setVm (s := Z) hal g2
    have ff' : (Z.setVm vm).fieldFound? "java/lang/String" "value" "[B" = some (c, kf, i, q.fSV) := ff
    cases ff'.symm.trans hi
    rw [g7] at hv; cases hv
  · cases (show h[q.sd]? = some q.SA from S.hd).symm.trans e1
    obtain ⟨cS, ⟨⟨-, -, -, -, -, -, -, -, -, -, ⟨-, kB, hkB, compB, hkindB⟩, -⟩, -, -⟩, -⟩ := S
    obtain ⟨c2, k2, i1, i2, i3, -⟩ := Cond.instantiable_spec wi
    cases e2.symm.trans i1
    cases e3.symm.trans i2
    obtain ⟨k', hk', ek⟩ := hal.2.2 _ _ e3
    cases (show vm.classes[q.SA.cls]? = some kB from hkB).symm.trans hk'
    rw [ek] at hkindB
    cases (hkindB.symm.trans i3)
theorem own_chr {Z : State} {EL : List (String × Nat)} {vm vm1 vm2 : Vm} {h h1 h2 : Heap} (A : CHr Z EL vm h vm1 h1) (B : CHr Z EL vm1 h1 vm2 h1) (e : h2 = h1) : CHr Z EL vm h vm2 h2 := by
  rw [e]; exact A.trans B
theorem own_255 (x : Int32) : ¬ (x &&& 255) < 0 ∧ ¬ (255 : Int32) < (x &&& 255) := by
  have h := c_mask x 255 8 (by decide) (by decide)
  constructor
  · rw [Int32.lt_iff_toInt_lt]; have e : (0 : Int32).toInt = 0 := by decide
    omega
  · rw [Int32.lt_iff_toInt_lt]; have e : (255 : Int32).toInt = 255 := by decide
    omega
theorem own_nar (c : Int32) (h : ¬ c < 0 ∧ ¬ (255 : Int32) < c) : nar .char c = c ∧ c.toUInt32.toUInt16.toUInt32.toInt32 = c := by
  have e : c.toUInt32.toUInt16.toUInt32.toInt32 = c := by
    apply Int32.toInt_inj.mp
    have q := c_i2c c
    have h0 : (0 : Int32).toInt = 0 := by decide
    have h1 : (255 : Int32).toInt = 255 := by decide
    rw [Int32.lt_iff_toInt_lt, Int32.lt_iff_toInt_lt] at h
    omega
  exact ⟨e, e⟩
theorem own_selects {Z : State} {a0 : Array Value} {y : MethodName} {k : Nat} (wi : (Jvm.Cond.instantiable y.cls k).before a0 Z = true) (wm : (Jvm.Cond.instanceMethod y).before a0 Z = true) (wp : (Jvm.Cond.privateMethod y).before a0 Z = true) (hy : y.cls ≠ "java/lang/invoke/MethodHandle" ∧ y.cls ≠ "java/lang/invoke/VarHandle") : (Jvm.Cond.selects y.cls y y).before a0 Z = true := by
  obtain ⟨m, meth, h1, h2, -, -⟩ := Cond.instanceMethod_spec wm
  obtain ⟨c, kc, g1, g2, -, g4, -⟩ := Cond.instantiable_spec wi
  have hc := findClass_of_methodNamed h1
  cases g1.symm.trans hc
  have hp := Cond.privateMethod_at wp m meth h1 h2
  have hf := State.methodFound?_of_named h1 hy
  have hs := selectMethod_private (p := {}) (c := m.cls) h2 hp
  have hi : kc.isInterface = false := by simp at g4; exact g4.1
  simp [Cond.before, Cond.holds, Cond.value, hc, hf, h1, hs, g2, hi]
theorem own_nf {args : Array Value} {s : State} {C : String} {y y' : MethodName} (e : y'.cls = y.cls) (ws : (Jvm.Cond.selects C y' y').before args s = true) : NotFace s y := fun r0 h0 => by
  obtain ⟨c2, r2, m2, q1, q2, q3, q4, kP, hkP, hkPi⟩ := Cond.selects_spec ws
  have hc := findClass_of_methodNamed h0
  have hc2 := findClass_of_methodNamed q3
  rw [e] at hc2
  have ec : m2.cls = r0.cls := Option.some.inj (hc2.symm.trans hc)
  rw [ec] at hkP
  exact ⟨kP, hkP, hkPi⟩
theorem own_selU {Z : State} {a0 : Array Value} {C : String} {y : MethodName} (ws : (Jvm.Cond.selects C y y).before a0 Z = true) (wm : (Jvm.Cond.instanceMethod y).before a0 Z = true) (wp : (Jvm.Cond.privateMethod y).before a0 Z = true) (hy : y.cls ≠ "java/lang/invoke/MethodHandle" ∧ y.cls ≠ "java/lang/invoke/VarHandle") : (Jvm.Cond.selects y.cls y y).before a0 Z = true := by
  obtain ⟨c2, r2, m2, -, -, q3, -, kP, hkP, hkPi⟩ := Cond.selects_spec ws
  exact selects_self_of_private (findClass_of_methodNamed q3) hkP hkPi (Cond.privateMethod_at wp) wm hy
theorem own_same {Z : State} {a0 : Array Value} {C : String} {y y' : MethodName} (e : y'.cls = y.cls) (ws : (Jvm.Cond.selects C y' y').before a0 Z = true) (wm : (Jvm.Cond.instanceMethod y).before a0 Z = true) (hy : y.cls ≠ "java/lang/invoke/MethodHandle" ∧ y.cls ≠ "java/lang/invoke/VarHandle") : (Jvm.Cond.sameMethod y.cls y.cls y.name y.desc).before a0 Z = true := by
  obtain ⟨c2, r2, m2, -, -, q3, -, kP, hkP, hkPi⟩ := Cond.selects_spec ws
  obtain ⟨m, meth, h1, h2, -, -⟩ := Cond.instanceMethod_spec wm
  have hc := findClass_of_methodNamed h1
  have hc2 := findClass_of_methodNamed q3
  rw [e] at hc2
  have ec : m2.cls = m.cls := Option.some.inj (hc2.symm.trans hc)
  rw [ec] at hkP
  have hf := State.methodFound?_of_named h1 hy
  have h1' : Z.methodNamed? ⟨y.cls, y.name, y.desc⟩ = some m := h1
  simp [Cond.before, Cond.holds, Cond.value, hc, hf, h1', hkP, hkPi]
theorem own_tn {i : Nat} (h : i < 2147483648) : (Int32.ofNat i).toNatClampNeg = i ∧ (Int32.ofNat i).toInt = i := by
  have e : (Int32.ofNat i).toInt = i := Int32.toInt_ofNat_of_lt h
  exact ⟨by simp only [Int32.toNatClampNeg, e]; rfl, e⟩
theorem own_lt30 {n : Nat} (h : n ≤ 100000) : Int32.ofNat n < (1073741823 : Int32) := by
  have e : (1073741823 : Int32).toInt = 1073741823 := rfl
  rw [Int32.lt_iff_toInt_lt, (own_tn (by omega)).2, e]; omega
theorem own_olt {i n : Nat} (hi : i < 2147483648) (hn : n < 2147483648) : (Int32.ofNat i < Int32.ofNat n) ↔ i < n := by
  rw [Int32.lt_iff_toInt_lt, (own_tn hi).2, (own_tn hn).2]; omega
theorem own_on0 {i : Nat} (hi : i < 2147483648) : ¬ Int32.ofNat i < 0 := by
  rw [Int32.lt_iff_toInt_lt, (own_tn hi).2]; have e : (0 : Int32).toInt = 0 := by decide
  omega
theorem own_inc {i : Nat} (hi : i + 1 < 2147483648) : Int32.ofNat i + 1 = Int32.ofNat (i + 1) := by
  apply Int32.toInt_inj.mp
  have a := c_iadd (Int32.ofNat i) 1
  have e : (1 : Int32).toInt = 1 := by decide
  rw [(own_tn (by omega)).2, e] at a
  rw [(own_tn hi).2]
  have r := rng32 (Int32.ofNat i + 1)
  omega
theorem own_dbl {i : Nat} (hi : 2 * i < 2147483648) : Int32.ofNat i <<< ((1 : Int32) &&& 31) = Int32.ofNat (2 * i) := by
  apply Int32.toInt_inj.mp
  have a := c_ishl (Int32.ofNat i) 1 1 (by decide)
  rw [(own_tn (by omega)).2] at a
  rw [(own_tn hi).2]
  have r := rng32 (Int32.ofNat i <<< ((1 : Int32) &&& 31))
  omega
theorem own_at (cs : List Int32) (i : Nat) (d : Int32) : (cs.map Value.int).getD i (.int d) = .int (cs.getD i d) := by
  simp only [List.getD_eq_getElem?_getD, List.getElem?_map]
  cases cs[i]? <;> rfl
theorem own_inb {i n : Nat} (h : i < n) (hn : n < 2147483648) : ¬ Int32.ofNat i < 0 ∧ Int32.ofNat i < Int32.ofNat n := ⟨own_on0 (by omega), (own_olt (by omega) hn).mpr h⟩
def own_lo (c : Int32) : Int32 := nar .byte ((c >>> ((0 : Int32) &&& 31)).toInt8.toInt32)
def own_hi (c : Int32) : Int32 := nar .byte ((c >>> ((8 : Int32) &&& 31)).toInt8.toInt32)
theorem own_narc (c : Int32) (h : ¬ c < 0 ∧ ¬ (65535 : Int32) < c) : nar .char c = c ∧ c.toUInt32.toUInt16.toUInt32.toInt32 = c := by
  have e : c.toUInt32.toUInt16.toUInt32.toInt32 = c := by
    apply Int32.toInt_inj.mp
    have q := c_i2c c
    have h0 : (0 : Int32).toInt = 0 := by decide
    have h1 : (65535 : Int32).toInt = 65535 := by decide
    rw [Int32.lt_iff_toInt_lt, Int32.lt_iff_toInt_lt] at h
    omega
  exact ⟨e, e⟩
theorem own_pair (c : Int32) (h : ¬ c < 0 ∧ ¬ (65535 : Int32) < c) : (((own_lo c &&& (255 : Int32)) <<< ((0 : Int32) &&& 31)) ||| ((own_hi c &&& (255 : Int32)) <<< ((8 : Int32) &&& 31))).toUInt32.toUInt16.toUInt32.toInt32 = c := by
  have h0 : (0 : Int32).toInt = 0 := by decide
  have h1 : (65535 : Int32).toInt = 65535 := by decide
  rw [Int32.lt_iff_toInt_lt, Int32.lt_iff_toInt_lt] at h
  have s0 := c_ishr c 0 0 (by decide)
  have s8 := c_ishr c 8 8 (by decide)
  have b0 := c_i2b (c >>> ((0 : Int32) &&& 31))
  have b8 := c_i2b (c >>> ((8 : Int32) &&& 31))
  have b0' := c_i2b ((c >>> ((0 : Int32) &&& 31)).toInt8.toInt32)
  have b8' := c_i2b ((c >>> ((8 : Int32) &&& 31)).toInt8.toInt32)
  have m0 := c_mask (own_lo c) 255 8 (by decide) (by decide)
  have m8 := c_mask (own_hi c) 255 8 (by decide) (by decide)
  have l0 : (own_lo c).toInt = ((c >>> ((0 : Int32) &&& 31)).toInt8.toInt32).toInt8.toInt32.toInt := rfl
  have l8 : (own_hi c).toInt = ((c >>> ((8 : Int32) &&& 31)).toInt8.toInt32).toInt8.toInt32.toInt := rfl
  have u0 := c_ishl (own_lo c &&& 255) 0 0 (by decide)
  have u8 := c_ishl (own_hi c &&& 255) 8 8 (by decide)
  have r0 := rng32 ((own_lo c &&& 255) <<< ((0 : Int32) &&& 31))
  have r8 := rng32 ((own_hi c &&& 255) <<< ((8 : Int32) &&& 31))
  have e0 : ((own_lo c &&& 255) <<< ((0 : Int32) &&& 31)).toInt = c.toInt % 256 := by omega
  have e8 : ((own_hi c &&& 255) <<< ((8 : Int32) &&& 31)).toInt = c.toInt / 256 * 256 := by omega
  have o := c_or' ((own_lo c &&& 255) <<< ((0 : Int32) &&& 31)) ((own_hi c &&& 255) <<< ((8 : Int32) &&& 31)) 8 (by decide) 256 (by decide) (by omega) (by omega) (by omega)
  have ro := rng32 (((own_lo c &&& 255) <<< ((0 : Int32) &&& 31)) ||| ((own_hi c &&& 255) <<< ((8 : Int32) &&& 31)))
  have eo : (((own_lo c &&& 255) <<< ((0 : Int32) &&& 31)) ||| ((own_hi c &&& 255) <<< ((8 : Int32) &&& 31))) = c := Int32.toInt_inj.mp (by omega)
  rw [eo]
  exact (own_narc c ⟨by rw [Int32.lt_iff_toInt_lt]; omega, by rw [Int32.lt_iff_toInt_lt]; omega⟩).2
theorem own_first (cs : List Int32) (h : ∃ c ∈ cs, (255 : Int32) < c) : ∃ k, k < cs.length ∧ (∀ i, i < k → ¬ (255 : Int32) < cs.getD i 0) ∧ (255 : Int32) < cs.getD k 0 := by
  induction cs with
  | nil => obtain ⟨c, hc, -⟩ := h; cases hc
  | cons a r ih =>
    by_cases q : (255 : Int32) < a
    · exact ⟨0, by simp, fun i hi => absurd hi (Nat.not_lt_zero _), q⟩
    · obtain ⟨c, hc, hq⟩ := h
      rcases List.mem_cons.mp hc with rfl | hc
      · exact absurd hq q
      · obtain ⟨k, h1, h2, h3⟩ := ih ⟨c, hc, hq⟩
        refine ⟨k + 1, by simpa using h1, fun i hi => ?_, by simpa using h3⟩
        cases i with
        | zero => simpa using q
        | succ i => simpa using h2 i (by omega)
theorem own_memD (cs : List Int32) (P : Int32 → Prop) (h : ∀ c ∈ cs, P c) (i : Nat) (hi : i < cs.length) : P (cs.getD i 0) := by
  rw [List.getD_eq_getElem?_getD, List.getElem?_eq_getElem hi]
  exact h _ (List.getElem_mem hi)
theorem own_coder {n : Nat} (h0 : 0 < n) (hn : n ≤ 4000) : ((Int32.ofNat n - Int32.ofNat (2 * n)).toUInt32 >>> ((31 : Int32) &&& 31).toUInt32).toInt32 = 1 := by
  apply Int32.toInt_inj.mp
  have a := c_iushr (Int32.ofNat n - Int32.ofNat (2 * n)) 31 31 (by decide) (by decide)
  have b := c_isub (Int32.ofNat n) (Int32.ofNat (2 * n))
  have r := rng32 (Int32.ofNat n - Int32.ofNat (2 * n))
  rw [(own_tn (by omega)).2, (own_tn (by omega)).2] at b
  have e : (1 : Int32).toInt = 1 := by decide
  rw [a, e]
  omega
def Q_rmNL (Z : State) (n : Nat) (h0 : Heap) (n0 : Nat) (v : Option Value) (h : Heap) (L : List Loc) : Prop := v = some (.int (Int32.ofNat (2 * n))) ∧ Fr n0 L ∧ h = h0
abbrev y_0 : MethodName := ⟨"java/lang/StringUTF16", "newBytesLength", "(I)I"⟩
theorem ef_40 (m : MethodId) (x0 : Int32) : entryFrame m #[(.int x0)] 1 = mkF m 0 #[.val (.int x0)] [] := by first | (simp [entryFrame, mkF, argsToLocals, Value.category]; done) | rfl
theorem pn_StringUTF16 : plainName "java/lang/StringUTF16" = true := by first | (simp [plainName, overriddenIn]; done) | decide +kernel
theorem d40_0 : decode jdk_52_method_3_code 0 = .ok (.iload_n 0, 1) := by decide +kernel
theorem d40_1 : decode jdk_52_method_3_code 1 = .ok (.ifCond .ge 11, 3) := by decide +kernel
theorem d40_12 : decode jdk_52_method_3_code 12 = .ok (.iload_n 0, 1) := by decide +kernel
theorem d40_13 : decode jdk_52_method_3_code 13 = .ok (.ldc 20, 2) := by decide +kernel
theorem d40_15 : decode jdk_52_method_3_code 15 = .ok (.if_icmp .lt 40, 3) := by decide +kernel
theorem d40_55 : decode jdk_52_method_3_code 55 = .ok (.iload_n 0, 1) := by decide +kernel
theorem d40_56 : decode jdk_52_method_3_code 56 = .ok (.iconst 1, 1) := by decide +kernel
theorem d40_57 : decode jdk_52_method_3_code 57 = .ok (.ishl, 1) := by decide +kernel
theorem d40_58 : decode jdk_52_method_3_code 58 = .ok (.ireturn, 1) := by decide +kernel
theorem rmNL (l : Launch) (Z : State) (a0 : Array Value) (hw : HW Z a0) (ws : List Jvm.Cond) (n : Nat) (h0 : Heap) (n0 : Nat) (O0 : Old Z n0 h0) (hn : n ≤ 16) :
    MF l Z y_0 jdk_52_method_3_code 1 (some .int) ws ({ frames := 0, cells := 0, slots := 0, locals := 0 } : Room) #[(.int (Int32.ofNat n))] h0 (Q_rmNL Z n h0 n0) := by
  refine MetFree.of_bodySF (plainFor_of_name pn_StringUTF16) hisR ?_
  intro p e s m args below meth c s₁ Bd hml0 hP hK
  obtain ⟨rfl, hZ, hh⟩ := hP
  have hx := Bd.exec
  have hby := Bd.bytes
  have hml : c.maxLocals = 1 := hml0
  have hown : s.vm.findClass "java/lang/StringUTF16" = some m.cls := findClass_of_methodNamed Bd.named
  have hnm := (name_of_methodNamed Bd.named Bd.method).1
  have X0 : Stand p l e ({ frames := 0, cells := 0, slots := 0, locals := 0 } : Room) s m #[(.int (Int32.ofNat n))] below meth c s₁ [] 0 0 := Stand.of_body Bd
  have e0 : s₁.heap = h0 := by rw [← hh, Bd.state]; rfl
  have N0 := Fr.nil n0
  obtain ⟨S0, hS0⟩ : ∃ z, z = s₁.setTop (entryFrame m #[(.int (Int32.ofNat n))] 1) := ⟨_, rfl⟩
  have k0 : Rch p e below S0 s₁ (mkF m 0 #[vI (Int32.ofNat n)] []) := fun t kq => hS0 ▸ castTop (ef_40 m (Int32.ofNat n)) kq
  have k1 : Rch p e below S0 s₁ (mkF m 58 #[vI (Int32.ofNat n)] [(.int (Int32.ofNat (2 * n)))]) := fun t h => k0 t (by
      refine XS.iloadN X0.here hx rfl (hb hby d40_0) rfl ?_
      refine XS.ifYes X0.here hx rfl (pc0 := 1) (pc' := 12) rfl (hb hby d40_1) rfl ((if0 _ _).trans (flt ((own_on0 (by omega)) : ¬ ((Int32.ofNat n) < (0 : Int32)))).2.1) (by decide) (by decide) ?_
      refine XS.iloadN X0.here hx rfl (hb hby d40_12) rfl ?_
      refine X0.ldcInt hx hown (mvT hZ (hw _ (gm 198 rfl))) (g := (mkF m 13 #[vI (Int32.ofNat n)] [(.int (Int32.ofNat n))])) rfl (hb hby d40_13) _ ?_
      refine XS.icmpYes X0.here hx rfl (pc0 := 15) (pc' := 55) rfl (hb hby d40_15) rfl (tlt ((own_lt30 (by omega)) : (Int32.ofNat n) < (1073741823 : Int32))).1 (by decide) (by decide) ?_
      refine XS.iloadN X0.here hx rfl (hb hby d40_55) rfl ?_
      refine XS.iconst X0.here hx rfl (hb hby d40_56) ?_
      show Steps p.tables e below (s₁.setTop (mkF m 57 #[vI (Int32.ofNat n)] [(.int (1 : Int32)), (.int (Int32.ofNat n))])) _
      refine XS.ishl X0.here hx rfl (hb hby d40_57) rfl ?_
      rw [own_dbl (i := n) (by omega)]
      exact h)
  obtain ⟨fs, hr, hrun, hended, hW, hsame⟩ := X0.leave (v := (some (.int (Int32.ofNat (2 * n))))) (fun h => by rw [Bd.returns] at h; cases h)
  refine ⟨_, _, ?_, hrun, hended, _, _, rfl, ?_, ⟨_, rfl⟩, hW, hsame.mono (by decide) (by decide)⟩
  · rw [← hS0]
    refine k1 _ ?_
    show Steps p.tables e below (s₁.setTop (mkF m 58 #[vI (Int32.ofNat n)] [(.int (Int32.ofNat (2 * n)))])) _
    exact retI X0 hx Bd.returns (hb hby d40_58) hr
  · show Q_rmNL Z n h0 n0 _ s₁.heap _
    rw [e0]
    exact ⟨rfl, N0, rfl⟩
def Q_rmNF (Z : State) (n : Nat) (h0 : Heap) (n0 : Nat) (v : Option Value) (h : Heap) (L : List Loc) : Prop := ∃ x kx, v = some (.ref x) ∧ Fr n0 L ∧ Ext h0 h ∧ h0.size ≤ x ∧ Arv Z h x kx .byte (Int32.ofNat (2 * n)) [] (.int (0 : Int32))
abbrev y_1 : MethodName := ⟨"java/lang/StringUTF16", "newBytesFor", "(I)[B"⟩
theorem ef_39 (m : MethodId) (x0 : Int32) : entryFrame m #[(.int x0)] 1 = mkF m 0 #[.val (.int x0)] [] := by first | (simp [entryFrame, mkF, argsToLocals, Value.category]; done) | rfl
theorem d39_0 : decode jdk_52_method_2_code 0 = .ok (.iload_n 0, 1) := by decide +kernel
theorem pd_32 : parseMethodDescriptor "(I)I" = some ⟨[.int], some .int⟩ := by decide +kernel
theorem d39_1 : decode jdk_52_method_2_code 1 = .ok (.invokestatic 11, 3) := by decide +kernel
theorem d39_4 : decode jdk_52_method_2_code 4 = .ok (.newarray .byte, 2) := by decide +kernel
theorem d39_6 : decode jdk_52_method_2_code 6 = .ok (.areturn, 1) := by decide +kernel
theorem rmNF (l : Launch) (Z : State) (a0 : Array Value) (hw : HW Z a0) (ws : List Jvm.Cond) (n : Nat) (h0 : Heap) (n0 : Nat) (O0 : Old Z n0 h0) (hn : n ≤ 16) :
    MF l Z y_1 jdk_52_method_2_code 1 (some (.array .byte)) ws ({ frames := 1, cells := 1, slots := 32, locals := 20 } : Room) #[(.int (Int32.ofNat n))] h0 (Q_rmNF Z n h0 n0) := by
  refine MetFree.of_bodySF (plainFor_of_name pn_StringUTF16) hisR ?_
  intro p e s m args below meth c s₁ Bd hml0 hP hK
  obtain ⟨rfl, hZ, hh⟩ := hP
  have hx := Bd.exec
  have hby := Bd.bytes
  have hml : c.maxLocals = 1 := hml0
  have hown : s.vm.findClass "java/lang/StringUTF16" = some m.cls := findClass_of_methodNamed Bd.named
  have hnm := (name_of_methodNamed Bd.named Bd.method).1
  have X0 : Stand p l e ({ frames := 1, cells := 1, slots := 32, locals := 20 } : Room) s m #[(.int (Int32.ofNat n))] below meth c s₁ [] 0 0 := Stand.of_body Bd
  have e0 : s₁.heap = h0 := by rw [← hh, Bd.state]; rfl
  have N0 := Fr.nil n0
  obtain ⟨S0, hS0⟩ : ∃ z, z = s₁.setTop (entryFrame m #[(.int (Int32.ofNat n))] 1) := ⟨_, rfl⟩
  have k0 : Rch p e below S0 s₁ (mkF m 0 #[vI (Int32.ofNat n)] []) := fun t kq => hS0 ▸ castTop (ef_39 m (Int32.ofNat n)) kq
  have K0 : Keep h0 h0 [] := Keep.refl h0 _
  have k2 : Rch p e below S0 s₁ (mkF m 1 #[vI (Int32.ofNat n)] [(.int (Int32.ofNat n))]) := fun t h => k0 t (by
      refine XS.iloadN X0.here hx rfl (hb hby d39_0) rfl ?_
      exact h)
  obtain ⟨_, _, ⟨T3, L3, kk3, n3⟩, -, X3, ⟨Lc3, hQ3, l3, y3, z3⟩, st3⟩ := Jvm.LawKit.callS X0 hx (y := y_0) hown (mvT hZ (hw _ (gm 195 rfl))) (mvT hZ (hw _ (gm 196 rfl))) (mvT hZ (hw _ (gm 30 rfl))) (mvT hZ (hw _ (gm 197 rfl))) (by decide) (backOf (W := 0) (rmNL l Z a0 hw [] n  h0 n0 O0 hn) hZ (hw _ (gm 197 rfl)) (hw _ (gm 30 rfl)) (by decide) (by decide)) (g := (mkF m 1 #[vI (Int32.ofNat n)] [(.int (Int32.ofNat n))])) rfl (by rw [hml]; rfl) (argsL := [(.int (Int32.ofNat n))]) (rest := []) (lenOf pd_32 rfl) rfl (by show 2 * 0 + _ ≤ _; exact Nat.le_of_eq rfl) (hb hby d39_1) (fun _ _ => ⟨rfl, e0, (by decide : 0 + 0 ≤ _), (by decide : 0 + 0 ≤ _)⟩)
  dsimp only [Pt.U, Pt.locs, Pt.cells, Pt.slots] at X3 l3 y3 z3 st3 hQ3
  subst l3 y3 z3
  obtain ⟨rfl, Nq3, hh3⟩ := hQ3
  have N3 := Fr.app N0 Nq3
  have k4 : Rch p e below S0 T3 (mkF m 4 #[vI (Int32.ofNat n)] [(.int (Int32.ofNat (2 * n)))]) := fun t h => k2 t (st3 t h)
  obtain ⟨T5, h5, k5, X5, e5, E5, A5, st5⟩ := newP X3 hx hZ (hw _ (gm 20 rfl)) hh3 (g := (mkF m 4 #[vI (Int32.ofNat n)] [(.int (Int32.ofNat (2 * n)))])) rfl (hb hby d39_4) rfl (own_on0 (by omega)) (cap := 32) (by rw [(own_tn (by omega)).1]; omega) (by decide) (by decide) (by decide)
  obtain ⟨b5, g5⟩ : ∃ z, z = h0.size := ⟨_, rfl⟩
  rw [← g5] at A5 st5
  have k6 : Rch p e below S0 T5 (mkF m 6 #[vI (Int32.ofNat n)] [(.ref b5)]) := fun t h => k4 t (st5 t h)
  have ge_b5 : n0 ≤ b5 := own_ge O0 (Nat.le_of_eq g5.symm)
  have sz_b5 : h0.size ≤ b5 := Nat.le_trans K0.1 (Nat.le_of_eq g5.symm)
  have O7 := O0.ext E5
  have K8 := K0.ext E5
  have V_b5 : Arv Z h5 b5 k5 .byte (Int32.ofNat (2 * n)) [] (.int (0 : Int32)) := Arv.new A5 (own_on0 (by omega))
  obtain ⟨fs, hr, hrun, hended, hW, hsame⟩ := X5.leave (v := (some (.ref b5))) (fun h => by rw [Bd.returns] at h; cases h)
  refine ⟨_, _, ?_, hrun, hended, _, _, rfl, ?_, ⟨_, rfl⟩, hW, hsame.mono (by decide) (by decide)⟩
  · rw [← hS0]
    refine k6 _ ?_
    show Steps p.tables e below (T5.setTop (mkF m 6 #[vI (Int32.ofNat n)] [(.ref b5)])) _
    jvm_step X5.here [X5.here.top, hx, (hb hby d39_6), X5.method', Bd.returns, Value.isRef, FieldType.isReference]
    first | (intro acts; rw [hr _ acts rfl rfl rfl]) | rw [hr _ _ rfl rfl rfl]
    exact Steps.refl _
  · show Q_rmNF Z n h0 n0 _ T5.heap _
    rw [e5]
    exact ⟨b5, k5, rfl, N3, own_ext K8, sz_b5, V_b5⟩
def Q_rmPC (Z : State) (rb : Addr) (i : Nat) (ch : Int32) (kb : ClassId) (n : Nat) (vs : List Value) (h0 : Heap) (n0 : Nat) (v : Option Value) (h : Heap) (L : List Loc) : Prop := v = none ∧ Fr n0 L ∧ Keep h0 h [rb] ∧ Arv Z h rb kb .byte (Int32.ofNat (2 * n)) ((vs.set (2 * i) (.int (own_lo ch))).set (2 * i + 1) (.int (own_hi ch))) (.int (0 : Int32))
abbrev y_2 : MethodName := ⟨"java/lang/StringUTF16", "putChar", "([BII)V"⟩
theorem ef_41 (m : MethodId) (x0 : Addr) (x1 : Int32) (x2 : Int32) : entryFrame m #[(.ref x0), (.int x1), (.int x2)] 3 = mkF m 0 #[.val (.ref x0), .val (.int x1), .val (.int x2)] [] := by first | (simp [entryFrame, mkF, argsToLocals, Value.category]; done) | rfl
theorem d41_0 : decode jdk_52_method_4_code 0 = .ok (.getstatic 44, 3) := by decide +kernel
theorem d41_3 : decode jdk_52_method_4_code 3 = .ok (.ifCond .ne 25, 3) := by decide +kernel
theorem d41_28 : decode jdk_52_method_4_code 28 = .ok (.iload_n 1, 1) := by decide +kernel
theorem d41_29 : decode jdk_52_method_4_code 29 = .ok (.iconst 1, 1) := by decide +kernel
theorem d41_30 : decode jdk_52_method_4_code 30 = .ok (.ishl, 1) := by decide +kernel
theorem d41_31 : decode jdk_52_method_4_code 31 = .ok (.istore_n 1, 1) := by decide +kernel
theorem d41_32 : decode jdk_52_method_4_code 32 = .ok (.aload_n 0, 1) := by decide +kernel
theorem d41_33 : decode jdk_52_method_4_code 33 = .ok (.iload_n 1, 1) := by decide +kernel
theorem d41_34 : decode jdk_52_method_4_code 34 = .ok (.iinc 1 1, 3) := by decide +kernel
theorem d41_37 : decode jdk_52_method_4_code 37 = .ok (.iload_n 2, 1) := by decide +kernel
theorem d41_38 : decode jdk_52_method_4_code 38 = .ok (.getstatic 59, 3) := by decide +kernel
theorem d41_41 : decode jdk_52_method_4_code 41 = .ok (.ishr, 1) := by decide +kernel
theorem d41_42 : decode jdk_52_method_4_code 42 = .ok (.i2b, 1) := by decide +kernel
theorem d41_43 : decode jdk_52_method_4_code 43 = .ok (.bastore, 1) := by decide +kernel
theorem d41_44 : decode jdk_52_method_4_code 44 = .ok (.aload_n 0, 1) := by decide +kernel
theorem d41_45 : decode jdk_52_method_4_code 45 = .ok (.iload_n 1, 1) := by decide +kernel
theorem d41_46 : decode jdk_52_method_4_code 46 = .ok (.iload_n 2, 1) := by decide +kernel
theorem d41_47 : decode jdk_52_method_4_code 47 = .ok (.getstatic 63, 3) := by decide +kernel
theorem d41_50 : decode jdk_52_method_4_code 50 = .ok (.ishr, 1) := by decide +kernel
theorem d41_51 : decode jdk_52_method_4_code 51 = .ok (.i2b, 1) := by decide +kernel
theorem d41_52 : decode jdk_52_method_4_code 52 = .ok (.bastore, 1) := by decide +kernel
theorem d41_53 : decode jdk_52_method_4_code 53 = .ok (.return_, 1) := by decide +kernel
theorem rmPC (l : Launch) (Z : State) (a0 : Array Value) (hw : HW Z a0) (ws : List Jvm.Cond) (rb : Addr) (i : Nat) (ch : Int32) (kb : ClassId) (n : Nat) (vs : List Value) (h0 : Heap) (n0 : Nat) (O0 : Old Z n0 h0) (SAs : Sta Z Z.heap "java/lang/StringUTF16" "$assertionsDisabled" "Z" (.int (1 : Int32))) (SHi : Sta Z Z.heap "java/lang/StringUTF16" "HI_BYTE_SHIFT" "I" (.int (0 : Int32))) (SLo : Sta Z Z.heap "java/lang/StringUTF16" "LO_BYTE_SHIFT" "I" (.int (8 : Int32))) (ge_rb : n0 ≤ rb) (hn : n ≤ 16) (hi : i < n) (hl : vs.length = 2 * n) (Vb : Arv Z h0 rb kb .byte (Int32.ofNat (2 * n)) vs (.int (0 : Int32))) :
    MF l Z y_2 jdk_52_method_4_code 3 none ws ({ frames := 0, cells := 0, slots := 0, locals := 0 } : Room) #[(.ref rb), (.int (Int32.ofNat i)), (.int ch)] h0 (Q_rmPC Z rb i ch kb n vs h0 n0) := by
  refine MetFree.of_bodySF (plainFor_of_name pn_StringUTF16) hisR ?_
  intro p e s m args below meth c s₁ Bd hml0 hP hK
  obtain ⟨rfl, hZ, hh⟩ := hP
  have hx := Bd.exec
  have hby := Bd.bytes
  have hml : c.maxLocals = 3 := hml0
  have hown : s.vm.findClass "java/lang/StringUTF16" = some m.cls := findClass_of_methodNamed Bd.named
  have hnm := (name_of_methodNamed Bd.named Bd.method).1
  have X0 : Stand p l e ({ frames := 0, cells := 0, slots := 0, locals := 0 } : Room) s m #[(.ref rb), (.int (Int32.ofNat i)), (.int ch)] below meth c s₁ [] 0 0 := Stand.of_body Bd
  have e0 : s₁.heap = h0 := by rw [← hh, Bd.state]; rfl
  have N0 := Fr.nil n0
  obtain ⟨S0, hS0⟩ : ∃ z, z = s₁.setTop (entryFrame m #[(.ref rb), (.int (Int32.ofNat i)), (.int ch)] 3) := ⟨_, rfl⟩
  have k0 : Rch p e below S0 s₁ (mkF m 0 #[vR rb, vI (Int32.ofNat i), vI ch] []) := fun t kq => hS0 ▸ castTop (ef_41 m rb (Int32.ofNat i) ch) kq
  have K0 : Keep h0 h0 [rb] := Keep.refl h0 _
  obtain ⟨T9, X9, e9, st9⟩ := getS2 X0 hx hZ hown (host := "") (Or.inl (hw _ (gm 202 rfl))) Via.refl e0 (SAs.ext O0.2) (g := (mkF m 0 #[vR rb, vI (Int32.ofNat i), vI ch] [])) rfl (hb hby d41_0)
  have k10 : Rch p e below S0 T9 (mkF m 3 #[vR rb, vI (Int32.ofNat i), vI ch] [(.int (1 : Int32))]) := fun t h => k0 t (st9 t h)
  have k12 : Rch p e below S0 T9 (mkF m 38 #[vR rb, vI (Int32.ofNat (2 * i + 1)), vI ch] [(.int ch), (.int (Int32.ofNat (2 * i))), (.ref rb)]) := fun t h => k10 t (by
      refine XS.ifYes X9.here hx rfl (pc0 := 3) (pc' := 28) rfl (hb hby d41_3) rfl ((if0 _ _).trans (feq (by decide : ¬ ((1 : Int32) = (0 : Int32)))).2) (by decide) (by decide) ?_
      refine XS.iloadN X9.here hx rfl (hb hby d41_28) rfl ?_
      refine XS.iconst X9.here hx rfl (hb hby d41_29) ?_
      show Steps p.tables e below (T9.setTop (mkF m 30 #[vR rb, vI (Int32.ofNat i), vI ch] [(.int (1 : Int32)), (.int (Int32.ofNat i))])) _
      refine XS.ishl X9.here hx rfl (hb hby d41_30) rfl ?_
      rw [own_dbl (i := i) (by omega)]
      refine XS.istoreN X9.here hx rfl (hb hby d41_31) rfl (l' := #[vR rb, vI (Int32.ofNat (2 * i)), vI ch]) rfl ?_
      refine XS.aloadN X9.here hx rfl (hb hby d41_32) rfl rfl ?_
      refine XS.iloadN X9.here hx rfl (hb hby d41_33) rfl ?_
      show Steps p.tables e below (T9.setTop (mkF m 34 #[vR rb, vI (Int32.ofNat (2 * i)), vI ch] [(.int (Int32.ofNat (2 * i))), (.ref rb)])) _
      refine XS.iinc X9.here hx rfl (hb hby d41_34) rfl (l' := #[vR rb, vI ((Int32.ofNat (2 * i)) + (1 : Int32)), vI ch]) rfl ?_
      rw [own_inc (i := 2 * i) (by omega)]
      refine XS.iloadN X9.here hx rfl (hb hby d41_37) rfl ?_
      exact h)
  obtain ⟨T11, X11, e11, st11⟩ := getS2 X9 hx hZ hown (host := "") (Or.inl (hw _ (gm 203 rfl))) Via.refl e9 (SHi.ext O0.2) (g := (mkF m 38 #[vR rb, vI (Int32.ofNat (2 * i + 1)), vI ch] [(.int ch), (.int (Int32.ofNat (2 * i))), (.ref rb)])) rfl (hb hby d41_38)
  have k13 : Rch p e below S0 T11 (mkF m 41 #[vR rb, vI (Int32.ofNat (2 * i + 1)), vI ch] [(.int (0 : Int32)), (.int ch), (.int (Int32.ofNat (2 * i))), (.ref rb)]) := fun t h => k12 t (st11 t h)
  have k15 : Rch p e below S0 T11 (mkF m 43 #[vR rb, vI (Int32.ofNat (2 * i + 1)), vI ch] [(.int ((ch >>> ((0 : Int32) &&& 31)).toInt8.toInt32)), (.int (Int32.ofNat (2 * i))), (.ref rb)]) := fun t h => k13 t (by
      refine XS.ishr X11.here hx rfl (hb hby d41_41) rfl ?_
      refine XS.i2b X11.here hx rfl (hb hby d41_42) rfl ?_
      exact h)
  obtain ⟨cl14, Ar14, q14, Sz14, Ng14, Hs14, G14⟩ := id Vb
  have hin14 : ¬ ((Int32.ofNat (2 * i)) < 0 ∨ cl14.slots.size ≤ ((Int32.ofNat (2 * i))).toNatClampNeg) := inb_of Sz14 (own_inb (by omega) (by omega))
  obtain ⟨T14, h14, X14, e14, W14, st14⟩ := stB X11 hx hZ e11 Ar14 (j := (Int32.ofNat (2 * i))) hin14 (g := (mkF m 43 #[vR rb, vI (Int32.ofNat (2 * i + 1)), vI ch] [(.int ((ch >>> ((0 : Int32) &&& 31)).toInt8.toInt32)), (.int (Int32.ofNat (2 * i))), (.ref rb)])) rfl rfl (hb hby d41_43)
  have k16 : Rch p e below S0 T14 (mkF m 44 #[vR rb, vI (Int32.ofNat (2 * i + 1)), vI ch] []) := fun t h => k15 t (st14 t h)
  have N14 := Fr.snoc X14 N0 ge_rb
  have Vb' := Arv.set Ar14 q14 Sz14 Ng14 Hs14 G14 (fits_nar_byte _) W14 (2 * i) (own_tn (by omega)).1 (by omega)
  replace Vb := Vb'
  have O17 := O0.wr W14 ge_rb
  have K18 := K0.wr W14 (Or.inl (gm 0 rfl))
  have k20 : Rch p e below S0 T14 (mkF m 47 #[vR rb, vI (Int32.ofNat (2 * i + 1)), vI ch] [(.int ch), (.int (Int32.ofNat (2 * i + 1))), (.ref rb)]) := fun t h => k16 t (by
      refine XS.aloadN X14.here hx rfl (hb hby d41_44) rfl rfl ?_
      refine XS.iloadN X14.here hx rfl (hb hby d41_45) rfl ?_
      refine XS.iloadN X14.here hx rfl (hb hby d41_46) rfl ?_
      exact h)
  obtain ⟨T19, X19, e19, st19⟩ := getS2 X14 hx hZ hown (host := "") (Or.inl (hw _ (gm 204 rfl))) Via.refl e14 (SLo.ext O17.2) (g := (mkF m 47 #[vR rb, vI (Int32.ofNat (2 * i + 1)), vI ch] [(.int ch), (.int (Int32.ofNat (2 * i + 1))), (.ref rb)])) rfl (hb hby d41_47)
  have k21 : Rch p e below S0 T19 (mkF m 50 #[vR rb, vI (Int32.ofNat (2 * i + 1)), vI ch] [(.int (8 : Int32)), (.int ch), (.int (Int32.ofNat (2 * i + 1))), (.ref rb)]) := fun t h => k20 t (st19 t h)
  have k23 : Rch p e below S0 T19 (mkF m 52 #[vR rb, vI (Int32.ofNat (2 * i + 1)), vI ch] [(.int ((ch >>> ((8 : Int32) &&& 31)).toInt8.toInt32)), (.int (Int32.ofNat (2 * i + 1))), (.ref rb)]) := fun t h => k21 t (by
      refine XS.ishr X19.here hx rfl (hb hby d41_50) rfl ?_
      refine XS.i2b X19.here hx rfl (hb hby d41_51) rfl ?_
      exact h)
  obtain ⟨cl22, Ar22, q22, Sz22, Ng22, Hs22, G22⟩ := id Vb
  have hin22 : ¬ ((Int32.ofNat (2 * i + 1)) < 0 ∨ cl22.slots.size ≤ ((Int32.ofNat (2 * i + 1))).toNatClampNeg) := inb_of Sz22 (own_inb (by omega) (by omega))
  obtain ⟨T22, h22, X22, e22, W22, st22⟩ := stB X19 hx hZ e19 Ar22 (j := (Int32.ofNat (2 * i + 1))) hin22 (g := (mkF m 52 #[vR rb, vI (Int32.ofNat (2 * i + 1)), vI ch] [(.int ((ch >>> ((8 : Int32) &&& 31)).toInt8.toInt32)), (.int (Int32.ofNat (2 * i + 1))), (.ref rb)])) rfl rfl (hb hby d41_52)
  have k24 : Rch p e below S0 T22 (mkF m 53 #[vR rb, vI (Int32.ofNat (2 * i + 1)), vI ch] []) := fun t h => k23 t (st22 t h)
  have N22 := Fr.snoc X22 N14 ge_rb
  have Vb' := Arv.set Ar22 q22 Sz22 Ng22 Hs22 G22 (fits_nar_byte _) W22 (2 * i + 1) (own_tn (by omega)).1 (by rw [List.length_set]; omega)
  replace Vb := Vb'
  have O25 := O17.wr W22 ge_rb
  have K26 := K18.wr W22 (Or.inl (gm 0 rfl))
  obtain ⟨fs, hr, hrun, hended, hW, hsame⟩ := X22.leave (v := none) (fun _ => rfl)
  refine ⟨_, _, ?_, hrun, hended, _, _, rfl, ?_, ⟨_, rfl⟩, hW, hsame.mono (by decide) (by decide)⟩
  · rw [← hS0]
    refine k24 _ ?_
    show Steps p.tables e below (T22.setTop (mkF m 53 #[vR rb, vI (Int32.ofNat (2 * i + 1)), vI ch] [])) _
    exact X22.returnOut hx Bd.returns (hb hby d41_53) hr
  · show Q_rmPC Z rb i ch kb n vs h0 n0 _ T22.heap _
    rw [e22]
    exact ⟨rfl, N22, K26, Vb⟩
def Q_rmGC (Z : State) (ch : Int32) (h0 : Heap) (n0 : Nat) (v : Option Value) (h : Heap) (L : List Loc) : Prop := v = some (.int ch) ∧ Fr n0 L ∧ h = h0
abbrev y_3 : MethodName := ⟨"java/lang/StringUTF16", "getChar", "([BI)C"⟩
theorem ef_42 (m : MethodId) (x0 : Addr) (x1 : Int32) : entryFrame m #[(.ref x0), (.int x1)] 2 = mkF m 0 #[.val (.ref x0), .val (.int x1)] [] := by first | (simp [entryFrame, mkF, argsToLocals, Value.category]; done) | rfl
theorem d42_0 : decode jdk_52_method_5_code 0 = .ok (.getstatic 44, 3) := by decide +kernel
theorem d42_3 : decode jdk_52_method_5_code 3 = .ok (.ifCond .ne 25, 3) := by decide +kernel
theorem d42_28 : decode jdk_52_method_5_code 28 = .ok (.iload_n 1, 1) := by decide +kernel
theorem d42_29 : decode jdk_52_method_5_code 29 = .ok (.iconst 1, 1) := by decide +kernel
theorem d42_30 : decode jdk_52_method_5_code 30 = .ok (.ishl, 1) := by decide +kernel
theorem d42_31 : decode jdk_52_method_5_code 31 = .ok (.istore_n 1, 1) := by decide +kernel
theorem d42_32 : decode jdk_52_method_5_code 32 = .ok (.aload_n 0, 1) := by decide +kernel
theorem d42_33 : decode jdk_52_method_5_code 33 = .ok (.iload_n 1, 1) := by decide +kernel
theorem d42_34 : decode jdk_52_method_5_code 34 = .ok (.iinc 1 1, 3) := by decide +kernel
theorem d42_37 : decode jdk_52_method_5_code 37 = .ok (.baload, 1) := by decide +kernel
theorem d42_38 : decode jdk_52_method_5_code 38 = .ok (.sipush 255, 3) := by decide +kernel
theorem d42_41 : decode jdk_52_method_5_code 41 = .ok (.iand, 1) := by decide +kernel
theorem d42_42 : decode jdk_52_method_5_code 42 = .ok (.getstatic 59, 3) := by decide +kernel
theorem d42_45 : decode jdk_52_method_5_code 45 = .ok (.ishl, 1) := by decide +kernel
theorem d42_46 : decode jdk_52_method_5_code 46 = .ok (.aload_n 0, 1) := by decide +kernel
theorem d42_47 : decode jdk_52_method_5_code 47 = .ok (.iload_n 1, 1) := by decide +kernel
theorem d42_48 : decode jdk_52_method_5_code 48 = .ok (.baload, 1) := by decide +kernel
theorem d42_49 : decode jdk_52_method_5_code 49 = .ok (.sipush 255, 3) := by decide +kernel
theorem d42_52 : decode jdk_52_method_5_code 52 = .ok (.iand, 1) := by decide +kernel
theorem d42_53 : decode jdk_52_method_5_code 53 = .ok (.getstatic 63, 3) := by decide +kernel
theorem d42_56 : decode jdk_52_method_5_code 56 = .ok (.ishl, 1) := by decide +kernel
theorem d42_57 : decode jdk_52_method_5_code 57 = .ok (.ior, 1) := by decide +kernel
theorem d42_58 : decode jdk_52_method_5_code 58 = .ok (.i2c, 1) := by decide +kernel
theorem d42_59 : decode jdk_52_method_5_code 59 = .ok (.ireturn, 1) := by decide +kernel
theorem rmGC (l : Launch) (Z : State) (a0 : Array Value) (hw : HW Z a0) (ws : List Jvm.Cond) (rb : Addr) (k : Nat) (kb : ClassId) (n : Nat) (vs : List Value) (ch : Int32) (h0 : Heap) (n0 : Nat) (O0 : Old Z n0 h0) (SAs : Sta Z Z.heap "java/lang/StringUTF16" "$assertionsDisabled" "Z" (.int (1 : Int32))) (SHi : Sta Z Z.heap "java/lang/StringUTF16" "HI_BYTE_SHIFT" "I" (.int (0 : Int32))) (SLo : Sta Z Z.heap "java/lang/StringUTF16" "LO_BYTE_SHIFT" "I" (.int (8 : Int32))) (hn : n ≤ 16) (hi : k < n) (hc : ¬ ch < 0 ∧ ¬ (65535 : Int32) < ch) (u0 : vs.getD (2 * k) (.int (0 : Int32)) = .int (own_lo ch)) (u1 : vs.getD (2 * k + 1) (.int (0 : Int32)) = .int (own_hi ch)) (Vb : Arv Z h0 rb kb .byte (Int32.ofNat (2 * n)) vs (.int (0 : Int32))) :
    MF l Z y_3 jdk_52_method_5_code 2 (some .char) ws ({ frames := 0, cells := 0, slots := 0, locals := 0 } : Room) #[(.ref rb), (.int (Int32.ofNat k))] h0 (Q_rmGC Z ch h0 n0) := by
  refine MetFree.of_bodySF (plainFor_of_name pn_StringUTF16) hisR ?_
  intro p e s m args below meth c s₁ Bd hml0 hP hK
  obtain ⟨rfl, hZ, hh⟩ := hP
  have hx := Bd.exec
  have hby := Bd.bytes
  have hml : c.maxLocals = 2 := hml0
  have hown : s.vm.findClass "java/lang/StringUTF16" = some m.cls := findClass_of_methodNamed Bd.named
  have hnm := (name_of_methodNamed Bd.named Bd.method).1
  have X0 : Stand p l e ({ frames := 0, cells := 0, slots := 0, locals := 0 } : Room) s m #[(.ref rb), (.int (Int32.ofNat k))] below meth c s₁ [] 0 0 := Stand.of_body Bd
  have e0 : s₁.heap = h0 := by rw [← hh, Bd.state]; rfl
  have N0 := Fr.nil n0
  obtain ⟨S0, hS0⟩ : ∃ z, z = s₁.setTop (entryFrame m #[(.ref rb), (.int (Int32.ofNat k))] 2) := ⟨_, rfl⟩
  have k0 : Rch p e below S0 s₁ (mkF m 0 #[vR rb, vI (Int32.ofNat k)] []) := fun t kq => hS0 ▸ castTop (ef_42 m rb (Int32.ofNat k)) kq
  obtain ⟨T27, X27, e27, st27⟩ := getS2 X0 hx hZ hown (host := "") (Or.inl (hw _ (gm 202 rfl))) Via.refl e0 (SAs.ext O0.2) (g := (mkF m 0 #[vR rb, vI (Int32.ofNat k)] [])) rfl (hb hby d42_0)
  have k28 : Rch p e below S0 T27 (mkF m 3 #[vR rb, vI (Int32.ofNat k)] [(.int (1 : Int32))]) := fun t h => k0 t (st27 t h)
  have k30 : Rch p e below S0 T27 (mkF m 37 #[vR rb, vI (Int32.ofNat (2 * k + 1))] [(.int (Int32.ofNat (2 * k))), (.ref rb)]) := fun t h => k28 t (by
      refine XS.ifYes X27.here hx rfl (pc0 := 3) (pc' := 28) rfl (hb hby d42_3) rfl ((if0 _ _).trans (feq (by decide : ¬ ((1 : Int32) = (0 : Int32)))).2) (by decide) (by decide) ?_
      refine XS.iloadN X27.here hx rfl (hb hby d42_28) rfl ?_
      refine XS.iconst X27.here hx rfl (hb hby d42_29) ?_
      show Steps p.tables e below (T27.setTop (mkF m 30 #[vR rb, vI (Int32.ofNat k)] [(.int (1 : Int32)), (.int (Int32.ofNat k))])) _
      refine XS.ishl X27.here hx rfl (hb hby d42_30) rfl ?_
      rw [own_dbl (i := k) (by omega)]
      refine XS.istoreN X27.here hx rfl (hb hby d42_31) rfl (l' := #[vR rb, vI (Int32.ofNat (2 * k))]) rfl ?_
      refine XS.aloadN X27.here hx rfl (hb hby d42_32) rfl rfl ?_
      refine XS.iloadN X27.here hx rfl (hb hby d42_33) rfl ?_
      show Steps p.tables e below (T27.setTop (mkF m 34 #[vR rb, vI (Int32.ofNat (2 * k))] [(.int (Int32.ofNat (2 * k))), (.ref rb)])) _
      refine XS.iinc X27.here hx rfl (hb hby d42_34) rfl (l' := #[vR rb, vI ((Int32.ofNat (2 * k)) + (1 : Int32))]) rfl ?_
      rw [own_inc (i := 2 * k) (by omega)]
      exact h)
  obtain ⟨cl29, Ar29, q29, Sz29, Ng29, Hs29, G29⟩ := id Vb
  have hin29 : ¬ ((Int32.ofNat (2 * k)) < 0 ∨ cl29.slots.size ≤ ((Int32.ofNat (2 * k))).toNatClampNeg) := inb_of Sz29 (own_inb (by omega) (by omega))
  have hat29 : cl29.slots[((Int32.ofNat (2 * k))).toNatClampNeg]? = some (.int (own_lo ch)) := Hs29.at hin29 (by rw [(own_tn (by omega)).1]; exact u0)
  have k32 : Rch p e below S0 T27 (mkF m 42 #[vR rb, vI (Int32.ofNat (2 * k + 1))] [(.int ((own_lo ch) &&& (255 : Int32)))]) := fun t h => k30 t (by
      refine X27.baloadBytes hx (j := (Int32.ofNat (2 * k))) (v := (.int (own_lo ch))) (by rw [e27]; exact Ar29.1) (State.isArrayOf_alike hZ.alike Ar29.2.1) Ar29.2.2 hin29 hat29 (g := (mkF m 37 #[vR rb, vI (Int32.ofNat (2 * k + 1))] [(.int (Int32.ofNat (2 * k))), (.ref rb)])) rfl rfl (hb hby d42_37) _ ?_
      refine XS.sipush X27.here hx rfl (hb hby d42_38) ?_
      refine XS.iand X27.here hx rfl (hb hby d42_41) rfl ?_
      exact h)
  obtain ⟨T31, X31, e31, st31⟩ := getS2 X27 hx hZ hown (host := "") (Or.inl (hw _ (gm 203 rfl))) Via.refl e27 (SHi.ext O0.2) (g := (mkF m 42 #[vR rb, vI (Int32.ofNat (2 * k + 1))] [(.int ((own_lo ch) &&& (255 : Int32)))])) rfl (hb hby d42_42)
  have k33 : Rch p e below S0 T31 (mkF m 45 #[vR rb, vI (Int32.ofNat (2 * k + 1))] [(.int (0 : Int32)), (.int ((own_lo ch) &&& (255 : Int32)))]) := fun t h => k32 t (st31 t h)
  have k35 : Rch p e below S0 T31 (mkF m 48 #[vR rb, vI (Int32.ofNat (2 * k + 1))] [(.int (Int32.ofNat (2 * k + 1))), (.ref rb), (.int (((own_lo ch) &&& (255 : Int32)) <<< ((0 : Int32) &&& 31)))]) := fun t h => k33 t (by
      refine XS.ishl X31.here hx rfl (hb hby d42_45) rfl ?_
      refine XS.aloadN X31.here hx rfl (hb hby d42_46) rfl rfl ?_
      refine XS.iloadN X31.here hx rfl (hb hby d42_47) rfl ?_
      exact h)
  obtain ⟨cl34, Ar34, q34, Sz34, Ng34, Hs34, G34⟩ := id Vb
  have hin34 : ¬ ((Int32.ofNat (2 * k + 1)) < 0 ∨ cl34.slots.size ≤ ((Int32.ofNat (2 * k + 1))).toNatClampNeg) := inb_of Sz34 (own_inb (by omega) (by omega))
  have hat34 : cl34.slots[((Int32.ofNat (2 * k + 1))).toNatClampNeg]? = some (.int (own_hi ch)) := Hs34.at hin34 (by rw [(own_tn (by omega)).1]; exact u1)
  have k37 : Rch p e below S0 T31 (mkF m 53 #[vR rb, vI (Int32.ofNat (2 * k + 1))] [(.int ((own_hi ch) &&& (255 : Int32))), (.int (((own_lo ch) &&& (255 : Int32)) <<< ((0 : Int32) &&& 31)))]) := fun t h => k35 t (by
      refine X31.baloadBytes hx (j := (Int32.ofNat (2 * k + 1))) (v := (.int (own_hi ch))) (by rw [e31]; exact Ar34.1) (State.isArrayOf_alike hZ.alike Ar34.2.1) Ar34.2.2 hin34 hat34 (g := (mkF m 48 #[vR rb, vI (Int32.ofNat (2 * k + 1))] [(.int (Int32.ofNat (2 * k + 1))), (.ref rb), (.int (((own_lo ch) &&& (255 : Int32)) <<< ((0 : Int32) &&& 31)))])) rfl rfl (hb hby d42_48) _ ?_
      refine XS.sipush X31.here hx rfl (hb hby d42_49) ?_
      refine XS.iand X31.here hx rfl (hb hby d42_52) rfl ?_
      exact h)
  obtain ⟨T36, X36, e36, st36⟩ := getS2 X31 hx hZ hown (host := "") (Or.inl (hw _ (gm 204 rfl))) Via.refl e31 (SLo.ext O0.2) (g := (mkF m 53 #[vR rb, vI (Int32.ofNat (2 * k + 1))] [(.int ((own_hi ch) &&& (255 : Int32))), (.int (((own_lo ch) &&& (255 : Int32)) <<< ((0 : Int32) &&& 31)))])) rfl (hb hby d42_53)
  have k38 : Rch p e below S0 T36 (mkF m 56 #[vR rb, vI (Int32.ofNat (2 * k + 1))] [(.int (8 : Int32)), (.int ((own_hi ch) &&& (255 : Int32))), (.int (((own_lo ch) &&& (255 : Int32)) <<< ((0 : Int32) &&& 31)))]) := fun t h => k37 t (st36 t h)
  have k39 : Rch p e below S0 T36 (mkF m 59 #[vR rb, vI (Int32.ofNat (2 * k + 1))] [(.int ch)]) := fun t h => k38 t (by
      refine XS.ishl X36.here hx rfl (hb hby d42_56) rfl ?_
      refine XS.ior X36.here hx rfl (hb hby d42_57) rfl ?_
      show Steps p.tables e below (T36.setTop (mkF m 58 #[vR rb, vI (Int32.ofNat (2 * k + 1))] [(.int ((((own_lo ch) &&& (255 : Int32)) <<< ((0 : Int32) &&& 31)) ||| (((own_hi ch) &&& (255 : Int32)) <<< ((8 : Int32) &&& 31))))])) _
      refine XS.i2c X36.here hx rfl (hb hby d42_58) rfl ?_
      rw [own_pair ch hc]
      exact h)
  obtain ⟨fs, hr, hrun, hended, hW, hsame⟩ := X36.leave (v := (some (.int (nar .char ch)))) (fun h => by rw [Bd.returns] at h; cases h)
  refine ⟨_, _, ?_, hrun, hended, _, _, rfl, ?_, ⟨_, rfl⟩, hW, hsame.mono (by decide) (by decide)⟩
  · rw [← hS0]
    refine k39 _ ?_
    show Steps p.tables e below (T36.setTop (mkF m 59 #[vR rb, vI (Int32.ofNat (2 * k + 1))] [(.int ch)])) _
    exact retN X36 hx (t := .char) Bd.returns (by simp) (hb hby d42_59) hr
  · show Q_rmGC Z ch h0 n0 _ T36.heap _
    rw [e36]
    exact ⟨by rw [(own_narc ch hc).1], N0, rfl⟩
def Q_rmTO (Z : State) (n : Nat) (cs : List Int32) (h0 : Heap) (n0 : Nat) (v : Option Value) (h : Heap) (L : List Loc) : Prop := ∃ x kx vs, v = some (.ref x) ∧ Fr n0 L ∧ Ext h0 h ∧ h0.size ≤ x ∧ vs.length = 2 * n ∧ (∀ q, q < n → vs.getD (2 * q) (.int (0 : Int32)) = .int (own_lo (cs.getD q 0)) ∧ vs.getD (2 * q + 1) (.int (0 : Int32)) = .int (own_hi (cs.getD q 0))) ∧ Arv Z h x kx .byte (Int32.ofNat (2 * n)) vs (.int (0 : Int32))
abbrev y_4 : MethodName := ⟨"java/lang/StringUTF16", "toBytes", "([CII)[B"⟩
theorem ef_38 (m : MethodId) (x0 : Addr) (x1 : Int32) (x2 : Int32) : entryFrame m #[(.ref x0), (.int x1), (.int x2)] 5 = mkF m 0 #[.val (.ref x0), .val (.int x1), .val (.int x2), .unset, .unset] [] := by first | (simp [entryFrame, mkF, argsToLocals, Value.category]; done) | rfl
theorem d38_0 : decode jdk_52_method_14_code 0 = .ok (.iload_n 2, 1) := by decide +kernel
theorem pd_31 : parseMethodDescriptor "(I)[B" = some ⟨[.int], some (.array .byte)⟩ := by decide +kernel
theorem d38_1 : decode jdk_52_method_14_code 1 = .ok (.invokestatic 107, 3) := by decide +kernel
theorem d38_4 : decode jdk_52_method_14_code 4 = .ok (.astore_n 3, 1) := by decide +kernel
theorem d38_5 : decode jdk_52_method_14_code 5 = .ok (.iconst 0, 1) := by decide +kernel
theorem d38_6 : decode jdk_52_method_14_code 6 = .ok (.istore 4, 2) := by decide +kernel
theorem d38_8 : decode jdk_52_method_14_code 8 = .ok (.iload 4, 2) := by decide +kernel
theorem d38_10 : decode jdk_52_method_14_code 10 = .ok (.iload_n 2, 1) := by decide +kernel
theorem d38_11 : decode jdk_52_method_14_code 11 = .ok (.if_icmp .ge 21, 3) := by decide +kernel
theorem d38_14 : decode jdk_52_method_14_code 14 = .ok (.aload_n 3, 1) := by decide +kernel
theorem d38_15 : decode jdk_52_method_14_code 15 = .ok (.iload 4, 2) := by decide +kernel
theorem d38_17 : decode jdk_52_method_14_code 17 = .ok (.aload_n 0, 1) := by decide +kernel
theorem d38_18 : decode jdk_52_method_14_code 18 = .ok (.iload_n 1, 1) := by decide +kernel
theorem d38_19 : decode jdk_52_method_14_code 19 = .ok (.caload, 1) := by decide +kernel
theorem pd_33 : parseMethodDescriptor "([BII)V" = some ⟨[(.array .byte), .int, .int], none⟩ := by decide +kernel
theorem d38_20 : decode jdk_52_method_14_code 20 = .ok (.invokestatic 111, 3) := by decide +kernel
theorem d38_23 : decode jdk_52_method_14_code 23 = .ok (.iinc 1 1, 3) := by decide +kernel
theorem d38_26 : decode jdk_52_method_14_code 26 = .ok (.iinc 4 1, 3) := by decide +kernel
theorem d38_29 : decode jdk_52_method_14_code 29 = .ok (.goto (-21), 3) := by decide +kernel
theorem own_step {n i : Nat} {cs : List Int32} {vs : List Value} (hv : vs.length = 2 * n ∧ (∀ q, q < i → vs.getD (2 * q) (.int (0 : Int32)) = .int (own_lo (cs.getD q 0)) ∧ vs.getD (2 * q + 1) (.int (0 : Int32)) = .int (own_hi (cs.getD q 0)))) (hi : i < n) :
    ((vs.set (2 * i) (.int (own_lo (cs.getD i 0)))).set (2 * i + 1) (.int (own_hi (cs.getD i 0)))).length = 2 * n ∧ (∀ q, q < i + 1 → ((vs.set (2 * i) (.int (own_lo (cs.getD i 0)))).set (2 * i + 1) (.int (own_hi (cs.getD i 0)))).getD (2 * q) (.int (0 : Int32)) = .int (own_lo (cs.getD q 0)) ∧ ((vs.set (2 * i) (.int (own_lo (cs.getD i 0)))).set (2 * i + 1) (.int (own_hi (cs.getD i 0)))).getD (2 * q + 1) (.int (0 : Int32)) = .int (own_hi (cs.getD q 0))) := by
  obtain ⟨hl, h⟩ := hv
  refine ⟨by simp [hl], fun q hq => ?_⟩
  have g : ∀ (l : List Value) (a b : Nat) (x d : Value), (l.set a x).getD b d = if a = b ∧ b < l.length then x else l.getD b d := fun l a b x d => by
    simp only [List.getD_eq_getElem?_getD, List.getElem?_set]
    by_cases e : a = b
    · subst e
      by_cases f : a < l.length
      · simp [f]
      · simp [f]
    · simp [e]
  rw [g, g, g, g]
  simp only [List.length_set, hl]
  by_cases e : q = i
  · subst e
    rw [if_neg (by omega), if_pos (by omega), if_pos (by omega)]
    exact ⟨rfl, rfl⟩
  · rw [if_neg (by omega), if_neg (by omega), if_neg (by omega), if_neg (by omega)]
    exact h q (by omega)
theorem d38_32 : decode jdk_52_method_14_code 32 = .ok (.aload_n 3, 1) := by decide +kernel
theorem d38_33 : decode jdk_52_method_14_code 33 = .ok (.areturn, 1) := by decide +kernel
theorem rmTO (l : Launch) (Z : State) (a0 : Array Value) (hw : HW Z a0) (ws : List Jvm.Cond) (ra : Addr) (ka : ClassId) (n : Nat) (cs : List Int32) (h0 : Heap) (n0 : Nat) (O0 : Old Z n0 h0) (SAs : Sta Z Z.heap "java/lang/StringUTF16" "$assertionsDisabled" "Z" (.int (1 : Int32))) (SHi : Sta Z Z.heap "java/lang/StringUTF16" "HI_BYTE_SHIFT" "I" (.int (0 : Int32))) (SLo : Sta Z Z.heap "java/lang/StringUTF16" "LO_BYTE_SHIFT" "I" (.int (8 : Int32))) (hn : n ≤ 16) (hl : cs.length = n) (Va : Arv Z h0 ra ka .char (Int32.ofNat n) (cs.map Value.int) (.int (0 : Int32))) :
    MF l Z y_4 jdk_52_method_14_code 5 (some (.array .byte)) ws ({ frames := 2, cells := 1, slots := 32, locals := 60 } : Room) #[(.ref ra), (.int (0 : Int32)), (.int (Int32.ofNat n))] h0 (Q_rmTO Z n cs h0 n0) := by
  refine MetFree.of_bodySF (plainFor_of_name pn_StringUTF16) hisR ?_
  intro p e s m args below meth c s₁ Bd hml0 hP hK
  obtain ⟨rfl, hZ, hh⟩ := hP
  have hx := Bd.exec
  have hby := Bd.bytes
  have hml : c.maxLocals = 5 := hml0
  have hown : s.vm.findClass "java/lang/StringUTF16" = some m.cls := findClass_of_methodNamed Bd.named
  have hnm := (name_of_methodNamed Bd.named Bd.method).1
  have X0 : Stand p l e ({ frames := 2, cells := 1, slots := 32, locals := 60 } : Room) s m #[(.ref ra), (.int (0 : Int32)), (.int (Int32.ofNat n))] below meth c s₁ [] 0 0 := Stand.of_body Bd
  have e0 : s₁.heap = h0 := by rw [← hh, Bd.state]; rfl
  have N0 := Fr.nil n0
  obtain ⟨S0, hS0⟩ : ∃ z, z = s₁.setTop (entryFrame m #[(.ref ra), (.int (0 : Int32)), (.int (Int32.ofNat n))] 5) := ⟨_, rfl⟩
  have k0 : Rch p e below S0 s₁ (mkF m 0 #[vR ra, vI 0, vI (Int32.ofNat n), vU, vU] []) := fun t kq => hS0 ▸ castTop (ef_38 m ra (0 : Int32) (Int32.ofNat n)) kq
  have K0 : Keep h0 h0 [] := Keep.refl h0 _
  have k40 : Rch p e below S0 s₁ (mkF m 1 #[vR ra, vI 0, vI (Int32.ofNat n), vU, vU] [(.int (Int32.ofNat n))]) := fun t h => k0 t (by
      refine XS.iloadN X0.here hx rfl (hb hby d38_0) rfl ?_
      exact h)
  obtain ⟨_, _, ⟨T41, L41, kk41, n41⟩, -, X41, ⟨Lc41, hQ41, l41, y41, z41⟩, st41⟩ := Jvm.LawKit.callS X0 hx (y := y_1) hown (mvT hZ (hw _ (gm 192 rfl))) (mvT hZ (hw _ (gm 193 rfl))) (mvT hZ (hw _ (gm 30 rfl))) (mvT hZ (hw _ (gm 194 rfl))) (by decide) (backOf (W := 0) (rmNF l Z a0 hw [] n  h0 n0 O0 hn) hZ (hw _ (gm 194 rfl)) (hw _ (gm 30 rfl)) (by decide) (by decide)) (g := (mkF m 1 #[vR ra, vI 0, vI (Int32.ofNat n), vU, vU] [(.int (Int32.ofNat n))])) rfl (by rw [hml]; rfl) (argsL := [(.int (Int32.ofNat n))]) (rest := []) (lenOf pd_31 rfl) rfl (by show 2 * 0 + _ ≤ _; exact Nat.le_of_eq rfl) (hb hby d38_1) (fun _ _ => ⟨rfl, e0, (by decide : 0 + 1 ≤ _), (by decide : 0 + 32 ≤ _)⟩)
  dsimp only [Pt.U, Pt.locs, Pt.cells, Pt.slots] at X41 l41 y41 z41 st41 hQ41
  subst l41 y41 z41
  obtain ⟨b41, kb41, rfl, Nq41, E41, z41, V41⟩ := hQ41
  have N41 := Fr.app N0 Nq41
  have k42 : Rch p e below S0 T41 (mkF m 4 #[vR ra, vI 0, vI (Int32.ofNat n), vU, vU] [(.ref b41)]) := fun t h => k40 t (st41 t h)
  have ne_ra_b41 : ra ≠ b41 := own_ne Va.lt z41
  have ge_b41 : n0 ≤ b41 := own_ge O0 z41
  have sz_b41 : h0.size ≤ b41 := Nat.le_trans K0.1 z41
  have O43 := O0.ext E41
  have K44 := K0.ext E41
  replace Va := Va.ext E41
  have k45 : Rch p e below S0 T41 (mkF m 8 #[vR ra, vI 0, vI (Int32.ofNat n), vR b41, vI 0] []) := fun t h => k42 t (by
      refine XS.astoreN X41.here hx rfl (hb hby d38_4) rfl rfl (l' := #[vR ra, vI 0, vI (Int32.ofNat n), vR b41, vU]) rfl ?_
      refine XS.iconst X41.here hx rfl (hb hby d38_5) ?_
      refine XS.istore X41.here hx rfl (hb hby d38_6) rfl (l' := #[vR ra, vI 0, vI (Int32.ofNat n), vR b41, vI 0]) rfl ?_
      exact h)
  have hz : (0 : Int32) = Int32.ofNat 0 := rfl
  replace V41 : Arv Z T41.heap b41 kb41 .byte (Int32.ofNat (2 * n)) (List.replicate (2 * n) (.int (0 : Int32))) (.int (0 : Int32)) := by
    have q := V41.pad (pad_rep [] (.int (0 : Int32)) (2 * n))
    rwa [List.nil_append] at q
  have loop : ∀ (j i : Nat), i + j = n → ∀ (T : State) (h1 : Heap) (lo : List Loc) (vs : List Value), Stand p l e ({ frames := 2, cells := 1, slots := 32, locals := 60 } : Room) s m #[(.ref ra), (.int (0 : Int32)), (.int (Int32.ofNat n))] below meth c T lo 1 32 → T.heap = h1 → Fr n0 lo → Old Z n0 h1 → Keep h0 h1 [] → (vs.length = 2 * n ∧ (∀ q, q < i → vs.getD (2 * q) (.int (0 : Int32)) = .int (own_lo (cs.getD q 0)) ∧ vs.getD (2 * q + 1) (.int (0 : Int32)) = .int (own_hi (cs.getD q 0)))) → Arv Z h1 b41 kb41 .byte (Int32.ofNat (2 * n)) vs (.int (0 : Int32)) → Arv Z h1 ra ka .char (Int32.ofNat n) (cs.map Value.int) (.int (0 : Int32)) → Rch p e below S0 T (mkF m 8 #[.val (.ref ra), .val (.int (Int32.ofNat i)), .val (.int (Int32.ofNat n)), .val (.ref b41), .val (.int (Int32.ofNat i))] []) →
      ∃ (T2 : State) (h2 : Heap) (lo2 : List Loc) (vs2 : List Value), Stand p l e ({ frames := 2, cells := 1, slots := 32, locals := 60 } : Room) s m #[(.ref ra), (.int (0 : Int32)), (.int (Int32.ofNat n))] below meth c T2 lo2 1 32 ∧ T2.heap = h2 ∧ Fr n0 lo2 ∧ Keep h0 h2 [] ∧ (vs2.length = 2 * n ∧ (∀ q, q < n → vs2.getD (2 * q) (.int (0 : Int32)) = .int (own_lo (cs.getD q 0)) ∧ vs2.getD (2 * q + 1) (.int (0 : Int32)) = .int (own_hi (cs.getD q 0)))) ∧ Arv Z h2 b41 kb41 .byte (Int32.ofNat (2 * n)) vs2 (.int (0 : Int32)) ∧ Rch p e below S0 T2 (mkF m 32 #[.val (.ref ra), .val (.int (Int32.ofNat n)), .val (.int (Int32.ofNat n)), .val (.ref b41), .val (.int (Int32.ofNat n))] []) := by
    intro j
    induction j with
    | zero =>
      intro i hi T h1 lo vs X eT NN OO KK hv Vd1 Va1 kk
      obtain rfl : i = n := by omega
      have k46 : Rch p e below S0 T (mkF m 32 #[vR ra, vI (Int32.ofNat i), vI (Int32.ofNat i), vR b41, vI (Int32.ofNat i)] []) := fun t h => kk t (by
          refine XS.iload X.here hx rfl (hb hby d38_8) rfl ?_
          refine XS.iloadN X.here hx rfl (hb hby d38_10) rfl ?_
          refine XS.icmpYes X.here hx rfl (pc0 := 11) (pc' := 32) rfl (hb hby d38_11) rfl (flt ((fun q => Nat.lt_irrefl _ ((own_olt (by omega) (by omega)).mp q)) : ¬ ((Int32.ofNat i) < (Int32.ofNat i)))).2.1 (by decide) (by decide) ?_
          exact h)
      exact ⟨_, _, _, _, X, eT, NN, KK, hv, Vd1, k46⟩
    | succ j ih =>
      intro i hi T h1 lo vs X eT NN OO KK hv Vd1 Va1 kk
      have k48 : Rch p e below S0 T (mkF m 19 #[vR ra, vI (Int32.ofNat i), vI (Int32.ofNat n), vR b41, vI (Int32.ofNat i)] [(.int (Int32.ofNat i)), (.ref ra), (.int (Int32.ofNat i)), (.ref b41)]) := fun t h => kk t (by
          refine XS.iload X.here hx rfl (hb hby d38_8) rfl ?_
          refine XS.iloadN X.here hx rfl (hb hby d38_10) rfl ?_
          refine XS.icmpNo X.here hx rfl (hb hby d38_11) rfl (tlt (((own_olt (by omega) (by omega)).mpr (by omega)) : (Int32.ofNat i) < (Int32.ofNat n))).2.1 ?_
          refine XS.aloadN X.here hx rfl (hb hby d38_14) rfl rfl ?_
          refine XS.iload X.here hx rfl (hb hby d38_15) rfl ?_
          refine XS.aloadN X.here hx rfl (hb hby d38_17) rfl rfl ?_
          refine XS.iloadN X.here hx rfl (hb hby d38_18) rfl ?_
          exact h)
      obtain ⟨cl47, Ar47, q47, Sz47, Ng47, Hs47, G47⟩ := id Va1
      have hin47 : ¬ ((Int32.ofNat i) < 0 ∨ cl47.slots.size ≤ ((Int32.ofNat i)).toNatClampNeg) := inb_of Sz47 (own_inb (by omega) (by omega))
      have hat47 : cl47.slots[((Int32.ofNat i)).toNatClampNeg]? = some (.int (cs.getD i 0)) := Hs47.at hin47 (by rw [(own_tn (by omega)).1]; exact own_at cs i 0)
      have k49 : Rch p e below S0 T (mkF m 20 #[vR ra, vI (Int32.ofNat i), vI (Int32.ofNat n), vR b41, vI (Int32.ofNat i)] [(.int (cs.getD i 0)), (.int (Int32.ofNat i)), (.ref b41)]) := fun t h => k48 t (by
          refine X.caload hx (j := (Int32.ofNat i)) (v := (.int (cs.getD i 0))) (by rw [eT]; exact Ar47.1) (State.isArrayOf_alike hZ.alike Ar47.2.1) Ar47.2.2 hin47 hat47 (g := (mkF m 19 #[vR ra, vI (Int32.ofNat i), vI (Int32.ofNat n), vR b41, vI (Int32.ofNat i)] [(.int (Int32.ofNat i)), (.ref ra), (.int (Int32.ofNat i)), (.ref b41)])) rfl rfl (hb hby d38_19) _ ?_
          exact h)
      obtain ⟨_, _, ⟨T50, L50, kk50, n50⟩, -, X50, ⟨Lc50, hQ50, l50, y50, z50⟩, st50⟩ := Jvm.LawKit.callS X hx (y := y_2) hown (mvT hZ (hw _ (gm 199 rfl))) (mvT hZ (hw _ (gm 200 rfl))) (mvT hZ (hw _ (gm 30 rfl))) (mvT hZ (hw _ (gm 201 rfl))) (by decide) (backOf (W := 0) (rmPC l Z a0 hw [] b41 i (cs.getD i 0) kb41 n vs h1 n0 OO SAs SHi SLo ge_b41 hn (by omega) hv.1 Vd1) hZ (hw _ (gm 201 rfl)) (hw _ (gm 30 rfl)) (by decide) (by decide)) (g := (mkF m 20 #[vR ra, vI (Int32.ofNat i), vI (Int32.ofNat n), vR b41, vI (Int32.ofNat i)] [(.int (cs.getD i 0)), (.int (Int32.ofNat i)), (.ref b41)])) rfl (by rw [hml]; rfl) (argsL := [(.ref b41), (.int (Int32.ofNat i)), (.int (cs.getD i 0))]) (rest := []) (lenOf pd_33 rfl) rfl (by show 2 * 0 + _ ≤ _; exact Nat.le_of_eq rfl) (hb hby d38_20) (fun _ _ => ⟨rfl, eT, (by decide : 1 + 0 ≤ _), (by decide : 32 + 0 ≤ _)⟩)
      dsimp only [Pt.U, Pt.locs, Pt.cells, Pt.slots] at X50 l50 y50 z50 st50 hQ50
      subst l50 y50 z50
      obtain ⟨rfl, Nq50, K50, Vn50⟩ := hQ50
      have N50 := Fr.app NN Nq50
      have k51 : Rch p e below S0 T50 (mkF m 23 #[vR ra, vI (Int32.ofNat i), vI (Int32.ofNat n), vR b41, vI (Int32.ofNat i)] []) := fun t h => k49 t (st50 t h)
      have O52 := OO.keep K50 (allS ge_b41 all0)
      have K53 := KK.trans K50 (allS (Or.inr sz_b41) all0)
      replace Va1 := Va1.keep K50 (ninS ne_ra_b41 nin0)
      have k54 : Rch p e below S0 T50 (mkF m 8 #[vR ra, vI (Int32.ofNat (i + 1)), vI (Int32.ofNat n), vR b41, vI (Int32.ofNat (i + 1))] []) := fun t h => k51 t (by
          refine XS.iinc X50.here hx rfl (hb hby d38_23) rfl (l' := #[vR ra, vI ((Int32.ofNat i) + (1 : Int32)), vI (Int32.ofNat n), vR b41, vI (Int32.ofNat i)]) rfl ?_
          rw [own_inc (i := i) (by omega)]
          show Steps p.tables e below (T50.setTop (mkF m 26 #[vR ra, vI (Int32.ofNat (i + 1)), vI (Int32.ofNat n), vR b41, vI (Int32.ofNat i)] [])) _
          refine XS.iinc X50.here hx rfl (hb hby d38_26) rfl (l' := #[vR ra, vI (Int32.ofNat (i + 1)), vI (Int32.ofNat n), vR b41, vI ((Int32.ofNat i) + (1 : Int32))]) rfl ?_
          rw [own_inc (i := i) (by omega)]
          refine XS.goto X50.here hx rfl (pc0 := 29) (pc' := 8) rfl (hb hby d38_29) (by decide) (by decide) ?_
          exact h)
      exact ih (i + 1) (by omega) _ _ _ _ X50 rfl N50 O52 K53 (own_step hv (by omega)) Vn50 Va1 k54
  obtain ⟨TL, hL, loL, vsL, XL, eL, NL, KL, hvL, VL, kL⟩ := loop n 0 (by omega) _ _ _ _ X41 rfl N41 O43 K44 ⟨by simp, fun q hq => absurd hq (Nat.not_lt_zero _)⟩ V41 Va k45
  have k55 : Rch p e below S0 TL (mkF m 33 #[vR ra, vI (Int32.ofNat n), vI (Int32.ofNat n), vR b41, vI (Int32.ofNat n)] [(.ref b41)]) := fun t h => kL t (by
      refine XS.aloadN XL.here hx rfl (hb hby d38_32) rfl rfl ?_
      exact h)
  obtain ⟨fs, hr, hrun, hended, hW, hsame⟩ := XL.leave (v := (some (.ref b41))) (fun h => by rw [Bd.returns] at h; cases h)
  refine ⟨_, _, ?_, hrun, hended, _, _, rfl, ?_, ⟨_, rfl⟩, hW, hsame.mono (by decide) (by decide)⟩
  · rw [← hS0]
    refine k55 _ ?_
    show Steps p.tables e below (TL.setTop (mkF m 33 #[vR ra, vI (Int32.ofNat n), vI (Int32.ofNat n), vR b41, vI (Int32.ofNat n)] [(.ref b41)])) _
    jvm_step XL.here [XL.here.top, hx, (hb hby d38_33), XL.method', Bd.returns, Value.isRef, FieldType.isReference]
    first | (intro acts; rw [hr _ acts rfl rfl rfl]) | rw [hr _ _ rfl rfl rfl]
    exact Steps.refl _
  · show Q_rmTO Z n cs h0 n0 _ TL.heap _
    rw [eL]
    exact ⟨b41, kb41, vsL, rfl, NL, own_ext KL, sz_b41, hvL.1, hvL.2, VL⟩
def Q_rmC5 (Z : State) (rd : Addr) (k : Nat) (h0 : Heap) (n0 : Nat) (v : Option Value) (h : Heap) (L : List Loc) : Prop := v = some (.int (Int32.ofNat k)) ∧ Fr n0 L ∧ Keep h0 h [rd]
abbrev y_5 : MethodName := ⟨"java/lang/StringUTF16", "compress", "([CI[BII)I"⟩
theorem ef_6 (m : MethodId) (x0 : Addr) (x1 : Int32) (x2 : Addr) (x3 : Int32) (x4 : Int32) : entryFrame m #[(.ref x0), (.int x1), (.ref x2), (.int x3), (.int x4)] 7 = mkF m 0 #[.val (.ref x0), .val (.int x1), .val (.ref x2), .val (.int x3), .val (.int x4), .unset, .unset] [] := by first | (simp [entryFrame, mkF, argsToLocals, Value.category]; done) | rfl
theorem d6_0 : decode jdk_52_method_21_code 0 = .ok (.iconst 0, 1) := by decide +kernel
theorem d6_1 : decode jdk_52_method_21_code 1 = .ok (.istore 5, 2) := by decide +kernel
theorem d6_3 : decode jdk_52_method_21_code 3 = .ok (.iload 5, 2) := by decide +kernel
theorem d6_5 : decode jdk_52_method_21_code 5 = .ok (.iload 4, 2) := by decide +kernel
theorem d6_7 : decode jdk_52_method_21_code 7 = .ok (.if_icmp .ge 37, 3) := by decide +kernel
theorem d6_10 : decode jdk_52_method_21_code 10 = .ok (.aload_n 0, 1) := by decide +kernel
theorem d6_11 : decode jdk_52_method_21_code 11 = .ok (.iload_n 1, 1) := by decide +kernel
theorem d6_12 : decode jdk_52_method_21_code 12 = .ok (.caload, 1) := by decide +kernel
theorem d6_13 : decode jdk_52_method_21_code 13 = .ok (.istore 6, 2) := by decide +kernel
theorem d6_15 : decode jdk_52_method_21_code 15 = .ok (.iload 6, 2) := by decide +kernel
theorem d6_17 : decode jdk_52_method_21_code 17 = .ok (.sipush 255, 3) := by decide +kernel
theorem d6_20 : decode jdk_52_method_21_code 20 = .ok (.if_icmp .le 6, 3) := by decide +kernel
theorem d6_23 : decode jdk_52_method_21_code 23 = .ok (.iload 5, 2) := by decide +kernel
theorem d6_26 : decode jdk_52_method_21_code 26 = .ok (.aload_n 2, 1) := by decide +kernel
theorem d6_27 : decode jdk_52_method_21_code 27 = .ok (.iload_n 3, 1) := by decide +kernel
theorem d6_28 : decode jdk_52_method_21_code 28 = .ok (.iload 6, 2) := by decide +kernel
theorem d6_30 : decode jdk_52_method_21_code 30 = .ok (.i2b, 1) := by decide +kernel
theorem d6_31 : decode jdk_52_method_21_code 31 = .ok (.bastore, 1) := by decide +kernel
theorem d6_32 : decode jdk_52_method_21_code 32 = .ok (.iinc 1 1, 3) := by decide +kernel
theorem d6_35 : decode jdk_52_method_21_code 35 = .ok (.iinc 3 1, 3) := by decide +kernel
theorem d6_38 : decode jdk_52_method_21_code 38 = .ok (.iinc 5 1, 3) := by decide +kernel
theorem d6_41 : decode jdk_52_method_21_code 41 = .ok (.goto (-38), 3) := by decide +kernel
theorem d6_25 : decode jdk_52_method_21_code 25 = .ok (.ireturn, 1) := by decide +kernel
theorem rmC5 (l : Launch) (Z : State) (a0 : Array Value) (hw : HW Z a0) (ws : List Jvm.Cond) (ra : Addr) (rd : Addr) (ka : ClassId) (kd : ClassId) (n : Nat) (cs : List Int32) (k : Nat) (h0 : Heap) (n0 : Nat) (O0 : Old Z n0 h0) (ge_rd : n0 ≤ rd) (ne_ra_rd : ra ≠ rd) (hn : n ≤ 16) (hl : cs.length = n) (hk : k < n) (hlow : ∀ i, i < k → ¬ (255 : Int32) < cs.getD i 0) (hhigh : (255 : Int32) < cs.getD k 0) (Va : Arv Z h0 ra ka .char (Int32.ofNat n) (cs.map Value.int) (.int (0 : Int32))) (Vd : Arv Z h0 rd kd .byte (Int32.ofNat n) (List.replicate n (.int (0 : Int32))) (.int (0 : Int32))) :
    MF l Z y_5 jdk_52_method_21_code 7 (some .int) ws ({ frames := 0, cells := 0, slots := 0, locals := 0 } : Room) #[(.ref ra), (.int (0 : Int32)), (.ref rd), (.int (0 : Int32)), (.int (Int32.ofNat n))] h0 (Q_rmC5 Z rd k h0 n0) := by
  refine MetFree.of_bodySF (plainFor_of_name pn_StringUTF16) hisR ?_
  intro p e s m args below meth c s₁ Bd hml0 hP hK
  obtain ⟨rfl, hZ, hh⟩ := hP
  have hx := Bd.exec
  have hby := Bd.bytes
  have hml : c.maxLocals = 7 := hml0
  have hown : s.vm.findClass "java/lang/StringUTF16" = some m.cls := findClass_of_methodNamed Bd.named
  have hnm := (name_of_methodNamed Bd.named Bd.method).1
  have X0 : Stand p l e ({ frames := 0, cells := 0, slots := 0, locals := 0 } : Room) s m #[(.ref ra), (.int (0 : Int32)), (.ref rd), (.int (0 : Int32)), (.int (Int32.ofNat n))] below meth c s₁ [] 0 0 := Stand.of_body Bd
  have e0 : s₁.heap = h0 := by rw [← hh, Bd.state]; rfl
  have N0 := Fr.nil n0
  obtain ⟨S0, hS0⟩ : ∃ z, z = s₁.setTop (entryFrame m #[(.ref ra), (.int (0 : Int32)), (.ref rd), (.int (0 : Int32)), (.int (Int32.ofNat n))] 7) := ⟨_, rfl⟩
  have k0 : Rch p e below S0 s₁ (mkF m 0 #[vR ra, vI 0, vR rd, vI 0, vI (Int32.ofNat n), vU, vU] []) := fun t kq => hS0 ▸ castTop (ef_6 m ra (0 : Int32) rd (0 : Int32) (Int32.ofNat n)) kq
  have K0 : Keep h0 h0 [rd] := Keep.refl h0 _
  have k56 : Rch p e below S0 s₁ (mkF m 3 #[vR ra, vI 0, vR rd, vI 0, vI (Int32.ofNat n), vI 0, vU] []) := fun t h => k0 t (by
      refine XS.iconst X0.here hx rfl (hb hby d6_0) ?_
      refine XS.istore X0.here hx rfl (hb hby d6_1) rfl (l' := #[vR ra, vI 0, vR rd, vI 0, vI (Int32.ofNat n), vI 0, vU]) rfl ?_
      exact h)
  have loop : ∀ (j i : Nat), i + j = k → ∀ (T : State) (h1 : Heap) (lo : List Loc) (s6 : Slot) (vs : List Value), Stand p l e ({ frames := 0, cells := 0, slots := 0, locals := 0 } : Room) s m #[(.ref ra), (.int (0 : Int32)), (.ref rd), (.int (0 : Int32)), (.int (Int32.ofNat n))] below meth c T lo 0 0 → T.heap = h1 → Fr n0 lo → Old Z n0 h1 → Keep h0 h1 [rd] → One s6 → vs.length = n → Arv Z h1 rd kd .byte (Int32.ofNat n) vs (.int (0 : Int32)) → Arv Z h1 ra ka .char (Int32.ofNat n) (cs.map Value.int) (.int (0 : Int32)) → Rch p e below S0 T (mkF m 3 #[.val (.ref ra), .val (.int (Int32.ofNat i)), .val (.ref rd), .val (.int (Int32.ofNat i)), .val (.int (Int32.ofNat n)), .val (.int (Int32.ofNat i)), s6] []) →
      ∃ (T2 : State) (h2 : Heap) (lo2 : List Loc), Stand p l e ({ frames := 0, cells := 0, slots := 0, locals := 0 } : Room) s m #[(.ref ra), (.int (0 : Int32)), (.ref rd), (.int (0 : Int32)), (.int (Int32.ofNat n))] below meth c T2 lo2 0 0 ∧ T2.heap = h2 ∧ Fr n0 lo2 ∧ Keep h0 h2 [rd] ∧ Rch p e below S0 T2 (mkF m 25 #[.val (.ref ra), .val (.int (Int32.ofNat k)), .val (.ref rd), .val (.int (Int32.ofNat k)), .val (.int (Int32.ofNat n)), .val (.int (Int32.ofNat k)), .val (.int (cs.getD k 0))] [(.int (Int32.ofNat k))]) := by
    intro j
    induction j with
    | zero =>
      intro i hi T h1 lo s6 vs X eT NN OO KK hs6 hvl Vd1 Va1 kk
      obtain rfl : i = k := by omega
      have k58 : Rch p e below S0 T (mkF m 12 #[vR ra, vI (Int32.ofNat i), vR rd, vI (Int32.ofNat i), vI (Int32.ofNat n), vI (Int32.ofNat i), s6] [(.int (Int32.ofNat i)), (.ref ra)]) := fun t h => kk t (by
          refine XS.iload X.here hx rfl (hb hby d6_3) rfl ?_
          refine XS.iload X.here hx rfl (hb hby d6_5) rfl ?_
          refine XS.icmpNo X.here hx rfl (hb hby d6_7) rfl (tlt (((own_olt (by omega) (by omega)).mpr (by omega)) : (Int32.ofNat i) < (Int32.ofNat n))).2.1 ?_
          refine XS.aloadN X.here hx rfl (hb hby d6_10) rfl rfl ?_
          refine XS.iloadN X.here hx rfl (hb hby d6_11) rfl ?_
          exact h)
      obtain ⟨cl57, Ar57, q57, Sz57, Ng57, Hs57, G57⟩ := id Va1
      have hin57 : ¬ ((Int32.ofNat i) < 0 ∨ cl57.slots.size ≤ ((Int32.ofNat i)).toNatClampNeg) := inb_of Sz57 (own_inb (by omega) (by omega))
      have hat57 : cl57.slots[((Int32.ofNat i)).toNatClampNeg]? = some (.int (cs.getD i 0)) := Hs57.at hin57 (by rw [(own_tn (by omega)).1]; exact own_at cs i 0)
      have k59 : Rch p e below S0 T (mkF m 25 #[vR ra, vI (Int32.ofNat i), vR rd, vI (Int32.ofNat i), vI (Int32.ofNat n), vI (Int32.ofNat i), vI (cs.getD i 0)] [(.int (Int32.ofNat i))]) := fun t h => k58 t (by
          refine X.caload hx (j := (Int32.ofNat i)) (v := (.int (cs.getD i 0))) (by rw [eT]; exact Ar57.1) (State.isArrayOf_alike hZ.alike Ar57.2.1) Ar57.2.2 hin57 hat57 (g := (mkF m 12 #[vR ra, vI (Int32.ofNat i), vR rd, vI (Int32.ofNat i), vI (Int32.ofNat n), vI (Int32.ofNat i), s6] [(.int (Int32.ofNat i)), (.ref ra)])) rfl rfl (hb hby d6_12) _ ?_
          refine XS.istoreS X.here hx rfl (hb hby d6_13) rfl rfl hs6 ?_
          refine XS.iload X.here hx rfl (hb hby d6_15) rfl ?_
          refine XS.sipush X.here hx rfl (hb hby d6_17) ?_
          refine XS.icmpNo X.here hx rfl (hb hby d6_20) rfl (tlt (hhigh : (255 : Int32) < (cs.getD i 0))).2.2.2 ?_
          refine XS.iload X.here hx rfl (hb hby d6_23) rfl ?_
          exact h)
      exact ⟨_, _, _, X, eT, NN, KK, k59⟩
    | succ j ih =>
      intro i hi T h1 lo s6 vs X eT NN OO KK hs6 hvl Vd1 Va1 kk
      have k61 : Rch p e below S0 T (mkF m 12 #[vR ra, vI (Int32.ofNat i), vR rd, vI (Int32.ofNat i), vI (Int32.ofNat n), vI (Int32.ofNat i), s6] [(.int (Int32.ofNat i)), (.ref ra)]) := fun t h => kk t (by
          refine XS.iload X.here hx rfl (hb hby d6_3) rfl ?_
          refine XS.iload X.here hx rfl (hb hby d6_5) rfl ?_
          refine XS.icmpNo X.here hx rfl (hb hby d6_7) rfl (tlt (((own_olt (by omega) (by omega)).mpr (by omega)) : (Int32.ofNat i) < (Int32.ofNat n))).2.1 ?_
          refine XS.aloadN X.here hx rfl (hb hby d6_10) rfl rfl ?_
          refine XS.iloadN X.here hx rfl (hb hby d6_11) rfl ?_
          exact h)
      obtain ⟨cl60, Ar60, q60, Sz60, Ng60, Hs60, G60⟩ := id Va1
      have hin60 : ¬ ((Int32.ofNat i) < 0 ∨ cl60.slots.size ≤ ((Int32.ofNat i)).toNatClampNeg) := inb_of Sz60 (own_inb (by omega) (by omega))
      have hat60 : cl60.slots[((Int32.ofNat i)).toNatClampNeg]? = some (.int (cs.getD i 0)) := Hs60.at hin60 (by rw [(own_tn (by omega)).1]; exact own_at cs i 0)
      have k63 : Rch p e below S0 T (mkF m 31 #[vR ra, vI (Int32.ofNat i), vR rd, vI (Int32.ofNat i), vI (Int32.ofNat n), vI (Int32.ofNat i), vI (cs.getD i 0)] [(.int ((cs.getD i 0).toInt8.toInt32)), (.int (Int32.ofNat i)), (.ref rd)]) := fun t h => k61 t (by
          refine X.caload hx (j := (Int32.ofNat i)) (v := (.int (cs.getD i 0))) (by rw [eT]; exact Ar60.1) (State.isArrayOf_alike hZ.alike Ar60.2.1) Ar60.2.2 hin60 hat60 (g := (mkF m 12 #[vR ra, vI (Int32.ofNat i), vR rd, vI (Int32.ofNat i), vI (Int32.ofNat n), vI (Int32.ofNat i), s6] [(.int (Int32.ofNat i)), (.ref ra)])) rfl rfl (hb hby d6_12) _ ?_
          refine XS.istoreS X.here hx rfl (hb hby d6_13) rfl rfl hs6 ?_
          refine XS.iload X.here hx rfl (hb hby d6_15) rfl ?_
          refine XS.sipush X.here hx rfl (hb hby d6_17) ?_
          refine XS.icmpYes X.here hx rfl (pc0 := 20) (pc' := 26) rfl (hb hby d6_20) rfl (flt ((hlow i (by omega)) : ¬ ((255 : Int32) < (cs.getD i 0)))).2.2.2 (by decide) (by decide) ?_
          refine XS.aloadN X.here hx rfl (hb hby d6_26) rfl rfl ?_
          refine XS.iloadN X.here hx rfl (hb hby d6_27) rfl ?_
          refine XS.iload X.here hx rfl (hb hby d6_28) rfl ?_
          refine XS.i2b X.here hx rfl (hb hby d6_30) rfl ?_
          exact h)
      obtain ⟨cl62, Ar62, q62, Sz62, Ng62, Hs62, G62⟩ := id Vd1
      have hin62 : ¬ ((Int32.ofNat i) < 0 ∨ cl62.slots.size ≤ ((Int32.ofNat i)).toNatClampNeg) := inb_of Sz62 (own_inb (by omega) (by omega))
      obtain ⟨T62, h62, X62, e62, W62, st62⟩ := stB X hx hZ eT Ar62 (j := (Int32.ofNat i)) hin62 (g := (mkF m 31 #[vR ra, vI (Int32.ofNat i), vR rd, vI (Int32.ofNat i), vI (Int32.ofNat n), vI (Int32.ofNat i), vI (cs.getD i 0)] [(.int ((cs.getD i 0).toInt8.toInt32)), (.int (Int32.ofNat i)), (.ref rd)])) rfl rfl (hb hby d6_31)
      have k64 : Rch p e below S0 T62 (mkF m 32 #[vR ra, vI (Int32.ofNat i), vR rd, vI (Int32.ofNat i), vI (Int32.ofNat n), vI (Int32.ofNat i), vI (cs.getD i 0)] []) := fun t h => k63 t (st62 t h)
      have N62 := Fr.snoc X62 NN ge_rd
      have Vd1' := Arv.set Ar62 q62 Sz62 Ng62 Hs62 G62 (fits_nar_byte _) W62 i (own_tn (by omega)).1 (by omega)
      replace Vd1 := Vd1'
      have O65 := OO.wr W62 ge_rd
      have K66 := KK.wr W62 (Or.inl (gm 0 rfl))
      replace Va1 := Va1.other W62 ne_ra_rd
      have k67 : Rch p e below S0 T62 (mkF m 3 #[vR ra, vI (Int32.ofNat (i + 1)), vR rd, vI (Int32.ofNat (i + 1)), vI (Int32.ofNat n), vI (Int32.ofNat (i + 1)), vI (cs.getD i 0)] []) := fun t h => k64 t (by
          refine XS.iinc X62.here hx rfl (hb hby d6_32) rfl (l' := #[vR ra, vI ((Int32.ofNat i) + (1 : Int32)), vR rd, vI (Int32.ofNat i), vI (Int32.ofNat n), vI (Int32.ofNat i), vI (cs.getD i 0)]) rfl ?_
          rw [own_inc (i := i) (by omega)]
          show Steps p.tables e below (T62.setTop (mkF m 35 #[vR ra, vI (Int32.ofNat (i + 1)), vR rd, vI (Int32.ofNat i), vI (Int32.ofNat n), vI (Int32.ofNat i), vI (cs.getD i 0)] [])) _
          refine XS.iinc X62.here hx rfl (hb hby d6_35) rfl (l' := #[vR ra, vI (Int32.ofNat (i + 1)), vR rd, vI ((Int32.ofNat i) + (1 : Int32)), vI (Int32.ofNat n), vI (Int32.ofNat i), vI (cs.getD i 0)]) rfl ?_
          rw [own_inc (i := i) (by omega)]
          show Steps p.tables e below (T62.setTop (mkF m 38 #[vR ra, vI (Int32.ofNat (i + 1)), vR rd, vI (Int32.ofNat (i + 1)), vI (Int32.ofNat n), vI (Int32.ofNat i), vI (cs.getD i 0)] [])) _
          refine XS.iinc X62.here hx rfl (hb hby d6_38) rfl (l' := #[vR ra, vI (Int32.ofNat (i + 1)), vR rd, vI (Int32.ofNat (i + 1)), vI (Int32.ofNat n), vI ((Int32.ofNat i) + (1 : Int32)), vI (cs.getD i 0)]) rfl ?_
          rw [own_inc (i := i) (by omega)]
          refine XS.goto X62.here hx rfl (pc0 := 41) (pc' := 3) rfl (hb hby d6_41) (by decide) (by decide) ?_
          exact h)
      exact ih (i + 1) (by omega) _ _ _ _ _ X62 e62 N62 O65 K66 (One.val rfl) (by rw [List.length_set]; exact hvl) Vd1 Va1 k67
  obtain ⟨TL, hL, loL, XL, eL, NL, KL, kL⟩ := loop k 0 (by omega) _ _ _ _ _ X0 e0 N0 O0 K0 One.u (by simp) Vd Va k56
  obtain ⟨fs, hr, hrun, hended, hW, hsame⟩ := XL.leave (v := (some (.int (Int32.ofNat k)))) (fun h => by rw [Bd.returns] at h; cases h)
  refine ⟨_, _, ?_, hrun, hended, _, _, rfl, ?_, ⟨_, rfl⟩, hW, hsame.mono (by decide) (by decide)⟩
  · rw [← hS0]
    refine kL _ ?_
    show Steps p.tables e below (TL.setTop (mkF m 25 #[vR ra, vI (Int32.ofNat k), vR rd, vI (Int32.ofNat k), vI (Int32.ofNat n), vI (Int32.ofNat k), vI (cs.getD k 0)] [(.int (Int32.ofNat k))])) _
    exact retI XL hx Bd.returns (hb hby d6_25) hr
  · show Q_rmC5 Z rd k h0 n0 _ TL.heap _
    rw [eL]
    exact ⟨rfl, NL, KL⟩
def Q_rmC3 (Z : State) (n : Nat) (cs : List Int32) (h0 : Heap) (n0 : Nat) (v : Option Value) (h : Heap) (L : List Loc) : Prop := ∃ x kx vs, v = some (.ref x) ∧ Fr n0 L ∧ Ext h0 h ∧ h0.size ≤ x ∧ vs.length = 2 * n ∧ (∀ q, q < n → vs.getD (2 * q) (.int (0 : Int32)) = .int (own_lo (cs.getD q 0)) ∧ vs.getD (2 * q + 1) (.int (0 : Int32)) = .int (own_hi (cs.getD q 0))) ∧ Arv Z h x kx .byte (Int32.ofNat (2 * n)) vs (.int (0 : Int32))
abbrev y_6 : MethodName := ⟨"java/lang/StringUTF16", "compress", "([CII)[B"⟩
theorem ef_5 (m : MethodId) (x0 : Addr) (x1 : Int32) (x2 : Int32) : entryFrame m #[(.ref x0), (.int x1), (.int x2)] 6 = mkF m 0 #[.val (.ref x0), .val (.int x1), .val (.int x2), .unset, .unset, .unset] [] := by first | (simp [entryFrame, mkF, argsToLocals, Value.category]; done) | rfl
theorem d5_0 : decode jdk_52_method_16_code 0 = .ok (.iload_n 2, 1) := by decide +kernel
theorem d5_1 : decode jdk_52_method_16_code 1 = .ok (.newarray .byte, 2) := by decide +kernel
theorem d5_3 : decode jdk_52_method_16_code 3 = .ok (.astore_n 3, 1) := by decide +kernel
theorem d5_4 : decode jdk_52_method_16_code 4 = .ok (.aload_n 0, 1) := by decide +kernel
theorem d5_5 : decode jdk_52_method_16_code 5 = .ok (.iload_n 1, 1) := by decide +kernel
theorem d5_6 : decode jdk_52_method_16_code 6 = .ok (.aload_n 3, 1) := by decide +kernel
theorem d5_7 : decode jdk_52_method_16_code 7 = .ok (.iconst 0, 1) := by decide +kernel
theorem d5_8 : decode jdk_52_method_16_code 8 = .ok (.iload_n 2, 1) := by decide +kernel
theorem pd_5 : parseMethodDescriptor "([CI[BII)I" = some ⟨[(.array .char), .int, (.array .byte), .int, .int], some .int⟩ := by decide +kernel
theorem d5_9 : decode jdk_52_method_16_code 9 = .ok (.invokestatic 115, 3) := by decide +kernel
theorem d5_12 : decode jdk_52_method_16_code 12 = .ok (.istore 4, 2) := by decide +kernel
theorem d5_14 : decode jdk_52_method_16_code 14 = .ok (.iload 4, 2) := by decide +kernel
theorem d5_16 : decode jdk_52_method_16_code 16 = .ok (.iload_n 2, 1) := by decide +kernel
theorem d5_17 : decode jdk_52_method_16_code 17 = .ok (.if_icmp .eq 40, 3) := by decide +kernel
theorem d5_20 : decode jdk_52_method_16_code 20 = .ok (.aload_n 0, 1) := by decide +kernel
theorem d5_21 : decode jdk_52_method_16_code 21 = .ok (.iload_n 1, 1) := by decide +kernel
theorem d5_22 : decode jdk_52_method_16_code 22 = .ok (.iload_n 2, 1) := by decide +kernel
theorem pd_4 : parseMethodDescriptor "([CII)[B" = some ⟨[(.array .char), .int, .int], some (.array .byte)⟩ := by decide +kernel
theorem d5_23 : decode jdk_52_method_16_code 23 = .ok (.invokestatic 119, 3) := by decide +kernel
theorem d5_26 : decode jdk_52_method_16_code 26 = .ok (.astore 5, 2) := by decide +kernel
theorem d5_28 : decode jdk_52_method_16_code 28 = .ok (.aload 5, 2) := by decide +kernel
theorem d5_30 : decode jdk_52_method_16_code 30 = .ok (.iload 4, 2) := by decide +kernel
theorem pd_29 : parseMethodDescriptor "([BI)C" = some ⟨[(.array .byte), .int], some .char⟩ := by decide +kernel
theorem d5_32 : decode jdk_52_method_16_code 32 = .ok (.invokestatic 71, 3) := by decide +kernel
theorem d5_35 : decode jdk_52_method_16_code 35 = .ok (.sipush 255, 3) := by decide +kernel
theorem d5_38 : decode jdk_52_method_16_code 38 = .ok (.if_icmp .gt 16, 3) := by decide +kernel
theorem d5_54 : decode jdk_52_method_16_code 54 = .ok (.aload 5, 2) := by decide +kernel
theorem d5_56 : decode jdk_52_method_16_code 56 = .ok (.areturn, 1) := by decide +kernel
theorem rmC3 (l : Launch) (Z : State) (a0 : Array Value) (hw : HW Z a0) (ws : List Jvm.Cond) (ra : Addr) (ka : ClassId) (n : Nat) (cs : List Int32) (k : Nat) (h0 : Heap) (n0 : Nat) (O0 : Old Z n0 h0) (SAs : Sta Z Z.heap "java/lang/StringUTF16" "$assertionsDisabled" "Z" (.int (1 : Int32))) (SHi : Sta Z Z.heap "java/lang/StringUTF16" "HI_BYTE_SHIFT" "I" (.int (0 : Int32))) (SLo : Sta Z Z.heap "java/lang/StringUTF16" "LO_BYTE_SHIFT" "I" (.int (8 : Int32))) (hn : n ≤ 16) (hl : cs.length = n) (hk : k < n) (hlow : ∀ i, i < k → ¬ (255 : Int32) < cs.getD i 0) (hhigh : (255 : Int32) < cs.getD k 0) (hp : ∀ c ∈ cs, ¬ c < 0 ∧ ¬ (65535 : Int32) < c) (Va : Arv Z h0 ra ka .char (Int32.ofNat n) (cs.map Value.int) (.int (0 : Int32))) :
    MF l Z y_6 jdk_52_method_16_code 6 (some (.array .byte)) ws ({ frames := 3, cells := 2, slots := 48, locals := 100 } : Room) #[(.ref ra), (.int (0 : Int32)), (.int (Int32.ofNat n))] h0 (Q_rmC3 Z n cs h0 n0) := by
  refine MetFree.of_bodySF (plainFor_of_name pn_StringUTF16) hisR ?_
  intro p e s m args below meth c s₁ Bd hml0 hP hK
  obtain ⟨rfl, hZ, hh⟩ := hP
  have hx := Bd.exec
  have hby := Bd.bytes
  have hml : c.maxLocals = 6 := hml0
  have hown : s.vm.findClass "java/lang/StringUTF16" = some m.cls := findClass_of_methodNamed Bd.named
  have hnm := (name_of_methodNamed Bd.named Bd.method).1
  have X0 : Stand p l e ({ frames := 3, cells := 2, slots := 48, locals := 100 } : Room) s m #[(.ref ra), (.int (0 : Int32)), (.int (Int32.ofNat n))] below meth c s₁ [] 0 0 := Stand.of_body Bd
  have e0 : s₁.heap = h0 := by rw [← hh, Bd.state]; rfl
  have N0 := Fr.nil n0
  obtain ⟨S0, hS0⟩ : ∃ z, z = s₁.setTop (entryFrame m #[(.ref ra), (.int (0 : Int32)), (.int (Int32.ofNat n))] 6) := ⟨_, rfl⟩
  have k0 : Rch p e below S0 s₁ (mkF m 0 #[vR ra, vI 0, vI (Int32.ofNat n), vU, vU, vU] []) := fun t kq => hS0 ▸ castTop (ef_5 m ra (0 : Int32) (Int32.ofNat n)) kq
  have K0 : Keep h0 h0 [] := Keep.refl h0 _
  have k69 : Rch p e below S0 s₁ (mkF m 1 #[vR ra, vI 0, vI (Int32.ofNat n), vU, vU, vU] [(.int (Int32.ofNat n))]) := fun t h => k0 t (by
      refine XS.iloadN X0.here hx rfl (hb hby d5_0) rfl ?_
      exact h)
  obtain ⟨T68, h68, k68, X68, e68, E68, A68, st68⟩ := newP X0 hx hZ (hw _ (gm 20 rfl)) e0 (g := (mkF m 1 #[vR ra, vI 0, vI (Int32.ofNat n), vU, vU, vU] [(.int (Int32.ofNat n))])) rfl (hb hby d5_1) rfl (own_on0 (by omega)) (cap := 16) (by rw [(own_tn (by omega)).1]; omega) (by decide) (by decide) (by decide)
  obtain ⟨b68, g68⟩ : ∃ z, z = h0.size := ⟨_, rfl⟩
  rw [← g68] at A68 st68
  have k70 : Rch p e below S0 T68 (mkF m 3 #[vR ra, vI 0, vI (Int32.ofNat n), vU, vU, vU] [(.ref b68)]) := fun t h => k69 t (st68 t h)
  have ne_ra_b68 : ra ≠ b68 := own_ne Va.lt (Nat.le_of_eq g68.symm)
  have ge_b68 : n0 ≤ b68 := own_ge O0 (Nat.le_of_eq g68.symm)
  have sz_b68 : h0.size ≤ b68 := Nat.le_trans K0.1 (Nat.le_of_eq g68.symm)
  have O71 := O0.ext E68
  have K72 := K0.ext E68
  replace Va := Va.ext E68
  have V_b68 : Arv Z h68 b68 k68 .byte (Int32.ofNat n) [] (.int (0 : Int32)) := Arv.new A68 (own_on0 (by omega))
  have k73 : Rch p e below S0 T68 (mkF m 9 #[vR ra, vI 0, vI (Int32.ofNat n), vR b68, vU, vU] [(.int (Int32.ofNat n)), (.int (0 : Int32)), (.ref b68), (.int (0 : Int32)), (.ref ra)]) := fun t h => k70 t (by
      refine XS.astoreN X68.here hx rfl (hb hby d5_3) rfl rfl (l' := #[vR ra, vI 0, vI (Int32.ofNat n), vR b68, vU, vU]) rfl ?_
      refine XS.aloadN X68.here hx rfl (hb hby d5_4) rfl rfl ?_
      refine XS.iloadN X68.here hx rfl (hb hby d5_5) rfl ?_
      refine XS.aloadN X68.here hx rfl (hb hby d5_6) rfl rfl ?_
      refine XS.iconst X68.here hx rfl (hb hby d5_7) ?_
      refine XS.iloadN X68.here hx rfl (hb hby d5_8) rfl ?_
      exact h)
  have Vp : Arv Z h68 b68 k68 .byte (Int32.ofNat n) (List.replicate n (.int (0 : Int32))) (.int (0 : Int32)) := by
    have q := V_b68.pad (pad_rep [] (.int (0 : Int32)) n)
    rwa [List.nil_append] at q
  obtain ⟨_, _, ⟨T74, L74, kk74, n74⟩, -, X74, ⟨Lc74, hQ74, l74, y74, z74⟩, st74⟩ := Jvm.LawKit.callS X68 hx (y := y_5) hown (mvT hZ (hw _ (gm 32 rfl))) (mvT hZ (hw _ (gm 33 rfl))) (mvT hZ (hw _ (gm 30 rfl))) (mvT hZ (hw _ (gm 34 rfl))) (by decide) (backOf (W := 0) (rmC5 l Z a0 hw [] ra b68 ka k68 n cs k h68 n0 O71 ge_b68 ne_ra_b68 hn hl hk hlow hhigh Va Vp) hZ (hw _ (gm 34 rfl)) (hw _ (gm 30 rfl)) (by decide) (by decide)) (g := (mkF m 9 #[vR ra, vI 0, vI (Int32.ofNat n), vR b68, vU, vU] [(.int (Int32.ofNat n)), (.int (0 : Int32)), (.ref b68), (.int (0 : Int32)), (.ref ra)])) rfl (by rw [hml]; rfl) (argsL := [(.ref ra), (.int (0 : Int32)), (.ref b68), (.int (0 : Int32)), (.int (Int32.ofNat n))]) (rest := []) (lenOf pd_5 rfl) rfl (by show 2 * 0 + _ ≤ _; exact Nat.le_of_eq rfl) (hb hby d5_9) (fun _ _ => ⟨rfl, e68, (by decide : 1 + 0 ≤ _), (by decide : 16 + 0 ≤ _)⟩)
  dsimp only [Pt.U, Pt.locs, Pt.cells, Pt.slots] at X74 l74 y74 z74 st74 hQ74
  subst l74 y74 z74
  obtain ⟨rfl, Nq74, K74⟩ := hQ74
  have N74 := Fr.app N0 Nq74
  have k75 : Rch p e below S0 T74 (mkF m 12 #[vR ra, vI 0, vI (Int32.ofNat n), vR b68, vU, vU] [(.int (Int32.ofNat k))]) := fun t h => k73 t (st74 t h)
  have O76 := O71.keep K74 (allS ge_b68 all0)
  have K77 := K72.trans K74 (allS (Or.inr sz_b68) all0)
  replace Va := Va.keep K74 (ninS ne_ra_b68 nin0)
  have k78 : Rch p e below S0 T74 (mkF m 23 #[vR ra, vI 0, vI (Int32.ofNat n), vR b68, vI (Int32.ofNat k), vU] [(.int (Int32.ofNat n)), (.int (0 : Int32)), (.ref ra)]) := fun t h => k75 t (by
      refine XS.istore X74.here hx rfl (hb hby d5_12) rfl (l' := #[vR ra, vI 0, vI (Int32.ofNat n), vR b68, vI (Int32.ofNat k), vU]) rfl ?_
      refine XS.iload X74.here hx rfl (hb hby d5_14) rfl ?_
      refine XS.iloadN X74.here hx rfl (hb hby d5_16) rfl ?_
      refine XS.icmpNo X74.here hx rfl (hb hby d5_17) rfl (feq ((fun q => by have := congrArg Int32.toInt q; rw [(own_tn (by omega)).2, (own_tn (by omega)).2] at this; omega) : ¬ ((Int32.ofNat k) = (Int32.ofNat n)))).1 ?_
      refine XS.aloadN X74.here hx rfl (hb hby d5_20) rfl rfl ?_
      refine XS.iloadN X74.here hx rfl (hb hby d5_21) rfl ?_
      refine XS.iloadN X74.here hx rfl (hb hby d5_22) rfl ?_
      exact h)
  obtain ⟨_, _, ⟨T79, L79, kk79, n79⟩, -, X79, ⟨Lc79, hQ79, l79, y79, z79⟩, st79⟩ := Jvm.LawKit.callS X74 hx (y := y_4) hown (mvT hZ (hw _ (gm 189 rfl))) (mvT hZ (hw _ (gm 190 rfl))) (mvT hZ (hw _ (gm 30 rfl))) (mvT hZ (hw _ (gm 191 rfl))) (by decide) (backOf (W := 0) (rmTO l Z a0 hw [] ra ka n cs T74.heap n0 O76 SAs SHi SLo hn hl Va) hZ (hw _ (gm 191 rfl)) (hw _ (gm 30 rfl)) (by decide) (by decide)) (g := (mkF m 23 #[vR ra, vI 0, vI (Int32.ofNat n), vR b68, vI (Int32.ofNat k), vU] [(.int (Int32.ofNat n)), (.int (0 : Int32)), (.ref ra)])) rfl (by rw [hml]; rfl) (argsL := [(.ref ra), (.int (0 : Int32)), (.int (Int32.ofNat n))]) (rest := []) (lenOf pd_4 rfl) rfl (by show 2 * 0 + _ ≤ _; exact Nat.le_of_eq rfl) (hb hby d5_23) (fun _ _ => ⟨rfl, rfl, (by decide : 1 + 1 ≤ _), (by decide : 16 + 32 ≤ _)⟩)
  dsimp only [Pt.U, Pt.locs, Pt.cells, Pt.slots] at X79 l79 y79 z79 st79 hQ79
  subst l79 y79 z79
  obtain ⟨b79, kb79, vs79, rfl, Nq79, E79, z79, hl79, hv79, V79⟩ := hQ79
  have N79 := Fr.app N74 Nq79
  have k80 : Rch p e below S0 T79 (mkF m 26 #[vR ra, vI 0, vI (Int32.ofNat n), vR b68, vI (Int32.ofNat k), vU] [(.ref b79)]) := fun t h => k78 t (st79 t h)
  have zz : h0.size ≤ b79 := Nat.le_trans K77.1 z79
  have O81 := O76.ext E79
  have K82 := K77.ext E79
  replace Va := Va.ext E79
  have k83 : Rch p e below S0 T79 (mkF m 32 #[vR ra, vI 0, vI (Int32.ofNat n), vR b68, vI (Int32.ofNat k), vR b79] [(.int (Int32.ofNat k)), (.ref b79)]) := fun t h => k80 t (by
      refine XS.astore X79.here hx rfl (hb hby d5_26) rfl rfl (l' := #[vR ra, vI 0, vI (Int32.ofNat n), vR b68, vI (Int32.ofNat k), vR b79]) rfl ?_
      refine XS.aload X79.here hx rfl (hb hby d5_28) rfl rfl ?_
      refine XS.iload X79.here hx rfl (hb hby d5_30) rfl ?_
      exact h)
  obtain ⟨_, _, ⟨T84, L84, kk84, n84⟩, -, X84, ⟨Lc84, hQ84, l84, y84, z84⟩, st84⟩ := Jvm.LawKit.callS X79 hx (y := y_3) hown (mvT hZ (hw _ (gm 205 rfl))) (mvT hZ (hw _ (gm 206 rfl))) (mvT hZ (hw _ (gm 30 rfl))) (mvT hZ (hw _ (gm 207 rfl))) (by decide) (backOf (W := 0) (rmGC l Z a0 hw [] b79 k kb79 n vs79 (cs.getD k 0) T79.heap n0 O81 SAs SHi SLo hn hk (own_memD cs _ hp k (by omega)) (hv79 k hk).1 (hv79 k hk).2 V79) hZ (hw _ (gm 207 rfl)) (hw _ (gm 30 rfl)) (by decide) (by decide)) (g := (mkF m 32 #[vR ra, vI 0, vI (Int32.ofNat n), vR b68, vI (Int32.ofNat k), vR b79] [(.int (Int32.ofNat k)), (.ref b79)])) rfl (by rw [hml]; rfl) (argsL := [(.ref b79), (.int (Int32.ofNat k))]) (rest := []) (lenOf pd_29 rfl) rfl (by show 2 * 0 + _ ≤ _; exact Nat.le_of_eq rfl) (hb hby d5_32) (fun _ _ => ⟨rfl, rfl, (by decide : 2 + 0 ≤ _), (by decide : 48 + 0 ≤ _)⟩)
  dsimp only [Pt.U, Pt.locs, Pt.cells, Pt.slots] at X84 l84 y84 z84 st84 hQ84
  subst l84 y84 z84
  obtain ⟨rfl, Nq84, hh84⟩ := hQ84
  have N84 := Fr.app N79 Nq84
  have k85 : Rch p e below S0 T84 (mkF m 35 #[vR ra, vI 0, vI (Int32.ofNat n), vR b68, vI (Int32.ofNat k), vR b79] [(.int (cs.getD k 0))]) := fun t h => k83 t (st84 t h)
  have k86 : Rch p e below S0 T84 (mkF m 56 #[vR ra, vI 0, vI (Int32.ofNat n), vR b68, vI (Int32.ofNat k), vR b79] [(.ref b79)]) := fun t h => k85 t (by
      refine XS.sipush X84.here hx rfl (hb hby d5_35) ?_
      refine XS.icmpYes X84.here hx rfl (pc0 := 38) (pc' := 54) rfl (hb hby d5_38) rfl (tlt (hhigh : (255 : Int32) < (cs.getD k 0))).2.2.1 (by decide) (by decide) ?_
      refine XS.aload X84.here hx rfl (hb hby d5_54) rfl rfl ?_
      exact h)
  obtain ⟨fs, hr, hrun, hended, hW, hsame⟩ := X84.leave (v := (some (.ref b79))) (fun h => by rw [Bd.returns] at h; cases h)
  refine ⟨_, _, ?_, hrun, hended, _, _, rfl, ?_, ⟨_, rfl⟩, hW, hsame.mono (by decide) (by decide)⟩
  · rw [← hS0]
    refine k86 _ ?_
    show Steps p.tables e below (T84.setTop (mkF m 56 #[vR ra, vI 0, vI (Int32.ofNat n), vR b68, vI (Int32.ofNat k), vR b79] [(.ref b79)])) _
    jvm_step X84.here [X84.here.top, hx, (hb hby d5_56), X84.method', Bd.returns, Value.isRef, FieldType.isReference]
    first | (intro acts; rw [hr _ acts rfl rfl rfl]) | rw [hr _ _ rfl rfl rfl]
    exact Steps.refl _
  · show Q_rmC3 Z n cs h0 n0 _ T84.heap _
    rw [hh84]
    exact ⟨b79, kb79, vs79, rfl, N84, own_ext K82, zz, hl79, hv79, V79⟩
def Q_rmCL (Z : State)  (h0 : Heap) (n0 : Nat) (v : Option Value) (h : Heap) (L : List Loc) : Prop := v = some (.int (1 : Int32)) ∧ Fr n0 L ∧ h = h0
abbrev y_7 : MethodName := ⟨"java/lang/StringUTF16", "coderFromArrayLen", "([BI)B"⟩
theorem ef_7 (m : MethodId) (x0 : Addr) (x1 : Int32) : entryFrame m #[(.ref x0), (.int x1)] 2 = mkF m 0 #[.val (.ref x0), .val (.int x1)] [] := by first | (simp [entryFrame, mkF, argsToLocals, Value.category]; done) | rfl
theorem d7_0 : decode jdk_52_method_15_code 0 = .ok (.iload_n 1, 1) := by decide +kernel
theorem d7_1 : decode jdk_52_method_15_code 1 = .ok (.aload_n 0, 1) := by decide +kernel
theorem d7_2 : decode jdk_52_method_15_code 2 = .ok (.arraylength, 1) := by decide +kernel
theorem d7_3 : decode jdk_52_method_15_code 3 = .ok (.isub, 1) := by decide +kernel
theorem d7_4 : decode jdk_52_method_15_code 4 = .ok (.bipush 31, 2) := by decide +kernel
theorem d7_6 : decode jdk_52_method_15_code 6 = .ok (.iushr, 1) := by decide +kernel
theorem d7_7 : decode jdk_52_method_15_code 7 = .ok (.i2b, 1) := by decide +kernel
theorem d7_8 : decode jdk_52_method_15_code 8 = .ok (.ireturn, 1) := by decide +kernel
theorem rmCL (l : Launch) (Z : State) (a0 : Array Value) (hw : HW Z a0) (ws : List Jvm.Cond) (rb : Addr) (kb : ClassId) (n : Nat) (vs : List Value) (h0 : Heap) (n0 : Nat) (O0 : Old Z n0 h0) (h1 : 0 < n) (hn : n ≤ 16) (Vb : Arv Z h0 rb kb .byte (Int32.ofNat (2 * n)) vs (.int (0 : Int32))) :
    MF l Z y_7 jdk_52_method_15_code 2 (some .byte) ws ({ frames := 0, cells := 0, slots := 0, locals := 0 } : Room) #[(.ref rb), (.int (Int32.ofNat n))] h0 (Q_rmCL Z  h0 n0) := by
  refine MetFree.of_bodySF (plainFor_of_name pn_StringUTF16) hisR ?_
  intro p e s m args below meth c s₁ Bd hml0 hP hK
  obtain ⟨rfl, hZ, hh⟩ := hP
  have hx := Bd.exec
  have hby := Bd.bytes
  have hml : c.maxLocals = 2 := hml0
  have hown : s.vm.findClass "java/lang/StringUTF16" = some m.cls := findClass_of_methodNamed Bd.named
  have hnm := (name_of_methodNamed Bd.named Bd.method).1
  have X0 : Stand p l e ({ frames := 0, cells := 0, slots := 0, locals := 0 } : Room) s m #[(.ref rb), (.int (Int32.ofNat n))] below meth c s₁ [] 0 0 := Stand.of_body Bd
  have e0 : s₁.heap = h0 := by rw [← hh, Bd.state]; rfl
  have N0 := Fr.nil n0
  obtain ⟨S0, hS0⟩ : ∃ z, z = s₁.setTop (entryFrame m #[(.ref rb), (.int (Int32.ofNat n))] 2) := ⟨_, rfl⟩
  have k0 : Rch p e below S0 s₁ (mkF m 0 #[vR rb, vI (Int32.ofNat n)] []) := fun t kq => hS0 ▸ castTop (ef_7 m rb (Int32.ofNat n)) kq
  have k88 : Rch p e below S0 s₁ (mkF m 2 #[vR rb, vI (Int32.ofNat n)] [(.ref rb), (.int (Int32.ofNat n))]) := fun t h => k0 t (by
      refine XS.iloadN X0.here hx rfl (hb hby d7_0) rfl ?_
      refine XS.aloadN X0.here hx rfl (hb hby d7_1) rfl rfl ?_
      exact h)
  obtain ⟨cl87, Ar87, q87, Sz87, Ng87, Hs87, G87⟩ := id Vb
  have k89 : Rch p e below S0 s₁ (mkF m 8 #[vR rb, vI (Int32.ofNat n)] [(.int (1 : Int32))]) := fun t h => k88 t (by
      refine X0.arraylength hx (by rw [e0]; exact Ar87.1) (State.isArrayOf_alike hZ.alike Ar87.2.1) (g := (mkF m 2 #[vR rb, vI (Int32.ofNat n)] [(.ref rb), (.int (Int32.ofNat n))])) rfl rfl (hb hby d7_2) _ ?_
      rw [len_of Sz87 Ng87]
      refine XS.isub X0.here hx rfl (hb hby d7_3) rfl ?_
      refine XS.bipush X0.here hx rfl (hb hby d7_4) ?_
      show Steps p.tables e below (s₁.setTop (mkF m 6 #[vR rb, vI (Int32.ofNat n)] [(.int (31 : Int32)), (.int ((Int32.ofNat n) - (Int32.ofNat (2 * n))))])) _
      refine XS.iushr X0.here hx rfl (hb hby d7_6) rfl ?_
      rw [own_coder h1 (by omega)]
      show Steps p.tables e below (s₁.setTop (mkF m 7 #[vR rb, vI (Int32.ofNat n)] [(.int (1 : Int32))])) _
      refine XS.i2b X0.here hx rfl (hb hby d7_7) rfl ?_
      rw [(by decide : (1 : Int32).toInt8.toInt32 = 1)]
      exact h)
  obtain ⟨fs, hr, hrun, hended, hW, hsame⟩ := X0.leave (v := (some (.int (nar .byte (1 : Int32))))) (fun h => by rw [Bd.returns] at h; cases h)
  refine ⟨_, _, ?_, hrun, hended, _, _, rfl, ?_, ⟨_, rfl⟩, hW, hsame.mono (by decide) (by decide)⟩
  · rw [← hS0]
    refine k89 _ ?_
    show Steps p.tables e below (s₁.setTop (mkF m 8 #[vR rb, vI (Int32.ofNat n)] [(.int (1 : Int32))])) _
    exact retN X0 hx (t := .byte) Bd.returns (by simp) (hb hby d7_8) hr
  · show Q_rmCL Z  h0 n0 _ s₁.heap _
    rw [e0]
    exact ⟨rfl, N0, rfl⟩
def Q_rmU4 (Z : State) (a1 : Addr) (n : Nat) (cs : List Int32) (h0 : Heap) (n0 : Nat) (v : Option Value) (h : Heap) (L : List Loc) : Prop := v = none ∧ Fr n0 L ∧ Keep h0 h [a1] ∧ ∃ t kt vs, Fld Z h a1 "java/lang/String" "value" "[B" (.ref t) ∧ Fld Z h a1 "java/lang/String" "coder" "B" (.int (1 : Int32)) ∧ vs.length = 2 * n ∧ (∀ q, q < n → vs.getD (2 * q) (.int (0 : Int32)) = .int (own_lo (cs.getD q 0)) ∧ vs.getD (2 * q + 1) (.int (0 : Int32)) = .int (own_hi (cs.getD q 0))) ∧ Arv Z h t kt .byte (Int32.ofNat (2 * n)) vs (.int (0 : Int32))
abbrev y_8 : MethodName := ⟨"java/lang/String", "<init>", "([CIILjava/lang/Void;)V"⟩
theorem ef_3n (m : MethodId) (x0 : Addr) (x1 : Addr) (x2 : Int32) (x3 : Int32) : entryFrame m #[(.ref x0), (.ref x1), (.int x2), (.int x3), .null] 6 = mkF m 0 #[.val (.ref x0), .val (.ref x1), .val (.int x2), .val (.int x3), .val .null, .unset] [] := by first | (simp [entryFrame, mkF, argsToLocals, Value.category]; done) | rfl
theorem pn_String : plainName "java/lang/String" = true := by first | (simp [plainName, overriddenIn]; done) | decide +kernel
theorem d3_0 : decode jdk_42_method_149_code 0 = .ok (.aload_n 0, 1) := by decide +kernel
theorem d3_1 : decode jdk_42_method_149_code 1 = .ok (.invokespecial 1, 3) := by decide +kernel
theorem d3_4 : decode jdk_42_method_149_code 4 = .ok (.iload_n 3, 1) := by decide +kernel
theorem d3_5 : decode jdk_42_method_149_code 5 = .ok (.ifCond .ne 22, 3) := by decide +kernel
theorem d3_27 : decode jdk_42_method_149_code 27 = .ok (.getstatic 38, 3) := by decide +kernel
theorem d3_30 : decode jdk_42_method_149_code 30 = .ok (.ifCond .eq 28, 3) := by decide +kernel
theorem d3_33 : decode jdk_42_method_149_code 33 = .ok (.aload_n 1, 1) := by decide +kernel
theorem d3_34 : decode jdk_42_method_149_code 34 = .ok (.iload_n 2, 1) := by decide +kernel
theorem d3_35 : decode jdk_42_method_149_code 35 = .ok (.iload_n 3, 1) := by decide +kernel
theorem d3_36 : decode jdk_42_method_149_code 36 = .ok (.invokestatic 177, 3) := by decide +kernel
theorem d3_39 : decode jdk_42_method_149_code 39 = .ok (.astore 5, 2) := by decide +kernel
theorem d3_41 : decode jdk_42_method_149_code 41 = .ok (.aload_n 0, 1) := by decide +kernel
theorem d3_42 : decode jdk_42_method_149_code 42 = .ok (.aload 5, 2) := by decide +kernel
theorem d3_44 : decode jdk_42_method_149_code 44 = .ok (.iload_n 3, 1) := by decide +kernel
theorem pd_6 : parseMethodDescriptor "([BI)B" = some ⟨[(.array .byte), .int], some .byte⟩ := by decide +kernel
theorem d3_45 : decode jdk_42_method_149_code 45 = .ok (.invokestatic 47, 3) := by decide +kernel
theorem d3_48 : decode jdk_42_method_149_code 48 = .ok (.putfield 15, 3) := by decide +kernel
theorem d3_51 : decode jdk_42_method_149_code 51 = .ok (.aload_n 0, 1) := by decide +kernel
theorem d3_52 : decode jdk_42_method_149_code 52 = .ok (.aload 5, 2) := by decide +kernel
theorem d3_54 : decode jdk_42_method_149_code 54 = .ok (.putfield 9, 3) := by decide +kernel
theorem d3_57 : decode jdk_42_method_149_code 57 = .ok (.return_, 1) := by decide +kernel
theorem rmU4 (l : Launch) (Z : State) (a0 : Array Value) (hw : HW Z a0) (ws : List Jvm.Cond) (a1 : Addr) (ra : Addr) (ka : ClassId) (n : Nat) (cs : List Int32) (k : Nat) (zC : Int32) (h0 : Heap) (n0 : Nat) (O0 : Old Z n0 h0) (SAs : Sta Z Z.heap "java/lang/StringUTF16" "$assertionsDisabled" "Z" (.int (1 : Int32))) (SHi : Sta Z Z.heap "java/lang/StringUTF16" "HI_BYTE_SHIFT" "I" (.int (0 : Int32))) (SLo : Sta Z Z.heap "java/lang/StringUTF16" "LO_BYTE_SHIFT" "I" (.int (8 : Int32))) (SC : Sta Z Z.heap "java/lang/String" "COMPACT_STRINGS" "Z" (.int zC)) (hzC : ¬ zC = 0) (hn : n ≤ 16) (hl : cs.length = n) (hk : k < n) (hlow : ∀ i, i < k → ¬ (255 : Int32) < cs.getD i 0) (hhigh : (255 : Int32) < cs.getD k 0) (hp : ∀ c ∈ cs, ¬ c < 0 ∧ ¬ (65535 : Int32) < c) (ge_a1 : n0 ≤ a1) (E_a1 : Exa Z h0 a1 "java/lang/String") (F_a1_value : Fld Z h0 a1 "java/lang/String" "value" "[B" .null) (F_a1_coder : Fld Z h0 a1 "java/lang/String" "coder" "B" (.int (0 : Int32))) (ne_ra_a1 : ra ≠ a1) (Va : Arv Z h0 ra ka .char (Int32.ofNat n) (cs.map Value.int) (.int (0 : Int32))) :
    MF l Z y_8 jdk_42_method_149_code 6 none ws ({ frames := 4, cells := 2, slots := 48, locals := 140 } : Room) #[(.ref a1), (.ref ra), (.int (0 : Int32)), (.int (Int32.ofNat n)), .null] h0 (Q_rmU4 Z a1 n cs h0 n0) := by
  refine MetFree.of_bodySF (plainFor_of_name pn_String) hisR ?_
  intro p e s m args below meth c s₁ Bd hml0 hP hK
  obtain ⟨rfl, hZ, hh⟩ := hP
  have hx := Bd.exec
  have hby := Bd.bytes
  have hml : c.maxLocals = 6 := hml0
  have hown : s.vm.findClass "java/lang/String" = some m.cls := findClass_of_methodNamed Bd.named
  have hnm := (name_of_methodNamed Bd.named Bd.method).1
  have X0 : Stand p l e ({ frames := 4, cells := 2, slots := 48, locals := 140 } : Room) s m #[(.ref a1), (.ref ra), (.int (0 : Int32)), (.int (Int32.ofNat n)), .null] below meth c s₁ [] 0 0 := Stand.of_body Bd
  have e0 : s₁.heap = h0 := by rw [← hh, Bd.state]; rfl
  have N0 := Fr.nil n0
  obtain ⟨S0, hS0⟩ : ∃ z, z = s₁.setTop (entryFrame m #[(.ref a1), (.ref ra), (.int (0 : Int32)), (.int (Int32.ofNat n)), .null] 6) := ⟨_, rfl⟩
  have k0 : Rch p e below S0 s₁ (mkF m 0 #[vR a1, vR ra, vI 0, vI (Int32.ofNat n), .val .null, vU] []) := fun t kq => hS0 ▸ castTop (ef_3n m a1 ra (0 : Int32) (Int32.ofNat n)) kq
  have K0 : Keep h0 h0 [a1] := Keep.refl h0 _
  have k91 : Rch p e below S0 s₁ (mkF m 1 #[vR a1, vR ra, vI 0, vI (Int32.ofNat n), .val .null, vU] [(.ref a1)]) := fun t h => k0 t (by
      refine XS.aloadN X0.here hx rfl (hb hby d3_0) rfl rfl ?_
      exact h)
  obtain ⟨T90, X90, e90, st90⟩ := initO X0 hx hZ hown (hw _ (gm 16 rfl)) (hw _ (gm 17 rfl)) (hw _ (gm 18 rfl)) e0 (g := (mkF m 1 #[vR a1, vR ra, vI 0, vI (Int32.ofNat n), .val .null, vU] [(.ref a1)])) rfl (by rw [hml]; rfl) rfl (hb hby d3_1) (by decide) (W := 0) (by show 2 * 0 + _ ≤ _; exact Nat.le_of_eq rfl) (by decide)
  have k92 : Rch p e below S0 T90 (mkF m 4 #[vR a1, vR ra, vI 0, vI (Int32.ofNat n), .val .null, vU] []) := fun t h => k91 t (st90 t h)
  have k94 : Rch p e below S0 T90 (mkF m 27 #[vR a1, vR ra, vI 0, vI (Int32.ofNat n), .val .null, vU] []) := fun t h => k92 t (by
      refine XS.iloadN X90.here hx rfl (hb hby d3_4) rfl ?_
      refine XS.ifYes X90.here hx rfl (pc0 := 5) (pc' := 27) rfl (hb hby d3_5) rfl ((if0 _ _).trans (feq ((fun q => by have := congrArg Int32.toInt q; rw [(own_tn (by omega)).2, show (0 : Int32).toInt = 0 from by decide] at this; omega) : ¬ ((Int32.ofNat n) = (0 : Int32)))).2) (by decide) (by decide) ?_
      exact h)
  obtain ⟨T93, X93, e93, st93⟩ := getS2 X90 hx hZ hown (host := "") (Or.inl (hw _ (gm 27 rfl))) Via.refl e90 (SC.ext O0.2) (g := (mkF m 27 #[vR a1, vR ra, vI 0, vI (Int32.ofNat n), .val .null, vU] [])) rfl (hb hby d3_27)
  have k95 : Rch p e below S0 T93 (mkF m 30 #[vR a1, vR ra, vI 0, vI (Int32.ofNat n), .val .null, vU] [(.int zC)]) := fun t h => k94 t (st93 t h)
  have k96 : Rch p e below S0 T93 (mkF m 36 #[vR a1, vR ra, vI 0, vI (Int32.ofNat n), .val .null, vU] [(.int (Int32.ofNat n)), (.int (0 : Int32)), (.ref ra)]) := fun t h => k95 t (by
      refine XS.ifNo X93.here hx rfl (hb hby d3_30) rfl ((if0 _ _).trans (feq (hzC : ¬ (zC = (0 : Int32)))).1) ?_
      refine XS.aloadN X93.here hx rfl (hb hby d3_33) rfl rfl ?_
      refine XS.iloadN X93.here hx rfl (hb hby d3_34) rfl ?_
      refine XS.iloadN X93.here hx rfl (hb hby d3_35) rfl ?_
      exact h)
  obtain ⟨_, _, ⟨T97, L97, kk97, n97⟩, -, X97, ⟨Lc97, hQ97, l97, y97, z97⟩, st97⟩ := Jvm.LawKit.callS X93 hx (y := y_6) hown (mvT hZ (hw _ (gm 28 rfl))) (mvT hZ (hw _ (gm 29 rfl))) (mvT hZ (hw _ (gm 30 rfl))) (mvT hZ (hw _ (gm 31 rfl))) (by decide) (backOf (W := 0) (rmC3 l Z a0 hw [] ra ka n cs k h0 n0 O0 SAs SHi SLo hn hl hk hlow hhigh hp Va) hZ (hw _ (gm 31 rfl)) (hw _ (gm 30 rfl)) (by decide) (by decide)) (g := (mkF m 36 #[vR a1, vR ra, vI 0, vI (Int32.ofNat n), .val .null, vU] [(.int (Int32.ofNat n)), (.int (0 : Int32)), (.ref ra)])) rfl (by rw [hml]; rfl) (argsL := [(.ref ra), (.int (0 : Int32)), (.int (Int32.ofNat n))]) (rest := []) (lenOf pd_4 rfl) rfl (by show 2 * 0 + _ ≤ _; exact Nat.le_of_eq rfl) (hb hby d3_36) (fun _ _ => ⟨rfl, e93, (by decide : 0 + 2 ≤ _), (by decide : 0 + 48 ≤ _)⟩)
  dsimp only [Pt.U, Pt.locs, Pt.cells, Pt.slots] at X97 l97 y97 z97 st97 hQ97
  subst l97 y97 z97
  obtain ⟨b97, kb97, vs97, rfl, Nq97, E97, z97, hl97, hv97, V97⟩ := hQ97
  have N97 := Fr.app N0 Nq97
  have k98 : Rch p e below S0 T97 (mkF m 39 #[vR a1, vR ra, vI 0, vI (Int32.ofNat n), .val .null, vU] [(.ref b97)]) := fun t h => k96 t (st97 t h)
  have ne_a1_b97 : a1 ≠ b97 := own_ne E_a1.lt z97
  have ne_ra_b97 : ra ≠ b97 := own_ne Va.lt z97
  have ge_b97 : n0 ≤ b97 := own_ge O0 z97
  have sz_b97 : h0.size ≤ b97 := Nat.le_trans K0.1 z97
  have O99 := O0.ext E97
  have K100 := K0.ext E97
  replace E_a1 := E_a1.ext E97
  replace F_a1_value := F_a1_value.ext E97
  replace F_a1_coder := F_a1_coder.ext E97
  replace Va := Va.ext E97
  have k101 : Rch p e below S0 T97 (mkF m 45 #[vR a1, vR ra, vI 0, vI (Int32.ofNat n), .val .null, vR b97] [(.int (Int32.ofNat n)), (.ref b97), (.ref a1)]) := fun t h => k98 t (by
      refine XS.astore X97.here hx rfl (hb hby d3_39) rfl rfl (l' := #[vR a1, vR ra, vI 0, vI (Int32.ofNat n), .val .null, vR b97]) rfl ?_
      refine XS.aloadN X97.here hx rfl (hb hby d3_41) rfl rfl ?_
      refine XS.aload X97.here hx rfl (hb hby d3_42) rfl rfl ?_
      refine XS.iloadN X97.here hx rfl (hb hby d3_44) rfl ?_
      exact h)
  obtain ⟨_, _, ⟨T102, L102, kk102, n102⟩, -, X102, ⟨Lc102, hQ102, l102, y102, z102⟩, st102⟩ := Jvm.LawKit.callS X97 hx (y := y_7) hown (mvT hZ (hw _ (gm 35 rfl))) (mvT hZ (hw _ (gm 36 rfl))) (mvT hZ (hw _ (gm 30 rfl))) (mvT hZ (hw _ (gm 37 rfl))) (by decide) (backOf (W := 1) (rmCL l Z a0 hw [] b97 kb97 n vs97 T97.heap n0 O99 (by omega) hn V97) hZ (hw _ (gm 37 rfl)) (hw _ (gm 30 rfl)) (by decide) (by decide)) (g := (mkF m 45 #[vR a1, vR ra, vI 0, vI (Int32.ofNat n), .val .null, vR b97] [(.int (Int32.ofNat n)), (.ref b97), (.ref a1)])) rfl (by rw [hml]; rfl) (argsL := [(.ref b97), (.int (Int32.ofNat n))]) (rest := [(.ref a1)]) (lenOf pd_6 rfl) rfl (by show 2 * 0 + _ ≤ _; exact Nat.le_of_eq rfl) (hb hby d3_45) (fun _ _ => ⟨rfl, rfl, (by decide : 2 + 0 ≤ _), (by decide : 48 + 0 ≤ _)⟩)
  dsimp only [Pt.U, Pt.locs, Pt.cells, Pt.slots] at X102 l102 y102 z102 st102 hQ102
  subst l102 y102 z102
  obtain ⟨rfl, Nq102, hh102⟩ := hQ102
  have N102 := Fr.app N97 Nq102
  have k103 : Rch p e below S0 T102 (mkF m 48 #[vR a1, vR ra, vI 0, vI (Int32.ofNat n), .val .null, vR b97] [(.int (1 : Int32)), (.ref a1)]) := fun t h => k101 t (st102 t h)
  obtain ⟨T104, h104, X104, e104, W104, st104⟩ := putFN X102 hx hZ hown (hw _ (gm 26 rfl)) Via.refl hh102 F_a1_coder E_a1 (Or.inr ⟨(hw _ (gm 22 rfl)), rfl, hnm⟩) (hw _ (gm 6 rfl)) (ty := .byte) (v' := (.int (1 : Int32))) (by decide) (by decide) (by decide) (g := (mkF m 48 #[vR a1, vR ra, vI 0, vI (Int32.ofNat n), .val .null, vR b97] [(.int (1 : Int32)), (.ref a1)])) rfl rfl (hb hby d3_48)
  have k105 : Rch p e below S0 T104 (mkF m 51 #[vR a1, vR ra, vI 0, vI (Int32.ofNat n), .val .null, vR b97] []) := fun t h => k103 t (st104 t h)
  have N104 := Fr.snoc X104 N102 ge_a1
  replace F_a1_coder := F_a1_coder.same W104
  have O106 := O99.wr W104 ge_a1
  have K107 := K100.wr W104 (Or.inl (gm 0 rfl))
  replace E_a1 := E_a1.wr W104
  replace F_a1_value := F_a1_value.other W104 (Or.inr (slot_ne (Or.inr (hw _ (gm 21 rfl))) (Or.inr (hw _ (gm 22 rfl))) (by decide) (t := (.array .byte)) (t' := .byte) (by decide) (by decide)))
  replace Va := Va.other W104 ne_ra_a1
  replace V97 := V97.other W104 (Ne.symm ne_a1_b97)
  have k109 : Rch p e below S0 T104 (mkF m 54 #[vR a1, vR ra, vI 0, vI (Int32.ofNat n), .val .null, vR b97] [(.ref b97), (.ref a1)]) := fun t h => k105 t (by
      refine XS.aloadN X104.here hx rfl (hb hby d3_51) rfl rfl ?_
      refine XS.aload X104.here hx rfl (hb hby d3_52) rfl rfl ?_
      exact h)
  obtain ⟨T108, h108, X108, e108, W108, st108⟩ := putF X104 hx hZ hown (host := "") (Or.inl (hw _ (gm 25 rfl))) Via.refl e104 F_a1_value E_a1 (Or.inr ⟨(hw _ (gm 21 rfl)), rfl, hnm⟩) (hw _ (gm 6 rfl)) (ty := (.array .byte)) (by decide) rfl rfl (g := (mkF m 54 #[vR a1, vR ra, vI 0, vI (Int32.ofNat n), .val .null, vR b97] [(.ref b97), (.ref a1)])) rfl rfl (hb hby d3_54)
  have k110 : Rch p e below S0 T108 (mkF m 57 #[vR a1, vR ra, vI 0, vI (Int32.ofNat n), .val .null, vR b97] []) := fun t h => k109 t (st108 t h)
  have N108 := Fr.snoc X108 N104 ge_a1
  replace F_a1_value := F_a1_value.same W108
  have O111 := O106.wr W108 ge_a1
  have K112 := K107.wr W108 (Or.inl (gm 0 rfl))
  replace E_a1 := E_a1.wr W108
  replace F_a1_coder := F_a1_coder.other W108 (Or.inr (slot_ne (Or.inr (hw _ (gm 22 rfl))) (Or.inr (hw _ (gm 21 rfl))) (by decide) (t := .byte) (t' := (.array .byte)) (by decide) (by decide)))
  replace Va := Va.other W108 ne_ra_a1
  replace V97 := V97.other W108 (Ne.symm ne_a1_b97)
  obtain ⟨fs, hr, hrun, hended, hW, hsame⟩ := X108.leave (v := none) (fun _ => rfl)
  refine ⟨_, _, ?_, hrun, hended, _, _, rfl, ?_, ⟨_, rfl⟩, hW, hsame.mono (by decide) (by decide)⟩
  · rw [← hS0]
    refine k110 _ ?_
    show Steps p.tables e below (T108.setTop (mkF m 57 #[vR a1, vR ra, vI 0, vI (Int32.ofNat n), .val .null, vR b97] [])) _
    exact X108.returnOut hx Bd.returns (hb hby d3_57) hr
  · show Q_rmU4 Z a1 n cs h0 n0 _ T108.heap _
    rw [e108]
    exact ⟨rfl, N108, K112, _, _, _, F_a1_value, F_a1_coder, hl97, hv97, V97⟩
def Q_rmU1 (Z : State) (a1 : Addr) (n : Nat) (cs : List Int32) (h0 : Heap) (n0 : Nat) (v : Option Value) (h : Heap) (L : List Loc) : Prop := v = none ∧ Fr n0 L ∧ Keep h0 h [a1] ∧ ∃ t kt vs, Fld Z h a1 "java/lang/String" "value" "[B" (.ref t) ∧ Fld Z h a1 "java/lang/String" "coder" "B" (.int (1 : Int32)) ∧ vs.length = 2 * n ∧ (∀ q, q < n → vs.getD (2 * q) (.int (0 : Int32)) = .int (own_lo (cs.getD q 0)) ∧ vs.getD (2 * q + 1) (.int (0 : Int32)) = .int (own_hi (cs.getD q 0))) ∧ Arv Z h t kt .byte (Int32.ofNat (2 * n)) vs (.int (0 : Int32))
abbrev y_9 : MethodName := ⟨"java/lang/String", "<init>", "([C)V"⟩
theorem ef_2 (m : MethodId) (x0 : Addr) (x1 : Addr) : entryFrame m #[(.ref x0), (.ref x1)] 2 = mkF m 0 #[.val (.ref x0), .val (.ref x1)] [] := by first | (simp [entryFrame, mkF, argsToLocals, Value.category]; done) | rfl
theorem d2_0 : decode jdk_42_method_3_code 0 = .ok (.aload_n 0, 1) := by decide +kernel
theorem d2_1 : decode jdk_42_method_3_code 1 = .ok (.aload_n 1, 1) := by decide +kernel
theorem d2_2 : decode jdk_42_method_3_code 2 = .ok (.iconst 0, 1) := by decide +kernel
theorem d2_3 : decode jdk_42_method_3_code 3 = .ok (.aload_n 1, 1) := by decide +kernel
theorem d2_4 : decode jdk_42_method_3_code 4 = .ok (.arraylength, 1) := by decide +kernel
theorem d2_5 : decode jdk_42_method_3_code 5 = .ok (.aconst_null, 1) := by decide +kernel
theorem pd_2 : parseMethodDescriptor "([CIILjava/lang/Void;)V" = some ⟨[(.array .char), .int, .int, (.object "java/lang/Void")], none⟩ := by decide +kernel
theorem d2_6 : decode jdk_42_method_3_code 6 = .ok (.invokespecial 27, 3) := by decide +kernel
theorem d2_9 : decode jdk_42_method_3_code 9 = .ok (.return_, 1) := by decide +kernel
theorem rmU1 (l : Launch) (Z : State) (a0 : Array Value) (hw : HW Z a0) (ws : List Jvm.Cond) (a1 : Addr) (ra : Addr) (ka : ClassId) (n : Nat) (cs : List Int32) (k : Nat) (zC : Int32) (h0 : Heap) (n0 : Nat) (O0 : Old Z n0 h0) (SAs : Sta Z Z.heap "java/lang/StringUTF16" "$assertionsDisabled" "Z" (.int (1 : Int32))) (SHi : Sta Z Z.heap "java/lang/StringUTF16" "HI_BYTE_SHIFT" "I" (.int (0 : Int32))) (SLo : Sta Z Z.heap "java/lang/StringUTF16" "LO_BYTE_SHIFT" "I" (.int (8 : Int32))) (SC : Sta Z Z.heap "java/lang/String" "COMPACT_STRINGS" "Z" (.int zC)) (hzC : ¬ zC = 0) (hn : n ≤ 16) (hl : cs.length = n) (hk : k < n) (hlow : ∀ i, i < k → ¬ (255 : Int32) < cs.getD i 0) (hhigh : (255 : Int32) < cs.getD k 0) (hp : ∀ c ∈ cs, ¬ c < 0 ∧ ¬ (65535 : Int32) < c) (ge_a1 : n0 ≤ a1) (E_a1 : Exa Z h0 a1 "java/lang/String") (F_a1_value : Fld Z h0 a1 "java/lang/String" "value" "[B" .null) (F_a1_coder : Fld Z h0 a1 "java/lang/String" "coder" "B" (.int (0 : Int32))) (ne_ra_a1 : ra ≠ a1) (Va : Arv Z h0 ra ka .char (Int32.ofNat n) (cs.map Value.int) (.int (0 : Int32))) :
    MF l Z y_9 jdk_42_method_3_code 2 none ws ({ frames := 5, cells := 2, slots := 48, locals := 170 } : Room) #[(.ref a1), (.ref ra)] h0 (Q_rmU1 Z a1 n cs h0 n0) := by
  refine MetFree.of_bodySF (plainFor_of_name pn_String) hisR ?_
  intro p e s m args below meth c s₁ Bd hml0 hP hK
  obtain ⟨rfl, hZ, hh⟩ := hP
  have hx := Bd.exec
  have hby := Bd.bytes
  have hml : c.maxLocals = 2 := hml0
  have hown : s.vm.findClass "java/lang/String" = some m.cls := findClass_of_methodNamed Bd.named
  have hnm := (name_of_methodNamed Bd.named Bd.method).1
  have X0 : Stand p l e ({ frames := 5, cells := 2, slots := 48, locals := 170 } : Room) s m #[(.ref a1), (.ref ra)] below meth c s₁ [] 0 0 := Stand.of_body Bd
  have e0 : s₁.heap = h0 := by rw [← hh, Bd.state]; rfl
  have N0 := Fr.nil n0
  obtain ⟨S0, hS0⟩ : ∃ z, z = s₁.setTop (entryFrame m #[(.ref a1), (.ref ra)] 2) := ⟨_, rfl⟩
  have k0 : Rch p e below S0 s₁ (mkF m 0 #[vR a1, vR ra] []) := fun t kq => hS0 ▸ castTop (ef_2 m a1 ra) kq
  have K0 : Keep h0 h0 [a1] := Keep.refl h0 _
  have k114 : Rch p e below S0 s₁ (mkF m 4 #[vR a1, vR ra] [(.ref ra), (.int (0 : Int32)), (.ref ra), (.ref a1)]) := fun t h => k0 t (by
      refine XS.aloadN X0.here hx rfl (hb hby d2_0) rfl rfl ?_
      refine XS.aloadN X0.here hx rfl (hb hby d2_1) rfl rfl ?_
      refine XS.iconst X0.here hx rfl (hb hby d2_2) ?_
      refine XS.aloadN X0.here hx rfl (hb hby d2_3) rfl rfl ?_
      exact h)
  obtain ⟨cl113, Ar113, q113, Sz113, Ng113, Hs113, G113⟩ := id Va
  have k115 : Rch p e below S0 s₁ (mkF m 6 #[vR a1, vR ra] [.null, (.int (Int32.ofNat n)), (.int (0 : Int32)), (.ref ra), (.ref a1)]) := fun t h => k114 t (by
      refine X0.arraylength hx (by rw [e0]; exact Ar113.1) (State.isArrayOf_alike hZ.alike Ar113.2.1) (g := (mkF m 4 #[vR a1, vR ra] [(.ref ra), (.int (0 : Int32)), (.ref ra), (.ref a1)])) rfl rfl (hb hby d2_4) _ ?_
      rw [len_of Sz113 Ng113]
      refine XS.aconstNull X0.here hx rfl (hb hby d2_5) ?_
      exact h)
  obtain ⟨_, _, ⟨T116, L116, kk116, n116⟩, -, X116, ⟨Lc116, hQ116, l116, y116, z116⟩, st116⟩ := X0.specialBack hx (y := y_8) rfl hown (mvT hZ (hw _ (gm 12 rfl))) (mvT hZ (hw _ (gm 13 rfl))) (mvT hZ (hw _ (gm 15 rfl))) (by decide) (backOf (W := 0) (rmU4 l Z a0 hw [] a1 ra ka n cs k zC h0 n0 O0 SAs SHi SLo SC hzC hn hl hk hlow hhigh hp ge_a1 E_a1 F_a1_value F_a1_coder ne_ra_a1 Va) hZ (hw _ (gm 15 rfl)) (hw _ (gm 7 rfl)) (by decide) (by decide)) (g := (mkF m 6 #[vR a1, vR ra] [.null, (.int (Int32.ofNat n)), (.int (0 : Int32)), (.ref ra), (.ref a1)])) rfl (by rw [hml]; rfl) (Steps.refl _) (a := a1) (argsL := [(.ref ra), (.int (0 : Int32)), (.int (Int32.ofNat n)), .null]) (rest := []) (lenOf pd_2 rfl) rfl (by show 2 * 0 + _ ≤ _; exact Nat.le_of_eq rfl) (hb hby d2_6) (fun _ _ => ⟨rfl, e0, (by decide : 0 + 2 ≤ _), (by decide : 0 + 48 ≤ _)⟩)
  dsimp only [Pt.U, Pt.locs, Pt.cells, Pt.slots] at X116 l116 y116 z116 st116 hQ116
  subst l116 y116 z116
  obtain ⟨rfl, Nq116, K116, t116, kt116, vs116, Fv116, Fc116, hl116, hv116, At116⟩ := hQ116
  have N116 := Fr.app N0 Nq116
  have k117 : Rch p e below S0 T116 (mkF m 9 #[vR a1, vR ra] []) := fun t h => k115 t (st116.trans h)
  have O118 := O0.keep K116 (allS ge_a1 all0)
  have K119 := K0.trans K116 (allS (Or.inl (gm 0 rfl)) all0)
  replace E_a1 := E_a1.keep K116
  replace Va := Va.keep K116 (ninS ne_ra_a1 nin0)
  obtain ⟨fs, hr, hrun, hended, hW, hsame⟩ := X116.leave (v := none) (fun _ => rfl)
  refine ⟨_, _, ?_, hrun, hended, _, _, rfl, ?_, ⟨_, rfl⟩, hW, hsame.mono (by decide) (by decide)⟩
  · rw [← hS0]
    refine k117 _ ?_
    show Steps p.tables e below (T116.setTop (mkF m 9 #[vR a1, vR ra] [])) _
    exact X116.returnOut hx Bd.returns (hb hby d2_9) hr
  · show Q_rmU1 Z a1 n cs h0 n0 _ T116.heap _
    exact ⟨rfl, N116, K119, _, _, _, Fv116, Fc116, hl116, hv116, At116⟩
def Q_rmS4 (Z : State) (a1 : Addr) (h0 : Heap) (n0 : Nat) (v : Option Value) (h : Heap) (L : List Loc) : Prop := v = none ∧ Fr n0 L ∧ Keep h0 h [a1] ∧ ∃ t kt, Fld Z h a1 "java/lang/String" "value" "[B" (.ref t) ∧ Fld Z h a1 "java/lang/String" "coder" "B" (.int (0 : Int32)) ∧ Arv Z h t kt .byte (0 : Int32) [] (.int (0 : Int32))
theorem d3_8 : decode jdk_42_method_149_code 8 = .ok (.aload_n 0, 1) := by decide +kernel
theorem d3_9 : decode jdk_42_method_149_code 9 = .ok (.ldc 7, 2) := by decide +kernel
theorem d3_11 : decode jdk_42_method_149_code 11 = .ok (.getfield 9, 3) := by decide +kernel
theorem d3_14 : decode jdk_42_method_149_code 14 = .ok (.putfield 9, 3) := by decide +kernel
theorem d3_17 : decode jdk_42_method_149_code 17 = .ok (.aload_n 0, 1) := by decide +kernel
theorem d3_18 : decode jdk_42_method_149_code 18 = .ok (.ldc 7, 2) := by decide +kernel
theorem d3_20 : decode jdk_42_method_149_code 20 = .ok (.getfield 15, 3) := by decide +kernel
theorem d3_23 : decode jdk_42_method_149_code 23 = .ok (.putfield 15, 3) := by decide +kernel
theorem d3_26 : decode jdk_42_method_149_code 26 = .ok (.return_, 1) := by decide +kernel
theorem rmS4 (l : Launch) (Z : State) (a0 : Array Value) (hw : HW Z a0) (ws : List Jvm.Cond) (a1 : Addr) (a2 : Addr) (h0 : Heap) (n0 : Nat) (O0 : Old Z n0 h0) (ge_a1 : n0 ≤ a1) (E_a1 : Exa Z h0 a1 "java/lang/String") (F_a1_value : Fld Z h0 a1 "java/lang/String" "value" "[B" .null) (F_a1_coder : Fld Z h0 a1 "java/lang/String" "coder" "B" (.int (0 : Int32))) :
    MFC l Z y_8 jdk_42_method_149_code 6 none ws ({ frames := 1, cells := 4, slots := 8, locals := 24 } : Room) #[(.ref a1), (.ref a2), (.int (0 : Int32)), (.int (0 : Int32)), .null] h0 (Q_rmS4 Z a1 h0 n0) := by
  refine MetFree.of_bodySF (plainFor_of_name pn_String) hisR ?_
  intro p e s m args below meth c s₁ Bd hml0 hP hK
  obtain ⟨rfl, hZ, hh, hC0⟩ := hP
  have hx := Bd.exec
  have hby := Bd.bytes
  have hml : c.maxLocals = 6 := hml0
  have hown : s.vm.findClass "java/lang/String" = some m.cls := findClass_of_methodNamed Bd.named
  have hnm := (name_of_methodNamed Bd.named Bd.method).1
  have X0 : Stand p l e ({ frames := 1, cells := 4, slots := 8, locals := 24 } : Room) (s.setVm s.vm) m #[(.ref a1), (.ref a2), (.int (0 : Int32)), (.int (0 : Int32)), .null] below meth c s₁ [] 0 0 := Stand.of_body Bd
  have e0 : s₁.heap = h0 := by rw [← hh, Bd.state]; rfl
  have N0 := Fr.nil n0
  obtain ⟨S0, hS0⟩ : ∃ z, z = s₁.setTop (entryFrame m #[(.ref a1), (.ref a2), (.int (0 : Int32)), (.int (0 : Int32)), .null] 6) := ⟨_, rfl⟩
  have k0 : Rch p e below S0 s₁ (mkF m 0 #[vR a1, vR a2, vI 0, vI 0, .val .null, vU] []) := fun t kq => hS0 ▸ castTop (ef_3n m a1 a2 (0 : Int32) (0 : Int32)) kq
  have K0 : Keep h0 h0 [a1] := Keep.refl h0 _
  have hS : s.Since s.vm s.heap.size := (State.WarmedH.refl s).since _
  have hk : s.heap.size ≤ h0.size := by rw [← hh]; exact Nat.le_refl _
  have hwS : ∀ d ∈ Bundle.stringAtoms, d.before a0 Z = true := fun d hd => hw d ((by decide +kernel : ∀ d ∈ Bundle.stringAtoms, d ∈ tables_1) d hd)
  have rC0 : CHr Z consts_1 s.vm h0 s.vm h0 := CHr.refl hC0
  have hEL : EW Z a0 consts_1 := (EW.cons (hw _ (gm 19 rfl)) (by decide +kernel) EW.nil)
  have sf_a1 : Safe Z consts_1 s.vm h0 a1 := own_safe_null hZ.alike E_a1 F_a1_value (hw _ (gm 6 rfl))
  have k121 : Rch p e below S0 s₁ (mkF m 1 #[vR a1, vR a2, vI 0, vI 0, .val .null, vU] [(.ref a1)]) := fun t h => k0 t (by
      refine XS.aloadN X0.here hx rfl (hb hby d3_0) rfl rfl ?_
      exact h)
  obtain ⟨T120, X120, e120, st120⟩ := initO X0 hx hZ hown (hw _ (gm 16 rfl)) (hw _ (gm 17 rfl)) (hw _ (gm 18 rfl)) e0 (g := (mkF m 1 #[vR a1, vR a2, vI 0, vI 0, .val .null, vU] [(.ref a1)])) rfl (by rw [hml]; rfl) rfl (hb hby d3_1) (by decide) (W := 0) (by show 2 * 0 + _ ≤ _; exact Nat.le_of_eq rfl) (by decide)
  have k122 : Rch p e below S0 T120 (mkF m 4 #[vR a1, vR a2, vI 0, vI 0, .val .null, vU] []) := fun t h => k121 t (st120 t h)
  have k123 : Rch p e below S0 T120 (mkF m 9 #[vR a1, vR a2, vI 0, vI 0, .val .null, vU] [(.ref a1)]) := fun t h => k122 t (by
      refine XS.iloadN X120.here hx rfl (hb hby d3_4) rfl ?_
      refine XS.ifNo X120.here hx rfl (hb hby d3_5) rfl ((if0 _ _).trans (teq (by decide : (0 : Int32) = (0 : Int32))).2) ?_
      refine XS.aloadN X120.here hx rfl (hb hby d3_8) rfl rfl ?_
      exact h)
  obtain ⟨a124, T124, h124, kk124, t124, kt124, X124, e124, E124, hS124, hk124, hZ124, hown124, Ea124, Ca124, Va124, At124, la124, lt124, hR124, hL124, sfa124, st124⟩ := ldcCH X120 hx hZ hown (hw _ (gm 19 rfl)) hwS e120 hS hk hEL (by decide +kernel) hC0 (vs := []) (z := (0 : Int32)) ⟨by decide +kernel, by decide +kernel⟩ (by decide) (by decide) (g := (mkF m 9 #[vR a1, vR a2, vI 0, vI 0, .val .null, vU] [(.ref a1)])) rfl (hb hby d3_9) (n := 0) (by decide +kernel) (by decide) (by decide) (by decide)
  have k125 : Rch p e below S0 T124 (mkF m 11 #[vR a1, vR a2, vI 0, vI 0, .val .null, vU] [(.ref a124), (.ref a1)]) := fun t h => k123 t (st124 t h)
  replace sf_a1 := hR124.safe E_a1.lt sf_a1
  have hC126 := hR124.1
  have rC126 := rC0.trans hR124
  have O127 := O0.ext E124
  have K128 := K0.ext E124
  replace E_a1 := E_a1.ext E124
  replace F_a1_value := F_a1_value.ext E124
  replace F_a1_coder := F_a1_coder.ext E124
  have ne_a1_a124 : a1 ≠ a124 := (sfa124 a1 sf_a1).1
  have ne_a1_t124 : a1 ≠ t124 := (sfa124 a1 sf_a1).2
  obtain ⟨T129, X129, e129, st129⟩ := getF X124 hx hZ124 hown124 (host := "") (Or.inl (hw _ (gm 25 rfl))) Via.refl e124 Va124 (g := (mkF m 11 #[vR a1, vR a2, vI 0, vI 0, .val .null, vU] [(.ref a124), (.ref a1)])) rfl rfl (hb hby d3_11)
  have k130 : Rch p e below S0 T129 (mkF m 14 #[vR a1, vR a2, vI 0, vI 0, .val .null, vU] [(.ref t124), (.ref a1)]) := fun t h => k125 t (st129 t h)
  obtain ⟨T131, h131, X131, e131, W131, st131⟩ := putF X129 hx hZ124 hown124 (host := "") (Or.inl (hw _ (gm 25 rfl))) Via.refl e129 F_a1_value E_a1 (Or.inr ⟨(hw _ (gm 21 rfl)), rfl, hnm⟩) (hw _ (gm 6 rfl)) (ty := (.array .byte)) (by decide) rfl rfl (g := (mkF m 14 #[vR a1, vR a2, vI 0, vI 0, .val .null, vU] [(.ref t124), (.ref a1)])) rfl rfl (hb hby d3_14)
  have k132 : Rch p e below S0 T131 (mkF m 17 #[vR a1, vR a2, vI 0, vI 0, .val .null, vU] []) := fun t h => k130 t (st131 t h)
  have N131 := Fr.snoc X131 N0 ge_a1
  replace F_a1_value := F_a1_value.same W131
  have hC133 := hC126.wr W131 sf_a1
  have rC133 := rC126.trans (CHr.wr W131 sf_a1 hC126)
  replace sf_a1 := Safe.wr W131 sf_a1 hC126 sf_a1
  have O134 := O127.wr W131 ge_a1
  have K135 := K128.wr W131 (Or.inl (gm 0 rfl))
  replace E_a1 := E_a1.wr W131
  replace F_a1_coder := F_a1_coder.other W131 (Or.inr (slot_ne (Or.inr (hw _ (gm 22 rfl))) (Or.inr (hw _ (gm 21 rfl))) (by decide) (t := .byte) (t' := (.array .byte)) (by decide) (by decide)))
  replace Ea124 := Ea124.wr W131
  replace Ca124 := Ca124.other W131 (Or.inl (Ne.symm ne_a1_a124))
  replace Va124 := Va124.other W131 (Or.inl (Ne.symm ne_a1_a124))
  replace At124 := At124.other W131 (Ne.symm ne_a1_t124)
  have hkk136 := Nat.le_trans hk124 (Keep.of_wr W131).1
  have k137 : Rch p e below S0 T131 (mkF m 18 #[vR a1, vR a2, vI 0, vI 0, .val .null, vU] [(.ref a1)]) := fun t h => k132 t (by
      refine XS.aloadN X131.here hx rfl (hb hby d3_17) rfl rfl ?_
      exact h)
  obtain ⟨a138, T138, h138, kk138, t138, kt138, X138, e138, E138, hS138, hk138, hZ138, hown138, Ea138, Ca138, Va138, At138, la138, lt138, hR138, hL138, sfa138, st138⟩ := ldcCH X131 hx hZ124 hown124 (hw _ (gm 19 rfl)) hwS e131 hS124 hkk136 hEL (by decide +kernel) hC133 (vs := []) (z := (0 : Int32)) ⟨by decide +kernel, by decide +kernel⟩ (by decide) (by decide) (g := (mkF m 18 #[vR a1, vR a2, vI 0, vI 0, .val .null, vU] [(.ref a1)])) rfl (hb hby d3_18) (n := 0) (by decide +kernel) (by decide) (by decide) (by decide)
  have k139 : Rch p e below S0 T138 (mkF m 20 #[vR a1, vR a2, vI 0, vI 0, .val .null, vU] [(.ref a138), (.ref a1)]) := fun t h => k137 t (st138 t h)
  replace sf_a1 := hR138.safe E_a1.lt sf_a1
  have hC140 := hR138.1
  have rC140 := rC133.trans hR138
  have O141 := O134.ext E138
  have K142 := K135.ext E138
  replace E_a1 := E_a1.ext E138
  replace F_a1_coder := F_a1_coder.ext E138
  replace F_a1_value := F_a1_value.ext E138
  replace Ea124 := Ea124.ext E138
  replace Ca124 := Ca124.ext E138
  replace Va124 := Va124.ext E138
  replace At124 := At124.ext E138
  have ne_a1_a138 : a1 ≠ a138 := (sfa138 a1 sf_a1).1
  have ne_a1_t138 : a1 ≠ t138 := (sfa138 a1 sf_a1).2
  obtain ⟨T143, X143, e143, st143⟩ := getF X138 hx hZ138 hown138 (host := "") (Or.inl (hw _ (gm 26 rfl))) Via.refl e138 Ca138 (g := (mkF m 20 #[vR a1, vR a2, vI 0, vI 0, .val .null, vU] [(.ref a138), (.ref a1)])) rfl rfl (hb hby d3_20)
  have k144 : Rch p e below S0 T143 (mkF m 23 #[vR a1, vR a2, vI 0, vI 0, .val .null, vU] [(.int (0 : Int32)), (.ref a1)]) := fun t h => k139 t (st143 t h)
  obtain ⟨T145, h145, X145, e145, W145, st145⟩ := putFN X143 hx hZ138 hown138 (hw _ (gm 26 rfl)) Via.refl e143 F_a1_coder E_a1 (Or.inr ⟨(hw _ (gm 22 rfl)), rfl, hnm⟩) (hw _ (gm 6 rfl)) (ty := .byte) (v' := (.int (0 : Int32))) (by decide) (by decide) (by decide) (g := (mkF m 23 #[vR a1, vR a2, vI 0, vI 0, .val .null, vU] [(.int (0 : Int32)), (.ref a1)])) rfl rfl (hb hby d3_23)
  have k146 : Rch p e below S0 T145 (mkF m 26 #[vR a1, vR a2, vI 0, vI 0, .val .null, vU] []) := fun t h => k144 t (st145 t h)
  have N145 := Fr.snoc X145 N131 ge_a1
  replace F_a1_coder := F_a1_coder.same W145
  have hC147 := hC140.wr W145 sf_a1
  have rC147 := rC140.trans (CHr.wr W145 sf_a1 hC140)
  replace sf_a1 := Safe.wr W145 sf_a1 hC140 sf_a1
  have O148 := O141.wr W145 ge_a1
  have K149 := K142.wr W145 (Or.inl (gm 0 rfl))
  replace E_a1 := E_a1.wr W145
  replace F_a1_value := F_a1_value.other W145 (Or.inr (slot_ne (Or.inr (hw _ (gm 21 rfl))) (Or.inr (hw _ (gm 22 rfl))) (by decide) (t := (.array .byte)) (t' := .byte) (by decide) (by decide)))
  replace Ea124 := Ea124.wr W145
  replace Ca124 := Ca124.other W145 (Or.inl (Ne.symm ne_a1_a124))
  replace Va124 := Va124.other W145 (Or.inl (Ne.symm ne_a1_a124))
  replace At124 := At124.other W145 (Ne.symm ne_a1_t124)
  replace Ea138 := Ea138.wr W145
  replace Ca138 := Ca138.other W145 (Or.inl (Ne.symm ne_a1_a138))
  replace Va138 := Va138.other W145 (Or.inl (Ne.symm ne_a1_a138))
  replace At138 := At138.other W145 (Ne.symm ne_a1_t138)
  have hkk150 := Nat.le_trans hk138 (Keep.of_wr W145).1
  obtain ⟨fs, hr, hrun, hended, hfin⟩ := X145.leaveW hS138 (by rw [e145]; exact hkk150) (v := none) (fun _ => rfl)
  refine ⟨_, _, ?_, hrun, hended, _, _, rfl, ?_, (by rw [hh]; have q := own_chr rC147 (CHv.at X145 hZ138 hEL hC147) e145; exact q), hfin.1, hfin.2.1, hfin.2.2.1, hfin.2.2.2.mono (by decide) (by decide)⟩
  · rw [← hS0]
    refine k146 _ ?_
    show Steps p.tables e below (T145.setTop (mkF m 26 #[vR a1, vR a2, vI 0, vI 0, .val .null, vU] [])) _
    exact X145.returnOut hx Bd.returns (hb hby d3_26) hr
  · show Q_rmS4 Z a1 h0 n0 _ T145.heap _
    rw [e145]
    exact ⟨rfl, N145, K149, _, _, F_a1_value, F_a1_coder, At124⟩
def Q_rmS0 (Z : State) (a1 : Addr) (h0 : Heap) (n0 : Nat) (v : Option Value) (h : Heap) (L : List Loc) : Prop := v = none ∧ Fr n0 L ∧ Keep h0 h [a1] ∧ ∃ t kt, Fld Z h a1 "java/lang/String" "value" "[B" (.ref t) ∧ Fld Z h a1 "java/lang/String" "coder" "B" (.int (0 : Int32)) ∧ Arv Z h t kt .byte (0 : Int32) [] (.int (0 : Int32))
theorem rmS0 (l : Launch) (Z : State) (a0 : Array Value) (hw : HW Z a0) (ws : List Jvm.Cond) (a1 : Addr) (a2 : Addr) (ka : ClassId) (h0 : Heap) (n0 : Nat) (O0 : Old Z n0 h0) (ge_a1 : n0 ≤ a1) (E_a1 : Exa Z h0 a1 "java/lang/String") (F_a1_value : Fld Z h0 a1 "java/lang/String" "value" "[B" .null) (F_a1_coder : Fld Z h0 a1 "java/lang/String" "coder" "B" (.int (0 : Int32))) (Va : Arv Z h0 a2 ka .char (0 : Int32) [] (.int (0 : Int32))) :
    MFC l Z y_9 jdk_42_method_3_code 2 none ws ({ frames := 2, cells := 4, slots := 8, locals := 48 } : Room) #[(.ref a1), (.ref a2)] h0 (Q_rmS0 Z a1 h0 n0) := by
  refine MetFree.of_bodySF (plainFor_of_name pn_String) hisR ?_
  intro p e s m args below meth c s₁ Bd hml0 hP hK
  obtain ⟨rfl, hZ, hh, hC0⟩ := hP
  have hx := Bd.exec
  have hby := Bd.bytes
  have hml : c.maxLocals = 2 := hml0
  have hown : s.vm.findClass "java/lang/String" = some m.cls := findClass_of_methodNamed Bd.named
  have hnm := (name_of_methodNamed Bd.named Bd.method).1
  have X0 : Stand p l e ({ frames := 2, cells := 4, slots := 8, locals := 48 } : Room) (s.setVm s.vm) m #[(.ref a1), (.ref a2)] below meth c s₁ [] 0 0 := Stand.of_body Bd
  have e0 : s₁.heap = h0 := by rw [← hh, Bd.state]; rfl
  have N0 := Fr.nil n0
  obtain ⟨S0, hS0⟩ : ∃ z, z = s₁.setTop (entryFrame m #[(.ref a1), (.ref a2)] 2) := ⟨_, rfl⟩
  have k0 : Rch p e below S0 s₁ (mkF m 0 #[vR a1, vR a2] []) := fun t kq => hS0 ▸ castTop (ef_2 m a1 a2) kq
  have K0 : Keep h0 h0 [a1] := Keep.refl h0 _
  have hS : s.Since s.vm s.heap.size := (State.WarmedH.refl s).since _
  have hk : s.heap.size ≤ h0.size := by rw [← hh]; exact Nat.le_refl _
  have hwS : ∀ d ∈ Bundle.stringAtoms, d.before a0 Z = true := fun d hd => hw d ((by decide +kernel : ∀ d ∈ Bundle.stringAtoms, d ∈ tables_1) d hd)
  have rC0 : CHr Z consts_1 s.vm h0 s.vm h0 := CHr.refl hC0
  have hEL : EW Z a0 consts_1 := (EW.cons (hw _ (gm 19 rfl)) (by decide +kernel) EW.nil)
  have sf_a1 : Safe Z consts_1 s.vm h0 a1 := own_safe_null hZ.alike E_a1 F_a1_value (hw _ (gm 6 rfl))
  have k152 : Rch p e below S0 s₁ (mkF m 4 #[vR a1, vR a2] [(.ref a2), (.int (0 : Int32)), (.ref a2), (.ref a1)]) := fun t h => k0 t (by
      refine XS.aloadN X0.here hx rfl (hb hby d2_0) rfl rfl ?_
      refine XS.aloadN X0.here hx rfl (hb hby d2_1) rfl rfl ?_
      refine XS.iconst X0.here hx rfl (hb hby d2_2) ?_
      refine XS.aloadN X0.here hx rfl (hb hby d2_3) rfl rfl ?_
      exact h)
  obtain ⟨cl151, Ar151, q151, Sz151, Ng151, Hs151, G151⟩ := id Va
  have k153 : Rch p e below S0 s₁ (mkF m 6 #[vR a1, vR a2] [.null, (.int (0 : Int32)), (.int (0 : Int32)), (.ref a2), (.ref a1)]) := fun t h => k152 t (by
      refine X0.arraylength hx (by rw [e0]; exact Ar151.1) (State.isArrayOf_alike hZ.alike Ar151.2.1) (g := (mkF m 4 #[vR a1, vR a2] [(.ref a2), (.int (0 : Int32)), (.ref a2), (.ref a1)])) rfl rfl (hb hby d2_4) _ ?_
      rw [len_of Sz151 Ng151]
      refine XS.aconstNull X0.here hx rfl (hb hby d2_5) ?_
      exact h)
  obtain ⟨_, _, ⟨T154, L154, kk154, n154⟩, -, X154, hS154, gr154, ⟨Lc154, hQ154, l154, y154, z154, hR154⟩, st154⟩ := X0.specialBackS hx (y := y_8) rfl hown (mvT hZ (hw _ (gm 12 rfl))) (mvT hZ (hw _ (gm 13 rfl))) (mvT hZ (hw _ (gm 15 rfl))) (by decide) (backOfSH (W := 0) (rmS4 l Z a0 hw [] a1 a2  h0 n0 O0 ge_a1 E_a1 F_a1_value F_a1_coder) hZ (hw _ (gm 15 rfl)) (hw _ (gm 7 rfl)) (by decide) (by decide) hEL hC0) (g := (mkF m 6 #[vR a1, vR a2] [.null, (.int (0 : Int32)), (.int (0 : Int32)), (.ref a2), (.ref a1)])) rfl (by rw [hml]; rfl) (Steps.refl _) (a := a1) (argsL := [(.ref a2), (.int (0 : Int32)), (.int (0 : Int32)), .null]) (rest := []) (lenOf pd_2 rfl) rfl (by show 2 * 0 + _ ≤ _; exact Nat.le_of_eq rfl) (hb hby d2_6) (fun _ _ => ⟨rfl, e0, (by decide : 0 + 4 ≤ _), (by decide : 0 + 8 ≤ _)⟩)
  dsimp only [Pt.U, Pt.locs, Pt.cells, Pt.slots] at X154 l154 y154 z154 st154 hQ154 hS154 gr154 hR154
  subst l154 y154 z154
  have hZ154 : Z.Warmed39 (s.setVm T154.vm).vm := State.Warmed39.trans (t := (s.setVm s.vm)) hZ hS154.1
  have hown154 : (s.setVm T154.vm).vm.findClass "java/lang/String" = some m.cls := by rw [show (s.setVm T154.vm).vm = T154.vm from rfl, hS154.1.alike.findClass]; exact hown
  replace hS154 := foldS hS (by rw [e0]; exact hk) hS154 gr154
  have hk154 := Nat.le_refl T154.heap.size
  replace X154 : Stand p l e ({ frames := 2, cells := 4, slots := 8, locals := 48 } : Room) (s.setVm T154.vm) m #[(.ref a1), (.ref a2)] below meth c T154 _ _ _ := X154
  obtain ⟨rfl, Nq154, K154, t154, kt154, Fv154, Fc154, At154⟩ := hQ154
  have N154 := Fr.app N0 Nq154
  have k155 : Rch p e below S0 T154 (mkF m 9 #[vR a1, vR a2] []) := fun t h => k153 t (st154.trans h)
  have hC156 := hR154.1
  have rC156 := rC0.trans hR154
  have O157 := O0.keep K154 (allS ge_a1 all0)
  have K158 := K0.trans K154 (allS (Or.inl (gm 0 rfl)) all0)
  replace E_a1 := E_a1.keep K154
  obtain ⟨fs, hr, hrun, hended, hfin⟩ := X154.leaveW hS154 (by exact hk154) (v := none) (fun _ => rfl)
  refine ⟨_, _, ?_, hrun, hended, _, _, rfl, ?_, (by rw [hh]; have q := own_chr rC156 (CHv.at X154 hZ154 hEL hC156) rfl; exact q), hfin.1, hfin.2.1, hfin.2.2.1, hfin.2.2.2.mono (by decide) (by decide)⟩
  · rw [← hS0]
    refine k155 _ ?_
    show Steps p.tables e below (T154.setTop (mkF m 9 #[vR a1, vR a2] [])) _
    exact X154.returnOut hx Bd.returns (hb hby d2_9) hr
  · show Q_rmS0 Z a1 h0 n0 _ T154.heap _
    exact ⟨rfl, N154, K158, _, _, Fv154, Fc154, At154⟩
def Q_rmCO (Z : State) (cd : Int32) (h0 : Heap) (n0 : Nat) (v : Option Value) (h : Heap) (L : List Loc) : Prop := v = some (.int (nar .byte cd)) ∧ Fr n0 L ∧ h = h0
abbrev y_10 : MethodName := ⟨"java/lang/String", "coder", "()B"⟩
theorem ef_12 (m : MethodId) (x0 : Addr) : entryFrame m #[(.ref x0)] 1 = mkF m 0 #[.val (.ref x0)] [] := by first | (simp [entryFrame, mkF, argsToLocals, Value.category]; done) | rfl
theorem d12_0 : decode jdk_42_method_152_code 0 = .ok (.getstatic 38, 3) := by decide +kernel
theorem d12_3 : decode jdk_42_method_152_code 3 = .ok (.ifCond .eq 10, 3) := by decide +kernel
theorem d12_6 : decode jdk_42_method_152_code 6 = .ok (.aload_n 0, 1) := by decide +kernel
theorem d12_7 : decode jdk_42_method_152_code 7 = .ok (.getfield 15, 3) := by decide +kernel
theorem d12_10 : decode jdk_42_method_152_code 10 = .ok (.goto 4, 3) := by decide +kernel
theorem d12_14 : decode jdk_42_method_152_code 14 = .ok (.ireturn, 1) := by decide +kernel
theorem rmCO (l : Launch) (Z : State) (a0 : Array Value) (hw : HW Z a0) (ws : List Jvm.Cond) (a1 : Addr) (cd : Int32) (zC : Int32) (h0 : Heap) (n0 : Nat) (O0 : Old Z n0 h0) (SC : Sta Z Z.heap "java/lang/String" "COMPACT_STRINGS" "Z" (.int zC)) (hzC : ¬ zC = 0) (Fc : Fld Z h0 a1 "java/lang/String" "coder" "B" (.int cd)) :
    MF l Z y_10 jdk_42_method_152_code 1 (some .byte) ws ({ frames := 0, cells := 0, slots := 0, locals := 0 } : Room) #[(.ref a1)] h0 (Q_rmCO Z cd h0 n0) := by
  refine MetFree.of_bodySF (plainFor_of_name pn_String) hisR ?_
  intro p e s m args below meth c s₁ Bd hml0 hP hK
  obtain ⟨rfl, hZ, hh⟩ := hP
  have hx := Bd.exec
  have hby := Bd.bytes
  have hml : c.maxLocals = 1 := hml0
  have hown : s.vm.findClass "java/lang/String" = some m.cls := findClass_of_methodNamed Bd.named
  have hnm := (name_of_methodNamed Bd.named Bd.method).1
  have X0 : Stand p l e ({ frames := 0, cells := 0, slots := 0, locals := 0 } : Room) s m #[(.ref a1)] below meth c s₁ [] 0 0 := Stand.of_body Bd
  have e0 : s₁.heap = h0 := by rw [← hh, Bd.state]; rfl
  have N0 := Fr.nil n0
  obtain ⟨S0, hS0⟩ : ∃ z, z = s₁.setTop (entryFrame m #[(.ref a1)] 1) := ⟨_, rfl⟩
  have k0 : Rch p e below S0 s₁ (mkF m 0 #[vR a1] []) := fun t kq => hS0 ▸ castTop (ef_12 m a1) kq
  obtain ⟨T159, X159, e159, st159⟩ := getS2 X0 hx hZ hown (host := "") (Or.inl (hw _ (gm 27 rfl))) Via.refl e0 (SC.ext O0.2) (g := (mkF m 0 #[vR a1] [])) rfl (hb hby d12_0)
  have k160 : Rch p e below S0 T159 (mkF m 3 #[vR a1] [(.int zC)]) := fun t h => k0 t (st159 t h)
  have k162 : Rch p e below S0 T159 (mkF m 7 #[vR a1] [(.ref a1)]) := fun t h => k160 t (by
      refine XS.ifNo X159.here hx rfl (hb hby d12_3) rfl ((if0 _ _).trans (feq (hzC : ¬ (zC = (0 : Int32)))).1) ?_
      refine XS.aloadN X159.here hx rfl (hb hby d12_6) rfl rfl ?_
      exact h)
  obtain ⟨T161, X161, e161, st161⟩ := getF X159 hx hZ hown (host := "") (Or.inl (hw _ (gm 26 rfl))) Via.refl e159 Fc (g := (mkF m 7 #[vR a1] [(.ref a1)])) rfl rfl (hb hby d12_7)
  have k163 : Rch p e below S0 T161 (mkF m 10 #[vR a1] [(.int cd)]) := fun t h => k162 t (st161 t h)
  have k164 : Rch p e below S0 T161 (mkF m 14 #[vR a1] [(.int cd)]) := fun t h => k163 t (by
      refine XS.goto X161.here hx rfl (pc0 := 10) (pc' := 14) rfl (hb hby d12_10) (by decide) (by decide) ?_
      exact h)
  obtain ⟨fs, hr, hrun, hended, hW, hsame⟩ := X161.leave (v := (some (.int (nar .byte cd)))) (fun h => by rw [Bd.returns] at h; cases h)
  refine ⟨_, _, ?_, hrun, hended, _, _, rfl, ?_, ⟨_, rfl⟩, hW, hsame.mono (by decide) (by decide)⟩
  · rw [← hS0]
    refine k164 _ ?_
    show Steps p.tables e below (T161.setTop (mkF m 14 #[vR a1] [(.int cd)])) _
    exact retN X161 hx (t := .byte) Bd.returns (by simp) (hb hby d12_14) hr
  · show Q_rmCO Z cd h0 n0 _ T161.heap _
    rw [e161]
    exact ⟨rfl, N0, rfl⟩
def Q_rmLE (Z : State) (LN : Int32) (h0 : Heap) (n0 : Nat) (v : Option Value) (h : Heap) (L : List Loc) : Prop := v = some (.int LN) ∧ Fr n0 L ∧ h = h0
abbrev y_11 : MethodName := ⟨"java/lang/String", "length", "()I"⟩
theorem ef_11 (m : MethodId) (x0 : Addr) : entryFrame m #[(.ref x0)] 1 = mkF m 0 #[.val (.ref x0)] [] := by first | (simp [entryFrame, mkF, argsToLocals, Value.category]; done) | rfl
theorem d11_0 : decode jdk_42_method_54_code 0 = .ok (.aload_n 0, 1) := by decide +kernel
theorem d11_1 : decode jdk_42_method_54_code 1 = .ok (.getfield 9, 3) := by decide +kernel
theorem d11_4 : decode jdk_42_method_54_code 4 = .ok (.arraylength, 1) := by decide +kernel
theorem d11_5 : decode jdk_42_method_54_code 5 = .ok (.aload_n 0, 1) := by decide +kernel
theorem pd_10 : parseMethodDescriptor "()B" = some ⟨[], some .byte⟩ := by decide +kernel
theorem d11_6 : decode jdk_42_method_54_code 6 = .ok (.invokevirtual 335, 3) := by decide +kernel
theorem d11_9 : decode jdk_42_method_54_code 9 = .ok (.ishr, 1) := by decide +kernel
theorem d11_10 : decode jdk_42_method_54_code 10 = .ok (.ireturn, 1) := by decide +kernel
theorem rmLE (l : Launch) (Z : State) (a0 : Array Value) (hw : HW Z a0) (ws : List Jvm.Cond) (a1 : Addr) (tt : Addr) (kt : ClassId) (N2 : Int32) (vs : List Value) (cd : Int32) (zC : Int32) (LN : Int32) (h0 : Heap) (n0 : Nat) (O0 : Old Z n0 h0) (SC : Sta Z Z.heap "java/lang/String" "COMPACT_STRINGS" "Z" (.int zC)) (hzC : ¬ zC = 0) (Ex : Exa Z h0 a1 "java/lang/String") (Fv : Fld Z h0 a1 "java/lang/String" "value" "[B" (.ref tt)) (Fc : Fld Z h0 a1 "java/lang/String" "coder" "B" (.int cd)) (Vt : Arv Z h0 tt kt .byte N2 vs (.int (0 : Int32))) (hL : (N2 >>> (nar .byte cd &&& 31)) = LN) :
    MF l Z y_11 jdk_42_method_54_code 1 (some .int) ws ({ frames := 1, cells := 0, slots := 0, locals := 20 } : Room) #[(.ref a1)] h0 (Q_rmLE Z LN h0 n0) := by
  refine MetFree.of_bodySF (plainFor_of_name pn_String) hisR ?_
  intro p e s m args below meth c s₁ Bd hml0 hP hK
  obtain ⟨rfl, hZ, hh⟩ := hP
  have hx := Bd.exec
  have hby := Bd.bytes
  have hml : c.maxLocals = 1 := hml0
  have hown : s.vm.findClass "java/lang/String" = some m.cls := findClass_of_methodNamed Bd.named
  have hnm := (name_of_methodNamed Bd.named Bd.method).1
  have X0 : Stand p l e ({ frames := 1, cells := 0, slots := 0, locals := 20 } : Room) s m #[(.ref a1)] below meth c s₁ [] 0 0 := Stand.of_body Bd
  have e0 : s₁.heap = h0 := by rw [← hh, Bd.state]; rfl
  have N0 := Fr.nil n0
  obtain ⟨S0, hS0⟩ : ∃ z, z = s₁.setTop (entryFrame m #[(.ref a1)] 1) := ⟨_, rfl⟩
  have k0 : Rch p e below S0 s₁ (mkF m 0 #[vR a1] []) := fun t kq => hS0 ▸ castTop (ef_11 m a1) kq
  have k166 : Rch p e below S0 s₁ (mkF m 1 #[vR a1] [(.ref a1)]) := fun t h => k0 t (by
      refine XS.aloadN X0.here hx rfl (hb hby d11_0) rfl rfl ?_
      exact h)
  obtain ⟨T165, X165, e165, st165⟩ := getF X0 hx hZ hown (host := "") (Or.inl (hw _ (gm 25 rfl))) Via.refl e0 Fv (g := (mkF m 1 #[vR a1] [(.ref a1)])) rfl rfl (hb hby d11_1)
  have k167 : Rch p e below S0 T165 (mkF m 4 #[vR a1] [(.ref tt)]) := fun t h => k166 t (st165 t h)
  obtain ⟨cl168, Ar168, q168, Sz168, Ng168, Hs168, G168⟩ := id Vt
  have k169 : Rch p e below S0 T165 (mkF m 6 #[vR a1] [(.ref a1), (.int N2)]) := fun t h => k167 t (by
      refine X165.arraylength hx (by rw [e165]; exact Ar168.1) (State.isArrayOf_alike hZ.alike Ar168.2.1) (g := (mkF m 4 #[vR a1] [(.ref tt)])) rfl rfl (hb hby d11_4) _ ?_
      rw [len_of Sz168 Ng168]
      refine XS.aloadN X165.here hx rfl (hb hby d11_5) rfl rfl ?_
      exact h)
  obtain ⟨cq170, kq170, q170a, q170b, q170c⟩ := isOf hZ e165 Ex
  obtain ⟨_, _, ⟨T170, L170, kk170, n170⟩, -, X170, ⟨Lc170, hQ170, l170, y170, z170⟩, st170⟩ := X165.virtualBack hx (y := y_10) (z := y_10) hown (mvT hZ (hw _ (gm 65 rfl))) (mvT hZ (hw _ (gm 66 rfl))) (notFace_of_selects (args := #[]) (mvT hZ (hw _ (gm 68 rfl)))) (mvT hZ (hw _ (gm 68 rfl))) (mvT hZ (hw _ (gm 67 rfl))) (by decide) (backOf (W := 1) (rmCO l Z a0 hw [] a1 cd zC h0 n0 O0 SC hzC Fc) hZ (hw _ (gm 69 rfl)) (hw _ (gm 7 rfl)) (by decide) (by decide)) q170a q170c (g := (mkF m 6 #[vR a1] [(.ref a1), (.int N2)])) rfl (by rw [hml]; rfl) (Steps.refl _) (argsL := []) (rest := [(.int N2)]) (lenOf pd_10 rfl) rfl (by show 2 * 0 + _ ≤ _; exact Nat.le_of_eq rfl) (hb hby d11_6) (fun _ _ => ⟨rfl, e165, (by decide : 0 + 0 ≤ _), (by decide : 0 + 0 ≤ _)⟩)
  dsimp only [Pt.U, Pt.locs, Pt.cells, Pt.slots] at X170 l170 y170 z170 st170 hQ170
  subst l170 y170 z170
  obtain ⟨rfl, Nq170, hh170⟩ := hQ170
  have N170 := Fr.app N0 Nq170
  have k171 : Rch p e below S0 T170 (mkF m 9 #[vR a1] [(.int (nar .byte cd)), (.int N2)]) := fun t h => k169 t (st170.trans h)
  have k172 : Rch p e below S0 T170 (mkF m 10 #[vR a1] [(.int LN)]) := fun t h => k171 t (by
      refine XS.ishr X170.here hx rfl (hb hby d11_9) rfl ?_
      rw [hL]
      exact h)
  obtain ⟨fs, hr, hrun, hended, hW, hsame⟩ := X170.leave (v := (some (.int LN))) (fun h => by rw [Bd.returns] at h; cases h)
  refine ⟨_, _, ?_, hrun, hended, _, _, rfl, ?_, ⟨_, rfl⟩, hW, hsame.mono (by decide) (by decide)⟩
  · rw [← hS0]
    refine k172 _ ?_
    show Steps p.tables e below (T170.setTop (mkF m 10 #[vR a1] [(.int LN)])) _
    exact retI X170 hx Bd.returns (hb hby d11_10) hr
  · show Q_rmLE Z LN h0 n0 _ T170.heap _
    rw [hh170]
    exact ⟨rfl, N170, rfl⟩
theorem own_shr0 (y : Int32) : y >>> ((0 : Int32) &&& 31) = y := by
  apply Int32.toInt_inj.mp
  have q := c_ishr y 0 0 (by decide)
  rw [q]; omega
theorem own_shl0 (y : Int32) : y <<< ((0 : Int32) &&& 31) = y := by
  apply Int32.toInt_inj.mp
  have q := c_ishl y 0 0 (by decide)
  have r := rng32 y
  have r2 := rng32 (y <<< ((0 : Int32) &&& 31))
  omega
theorem own_addn {i j : Nat} (h : i + j < 1073741824) : Int32.ofNat i + Int32.ofNat j = Int32.ofNat (i + j) := by
  apply Int32.toInt_inj.mp
  have q := c_iadd (Int32.ofNat i) (Int32.ofNat j)
  rw [(own_tn (by omega)).2, (own_tn (by omega)).2] at q
  rw [(own_tn (by omega)).2]
  have r := rng32 (Int32.ofNat i + Int32.ofNat j)
  omega
theorem own_addl (bs cs : List Int32) (h : bs.length + cs.length < 1073741824) : Int32.ofNat bs.length + Int32.ofNat cs.length = Int32.ofNat (bs ++ cs).length := by
  rw [own_addn h, List.length_append]
theorem own_sub0 (y : Int32) : y - (0 : Int32) = y := Int32.sub_zero y
theorem own_nogrow {n k : Nat} (h : n ≤ k) (hk : k ≤ 1000) : ¬ (0 : Int32) < Int32.ofNat n - Int32.ofNat k := by
  have q := c_isub (Int32.ofNat n) (Int32.ofNat k)
  rw [(own_tn (by omega)).2, (own_tn (by omega)).2] at q
  have r := rng32 (Int32.ofNat n - Int32.ofNat k)
  rw [Int32.lt_iff_toInt_lt, show (0 : Int32).toInt = 0 from by decide]
  omega
theorem own_lmax {n : Nat} (h : n ≤ 1000) : Int32.ofNat n < (2147483631 : Int32) := by
  rw [Int32.lt_iff_toInt_lt, (own_tn (by omega)).2, show (2147483631 : Int32).toInt = 2147483631 from by decide]; omega
theorem own_one {n k : Nat} (h : n < k) (hk : k ≤ 1000) : ¬ Int32.ofNat n = Int32.ofNat k := fun q => by
  have r := congrArg Int32.toInt q
  rw [(own_tn (by omega)).2, (own_tn (by omega)).2] at r
  omega
theorem own_cpl (bs cs : List Int32) (m : Nat) : (((bs.map Value.int ++ List.replicate m (Value.int (0 : Int32))).take bs.length ++ (List.range cs.length).map (fun i => (cs.map Value.int).getD (0 + i) (Value.int (0 : Int32)))) ++ (bs.map Value.int ++ List.replicate m (Value.int (0 : Int32))).drop (bs.length + cs.length)) = (bs ++ cs).map Value.int ++ List.replicate (m - cs.length) (Value.int (0 : Int32)) := by
  have hA : (bs.map Value.int ++ List.replicate m (Value.int (0 : Int32))).take bs.length = bs.map Value.int := List.take_left' (by simp)
  have hB : (List.range cs.length).map (fun i => (cs.map Value.int).getD (0 + i) (Value.int (0 : Int32))) = cs.map Value.int := by
    apply List.ext_getElem (by simp)
    intro i h1 h2
    simp at h1 h2 ⊢
    simp [h1]
  have hC : (bs.map Value.int ++ List.replicate m (Value.int (0 : Int32))).drop (bs.length + cs.length) = List.replicate (m - cs.length) (Value.int (0 : Int32)) := by
    rw [List.drop_append, List.drop_eq_nil_of_le (by simp)]; simp
  rw [hA, hB, hC, ← List.map_append]
theorem own_cp {Z : State} {h : Heap} {a : Addr} {k : ClassId} {ty : FieldType} {z : Int32} (bs cs : List Int32) (m : Nat) (F : Arv Z h a k ty z (((bs.map Value.int ++ List.replicate m (Value.int (0 : Int32))).take bs.length ++ (List.range cs.length).map (fun i => (cs.map Value.int).getD (0 + i) (Value.int (0 : Int32)))) ++ (bs.map Value.int ++ List.replicate m (Value.int (0 : Int32))).drop (bs.length + cs.length)) (.int (0 : Int32))) : Arv Z h a k ty z ((bs ++ cs).map Value.int) (.int (0 : Int32)) := by
  rw [own_cpl] at F
  exact F.pad fun i => (pad_rep _ _ _ i).symm
theorem own_posn (bs : List Int32) (h : ∀ c ∈ bs, ¬ c < 0) (i : Nat) : ¬ (bs.getD i 0) < 0 := by
  rw [List.getD_eq_getElem?_getD]
  cases e : bs[i]? with
  | none => decide
  | some y => exact h y (List.mem_of_getElem? e)
def Q_rmC0 (Z : State)  (h0 : Heap) (n0 : Nat) (v : Option Value) (h : Heap) (L : List Loc) : Prop := v = some (.int (0 : Int32)) ∧ Fr n0 L ∧ h = h0
theorem rmC0 (l : Launch) (Z : State) (a0 : Array Value) (hw : HW Z a0) (ws : List Jvm.Cond) (a1 : Addr) (zC : Int32) (h0 : Heap) (n0 : Nat) (O0 : Old Z n0 h0) (SC : Sta Z Z.heap "java/lang/String" "COMPACT_STRINGS" "Z" (.int zC)) (hzC : ¬ zC = 0) (Sc : Fld Z h0 a1 "java/lang/String" "coder" "B" (.int (0 : Int32))) :
    MF l Z y_10 jdk_42_method_152_code 1 (some .byte) ws ({ frames := 0, cells := 0, slots := 0, locals := 0 } : Room) #[(.ref a1)] h0 (Q_rmC0 Z  h0 n0) := by
  refine MetFree.of_bodySF (plainFor_of_name pn_String) hisR ?_
  intro p e s m args below meth c s₁ Bd hml0 hP hK
  obtain ⟨rfl, hZ, hh⟩ := hP
  have hx := Bd.exec
  have hby := Bd.bytes
  have hml : c.maxLocals = 1 := hml0
  have hown : s.vm.findClass "java/lang/String" = some m.cls := findClass_of_methodNamed Bd.named
  have hnm := (name_of_methodNamed Bd.named Bd.method).1
  have X0 : Stand p l e ({ frames := 0, cells := 0, slots := 0, locals := 0 } : Room) s m #[(.ref a1)] below meth c s₁ [] 0 0 := Stand.of_body Bd
  have e0 : s₁.heap = h0 := by rw [← hh, Bd.state]; rfl
  have N0 := Fr.nil n0
  obtain ⟨S0, hS0⟩ : ∃ z, z = s₁.setTop (entryFrame m #[(.ref a1)] 1) := ⟨_, rfl⟩
  have k0 : Rch p e below S0 s₁ (mkF m 0 #[vR a1] []) := fun t kq => hS0 ▸ castTop (ef_12 m a1) kq
  obtain ⟨T173, X173, e173, st173⟩ := getS2 X0 hx hZ hown (host := "") (Or.inl (hw _ (gm 27 rfl))) Via.refl e0 (SC.ext O0.2) (g := (mkF m 0 #[vR a1] [])) rfl (hb hby d12_0)
  have k174 : Rch p e below S0 T173 (mkF m 3 #[vR a1] [(.int zC)]) := fun t h => k0 t (st173 t h)
  have k176 : Rch p e below S0 T173 (mkF m 7 #[vR a1] [(.ref a1)]) := fun t h => k174 t (by
      refine XS.ifNo X173.here hx rfl (hb hby d12_3) rfl ((if0 _ _).trans (feq (hzC : ¬ (zC = (0 : Int32)))).1) ?_
      refine XS.aloadN X173.here hx rfl (hb hby d12_6) rfl rfl ?_
      exact h)
  obtain ⟨T175, X175, e175, st175⟩ := getF X173 hx hZ hown (host := "") (Or.inl (hw _ (gm 26 rfl))) Via.refl e173 Sc (g := (mkF m 7 #[vR a1] [(.ref a1)])) rfl rfl (hb hby d12_7)
  have k177 : Rch p e below S0 T175 (mkF m 10 #[vR a1] [(.int (0 : Int32))]) := fun t h => k176 t (st175 t h)
  have k178 : Rch p e below S0 T175 (mkF m 14 #[vR a1] [(.int (0 : Int32))]) := fun t h => k177 t (by
      refine XS.goto X175.here hx rfl (pc0 := 10) (pc' := 14) rfl (hb hby d12_10) (by decide) (by decide) ?_
      exact h)
  obtain ⟨fs, hr, hrun, hended, hW, hsame⟩ := X175.leave (v := (some (.int (nar .byte (0 : Int32))))) (fun h => by rw [Bd.returns] at h; cases h)
  refine ⟨_, _, ?_, hrun, hended, _, _, rfl, ?_, ⟨_, rfl⟩, hW, hsame.mono (by decide) (by decide)⟩
  · rw [← hS0]
    refine k178 _ ?_
    show Steps p.tables e below (T175.setTop (mkF m 14 #[vR a1] [(.int (0 : Int32))])) _
    exact retN X175 hx (t := .byte) Bd.returns (by simp) (hb hby d12_14) hr
  · show Q_rmC0 Z  h0 n0 _ T175.heap _
    rw [e175]
    exact ⟨rfl, N0, rfl⟩
def Q_rmL0 (Z : State) (cs : List Int32) (h0 : Heap) (n0 : Nat) (v : Option Value) (h : Heap) (L : List Loc) : Prop := v = some (.int (Int32.ofNat cs.length)) ∧ Fr n0 L ∧ h = h0
theorem rmL0 (l : Launch) (Z : State) (a0 : Array Value) (hw : HW Z a0) (ws : List Jvm.Cond) (a1 : Addr) (tt : Addr) (kt : ClassId) (cs : List Int32) (zC : Int32) (h0 : Heap) (n0 : Nat) (O0 : Old Z n0 h0) (SC : Sta Z Z.heap "java/lang/String" "COMPACT_STRINGS" "Z" (.int zC)) (hzC : ¬ zC = 0) (Ex : Exa Z h0 a1 "java/lang/String") (Sv : Fld Z h0 a1 "java/lang/String" "value" "[B" (.ref tt)) (Sc : Fld Z h0 a1 "java/lang/String" "coder" "B" (.int (0 : Int32))) (Vt : Arv Z h0 tt kt .byte (Int32.ofNat cs.length) (cs.map Value.int) (.int (0 : Int32))) :
    MF l Z y_11 jdk_42_method_54_code 1 (some .int) ws ({ frames := 1, cells := 0, slots := 0, locals := 20 } : Room) #[(.ref a1)] h0 (Q_rmL0 Z cs h0 n0) := by
  refine MetFree.of_bodySF (plainFor_of_name pn_String) hisR ?_
  intro p e s m args below meth c s₁ Bd hml0 hP hK
  obtain ⟨rfl, hZ, hh⟩ := hP
  have hx := Bd.exec
  have hby := Bd.bytes
  have hml : c.maxLocals = 1 := hml0
  have hown : s.vm.findClass "java/lang/String" = some m.cls := findClass_of_methodNamed Bd.named
  have hnm := (name_of_methodNamed Bd.named Bd.method).1
  have X0 : Stand p l e ({ frames := 1, cells := 0, slots := 0, locals := 20 } : Room) s m #[(.ref a1)] below meth c s₁ [] 0 0 := Stand.of_body Bd
  have e0 : s₁.heap = h0 := by rw [← hh, Bd.state]; rfl
  have N0 := Fr.nil n0
  obtain ⟨S0, hS0⟩ : ∃ z, z = s₁.setTop (entryFrame m #[(.ref a1)] 1) := ⟨_, rfl⟩
  have k0 : Rch p e below S0 s₁ (mkF m 0 #[vR a1] []) := fun t kq => hS0 ▸ castTop (ef_11 m a1) kq
  have k180 : Rch p e below S0 s₁ (mkF m 1 #[vR a1] [(.ref a1)]) := fun t h => k0 t (by
      refine XS.aloadN X0.here hx rfl (hb hby d11_0) rfl rfl ?_
      exact h)
  obtain ⟨T179, X179, e179, st179⟩ := getF X0 hx hZ hown (host := "") (Or.inl (hw _ (gm 25 rfl))) Via.refl e0 Sv (g := (mkF m 1 #[vR a1] [(.ref a1)])) rfl rfl (hb hby d11_1)
  have k181 : Rch p e below S0 T179 (mkF m 4 #[vR a1] [(.ref tt)]) := fun t h => k180 t (st179 t h)
  obtain ⟨cl182, Ar182, q182, Sz182, Ng182, Hs182, G182⟩ := id Vt
  have k183 : Rch p e below S0 T179 (mkF m 6 #[vR a1] [(.ref a1), (.int (Int32.ofNat cs.length))]) := fun t h => k181 t (by
      refine X179.arraylength hx (by rw [e179]; exact Ar182.1) (State.isArrayOf_alike hZ.alike Ar182.2.1) (g := (mkF m 4 #[vR a1] [(.ref tt)])) rfl rfl (hb hby d11_4) _ ?_
      rw [len_of Sz182 Ng182]
      refine XS.aloadN X179.here hx rfl (hb hby d11_5) rfl rfl ?_
      exact h)
  obtain ⟨cq184, kq184, q184a, q184b, q184c⟩ := isOf hZ e179 Ex
  obtain ⟨_, _, ⟨T184, L184, kk184, n184⟩, -, X184, ⟨Lc184, hQ184, l184, y184, z184⟩, st184⟩ := X179.virtualBack hx (y := y_10) (z := y_10) hown (mvT hZ (hw _ (gm 65 rfl))) (mvT hZ (hw _ (gm 66 rfl))) (notFace_of_selects (args := #[]) (mvT hZ (hw _ (gm 68 rfl)))) (mvT hZ (hw _ (gm 68 rfl))) (mvT hZ (hw _ (gm 67 rfl))) (by decide) (backOf (W := 1) (rmC0 l Z a0 hw [] a1 zC h0 n0 O0 SC hzC Sc) hZ (hw _ (gm 69 rfl)) (hw _ (gm 7 rfl)) (by decide) (by decide)) q184a q184c (g := (mkF m 6 #[vR a1] [(.ref a1), (.int (Int32.ofNat cs.length))])) rfl (by rw [hml]; rfl) (Steps.refl _) (argsL := []) (rest := [(.int (Int32.ofNat cs.length))]) (lenOf pd_10 rfl) rfl (by show 2 * 0 + _ ≤ _; exact Nat.le_of_eq rfl) (hb hby d11_6) (fun _ _ => ⟨rfl, e179, (by decide : 0 + 0 ≤ _), (by decide : 0 + 0 ≤ _)⟩)
  dsimp only [Pt.U, Pt.locs, Pt.cells, Pt.slots] at X184 l184 y184 z184 st184 hQ184
  subst l184 y184 z184
  obtain ⟨rfl, Nq184, hh184⟩ := hQ184
  have N184 := Fr.app N0 Nq184
  have k185 : Rch p e below S0 T184 (mkF m 9 #[vR a1] [(.int (0 : Int32)), (.int (Int32.ofNat cs.length))]) := fun t h => k183 t (st184.trans h)
  have k186 : Rch p e below S0 T184 (mkF m 10 #[vR a1] [(.int (Int32.ofNat cs.length))]) := fun t h => k185 t (by
      refine XS.ishr X184.here hx rfl (hb hby d11_9) rfl ?_
      rw [own_shr0 _]
      exact h)
  obtain ⟨fs, hr, hrun, hended, hW, hsame⟩ := X184.leave (v := (some (.int (Int32.ofNat cs.length)))) (fun h => by rw [Bd.returns] at h; cases h)
  refine ⟨_, _, ?_, hrun, hended, _, _, rfl, ?_, ⟨_, rfl⟩, hW, hsame.mono (by decide) (by decide)⟩
  · rw [← hS0]
    refine k186 _ ?_
    show Steps p.tables e below (T184.setTop (mkF m 10 #[vR a1] [(.int (Int32.ofNat cs.length))])) _
    exact retI X184 hx Bd.returns (hb hby d11_10) hr
  · show Q_rmL0 Z cs h0 n0 _ T184.heap _
    rw [hh184]
    exact ⟨rfl, N184, rfl⟩
def Q_rmIN (Z : State)  (h0 : Heap) (n0 : Nat) (v : Option Value) (h : Heap) (L : List Loc) : Prop := v = none ∧ Fr n0 L ∧ h = h0
abbrev y_12 : MethodName := ⟨"java/lang/AbstractStringBuilder", "inflateIfNeededFor", "(Ljava/lang/String;)V"⟩
theorem ef_21 (m : MethodId) (x0 : Addr) (x1 : Addr) : entryFrame m #[(.ref x0), (.ref x1)] 2 = mkF m 0 #[.val (.ref x0), .val (.ref x1)] [] := by first | (simp [entryFrame, mkF, argsToLocals, Value.category]; done) | rfl
theorem pn_AbstractStringBuilder : plainName "java/lang/AbstractStringBuilder" = true := by first | (simp [plainName, overriddenIn]; done) | decide +kernel
theorem d21_0 : decode jdk_68_method_71_code 0 = .ok (.getstatic 18, 3) := by decide +kernel
theorem d21_3 : decode jdk_68_method_71_code 3 = .ok (.ifCond .eq 18, 3) := by decide +kernel
theorem d21_6 : decode jdk_68_method_71_code 6 = .ok (.aload_n 0, 1) := by decide +kernel
theorem d21_7 : decode jdk_68_method_71_code 7 = .ok (.getfield 22, 3) := by decide +kernel
theorem d21_10 : decode jdk_68_method_71_code 10 = .ok (.aload_n 1, 1) := by decide +kernel
theorem d21_11 : decode jdk_68_method_71_code 11 = .ok (.invokevirtual 40, 3) := by decide +kernel
theorem d21_14 : decode jdk_68_method_71_code 14 = .ok (.if_icmp .eq 7, 3) := by decide +kernel
theorem d21_21 : decode jdk_68_method_71_code 21 = .ok (.return_, 1) := by decide +kernel
theorem rmIN (l : Launch) (Z : State) (a0 : Array Value) (hw : HW Z a0) (ws : List Jvm.Cond) (sb : Addr) (a1 : Addr) (zC : Int32) (h0 : Heap) (n0 : Nat) (O0 : Old Z n0 h0) (SC : Sta Z Z.heap "java/lang/String" "COMPACT_STRINGS" "Z" (.int zC)) (hzC : ¬ zC = 0) (Fc : Fld Z h0 sb "java/lang/AbstractStringBuilder" "coder" "B" (.int (0 : Int32))) (Ex : Exa Z h0 a1 "java/lang/String") (Sc : Fld Z h0 a1 "java/lang/String" "coder" "B" (.int (0 : Int32))) :
    MF l Z y_12 jdk_68_method_71_code 2 none ws ({ frames := 1, cells := 0, slots := 0, locals := 16 } : Room) #[(.ref sb), (.ref a1)] h0 (Q_rmIN Z  h0 n0) := by
  refine MetFree.of_bodySF (plainFor_of_name pn_AbstractStringBuilder) hisR ?_
  intro p e s m args below meth c s₁ Bd hml0 hP hK
  obtain ⟨rfl, hZ, hh⟩ := hP
  have hx := Bd.exec
  have hby := Bd.bytes
  have hml : c.maxLocals = 2 := hml0
  have hown : s.vm.findClass "java/lang/AbstractStringBuilder" = some m.cls := findClass_of_methodNamed Bd.named
  have hnm := (name_of_methodNamed Bd.named Bd.method).1
  have X0 : Stand p l e ({ frames := 1, cells := 0, slots := 0, locals := 16 } : Room) s m #[(.ref sb), (.ref a1)] below meth c s₁ [] 0 0 := Stand.of_body Bd
  have e0 : s₁.heap = h0 := by rw [← hh, Bd.state]; rfl
  have N0 := Fr.nil n0
  obtain ⟨S0, hS0⟩ : ∃ z, z = s₁.setTop (entryFrame m #[(.ref sb), (.ref a1)] 2) := ⟨_, rfl⟩
  have k0 : Rch p e below S0 s₁ (mkF m 0 #[vR sb, vR a1] []) := fun t kq => hS0 ▸ castTop (ef_21 m sb a1) kq
  obtain ⟨T187, X187, e187, st187⟩ := getS2 X0 hx hZ hown (host := "") (Or.inl (hw _ (gm 55 rfl))) Via.refl e0 (SC.ext O0.2) (g := (mkF m 0 #[vR sb, vR a1] [])) rfl (hb hby d21_0)
  have k188 : Rch p e below S0 T187 (mkF m 3 #[vR sb, vR a1] [(.int zC)]) := fun t h => k0 t (st187 t h)
  have k190 : Rch p e below S0 T187 (mkF m 7 #[vR sb, vR a1] [(.ref sb)]) := fun t h => k188 t (by
      refine XS.ifNo X187.here hx rfl (hb hby d21_3) rfl ((if0 _ _).trans (feq (hzC : ¬ (zC = (0 : Int32)))).1) ?_
      refine XS.aloadN X187.here hx rfl (hb hby d21_6) rfl rfl ?_
      exact h)
  obtain ⟨T189, X189, e189, st189⟩ := getF X187 hx hZ hown (host := "") (Or.inl (hw _ (gm 58 rfl))) Via.refl e187 Fc (g := (mkF m 7 #[vR sb, vR a1] [(.ref sb)])) rfl rfl (hb hby d21_7)
  have k191 : Rch p e below S0 T189 (mkF m 10 #[vR sb, vR a1] [(.int (0 : Int32))]) := fun t h => k190 t (st189 t h)
  have k192 : Rch p e below S0 T189 (mkF m 11 #[vR sb, vR a1] [(.ref a1), (.int (0 : Int32))]) := fun t h => k191 t (by
      refine XS.aloadN X189.here hx rfl (hb hby d21_10) rfl rfl ?_
      exact h)
  obtain ⟨cq193, kq193, q193a, q193b, q193c⟩ := isOf hZ e189 Ex
  obtain ⟨_, _, ⟨T193, L193, kk193, n193⟩, -, X193, ⟨Lc193, hQ193, l193, y193, z193⟩, st193⟩ := X189.virtualBack hx (y := y_10) (z := y_10) hown (mvT hZ (hw _ (gm 116 rfl))) (mvT hZ (hw _ (gm 66 rfl))) (notFace_of_selects (args := #[]) (mvT hZ (hw _ (gm 68 rfl)))) (mvT hZ (hw _ (gm 68 rfl))) (mvT hZ (hw _ (gm 67 rfl))) (by decide) (backOf (W := 1) (rmC0 l Z a0 hw [] a1 zC h0 n0 O0 SC hzC Sc) hZ (hw _ (gm 69 rfl)) (hw _ (gm 7 rfl)) (by decide) (by decide)) q193a q193c (g := (mkF m 11 #[vR sb, vR a1] [(.ref a1), (.int (0 : Int32))])) rfl (by rw [hml]; rfl) (Steps.refl _) (argsL := []) (rest := [(.int (0 : Int32))]) (lenOf pd_10 rfl) rfl (by show 2 * 0 + _ ≤ _; exact Nat.le_of_eq rfl) (hb hby d21_11) (fun _ _ => ⟨rfl, e189, (by decide : 0 + 0 ≤ _), (by decide : 0 + 0 ≤ _)⟩)
  dsimp only [Pt.U, Pt.locs, Pt.cells, Pt.slots] at X193 l193 y193 z193 st193 hQ193
  subst l193 y193 z193
  obtain ⟨rfl, Nq193, hh193⟩ := hQ193
  have N193 := Fr.app N0 Nq193
  have k194 : Rch p e below S0 T193 (mkF m 14 #[vR sb, vR a1] [(.int (0 : Int32)), (.int (0 : Int32))]) := fun t h => k192 t (st193.trans h)
  have k195 : Rch p e below S0 T193 (mkF m 21 #[vR sb, vR a1] []) := fun t h => k194 t (by
      refine XS.icmpYes X193.here hx rfl (pc0 := 14) (pc' := 21) rfl (hb hby d21_14) rfl (teq (by decide : (0 : Int32) = (0 : Int32))).1 (by decide) (by decide) ?_
      exact h)
  obtain ⟨fs, hr, hrun, hended, hW, hsame⟩ := X193.leave (v := none) (fun _ => rfl)
  refine ⟨_, _, ?_, hrun, hended, _, _, rfl, ?_, ⟨_, rfl⟩, hW, hsame.mono (by decide) (by decide)⟩
  · rw [← hS0]
    refine k195 _ ?_
    show Steps p.tables e below (T193.setTop (mkF m 21 #[vR sb, vR a1] [])) _
    exact X193.returnOut hx Bd.returns (hb hby d21_21) hr
  · show Q_rmIN Z  h0 n0 _ T193.heap _
    rw [hh193]
    exact ⟨rfl, N193, rfl⟩
def Q_rmGB (Z : State) (tb : Addr) (cs : List Int32) (kb : ClassId) (cap : Nat) (bs : List Int32) (h0 : Heap) (n0 : Nat) (v : Option Value) (h : Heap) (L : List Loc) : Prop := v = none ∧ Fr n0 L ∧ Keep h0 h [tb] ∧ Arv Z h tb kb .byte (Int32.ofNat cap) ((bs ++ cs).map Value.int) (.int (0 : Int32))
abbrev y_13 : MethodName := ⟨"java/lang/String", "getBytes", "([BIB)V"⟩
theorem ef_22 (m : MethodId) (x0 : Addr) (x1 : Addr) (x2 : Int32) (x3 : Int32) : entryFrame m #[(.ref x0), (.ref x1), (.int x2), (.int x3)] 4 = mkF m 0 #[.val (.ref x0), .val (.ref x1), .val (.int x2), .val (.int x3)] [] := by first | (simp [entryFrame, mkF, argsToLocals, Value.category]; done) | rfl
theorem d22_0 : decode jdk_42_method_147_code 0 = .ok (.aload_n 0, 1) := by decide +kernel
theorem d22_1 : decode jdk_42_method_147_code 1 = .ok (.invokevirtual 335, 3) := by decide +kernel
theorem d22_4 : decode jdk_42_method_147_code 4 = .ok (.iload_n 3, 1) := by decide +kernel
theorem d22_5 : decode jdk_42_method_147_code 5 = .ok (.if_icmp .ne 23, 3) := by decide +kernel
theorem d22_8 : decode jdk_42_method_147_code 8 = .ok (.aload_n 0, 1) := by decide +kernel
theorem d22_9 : decode jdk_42_method_147_code 9 = .ok (.getfield 9, 3) := by decide +kernel
theorem d22_12 : decode jdk_42_method_147_code 12 = .ok (.iconst 0, 1) := by decide +kernel
theorem d22_13 : decode jdk_42_method_147_code 13 = .ok (.aload_n 1, 1) := by decide +kernel
theorem d22_14 : decode jdk_42_method_147_code 14 = .ok (.iload_n 2, 1) := by decide +kernel
theorem d22_15 : decode jdk_42_method_147_code 15 = .ok (.iload_n 3, 1) := by decide +kernel
theorem d22_16 : decode jdk_42_method_147_code 16 = .ok (.ishl, 1) := by decide +kernel
theorem d22_17 : decode jdk_42_method_147_code 17 = .ok (.aload_n 0, 1) := by decide +kernel
theorem d22_18 : decode jdk_42_method_147_code 18 = .ok (.getfield 9, 3) := by decide +kernel
theorem d22_21 : decode jdk_42_method_147_code 21 = .ok (.arraylength, 1) := by decide +kernel
theorem d22_22 : decode jdk_42_method_147_code 22 = .ok (.invokestatic 212, 3) := by decide +kernel
theorem d22_25 : decode jdk_42_method_147_code 25 = .ok (.goto 18, 3) := by decide +kernel
theorem d22_43 : decode jdk_42_method_147_code 43 = .ok (.return_, 1) := by decide +kernel
theorem rmGB (l : Launch) (Z : State) (a0 : Array Value) (hw : HW Z a0) (ws : List Jvm.Cond) (a1 : Addr) (tb : Addr) (tt : Addr) (kt : ClassId) (cs : List Int32) (kb : ClassId) (cap : Nat) (bs : List Int32) (zC : Int32) (h0 : Heap) (n0 : Nat) (O0 : Old Z n0 h0) (SC : Sta Z Z.heap "java/lang/String" "COMPACT_STRINGS" "Z" (.int zC)) (hzC : ¬ zC = 0) (Ex : Exa Z h0 a1 "java/lang/String") (Sv : Fld Z h0 a1 "java/lang/String" "value" "[B" (.ref tt)) (Sc : Fld Z h0 a1 "java/lang/String" "coder" "B" (.int (0 : Int32))) (Vt : Arv Z h0 tt kt .byte (Int32.ofNat cs.length) (cs.map Value.int) (.int (0 : Int32))) (ge_tb : n0 ≤ tb) (Vb : Arv Z h0 tb kb .byte (Int32.ofNat cap) (bs.map Value.int) (.int (0 : Int32))) (hcap : bs.length + cs.length ≤ cap) (hc2 : cap ≤ 1000) :
    MF l Z y_13 jdk_42_method_147_code 4 none ws ({ frames := 1, cells := 0, slots := 0, locals := 34 } : Room) #[(.ref a1), (.ref tb), (.int (Int32.ofNat bs.length)), (.int (0 : Int32))] h0 (Q_rmGB Z tb cs kb cap bs h0 n0) := by
  refine MetFree.of_bodySF (plainFor_of_name pn_String) hisR ?_
  intro p e s m args below meth c s₁ Bd hml0 hP hK
  obtain ⟨rfl, hZ, hh⟩ := hP
  have hx := Bd.exec
  have hby := Bd.bytes
  have hml : c.maxLocals = 4 := hml0
  have hown : s.vm.findClass "java/lang/String" = some m.cls := findClass_of_methodNamed Bd.named
  have hnm := (name_of_methodNamed Bd.named Bd.method).1
  have X0 : Stand p l e ({ frames := 1, cells := 0, slots := 0, locals := 34 } : Room) s m #[(.ref a1), (.ref tb), (.int (Int32.ofNat bs.length)), (.int (0 : Int32))] below meth c s₁ [] 0 0 := Stand.of_body Bd
  have e0 : s₁.heap = h0 := by rw [← hh, Bd.state]; rfl
  have N0 := Fr.nil n0
  obtain ⟨S0, hS0⟩ : ∃ z, z = s₁.setTop (entryFrame m #[(.ref a1), (.ref tb), (.int (Int32.ofNat bs.length)), (.int (0 : Int32))] 4) := ⟨_, rfl⟩
  have k0 : Rch p e below S0 s₁ (mkF m 0 #[vR a1, vR tb, vI (Int32.ofNat bs.length), vI 0] []) := fun t kq => hS0 ▸ castTop (ef_22 m a1 tb (Int32.ofNat bs.length) (0 : Int32)) kq
  have K0 : Keep h0 h0 [tb] := Keep.refl h0 _
  have k196 : Rch p e below S0 s₁ (mkF m 1 #[vR a1, vR tb, vI (Int32.ofNat bs.length), vI 0] [(.ref a1)]) := fun t h => k0 t (by
      refine XS.aloadN X0.here hx rfl (hb hby d22_0) rfl rfl ?_
      exact h)
  obtain ⟨cq197, kq197, q197a, q197b, q197c⟩ := isOf hZ e0 Ex
  obtain ⟨_, _, ⟨T197, L197, kk197, n197⟩, -, X197, ⟨Lc197, hQ197, l197, y197, z197⟩, st197⟩ := X0.virtualBack hx (y := y_10) (z := y_10) hown (mvT hZ (hw _ (gm 65 rfl))) (mvT hZ (hw _ (gm 66 rfl))) (notFace_of_selects (args := #[]) (mvT hZ (hw _ (gm 68 rfl)))) (mvT hZ (hw _ (gm 68 rfl))) (mvT hZ (hw _ (gm 67 rfl))) (by decide) (backOf (W := 0) (rmC0 l Z a0 hw [] a1 zC h0 n0 O0 SC hzC Sc) hZ (hw _ (gm 69 rfl)) (hw _ (gm 7 rfl)) (by decide) (by decide)) q197a q197c (g := (mkF m 1 #[vR a1, vR tb, vI (Int32.ofNat bs.length), vI 0] [(.ref a1)])) rfl (by rw [hml]; rfl) (Steps.refl _) (argsL := []) (rest := []) (lenOf pd_10 rfl) rfl (by show 2 * 0 + _ ≤ _; exact Nat.le_of_eq rfl) (hb hby d22_1) (fun _ _ => ⟨rfl, e0, (by decide : 0 + 0 ≤ _), (by decide : 0 + 0 ≤ _)⟩)
  dsimp only [Pt.U, Pt.locs, Pt.cells, Pt.slots] at X197 l197 y197 z197 st197 hQ197
  subst l197 y197 z197
  obtain ⟨rfl, Nq197, hh197⟩ := hQ197
  have N197 := Fr.app N0 Nq197
  have k198 : Rch p e below S0 T197 (mkF m 4 #[vR a1, vR tb, vI (Int32.ofNat bs.length), vI 0] [(.int (0 : Int32))]) := fun t h => k196 t (st197.trans h)
  have k200 : Rch p e below S0 T197 (mkF m 9 #[vR a1, vR tb, vI (Int32.ofNat bs.length), vI 0] [(.ref a1)]) := fun t h => k198 t (by
      refine XS.iloadN X197.here hx rfl (hb hby d22_4) rfl ?_
      refine XS.icmpNo X197.here hx rfl (hb hby d22_5) rfl (teq (by decide : (0 : Int32) = (0 : Int32))).2 ?_
      refine XS.aloadN X197.here hx rfl (hb hby d22_8) rfl rfl ?_
      exact h)
  obtain ⟨T199, X199, e199, st199⟩ := getF X197 hx hZ hown (host := "") (Or.inl (hw _ (gm 25 rfl))) Via.refl hh197 Sv (g := (mkF m 9 #[vR a1, vR tb, vI (Int32.ofNat bs.length), vI 0] [(.ref a1)])) rfl rfl (hb hby d22_9)
  have k201 : Rch p e below S0 T199 (mkF m 12 #[vR a1, vR tb, vI (Int32.ofNat bs.length), vI 0] [(.ref tt)]) := fun t h => k200 t (st199 t h)
  have k203 : Rch p e below S0 T199 (mkF m 18 #[vR a1, vR tb, vI (Int32.ofNat bs.length), vI 0] [(.ref a1), (.int (Int32.ofNat bs.length)), (.ref tb), (.int (0 : Int32)), (.ref tt)]) := fun t h => k201 t (by
      refine XS.iconst X199.here hx rfl (hb hby d22_12) ?_
      refine XS.aloadN X199.here hx rfl (hb hby d22_13) rfl rfl ?_
      refine XS.iloadN X199.here hx rfl (hb hby d22_14) rfl ?_
      refine XS.iloadN X199.here hx rfl (hb hby d22_15) rfl ?_
      show Steps p.tables e below (T199.setTop (mkF m 16 #[vR a1, vR tb, vI (Int32.ofNat bs.length), vI 0] [(.int (0 : Int32)), (.int (Int32.ofNat bs.length)), (.ref tb), (.int (0 : Int32)), (.ref tt)])) _
      refine XS.ishl X199.here hx rfl (hb hby d22_16) rfl ?_
      rw [own_shl0 _]
      refine XS.aloadN X199.here hx rfl (hb hby d22_17) rfl rfl ?_
      exact h)
  obtain ⟨T202, X202, e202, st202⟩ := getF X199 hx hZ hown (host := "") (Or.inl (hw _ (gm 25 rfl))) Via.refl e199 Sv (g := (mkF m 18 #[vR a1, vR tb, vI (Int32.ofNat bs.length), vI 0] [(.ref a1), (.int (Int32.ofNat bs.length)), (.ref tb), (.int (0 : Int32)), (.ref tt)])) rfl rfl (hb hby d22_18)
  have k204 : Rch p e below S0 T202 (mkF m 21 #[vR a1, vR tb, vI (Int32.ofNat bs.length), vI 0] [(.ref tt), (.int (Int32.ofNat bs.length)), (.ref tb), (.int (0 : Int32)), (.ref tt)]) := fun t h => k203 t (st202 t h)
  obtain ⟨cl205, Ar205, q205, Sz205, Ng205, Hs205, G205⟩ := id Vt
  have k206 : Rch p e below S0 T202 (mkF m 22 #[vR a1, vR tb, vI (Int32.ofNat bs.length), vI 0] [(.int (Int32.ofNat cs.length)), (.int (Int32.ofNat bs.length)), (.ref tb), (.int (0 : Int32)), (.ref tt)]) := fun t h => k204 t (by
      refine X202.arraylength hx (by rw [e202]; exact Ar205.1) (State.isArrayOf_alike hZ.alike Ar205.2.1) (g := (mkF m 21 #[vR a1, vR tb, vI (Int32.ofNat bs.length), vI 0] [(.ref tt), (.int (Int32.ofNat bs.length)), (.ref tb), (.int (0 : Int32)), (.ref tt)])) rfl rfl (hb hby d22_21) _ ?_
      rw [len_of Sz205 Ng205]
      exact h)
  obtain ⟨T207, h207, L207, X207, e207, N207, K207, V207, st207⟩ := cpA X202 hx hZ hown (hw _ (gm 122 rfl)) (hw _ (gm 125 rfl)) (hw _ (gm 123 rfl)) (hw _ (gm 124 rfl)) e202 Vt (Vb.pad (pad_rep (bs.map Value.int) (.int (0 : Int32)) cap)) (Or.inl ⟨rfl, rfl⟩) (by decide) (own_on0 (by omega)) (own_on0 (by omega)) (by rw [show ((0 : Int32)).toNatClampNeg = 0 from rfl]; omega) (by rw [(own_tn (i := bs.length) (by omega)).1, (own_tn (i := cs.length) (by omega)).1, (own_tn (i := cap) (by omega)).1]; omega) rfl (by rw [(own_tn (i := bs.length) (by omega)).1, (own_tn (i := cs.length) (by omega)).1, List.length_append, List.length_map, List.length_replicate]; omega) N197 ge_tb (g := (mkF m 22 #[vR a1, vR tb, vI (Int32.ofNat bs.length), vI 0] [(.int (Int32.ofNat cs.length)), (.int (Int32.ofNat bs.length)), (.ref tb), (.int (0 : Int32)), (.ref tt)])) rfl (by rw [hml]; rfl) rfl (hb hby d22_22) (by decide) (W := 0) (by show 2 * 0 + _ ≤ _; exact Nat.le_of_eq rfl) (by decide)
  have k208 : Rch p e below S0 T207 (mkF m 25 #[vR a1, vR tb, vI (Int32.ofNat bs.length), vI 0] []) := fun t h => k206 t (st207 t h)
  rw [(own_tn (i := bs.length) (by omega)).1, (own_tn (i := cs.length) (by omega)).1, show ((0 : Int32)).toNatClampNeg = 0 from rfl] at V207
  replace V207 := own_cp (bs) (cs) (cap) V207
  have O209 := O0.keep K207 (allS ge_tb all0)
  have K210 := K0.trans K207 (allS (Or.inl (gm 0 rfl)) all0)
  have k211 : Rch p e below S0 T207 (mkF m 43 #[vR a1, vR tb, vI (Int32.ofNat bs.length), vI 0] []) := fun t h => k208 t (by
      refine XS.goto X207.here hx rfl (pc0 := 25) (pc' := 43) rfl (hb hby d22_25) (by decide) (by decide) ?_
      exact h)
  obtain ⟨fs, hr, hrun, hended, hW, hsame⟩ := X207.leave (v := none) (fun _ => rfl)
  refine ⟨_, _, ?_, hrun, hended, _, _, rfl, ?_, ⟨_, rfl⟩, hW, hsame.mono (by decide) (by decide)⟩
  · rw [← hS0]
    refine k211 _ ?_
    show Steps p.tables e below (T207.setTop (mkF m 43 #[vR a1, vR tb, vI (Int32.ofNat bs.length), vI 0] [])) _
    exact X207.returnOut hx Bd.returns (hb hby d22_43) hr
  · show Q_rmGB Z tb cs kb cap bs h0 n0 _ T207.heap _
    rw [e207]
    exact ⟨rfl, N207, K210, V207⟩
def Q_rmPS (Z : State) (tb : Addr) (cs : List Int32) (kb : ClassId) (cap : Nat) (bs : List Int32) (h0 : Heap) (n0 : Nat) (v : Option Value) (h : Heap) (L : List Loc) : Prop := v = none ∧ Fr n0 L ∧ Keep h0 h [tb] ∧ Arv Z h tb kb .byte (Int32.ofNat cap) ((bs ++ cs).map Value.int) (.int (0 : Int32))
abbrev y_14 : MethodName := ⟨"java/lang/AbstractStringBuilder", "putStringAt", "(ILjava/lang/String;)V"⟩
theorem ef_20 (m : MethodId) (x0 : Addr) (x1 : Int32) (x2 : Addr) : entryFrame m #[(.ref x0), (.int x1), (.ref x2)] 3 = mkF m 0 #[.val (.ref x0), .val (.int x1), .val (.ref x2)] [] := by first | (simp [entryFrame, mkF, argsToLocals, Value.category]; done) | rfl
theorem d20_0 : decode jdk_68_method_73_code 0 = .ok (.aload_n 0, 1) := by decide +kernel
theorem d20_1 : decode jdk_68_method_73_code 1 = .ok (.aload_n 2, 1) := by decide +kernel
theorem pd_18 : parseMethodDescriptor "(Ljava/lang/String;)V" = some ⟨[(.object "java/lang/String")], none⟩ := by decide +kernel
theorem d20_2 : decode jdk_68_method_73_code 2 = .ok (.invokevirtual 397, 3) := by decide +kernel
theorem d20_5 : decode jdk_68_method_73_code 5 = .ok (.aload_n 2, 1) := by decide +kernel
theorem d20_6 : decode jdk_68_method_73_code 6 = .ok (.aload_n 0, 1) := by decide +kernel
theorem d20_7 : decode jdk_68_method_73_code 7 = .ok (.getfield 15, 3) := by decide +kernel
theorem d20_10 : decode jdk_68_method_73_code 10 = .ok (.iload_n 1, 1) := by decide +kernel
theorem d20_11 : decode jdk_68_method_73_code 11 = .ok (.aload_n 0, 1) := by decide +kernel
theorem d20_12 : decode jdk_68_method_73_code 12 = .ok (.getfield 22, 3) := by decide +kernel
theorem pd_19 : parseMethodDescriptor "([BIB)V" = some ⟨[(.array .byte), .int, .byte], none⟩ := by decide +kernel
theorem d20_15 : decode jdk_68_method_73_code 15 = .ok (.invokevirtual 399, 3) := by decide +kernel
theorem d20_18 : decode jdk_68_method_73_code 18 = .ok (.return_, 1) := by decide +kernel
theorem rmPS (l : Launch) (Z : State) (a0 : Array Value) (hw : HW Z a0) (ws : List Jvm.Cond) (sb : Addr) (a1 : Addr) (tb : Addr) (tt : Addr) (kt : ClassId) (cs : List Int32) (kb : ClassId) (cap : Nat) (bs : List Int32) (zC : Int32) (h0 : Heap) (n0 : Nat) (O0 : Old Z n0 h0) (SC : Sta Z Z.heap "java/lang/String" "COMPACT_STRINGS" "Z" (.int zC)) (hzC : ¬ zC = 0) (E_sb : Exa Z h0 sb "java/lang/StringBuilder") (Fc : Fld Z h0 sb "java/lang/AbstractStringBuilder" "coder" "B" (.int (0 : Int32))) (Fv : Fld Z h0 sb "java/lang/AbstractStringBuilder" "value" "[B" (.ref tb)) (Ex : Exa Z h0 a1 "java/lang/String") (Sv : Fld Z h0 a1 "java/lang/String" "value" "[B" (.ref tt)) (Sc : Fld Z h0 a1 "java/lang/String" "coder" "B" (.int (0 : Int32))) (Vt : Arv Z h0 tt kt .byte (Int32.ofNat cs.length) (cs.map Value.int) (.int (0 : Int32))) (ge_tb : n0 ≤ tb) (Vb : Arv Z h0 tb kb .byte (Int32.ofNat cap) (bs.map Value.int) (.int (0 : Int32))) (hcap : bs.length + cs.length ≤ cap) (hc2 : cap ≤ 1000) :
    MF l Z y_14 jdk_68_method_73_code 3 none ws ({ frames := 2, cells := 0, slots := 0, locals := 50 } : Room) #[(.ref sb), (.int (Int32.ofNat bs.length)), (.ref a1)] h0 (Q_rmPS Z tb cs kb cap bs h0 n0) := by
  refine MetFree.of_bodySF (plainFor_of_name pn_AbstractStringBuilder) hisR ?_
  intro p e s m args below meth c s₁ Bd hml0 hP hK
  obtain ⟨rfl, hZ, hh⟩ := hP
  have hx := Bd.exec
  have hby := Bd.bytes
  have hml : c.maxLocals = 3 := hml0
  have hown : s.vm.findClass "java/lang/AbstractStringBuilder" = some m.cls := findClass_of_methodNamed Bd.named
  have hnm := (name_of_methodNamed Bd.named Bd.method).1
  have X0 : Stand p l e ({ frames := 2, cells := 0, slots := 0, locals := 50 } : Room) s m #[(.ref sb), (.int (Int32.ofNat bs.length)), (.ref a1)] below meth c s₁ [] 0 0 := Stand.of_body Bd
  have e0 : s₁.heap = h0 := by rw [← hh, Bd.state]; rfl
  have N0 := Fr.nil n0
  obtain ⟨S0, hS0⟩ : ∃ z, z = s₁.setTop (entryFrame m #[(.ref sb), (.int (Int32.ofNat bs.length)), (.ref a1)] 3) := ⟨_, rfl⟩
  have k0 : Rch p e below S0 s₁ (mkF m 0 #[vR sb, vI (Int32.ofNat bs.length), vR a1] []) := fun t kq => hS0 ▸ castTop (ef_20 m sb (Int32.ofNat bs.length) a1) kq
  have K0 : Keep h0 h0 [tb] := Keep.refl h0 _
  have k212 : Rch p e below S0 s₁ (mkF m 2 #[vR sb, vI (Int32.ofNat bs.length), vR a1] [(.ref a1), (.ref sb)]) := fun t h => k0 t (by
      refine XS.aloadN X0.here hx rfl (hb hby d20_0) rfl rfl ?_
      refine XS.aloadN X0.here hx rfl (hb hby d20_1) rfl rfl ?_
      exact h)
  obtain ⟨cq213, q213, q213'⟩ := E_sb.cell
  obtain ⟨_, _, ⟨T213, L213, kk213, n213⟩, -, X213, ⟨Lc213, hQ213, l213, y213, z213⟩, st213⟩ := X0.privateBack hx (y := y_12) hown (mvT hZ (hw _ (gm 111 rfl))) (mvT hZ (hw _ (gm 112 rfl))) (mvT hZ (own_selU (hw _ (gm 114 rfl)) (hw _ (gm 112 rfl)) (hw _ (gm 113 rfl)) (by decide))) (Cond.privateMethod_at (mvP hZ (hw _ (gm 113 rfl)) (args := #[]))) (mvT hZ (hw _ (gm 115 rfl))) (by decide) (backOf (W := 0) (rmIN l Z a0 hw [] sb a1 zC h0 n0 O0 SC hzC Fc Ex Sc) hZ (hw _ (gm 115 rfl)) (hw _ (gm 52 rfl)) (by decide) (by decide)) (g := (mkF m 2 #[vR sb, vI (Int32.ofNat bs.length), vR a1] [(.ref a1), (.ref sb)])) rfl (by rw [hml]; rfl) (Steps.refl _) (a := sb) (by rw [e0]; exact q213) q213' (argsL := [(.ref a1)]) (rest := []) (lenOf pd_18 rfl) rfl (by show 2 * 0 + _ ≤ _; exact Nat.le_of_eq rfl) (hb hby d20_2) (fun _ _ => ⟨rfl, e0, (by decide : 0 + 0 ≤ _), (by decide : 0 + 0 ≤ _)⟩)
  dsimp only [Pt.U, Pt.locs, Pt.cells, Pt.slots] at X213 l213 y213 z213 st213 hQ213
  subst l213 y213 z213
  obtain ⟨rfl, Nq213, hh213⟩ := hQ213
  have N213 := Fr.app N0 Nq213
  have k214 : Rch p e below S0 T213 (mkF m 5 #[vR sb, vI (Int32.ofNat bs.length), vR a1] []) := fun t h => k212 t (st213.trans h)
  have k216 : Rch p e below S0 T213 (mkF m 7 #[vR sb, vI (Int32.ofNat bs.length), vR a1] [(.ref sb), (.ref a1)]) := fun t h => k214 t (by
      refine XS.aloadN X213.here hx rfl (hb hby d20_5) rfl rfl ?_
      refine XS.aloadN X213.here hx rfl (hb hby d20_6) rfl rfl ?_
      exact h)
  obtain ⟨T215, X215, e215, st215⟩ := getF X213 hx hZ hown (host := "") (Or.inl (hw _ (gm 56 rfl))) Via.refl hh213 Fv (g := (mkF m 7 #[vR sb, vI (Int32.ofNat bs.length), vR a1] [(.ref sb), (.ref a1)])) rfl rfl (hb hby d20_7)
  have k217 : Rch p e below S0 T215 (mkF m 10 #[vR sb, vI (Int32.ofNat bs.length), vR a1] [(.ref tb), (.ref a1)]) := fun t h => k216 t (st215 t h)
  have k219 : Rch p e below S0 T215 (mkF m 12 #[vR sb, vI (Int32.ofNat bs.length), vR a1] [(.ref sb), (.int (Int32.ofNat bs.length)), (.ref tb), (.ref a1)]) := fun t h => k217 t (by
      refine XS.iloadN X215.here hx rfl (hb hby d20_10) rfl ?_
      refine XS.aloadN X215.here hx rfl (hb hby d20_11) rfl rfl ?_
      exact h)
  obtain ⟨T218, X218, e218, st218⟩ := getF X215 hx hZ hown (host := "") (Or.inl (hw _ (gm 58 rfl))) Via.refl e215 Fc (g := (mkF m 12 #[vR sb, vI (Int32.ofNat bs.length), vR a1] [(.ref sb), (.int (Int32.ofNat bs.length)), (.ref tb), (.ref a1)])) rfl rfl (hb hby d20_12)
  have k220 : Rch p e below S0 T218 (mkF m 15 #[vR sb, vI (Int32.ofNat bs.length), vR a1] [(.int (0 : Int32)), (.int (Int32.ofNat bs.length)), (.ref tb), (.ref a1)]) := fun t h => k219 t (st218 t h)
  obtain ⟨cq221, kq221, q221a, q221b, q221c⟩ := isOf hZ e218 Ex
  obtain ⟨_, _, ⟨T221, L221, kk221, n221⟩, -, X221, ⟨Lc221, hQ221, l221, y221, z221⟩, st221⟩ := X218.virtualBack hx (y := y_13) (z := y_13) hown (mvT hZ (hw _ (gm 117 rfl))) (mvT hZ (hw _ (gm 118 rfl))) (notFace_of_selects (args := #[]) (mvT hZ (hw _ (gm 120 rfl)))) (mvT hZ (hw _ (gm 120 rfl))) (mvT hZ (hw _ (gm 119 rfl))) (by decide) (backOf (W := 0) (rmGB l Z a0 hw [] a1 tb tt kt cs kb cap bs zC h0 n0 O0 SC hzC Ex Sv Sc Vt ge_tb Vb hcap hc2) hZ (hw _ (gm 121 rfl)) (hw _ (gm 7 rfl)) (by decide) (by decide)) q221a q221c (g := (mkF m 15 #[vR sb, vI (Int32.ofNat bs.length), vR a1] [(.int (0 : Int32)), (.int (Int32.ofNat bs.length)), (.ref tb), (.ref a1)])) rfl (by rw [hml]; rfl) (Steps.refl _) (argsL := [(.ref tb), (.int (Int32.ofNat bs.length)), (.int (0 : Int32))]) (rest := []) (lenOf pd_19 rfl) rfl (by show 2 * 0 + _ ≤ _; exact Nat.le_of_eq rfl) (hb hby d20_15) (fun _ _ => ⟨rfl, e218, (by decide : 0 + 0 ≤ _), (by decide : 0 + 0 ≤ _)⟩)
  dsimp only [Pt.U, Pt.locs, Pt.cells, Pt.slots] at X221 l221 y221 z221 st221 hQ221
  subst l221 y221 z221
  obtain ⟨rfl, Nq221, K221, V221⟩ := hQ221
  have N221 := Fr.app N213 Nq221
  have k222 : Rch p e below S0 T221 (mkF m 18 #[vR sb, vI (Int32.ofNat bs.length), vR a1] []) := fun t h => k220 t (st221.trans h)
  have O223 := O0.keep K221 (allS ge_tb all0)
  have K224 := K0.trans K221 (allS (Or.inl (gm 0 rfl)) all0)
  obtain ⟨fs, hr, hrun, hended, hW, hsame⟩ := X221.leave (v := none) (fun _ => rfl)
  refine ⟨_, _, ?_, hrun, hended, _, _, rfl, ?_, ⟨_, rfl⟩, hW, hsame.mono (by decide) (by decide)⟩
  · rw [← hS0]
    refine k222 _ ?_
    show Steps p.tables e below (T221.setTop (mkF m 18 #[vR sb, vI (Int32.ofNat bs.length), vR a1] [])) _
    exact X221.returnOut hx Bd.returns (hb hby d20_18) hr
  · show Q_rmPS Z tb cs kb cap bs h0 n0 _ T221.heap _
    exact ⟨rfl, N221, K224, V221⟩
def Q_rmEC (Z : State)  (h0 : Heap) (n0 : Nat) (v : Option Value) (h : Heap) (L : List Loc) : Prop := v = none ∧ Fr n0 L ∧ h = h0
abbrev y_15 : MethodName := ⟨"java/lang/AbstractStringBuilder", "ensureCapacityInternal", "(I)V"⟩
theorem ef_15 (m : MethodId) (x0 : Addr) (x1 : Int32) : entryFrame m #[(.ref x0), (.int x1)] 3 = mkF m 0 #[.val (.ref x0), .val (.int x1), .unset] [] := by first | (simp [entryFrame, mkF, argsToLocals, Value.category]; done) | rfl
theorem d15_0 : decode jdk_68_method_9_code 0 = .ok (.aload_n 0, 1) := by decide +kernel
theorem d15_1 : decode jdk_68_method_9_code 1 = .ok (.getfield 15, 3) := by decide +kernel
theorem d15_4 : decode jdk_68_method_9_code 4 = .ok (.arraylength, 1) := by decide +kernel
theorem d15_5 : decode jdk_68_method_9_code 5 = .ok (.aload_n 0, 1) := by decide +kernel
theorem d15_6 : decode jdk_68_method_9_code 6 = .ok (.getfield 22, 3) := by decide +kernel
theorem d15_9 : decode jdk_68_method_9_code 9 = .ok (.ishr, 1) := by decide +kernel
theorem d15_10 : decode jdk_68_method_9_code 10 = .ok (.istore_n 2, 1) := by decide +kernel
theorem d15_11 : decode jdk_68_method_9_code 11 = .ok (.iload_n 1, 1) := by decide +kernel
theorem d15_12 : decode jdk_68_method_9_code 12 = .ok (.iload_n 2, 1) := by decide +kernel
theorem d15_13 : decode jdk_68_method_9_code 13 = .ok (.isub, 1) := by decide +kernel
theorem d15_14 : decode jdk_68_method_9_code 14 = .ok (.ifCond .le 24, 3) := by decide +kernel
theorem d15_38 : decode jdk_68_method_9_code 38 = .ok (.return_, 1) := by decide +kernel
theorem rmEC (l : Launch) (Z : State) (a0 : Array Value) (hw : HW Z a0) (ws : List Jvm.Cond) (sb : Addr) (nn : Nat) (tb : Addr) (kb : ClassId) (cap : Nat) (bs : List Int32) (h0 : Heap) (n0 : Nat) (O0 : Old Z n0 h0) (Fc : Fld Z h0 sb "java/lang/AbstractStringBuilder" "coder" "B" (.int (0 : Int32))) (Fv : Fld Z h0 sb "java/lang/AbstractStringBuilder" "value" "[B" (.ref tb)) (Vb : Arv Z h0 tb kb .byte (Int32.ofNat cap) (bs.map Value.int) (.int (0 : Int32))) (hnn : nn ≤ cap) (hc2 : cap ≤ 1000) :
    MF l Z y_15 jdk_68_method_9_code 3 none ws ({ frames := 0, cells := 0, slots := 0, locals := 0 } : Room) #[(.ref sb), (.int (Int32.ofNat nn))] h0 (Q_rmEC Z  h0 n0) := by
  refine MetFree.of_bodySF (plainFor_of_name pn_AbstractStringBuilder) hisR ?_
  intro p e s m args below meth c s₁ Bd hml0 hP hK
  obtain ⟨rfl, hZ, hh⟩ := hP
  have hx := Bd.exec
  have hby := Bd.bytes
  have hml : c.maxLocals = 3 := hml0
  have hown : s.vm.findClass "java/lang/AbstractStringBuilder" = some m.cls := findClass_of_methodNamed Bd.named
  have hnm := (name_of_methodNamed Bd.named Bd.method).1
  have X0 : Stand p l e ({ frames := 0, cells := 0, slots := 0, locals := 0 } : Room) s m #[(.ref sb), (.int (Int32.ofNat nn))] below meth c s₁ [] 0 0 := Stand.of_body Bd
  have e0 : s₁.heap = h0 := by rw [← hh, Bd.state]; rfl
  have N0 := Fr.nil n0
  obtain ⟨S0, hS0⟩ : ∃ z, z = s₁.setTop (entryFrame m #[(.ref sb), (.int (Int32.ofNat nn))] 3) := ⟨_, rfl⟩
  have k0 : Rch p e below S0 s₁ (mkF m 0 #[vR sb, vI (Int32.ofNat nn), vU] []) := fun t kq => hS0 ▸ castTop (ef_15 m sb (Int32.ofNat nn)) kq
  have k226 : Rch p e below S0 s₁ (mkF m 1 #[vR sb, vI (Int32.ofNat nn), vU] [(.ref sb)]) := fun t h => k0 t (by
      refine XS.aloadN X0.here hx rfl (hb hby d15_0) rfl rfl ?_
      exact h)
  obtain ⟨T225, X225, e225, st225⟩ := getF X0 hx hZ hown (host := "") (Or.inl (hw _ (gm 56 rfl))) Via.refl e0 Fv (g := (mkF m 1 #[vR sb, vI (Int32.ofNat nn), vU] [(.ref sb)])) rfl rfl (hb hby d15_1)
  have k227 : Rch p e below S0 T225 (mkF m 4 #[vR sb, vI (Int32.ofNat nn), vU] [(.ref tb)]) := fun t h => k226 t (st225 t h)
  obtain ⟨cl228, Ar228, q228, Sz228, Ng228, Hs228, G228⟩ := id Vb
  have k230 : Rch p e below S0 T225 (mkF m 6 #[vR sb, vI (Int32.ofNat nn), vU] [(.ref sb), (.int (Int32.ofNat cap))]) := fun t h => k227 t (by
      refine X225.arraylength hx (by rw [e225]; exact Ar228.1) (State.isArrayOf_alike hZ.alike Ar228.2.1) (g := (mkF m 4 #[vR sb, vI (Int32.ofNat nn), vU] [(.ref tb)])) rfl rfl (hb hby d15_4) _ ?_
      rw [len_of Sz228 Ng228]
      refine XS.aloadN X225.here hx rfl (hb hby d15_5) rfl rfl ?_
      exact h)
  obtain ⟨T229, X229, e229, st229⟩ := getF X225 hx hZ hown (host := "") (Or.inl (hw _ (gm 58 rfl))) Via.refl e225 Fc (g := (mkF m 6 #[vR sb, vI (Int32.ofNat nn), vU] [(.ref sb), (.int (Int32.ofNat cap))])) rfl rfl (hb hby d15_6)
  have k231 : Rch p e below S0 T229 (mkF m 9 #[vR sb, vI (Int32.ofNat nn), vU] [(.int (0 : Int32)), (.int (Int32.ofNat cap))]) := fun t h => k230 t (st229 t h)
  have k232 : Rch p e below S0 T229 (mkF m 38 #[vR sb, vI (Int32.ofNat nn), vI (Int32.ofNat cap)] []) := fun t h => k231 t (by
      refine XS.ishr X229.here hx rfl (hb hby d15_9) rfl ?_
      rw [own_shr0 _]
      refine XS.istoreN X229.here hx rfl (hb hby d15_10) rfl (l' := #[vR sb, vI (Int32.ofNat nn), vI (Int32.ofNat cap)]) rfl ?_
      refine XS.iloadN X229.here hx rfl (hb hby d15_11) rfl ?_
      refine XS.iloadN X229.here hx rfl (hb hby d15_12) rfl ?_
      refine XS.isub X229.here hx rfl (hb hby d15_13) rfl ?_
      refine XS.ifYes X229.here hx rfl (pc0 := 14) (pc' := 38) rfl (hb hby d15_14) rfl ((if0 _ _).trans (flt ((own_nogrow hnn hc2) : ¬ ((0 : Int32) < ((Int32.ofNat nn) - (Int32.ofNat cap))))).2.2.2) (by decide) (by decide) ?_
      exact h)
  obtain ⟨fs, hr, hrun, hended, hW, hsame⟩ := X229.leave (v := none) (fun _ => rfl)
  refine ⟨_, _, ?_, hrun, hended, _, _, rfl, ?_, ⟨_, rfl⟩, hW, hsame.mono (by decide) (by decide)⟩
  · rw [← hS0]
    refine k232 _ ?_
    show Steps p.tables e below (T229.setTop (mkF m 38 #[vR sb, vI (Int32.ofNat nn), vI (Int32.ofNat cap)] [])) _
    exact X229.returnOut hx Bd.returns (hb hby d15_38) hr
  · show Q_rmEC Z  h0 n0 _ T229.heap _
    rw [e229]
    exact ⟨rfl, N0, rfl⟩
def Q_rmAA (Z : State) (sb : Addr) (tb : Addr) (cs : List Int32) (kb : ClassId) (cap : Nat) (bs : List Int32) (h0 : Heap) (n0 : Nat) (v : Option Value) (h : Heap) (L : List Loc) : Prop := v = some (.ref sb) ∧ Fr n0 L ∧ Keep h0 h [sb, tb] ∧ Fld Z h sb "java/lang/AbstractStringBuilder" "coder" "B" (.int (0 : Int32)) ∧ Fld Z h sb "java/lang/AbstractStringBuilder" "value" "[B" (.ref tb) ∧ Fld Z h sb "java/lang/AbstractStringBuilder" "count" "I" (.int (Int32.ofNat (bs ++ cs).length)) ∧ Arv Z h tb kb .byte (Int32.ofNat cap) ((bs ++ cs).map Value.int) (.int (0 : Int32))
abbrev y_16 : MethodName := ⟨"java/lang/AbstractStringBuilder", "append", "(Ljava/lang/String;)Ljava/lang/AbstractStringBuilder;"⟩
theorem ef_19 (m : MethodId) (x0 : Addr) (x1 : Addr) : entryFrame m #[(.ref x0), (.ref x1)] 3 = mkF m 0 #[.val (.ref x0), .val (.ref x1), .unset] [] := by first | (simp [entryFrame, mkF, argsToLocals, Value.category]; done) | rfl
theorem d19_0 : decode jdk_68_method_22_code 0 = .ok (.aload_n 1, 1) := by decide +kernel
theorem d19_1 : decode jdk_68_method_22_code 1 = .ok (.ifnonnull 8, 3) := by decide +kernel
theorem d19_9 : decode jdk_68_method_22_code 9 = .ok (.aload_n 1, 1) := by decide +kernel
theorem pd_9 : parseMethodDescriptor "()I" = some ⟨[], some .int⟩ := by decide +kernel
theorem d19_10 : decode jdk_68_method_22_code 10 = .ok (.invokevirtual 32, 3) := by decide +kernel
theorem d19_13 : decode jdk_68_method_22_code 13 = .ok (.istore_n 2, 1) := by decide +kernel
theorem d19_14 : decode jdk_68_method_22_code 14 = .ok (.aload_n 0, 1) := by decide +kernel
theorem d19_15 : decode jdk_68_method_22_code 15 = .ok (.aload_n 0, 1) := by decide +kernel
theorem d19_16 : decode jdk_68_method_22_code 16 = .ok (.getfield 79, 3) := by decide +kernel
theorem d19_19 : decode jdk_68_method_22_code 19 = .ok (.iload_n 2, 1) := by decide +kernel
theorem d19_20 : decode jdk_68_method_22_code 20 = .ok (.iadd, 1) := by decide +kernel
theorem pd_8 : parseMethodDescriptor "(I)V" = some ⟨[.int], none⟩ := by decide +kernel
theorem d19_21 : decode jdk_68_method_22_code 21 = .ok (.invokevirtual 100, 3) := by decide +kernel
theorem d19_24 : decode jdk_68_method_22_code 24 = .ok (.aload_n 0, 1) := by decide +kernel
theorem d19_25 : decode jdk_68_method_22_code 25 = .ok (.aload_n 0, 1) := by decide +kernel
theorem d19_26 : decode jdk_68_method_22_code 26 = .ok (.getfield 79, 3) := by decide +kernel
theorem d19_29 : decode jdk_68_method_22_code 29 = .ok (.aload_n 1, 1) := by decide +kernel
theorem pd_17 : parseMethodDescriptor "(ILjava/lang/String;)V" = some ⟨[.int, (.object "java/lang/String")], none⟩ := by decide +kernel
theorem d19_30 : decode jdk_68_method_22_code 30 = .ok (.invokevirtual 208, 3) := by decide +kernel
theorem d19_33 : decode jdk_68_method_22_code 33 = .ok (.aload_n 0, 1) := by decide +kernel
theorem d19_34 : decode jdk_68_method_22_code 34 = .ok (.dup, 1) := by decide +kernel
theorem d19_35 : decode jdk_68_method_22_code 35 = .ok (.getfield 79, 3) := by decide +kernel
theorem d19_38 : decode jdk_68_method_22_code 38 = .ok (.iload_n 2, 1) := by decide +kernel
theorem d19_39 : decode jdk_68_method_22_code 39 = .ok (.iadd, 1) := by decide +kernel
theorem d19_40 : decode jdk_68_method_22_code 40 = .ok (.putfield 79, 3) := by decide +kernel
theorem d19_43 : decode jdk_68_method_22_code 43 = .ok (.aload_n 0, 1) := by decide +kernel
theorem d19_44 : decode jdk_68_method_22_code 44 = .ok (.areturn, 1) := by decide +kernel
theorem rmAA (l : Launch) (Z : State) (a0 : Array Value) (hw : HW Z a0) (ws : List Jvm.Cond) (sb : Addr) (a1 : Addr) (tb : Addr) (tt : Addr) (kt : ClassId) (cs : List Int32) (kb : ClassId) (cap : Nat) (bs : List Int32) (zC : Int32) (h0 : Heap) (n0 : Nat) (O0 : Old Z n0 h0) (SC : Sta Z Z.heap "java/lang/String" "COMPACT_STRINGS" "Z" (.int zC)) (hzC : ¬ zC = 0) (ge_sb : n0 ≤ sb) (ge_tb : n0 ≤ tb) (ne_sb_tb : sb ≠ tb) (E_sb : Exa Z h0 sb "java/lang/StringBuilder") (Fc : Fld Z h0 sb "java/lang/AbstractStringBuilder" "coder" "B" (.int (0 : Int32))) (Fv : Fld Z h0 sb "java/lang/AbstractStringBuilder" "value" "[B" (.ref tb)) (Fn : Fld Z h0 sb "java/lang/AbstractStringBuilder" "count" "I" (.int (Int32.ofNat bs.length))) (Ex : Exa Z h0 a1 "java/lang/String") (Sv : Fld Z h0 a1 "java/lang/String" "value" "[B" (.ref tt)) (Sc : Fld Z h0 a1 "java/lang/String" "coder" "B" (.int (0 : Int32))) (Vt : Arv Z h0 tt kt .byte (Int32.ofNat cs.length) (cs.map Value.int) (.int (0 : Int32))) (Vb : Arv Z h0 tb kb .byte (Int32.ofNat cap) (bs.map Value.int) (.int (0 : Int32))) (hcap : bs.length + cs.length ≤ cap) (hc2 : cap ≤ 1000) :
    MF l Z y_16 jdk_68_method_22_code 3 (some (.object "java/lang/AbstractStringBuilder")) ws ({ frames := 3, cells := 0, slots := 0, locals := 66 } : Room) #[(.ref sb), (.ref a1)] h0 (Q_rmAA Z sb tb cs kb cap bs h0 n0) := by
  refine MetFree.of_bodySF (plainFor_of_name pn_AbstractStringBuilder) hisR ?_
  intro p e s m args below meth c s₁ Bd hml0 hP hK
  obtain ⟨rfl, hZ, hh⟩ := hP
  have hx := Bd.exec
  have hby := Bd.bytes
  have hml : c.maxLocals = 3 := hml0
  have hown : s.vm.findClass "java/lang/AbstractStringBuilder" = some m.cls := findClass_of_methodNamed Bd.named
  have hnm := (name_of_methodNamed Bd.named Bd.method).1
  have X0 : Stand p l e ({ frames := 3, cells := 0, slots := 0, locals := 66 } : Room) s m #[(.ref sb), (.ref a1)] below meth c s₁ [] 0 0 := Stand.of_body Bd
  have e0 : s₁.heap = h0 := by rw [← hh, Bd.state]; rfl
  have N0 := Fr.nil n0
  obtain ⟨S0, hS0⟩ : ∃ z, z = s₁.setTop (entryFrame m #[(.ref sb), (.ref a1)] 3) := ⟨_, rfl⟩
  have k0 : Rch p e below S0 s₁ (mkF m 0 #[vR sb, vR a1, vU] []) := fun t kq => hS0 ▸ castTop (ef_19 m sb a1) kq
  have K0 : Keep h0 h0 [sb, tb] := Keep.refl h0 _
  have k233 : Rch p e below S0 s₁ (mkF m 10 #[vR sb, vR a1, vU] [(.ref a1)]) := fun t h => k0 t (by
      refine XS.aloadN X0.here hx rfl (hb hby d19_0) rfl rfl ?_
      refine XS.ifnonnullYes X0.here hx rfl (pc0 := 1) (pc' := 9) rfl (hb hby d19_1) rfl (by decide) (by decide) ?_
      refine XS.aloadN X0.here hx rfl (hb hby d19_9) rfl rfl ?_
      exact h)
  obtain ⟨cq234, kq234, q234a, q234b, q234c⟩ := isOf hZ e0 Ex
  obtain ⟨_, _, ⟨T234, L234, kk234, n234⟩, -, X234, ⟨Lc234, hQ234, l234, y234, z234⟩, st234⟩ := X0.virtualBack hx (y := y_11) (z := y_11) hown (mvT hZ (hw _ (gm 105 rfl))) (mvT hZ (hw _ (gm 61 rfl))) (notFace_of_selects (args := #[]) (mvT hZ (hw _ (gm 63 rfl)))) (mvT hZ (hw _ (gm 63 rfl))) (mvT hZ (hw _ (gm 62 rfl))) (by decide) (backOf (W := 0) (rmL0 l Z a0 hw [] a1 tt kt cs zC h0 n0 O0 SC hzC Ex Sv Sc Vt) hZ (hw _ (gm 64 rfl)) (hw _ (gm 7 rfl)) (by decide) (by decide)) q234a q234c (g := (mkF m 10 #[vR sb, vR a1, vU] [(.ref a1)])) rfl (by rw [hml]; rfl) (Steps.refl _) (argsL := []) (rest := []) (lenOf pd_9 rfl) rfl (by show 2 * 0 + _ ≤ _; exact Nat.le_of_eq rfl) (hb hby d19_10) (fun _ _ => ⟨rfl, e0, (by decide : 0 + 0 ≤ _), (by decide : 0 + 0 ≤ _)⟩)
  dsimp only [Pt.U, Pt.locs, Pt.cells, Pt.slots] at X234 l234 y234 z234 st234 hQ234
  subst l234 y234 z234
  obtain ⟨rfl, Nq234, hh234⟩ := hQ234
  have N234 := Fr.app N0 Nq234
  have k235 : Rch p e below S0 T234 (mkF m 13 #[vR sb, vR a1, vU] [(.int (Int32.ofNat cs.length))]) := fun t h => k233 t (st234.trans h)
  have k237 : Rch p e below S0 T234 (mkF m 16 #[vR sb, vR a1, vI (Int32.ofNat cs.length)] [(.ref sb), (.ref sb)]) := fun t h => k235 t (by
      refine XS.istoreN X234.here hx rfl (hb hby d19_13) rfl (l' := #[vR sb, vR a1, vI (Int32.ofNat cs.length)]) rfl ?_
      refine XS.aloadN X234.here hx rfl (hb hby d19_14) rfl rfl ?_
      refine XS.aloadN X234.here hx rfl (hb hby d19_15) rfl rfl ?_
      exact h)
  obtain ⟨T236, X236, e236, st236⟩ := getF X234 hx hZ hown (host := "") (Or.inl (hw _ (gm 80 rfl))) Via.refl hh234 Fn (g := (mkF m 16 #[vR sb, vR a1, vI (Int32.ofNat cs.length)] [(.ref sb), (.ref sb)])) rfl rfl (hb hby d19_16)
  have k238 : Rch p e below S0 T236 (mkF m 19 #[vR sb, vR a1, vI (Int32.ofNat cs.length)] [(.int (Int32.ofNat bs.length)), (.ref sb)]) := fun t h => k237 t (st236 t h)
  have k239 : Rch p e below S0 T236 (mkF m 21 #[vR sb, vR a1, vI (Int32.ofNat cs.length)] [(.int (Int32.ofNat (bs ++ cs).length)), (.ref sb)]) := fun t h => k238 t (by
      refine XS.iloadN X236.here hx rfl (hb hby d19_19) rfl ?_
      show Steps p.tables e below (T236.setTop (mkF m 20 #[vR sb, vR a1, vI (Int32.ofNat cs.length)] [(.int (Int32.ofNat cs.length)), (.int (Int32.ofNat bs.length)), (.ref sb)])) _
      refine XS.iadd X236.here hx rfl (hb hby d19_20) rfl ?_
      rw [own_addl bs cs (by omega)]
      exact h)
  obtain ⟨cq240, q240, q240'⟩ := E_sb.cell
  obtain ⟨_, _, ⟨T240, L240, kk240, n240⟩, -, X240, ⟨Lc240, hQ240, l240, y240, z240⟩, st240⟩ := X236.privateBack hx (y := y_15) hown (mvT hZ (hw _ (gm 82 rfl))) (mvT hZ (hw _ (gm 83 rfl))) (mvT hZ (own_selU (hw _ (gm 85 rfl)) (hw _ (gm 83 rfl)) (hw _ (gm 84 rfl)) (by decide))) (Cond.privateMethod_at (mvP hZ (hw _ (gm 84 rfl)) (args := #[]))) (mvT hZ (hw _ (gm 86 rfl))) (by decide) (backOf (W := 0) (rmEC l Z a0 hw [] sb (bs ++ cs).length tb kb cap bs h0 n0 O0 Fc Fv Vb (by rw [List.length_append]; exact hcap) hc2) hZ (hw _ (gm 86 rfl)) (hw _ (gm 52 rfl)) (by decide) (by decide)) (g := (mkF m 21 #[vR sb, vR a1, vI (Int32.ofNat cs.length)] [(.int (Int32.ofNat (bs ++ cs).length)), (.ref sb)])) rfl (by rw [hml]; rfl) (Steps.refl _) (a := sb) (by rw [e236]; exact q240) q240' (argsL := [(.int (Int32.ofNat (bs ++ cs).length))]) (rest := []) (lenOf pd_8 rfl) rfl (by show 2 * 0 + _ ≤ _; exact Nat.le_of_eq rfl) (hb hby d19_21) (fun _ _ => ⟨rfl, e236, (by decide : 0 + 0 ≤ _), (by decide : 0 + 0 ≤ _)⟩)
  dsimp only [Pt.U, Pt.locs, Pt.cells, Pt.slots] at X240 l240 y240 z240 st240 hQ240
  subst l240 y240 z240
  obtain ⟨rfl, Nq240, hh240⟩ := hQ240
  have N240 := Fr.app N234 Nq240
  have k241 : Rch p e below S0 T240 (mkF m 24 #[vR sb, vR a1, vI (Int32.ofNat cs.length)] []) := fun t h => k239 t (st240.trans h)
  have k243 : Rch p e below S0 T240 (mkF m 26 #[vR sb, vR a1, vI (Int32.ofNat cs.length)] [(.ref sb), (.ref sb)]) := fun t h => k241 t (by
      refine XS.aloadN X240.here hx rfl (hb hby d19_24) rfl rfl ?_
      refine XS.aloadN X240.here hx rfl (hb hby d19_25) rfl rfl ?_
      exact h)
  obtain ⟨T242, X242, e242, st242⟩ := getF X240 hx hZ hown (host := "") (Or.inl (hw _ (gm 80 rfl))) Via.refl hh240 Fn (g := (mkF m 26 #[vR sb, vR a1, vI (Int32.ofNat cs.length)] [(.ref sb), (.ref sb)])) rfl rfl (hb hby d19_26)
  have k244 : Rch p e below S0 T242 (mkF m 29 #[vR sb, vR a1, vI (Int32.ofNat cs.length)] [(.int (Int32.ofNat bs.length)), (.ref sb)]) := fun t h => k243 t (st242 t h)
  have k245 : Rch p e below S0 T242 (mkF m 30 #[vR sb, vR a1, vI (Int32.ofNat cs.length)] [(.ref a1), (.int (Int32.ofNat bs.length)), (.ref sb)]) := fun t h => k244 t (by
      refine XS.aloadN X242.here hx rfl (hb hby d19_29) rfl rfl ?_
      exact h)
  obtain ⟨cq246, q246, q246'⟩ := E_sb.cell
  obtain ⟨_, _, ⟨T246, L246, kk246, n246⟩, -, X246, ⟨Lc246, hQ246, l246, y246, z246⟩, st246⟩ := X242.privateBack hx (y := y_14) hown (mvT hZ (hw _ (gm 106 rfl))) (mvT hZ (hw _ (gm 107 rfl))) (mvT hZ (own_selU (hw _ (gm 109 rfl)) (hw _ (gm 107 rfl)) (hw _ (gm 108 rfl)) (by decide))) (Cond.privateMethod_at (mvP hZ (hw _ (gm 108 rfl)) (args := #[]))) (mvT hZ (hw _ (gm 110 rfl))) (by decide) (backOf (W := 0) (rmPS l Z a0 hw [] sb a1 tb tt kt cs kb cap bs zC h0 n0 O0 SC hzC E_sb Fc Fv Ex Sv Sc Vt ge_tb Vb hcap hc2) hZ (hw _ (gm 110 rfl)) (hw _ (gm 52 rfl)) (by decide) (by decide)) (g := (mkF m 30 #[vR sb, vR a1, vI (Int32.ofNat cs.length)] [(.ref a1), (.int (Int32.ofNat bs.length)), (.ref sb)])) rfl (by rw [hml]; rfl) (Steps.refl _) (a := sb) (by rw [e242]; exact q246) q246' (argsL := [(.int (Int32.ofNat bs.length)), (.ref a1)]) (rest := []) (lenOf pd_17 rfl) rfl (by show 2 * 0 + _ ≤ _; exact Nat.le_of_eq rfl) (hb hby d19_30) (fun _ _ => ⟨rfl, e242, (by decide : 0 + 0 ≤ _), (by decide : 0 + 0 ≤ _)⟩)
  dsimp only [Pt.U, Pt.locs, Pt.cells, Pt.slots] at X246 l246 y246 z246 st246 hQ246
  subst l246 y246 z246
  obtain ⟨rfl, Nq246, K246, V246⟩ := hQ246
  have N246 := Fr.app N240 Nq246
  have k247 : Rch p e below S0 T246 (mkF m 33 #[vR sb, vR a1, vI (Int32.ofNat cs.length)] []) := fun t h => k245 t (st246.trans h)
  have O248 := O0.keep K246 (allS ge_tb all0)
  have K249 := K0.trans K246 (allS (Or.inl (gm 1 rfl)) all0)
  replace E_sb := E_sb.keep K246
  replace Fc := Fc.keep K246 (ninS ne_sb_tb nin0)
  replace Fv := Fv.keep K246 (ninS ne_sb_tb nin0)
  replace Fn := Fn.keep K246 (ninS ne_sb_tb nin0)
  have k251 : Rch p e below S0 T246 (mkF m 35 #[vR sb, vR a1, vI (Int32.ofNat cs.length)] [(.ref sb), (.ref sb)]) := fun t h => k247 t (by
      refine XS.aloadN X246.here hx rfl (hb hby d19_33) rfl rfl ?_
      refine XS.dup X246.here hx rfl (hb hby d19_34) rfl rfl ?_
      exact h)
  obtain ⟨T250, X250, e250, st250⟩ := getF X246 hx hZ hown (host := "") (Or.inl (hw _ (gm 80 rfl))) Via.refl rfl Fn (g := (mkF m 35 #[vR sb, vR a1, vI (Int32.ofNat cs.length)] [(.ref sb), (.ref sb)])) rfl rfl (hb hby d19_35)
  have k252 : Rch p e below S0 T250 (mkF m 38 #[vR sb, vR a1, vI (Int32.ofNat cs.length)] [(.int (Int32.ofNat bs.length)), (.ref sb)]) := fun t h => k251 t (st250 t h)
  have k254 : Rch p e below S0 T250 (mkF m 40 #[vR sb, vR a1, vI (Int32.ofNat cs.length)] [(.int (Int32.ofNat (bs ++ cs).length)), (.ref sb)]) := fun t h => k252 t (by
      refine XS.iloadN X250.here hx rfl (hb hby d19_38) rfl ?_
      show Steps p.tables e below (T250.setTop (mkF m 39 #[vR sb, vR a1, vI (Int32.ofNat cs.length)] [(.int (Int32.ofNat cs.length)), (.int (Int32.ofNat bs.length)), (.ref sb)])) _
      refine XS.iadd X250.here hx rfl (hb hby d19_39) rfl ?_
      rw [own_addl bs cs (by omega)]
      exact h)
  obtain ⟨T253, h253, X253, e253, W253, st253⟩ := putF X250 hx hZ hown (host := "") (Or.inl (hw _ (gm 80 rfl))) Via.refl e250 Fn E_sb (Or.inl (hw _ (gm 81 rfl))) (hw _ (gm 43 rfl)) (ty := .int) (by decide) rfl rfl (g := (mkF m 40 #[vR sb, vR a1, vI (Int32.ofNat cs.length)] [(.int (Int32.ofNat (bs ++ cs).length)), (.ref sb)])) rfl rfl (hb hby d19_40)
  have k255 : Rch p e below S0 T253 (mkF m 43 #[vR sb, vR a1, vI (Int32.ofNat cs.length)] []) := fun t h => k254 t (st253 t h)
  have N253 := Fr.snoc X253 N246 ge_sb
  replace Fn := Fn.same W253
  have O256 := O248.wr W253 ge_sb
  have K257 := K249.wr W253 (Or.inl (gm 0 rfl))
  replace E_sb := E_sb.wr W253
  replace Fc := Fc.other W253 (Or.inr (slot_ne (Or.inl (hw _ (gm 59 rfl))) (Or.inl (hw _ (gm 81 rfl))) (by decide) (t := .byte) (t' := .int) (by decide) (by decide)))
  replace Fv := Fv.other W253 (Or.inr (slot_ne (Or.inl (hw _ (gm 57 rfl))) (Or.inl (hw _ (gm 81 rfl))) (by decide) (t := (.array .byte)) (t' := .int) (by decide) (by decide)))
  replace V246 := V246.other W253 (Ne.symm ne_sb_tb)
  have k258 : Rch p e below S0 T253 (mkF m 44 #[vR sb, vR a1, vI (Int32.ofNat cs.length)] [(.ref sb)]) := fun t h => k255 t (by
      refine XS.aloadN X253.here hx rfl (hb hby d19_43) rfl rfl ?_
      exact h)
  obtain ⟨fs, hr, hrun, hended, hW, hsame⟩ := X253.leave (v := (some (.ref sb))) (fun h => by rw [Bd.returns] at h; cases h)
  refine ⟨_, _, ?_, hrun, hended, _, _, rfl, ?_, ⟨_, rfl⟩, hW, hsame.mono (by decide) (by decide)⟩
  · rw [← hS0]
    refine k258 _ ?_
    show Steps p.tables e below (T253.setTop (mkF m 44 #[vR sb, vR a1, vI (Int32.ofNat cs.length)] [(.ref sb)])) _
    jvm_step X253.here [X253.here.top, hx, (hb hby d19_44), X253.method', Bd.returns, Value.isRef, FieldType.isReference]
    first | (intro acts; rw [hr _ acts rfl rfl rfl]) | rw [hr _ _ rfl rfl rfl]
    exact Steps.refl _
  · show Q_rmAA Z sb tb cs kb cap bs h0 n0 _ T253.heap _
    rw [e253]
    exact ⟨rfl, N253, K257, Fc, Fv, Fn, V246⟩
def Q_rmAS (Z : State) (sb : Addr) (tb : Addr) (cs : List Int32) (kb : ClassId) (cap : Nat) (bs : List Int32) (h0 : Heap) (n0 : Nat) (v : Option Value) (h : Heap) (L : List Loc) : Prop := v = some (.ref sb) ∧ Fr n0 L ∧ Keep h0 h [sb, tb] ∧ Fld Z h sb "java/lang/AbstractStringBuilder" "coder" "B" (.int (0 : Int32)) ∧ Fld Z h sb "java/lang/AbstractStringBuilder" "value" "[B" (.ref tb) ∧ Fld Z h sb "java/lang/AbstractStringBuilder" "count" "I" (.int (Int32.ofNat (bs ++ cs).length)) ∧ Arv Z h tb kb .byte (Int32.ofNat cap) ((bs ++ cs).map Value.int) (.int (0 : Int32))
abbrev y_17 : MethodName := ⟨"java/lang/StringBuilder", "append", "(Ljava/lang/String;)Ljava/lang/StringBuilder;"⟩
theorem ef_18 (m : MethodId) (x0 : Addr) (x1 : Addr) : entryFrame m #[(.ref x0), (.ref x1)] 2 = mkF m 0 #[.val (.ref x0), .val (.ref x1)] [] := by first | (simp [entryFrame, mkF, argsToLocals, Value.category]; done) | rfl
theorem pn_StringBuilder : plainName "java/lang/StringBuilder" = true := by first | (simp [plainName, overriddenIn]; done) | decide +kernel
theorem d18_0 : decode jdk_67_method_7_code 0 = .ok (.aload_n 0, 1) := by decide +kernel
theorem d18_1 : decode jdk_67_method_7_code 1 = .ok (.aload_n 1, 1) := by decide +kernel
theorem pd_16 : parseMethodDescriptor "(Ljava/lang/String;)Ljava/lang/AbstractStringBuilder;" = some ⟨[(.object "java/lang/String")], some (.object "java/lang/AbstractStringBuilder")⟩ := by decide +kernel
theorem d18_2 : decode jdk_67_method_7_code 2 = .ok (.invokespecial 29, 3) := by decide +kernel
theorem d18_5 : decode jdk_67_method_7_code 5 = .ok (.pop, 1) := by decide +kernel
theorem d18_6 : decode jdk_67_method_7_code 6 = .ok (.aload_n 0, 1) := by decide +kernel
theorem d18_7 : decode jdk_67_method_7_code 7 = .ok (.areturn, 1) := by decide +kernel
theorem rmAS (l : Launch) (Z : State) (a0 : Array Value) (hw : HW Z a0) (ws : List Jvm.Cond) (sb : Addr) (a1 : Addr) (tb : Addr) (tt : Addr) (kt : ClassId) (cs : List Int32) (kb : ClassId) (cap : Nat) (bs : List Int32) (zC : Int32) (h0 : Heap) (n0 : Nat) (O0 : Old Z n0 h0) (SC : Sta Z Z.heap "java/lang/String" "COMPACT_STRINGS" "Z" (.int zC)) (hzC : ¬ zC = 0) (ge_sb : n0 ≤ sb) (ge_tb : n0 ≤ tb) (ne_sb_tb : sb ≠ tb) (E_sb : Exa Z h0 sb "java/lang/StringBuilder") (Fc : Fld Z h0 sb "java/lang/AbstractStringBuilder" "coder" "B" (.int (0 : Int32))) (Fv : Fld Z h0 sb "java/lang/AbstractStringBuilder" "value" "[B" (.ref tb)) (Fn : Fld Z h0 sb "java/lang/AbstractStringBuilder" "count" "I" (.int (Int32.ofNat bs.length))) (Ex : Exa Z h0 a1 "java/lang/String") (Sv : Fld Z h0 a1 "java/lang/String" "value" "[B" (.ref tt)) (Sc : Fld Z h0 a1 "java/lang/String" "coder" "B" (.int (0 : Int32))) (Vt : Arv Z h0 tt kt .byte (Int32.ofNat cs.length) (cs.map Value.int) (.int (0 : Int32))) (Vb : Arv Z h0 tb kb .byte (Int32.ofNat cap) (bs.map Value.int) (.int (0 : Int32))) (hcap : bs.length + cs.length ≤ cap) (hc2 : cap ≤ 1000) :
    MF l Z y_17 jdk_67_method_7_code 2 (some (.object "java/lang/StringBuilder")) ws ({ frames := 4, cells := 0, slots := 0, locals := 82 } : Room) #[(.ref sb), (.ref a1)] h0 (Q_rmAS Z sb tb cs kb cap bs h0 n0) := by
  refine MetFree.of_bodySF (plainFor_of_name pn_StringBuilder) hisR ?_
  intro p e s m args below meth c s₁ Bd hml0 hP hK
  obtain ⟨rfl, hZ, hh⟩ := hP
  have hx := Bd.exec
  have hby := Bd.bytes
  have hml : c.maxLocals = 2 := hml0
  have hown : s.vm.findClass "java/lang/StringBuilder" = some m.cls := findClass_of_methodNamed Bd.named
  have hnm := (name_of_methodNamed Bd.named Bd.method).1
  have X0 : Stand p l e ({ frames := 4, cells := 0, slots := 0, locals := 82 } : Room) s m #[(.ref sb), (.ref a1)] below meth c s₁ [] 0 0 := Stand.of_body Bd
  have e0 : s₁.heap = h0 := by rw [← hh, Bd.state]; rfl
  have N0 := Fr.nil n0
  obtain ⟨S0, hS0⟩ : ∃ z, z = s₁.setTop (entryFrame m #[(.ref sb), (.ref a1)] 2) := ⟨_, rfl⟩
  have k0 : Rch p e below S0 s₁ (mkF m 0 #[vR sb, vR a1] []) := fun t kq => hS0 ▸ castTop (ef_18 m sb a1) kq
  have K0 : Keep h0 h0 [sb, tb] := Keep.refl h0 _
  have k259 : Rch p e below S0 s₁ (mkF m 2 #[vR sb, vR a1] [(.ref a1), (.ref sb)]) := fun t h => k0 t (by
      refine XS.aloadN X0.here hx rfl (hb hby d18_0) rfl rfl ?_
      refine XS.aloadN X0.here hx rfl (hb hby d18_1) rfl rfl ?_
      exact h)
  obtain ⟨_, _, ⟨T260, L260, kk260, n260⟩, -, X260, ⟨Lc260, hQ260, l260, y260, z260⟩, st260⟩ := superBack X0 hx hZ (y := y_16) hown (hw _ (gm 101 rfl)) (own_same (y := y_16) (y' := y_15) rfl (hw _ (gm 85 rfl)) (hw _ (gm 102 rfl)) (by decide)) (hw _ (gm 102 rfl)) (hw _ (gm 77 rfl)) (by decide) (backOf (W := 0) (rmAA l Z a0 hw [] sb a1 tb tt kt cs kb cap bs zC h0 n0 O0 SC hzC ge_sb ge_tb ne_sb_tb E_sb Fc Fv Fn Ex Sv Sc Vt Vb hcap hc2) hZ (hw _ (gm 104 rfl)) (hw _ (gm 52 rfl)) (by decide) (by decide)) e0 (Ins.self E_sb) (g := (mkF m 2 #[vR sb, vR a1] [(.ref a1), (.ref sb)])) rfl (by rw [hml]; rfl) (hw _ (gm 104 rfl)) (argsL := [(.ref a1)]) (rest := []) (lenOf pd_16 rfl) rfl (by show 2 * 0 + _ ≤ _; exact Nat.le_of_eq rfl) (hb hby d18_2) (fun _ _ => ⟨rfl, e0, (by decide : 0 + 0 ≤ _), (by decide : 0 + 0 ≤ _)⟩)
  dsimp only [Pt.U, Pt.locs, Pt.cells, Pt.slots] at X260 l260 y260 z260 st260 hQ260
  subst l260 y260 z260
  obtain ⟨rfl, Nq260, K260, Fc260, Fv260, Fn260, V260⟩ := hQ260
  have N260 := Fr.app N0 Nq260
  have k261 : Rch p e below S0 T260 (mkF m 5 #[vR sb, vR a1] [(.ref sb)]) := fun t h => k259 t (st260.trans h)
  have O262 := O0.keep K260 (allS ge_sb (allS ge_tb all0))
  have K263 := K0.trans K260 (allS (Or.inl (gm 0 rfl)) (allS (Or.inl (gm 1 rfl)) all0))
  replace E_sb := E_sb.keep K260
  have k264 : Rch p e below S0 T260 (mkF m 7 #[vR sb, vR a1] [(.ref sb)]) := fun t h => k261 t (by
      refine XS.pop X260.here hx rfl (hb hby d18_5) rfl rfl ?_
      refine XS.aloadN X260.here hx rfl (hb hby d18_6) rfl rfl ?_
      exact h)
  obtain ⟨fs, hr, hrun, hended, hW, hsame⟩ := X260.leave (v := (some (.ref sb))) (fun h => by rw [Bd.returns] at h; cases h)
  refine ⟨_, _, ?_, hrun, hended, _, _, rfl, ?_, ⟨_, rfl⟩, hW, hsame.mono (by decide) (by decide)⟩
  · rw [← hS0]
    refine k264 _ ?_
    show Steps p.tables e below (T260.setTop (mkF m 7 #[vR sb, vR a1] [(.ref sb)])) _
    jvm_step X260.here [X260.here.top, hx, (hb hby d18_7), X260.method', Bd.returns, Value.isRef, FieldType.isReference]
    first | (intro acts; rw [hr _ acts rfl rfl rfl]) | rw [hr _ _ rfl rfl rfl]
    exact Steps.refl _
  · show Q_rmAS Z sb tb cs kb cap bs h0 n0 _ T260.heap _
    exact ⟨rfl, N260, K263, Fc260, Fv260, Fn260, V260⟩
def Q_rmGV (Z : State) (tb : Addr) (h0 : Heap) (n0 : Nat) (v : Option Value) (h : Heap) (L : List Loc) : Prop := v = some (.ref tb) ∧ Fr n0 L ∧ h = h0
abbrev y_18 : MethodName := ⟨"java/lang/AbstractStringBuilder", "getValue", "()[B"⟩
theorem ef_26 (m : MethodId) (x0 : Addr) : entryFrame m #[(.ref x0)] 1 = mkF m 0 #[.val (.ref x0)] [] := by first | (simp [entryFrame, mkF, argsToLocals, Value.category]; done) | rfl
theorem d26_0 : decode jdk_68_method_64_code 0 = .ok (.aload_n 0, 1) := by decide +kernel
theorem d26_1 : decode jdk_68_method_64_code 1 = .ok (.getfield 15, 3) := by decide +kernel
theorem d26_4 : decode jdk_68_method_64_code 4 = .ok (.areturn, 1) := by decide +kernel
theorem rmGV (l : Launch) (Z : State) (a0 : Array Value) (hw : HW Z a0) (ws : List Jvm.Cond) (sb : Addr) (tb : Addr) (h0 : Heap) (n0 : Nat) (O0 : Old Z n0 h0) (Fv : Fld Z h0 sb "java/lang/AbstractStringBuilder" "value" "[B" (.ref tb)) :
    MF l Z y_18 jdk_68_method_64_code 1 (some (.array .byte)) ws ({ frames := 0, cells := 0, slots := 0, locals := 0 } : Room) #[(.ref sb)] h0 (Q_rmGV Z tb h0 n0) := by
  refine MetFree.of_bodySF (plainFor_of_name pn_AbstractStringBuilder) hisR ?_
  intro p e s m args below meth c s₁ Bd hml0 hP hK
  obtain ⟨rfl, hZ, hh⟩ := hP
  have hx := Bd.exec
  have hby := Bd.bytes
  have hml : c.maxLocals = 1 := hml0
  have hown : s.vm.findClass "java/lang/AbstractStringBuilder" = some m.cls := findClass_of_methodNamed Bd.named
  have hnm := (name_of_methodNamed Bd.named Bd.method).1
  have X0 : Stand p l e ({ frames := 0, cells := 0, slots := 0, locals := 0 } : Room) s m #[(.ref sb)] below meth c s₁ [] 0 0 := Stand.of_body Bd
  have e0 : s₁.heap = h0 := by rw [← hh, Bd.state]; rfl
  have N0 := Fr.nil n0
  obtain ⟨S0, hS0⟩ : ∃ z, z = s₁.setTop (entryFrame m #[(.ref sb)] 1) := ⟨_, rfl⟩
  have k0 : Rch p e below S0 s₁ (mkF m 0 #[vR sb] []) := fun t kq => hS0 ▸ castTop (ef_26 m sb) kq
  have k266 : Rch p e below S0 s₁ (mkF m 1 #[vR sb] [(.ref sb)]) := fun t h => k0 t (by
      refine XS.aloadN X0.here hx rfl (hb hby d26_0) rfl rfl ?_
      exact h)
  obtain ⟨T265, X265, e265, st265⟩ := getF X0 hx hZ hown (host := "") (Or.inl (hw _ (gm 56 rfl))) Via.refl e0 Fv (g := (mkF m 1 #[vR sb] [(.ref sb)])) rfl rfl (hb hby d26_1)
  have k267 : Rch p e below S0 T265 (mkF m 4 #[vR sb] [(.ref tb)]) := fun t h => k266 t (st265 t h)
  obtain ⟨fs, hr, hrun, hended, hW, hsame⟩ := X265.leave (v := (some (.ref tb))) (fun h => by rw [Bd.returns] at h; cases h)
  refine ⟨_, _, ?_, hrun, hended, _, _, rfl, ?_, ⟨_, rfl⟩, hW, hsame.mono (by decide) (by decide)⟩
  · rw [← hS0]
    refine k267 _ ?_
    show Steps p.tables e below (T265.setTop (mkF m 4 #[vR sb] [(.ref tb)])) _
    jvm_step X265.here [X265.here.top, hx, (hb hby d26_4), X265.method', Bd.returns, Value.isRef, FieldType.isReference]
    first | (intro acts; rw [hr _ acts rfl rfl rfl]) | rw [hr _ _ rfl rfl rfl]
    exact Steps.refl _
  · show Q_rmGV Z tb h0 n0 _ T265.heap _
    rw [e265]
    exact ⟨rfl, N0, rfl⟩
def Q_rmLA (Z : State) (bs : List Int32) (h0 : Heap) (n0 : Nat) (v : Option Value) (h : Heap) (L : List Loc) : Prop := v = some (.int (Int32.ofNat bs.length)) ∧ Fr n0 L ∧ h = h0
abbrev y_19 : MethodName := ⟨"java/lang/AbstractStringBuilder", "length", "()I"⟩
theorem ef_28 (m : MethodId) (x0 : Addr) : entryFrame m #[(.ref x0)] 1 = mkF m 0 #[.val (.ref x0)] [] := by first | (simp [entryFrame, mkF, argsToLocals, Value.category]; done) | rfl
theorem d28_0 : decode jdk_68_method_6_code 0 = .ok (.aload_n 0, 1) := by decide +kernel
theorem d28_1 : decode jdk_68_method_6_code 1 = .ok (.getfield 79, 3) := by decide +kernel
theorem d28_4 : decode jdk_68_method_6_code 4 = .ok (.ireturn, 1) := by decide +kernel
theorem rmLA (l : Launch) (Z : State) (a0 : Array Value) (hw : HW Z a0) (ws : List Jvm.Cond) (sb : Addr) (bs : List Int32) (h0 : Heap) (n0 : Nat) (O0 : Old Z n0 h0) (E_sb : Exa Z h0 sb "java/lang/StringBuilder") (Fn : Fld Z h0 sb "java/lang/AbstractStringBuilder" "count" "I" (.int (Int32.ofNat bs.length))) :
    MF l Z y_19 jdk_68_method_6_code 1 (some .int) ws ({ frames := 0, cells := 0, slots := 0, locals := 0 } : Room) #[(.ref sb)] h0 (Q_rmLA Z bs h0 n0) := by
  refine MetFree.of_bodySF (plainFor_of_name pn_AbstractStringBuilder) hisR ?_
  intro p e s m args below meth c s₁ Bd hml0 hP hK
  obtain ⟨rfl, hZ, hh⟩ := hP
  have hx := Bd.exec
  have hby := Bd.bytes
  have hml : c.maxLocals = 1 := hml0
  have hown : s.vm.findClass "java/lang/AbstractStringBuilder" = some m.cls := findClass_of_methodNamed Bd.named
  have hnm := (name_of_methodNamed Bd.named Bd.method).1
  have X0 : Stand p l e ({ frames := 0, cells := 0, slots := 0, locals := 0 } : Room) s m #[(.ref sb)] below meth c s₁ [] 0 0 := Stand.of_body Bd
  have e0 : s₁.heap = h0 := by rw [← hh, Bd.state]; rfl
  have N0 := Fr.nil n0
  obtain ⟨S0, hS0⟩ : ∃ z, z = s₁.setTop (entryFrame m #[(.ref sb)] 1) := ⟨_, rfl⟩
  have k0 : Rch p e below S0 s₁ (mkF m 0 #[vR sb] []) := fun t kq => hS0 ▸ castTop (ef_28 m sb) kq
  have k269 : Rch p e below S0 s₁ (mkF m 1 #[vR sb] [(.ref sb)]) := fun t h => k0 t (by
      refine XS.aloadN X0.here hx rfl (hb hby d28_0) rfl rfl ?_
      exact h)
  obtain ⟨T268, X268, e268, st268⟩ := getF X0 hx hZ hown (host := "") (Or.inl (hw _ (gm 80 rfl))) Via.refl e0 Fn (g := (mkF m 1 #[vR sb] [(.ref sb)])) rfl rfl (hb hby d28_1)
  have k270 : Rch p e below S0 T268 (mkF m 4 #[vR sb] [(.int (Int32.ofNat bs.length))]) := fun t h => k269 t (st268 t h)
  obtain ⟨fs, hr, hrun, hended, hW, hsame⟩ := X268.leave (v := (some (.int (Int32.ofNat bs.length)))) (fun h => by rw [Bd.returns] at h; cases h)
  refine ⟨_, _, ?_, hrun, hended, _, _, rfl, ?_, ⟨_, rfl⟩, hW, hsame.mono (by decide) (by decide)⟩
  · rw [← hS0]
    refine k270 _ ?_
    show Steps p.tables e below (T268.setTop (mkF m 4 #[vR sb] [(.int (Int32.ofNat bs.length))])) _
    exact retI X268 hx Bd.returns (hb hby d28_4) hr
  · show Q_rmLA Z bs h0 n0 _ T268.heap _
    rw [e268]
    exact ⟨rfl, N0, rfl⟩
def Q_rmLS (Z : State) (bs : List Int32) (h0 : Heap) (n0 : Nat) (v : Option Value) (h : Heap) (L : List Loc) : Prop := v = some (.int (Int32.ofNat bs.length)) ∧ Fr n0 L ∧ h = h0
abbrev y_20 : MethodName := ⟨"java/lang/StringBuilder", "length", "()I"⟩
theorem ef_27 (m : MethodId) (x0 : Addr) : entryFrame m #[(.ref x0)] 1 = mkF m 0 #[.val (.ref x0)] [] := by first | (simp [entryFrame, mkF, argsToLocals, Value.category]; done) | rfl
theorem d27_0 : decode jdk_67_method_93_code 0 = .ok (.aload_n 0, 1) := by decide +kernel
theorem d27_1 : decode jdk_67_method_93_code 1 = .ok (.invokespecial 343, 3) := by decide +kernel
theorem d27_4 : decode jdk_67_method_93_code 4 = .ok (.ireturn, 1) := by decide +kernel
theorem rmLS (l : Launch) (Z : State) (a0 : Array Value) (hw : HW Z a0) (ws : List Jvm.Cond) (sb : Addr) (bs : List Int32) (h0 : Heap) (n0 : Nat) (O0 : Old Z n0 h0) (E_sb : Exa Z h0 sb "java/lang/StringBuilder") (Fn : Fld Z h0 sb "java/lang/AbstractStringBuilder" "count" "I" (.int (Int32.ofNat bs.length))) :
    MF l Z y_20 jdk_67_method_93_code 1 (some .int) ws ({ frames := 1, cells := 0, slots := 0, locals := 14 } : Room) #[(.ref sb)] h0 (Q_rmLS Z bs h0 n0) := by
  refine MetFree.of_bodySF (plainFor_of_name pn_StringBuilder) hisR ?_
  intro p e s m args below meth c s₁ Bd hml0 hP hK
  obtain ⟨rfl, hZ, hh⟩ := hP
  have hx := Bd.exec
  have hby := Bd.bytes
  have hml : c.maxLocals = 1 := hml0
  have hown : s.vm.findClass "java/lang/StringBuilder" = some m.cls := findClass_of_methodNamed Bd.named
  have hnm := (name_of_methodNamed Bd.named Bd.method).1
  have X0 : Stand p l e ({ frames := 1, cells := 0, slots := 0, locals := 14 } : Room) s m #[(.ref sb)] below meth c s₁ [] 0 0 := Stand.of_body Bd
  have e0 : s₁.heap = h0 := by rw [← hh, Bd.state]; rfl
  have N0 := Fr.nil n0
  obtain ⟨S0, hS0⟩ : ∃ z, z = s₁.setTop (entryFrame m #[(.ref sb)] 1) := ⟨_, rfl⟩
  have k0 : Rch p e below S0 s₁ (mkF m 0 #[vR sb] []) := fun t kq => hS0 ▸ castTop (ef_27 m sb) kq
  have k271 : Rch p e below S0 s₁ (mkF m 1 #[vR sb] [(.ref sb)]) := fun t h => k0 t (by
      refine XS.aloadN X0.here hx rfl (hb hby d27_0) rfl rfl ?_
      exact h)
  obtain ⟨_, _, ⟨T272, L272, kk272, n272⟩, -, X272, ⟨Lc272, hQ272, l272, y272, z272⟩, st272⟩ := superBack X0 hx hZ (y := y_19) hown (hw _ (gm 149 rfl)) (own_same (y := y_19) (y' := y_15) rfl (hw _ (gm 85 rfl)) (hw _ (gm 145 rfl)) (by decide)) (hw _ (gm 145 rfl)) (hw _ (gm 77 rfl)) (by decide) (backOf (W := 0) (rmLA l Z a0 hw [] sb bs h0 n0 O0 E_sb Fn) hZ (hw _ (gm 150 rfl)) (hw _ (gm 52 rfl)) (by decide) (by decide)) e0 (Ins.self E_sb) (g := (mkF m 1 #[vR sb] [(.ref sb)])) rfl (by rw [hml]; rfl) (hw _ (gm 150 rfl)) (argsL := []) (rest := []) (lenOf pd_9 rfl) rfl (by show 2 * 0 + _ ≤ _; exact Nat.le_of_eq rfl) (hb hby d27_1) (fun _ _ => ⟨rfl, e0, (by decide : 0 + 0 ≤ _), (by decide : 0 + 0 ≤ _)⟩)
  dsimp only [Pt.U, Pt.locs, Pt.cells, Pt.slots] at X272 l272 y272 z272 st272 hQ272
  subst l272 y272 z272
  obtain ⟨rfl, Nq272, hh272⟩ := hQ272
  have N272 := Fr.app N0 Nq272
  have k273 : Rch p e below S0 T272 (mkF m 4 #[vR sb] [(.int (Int32.ofNat bs.length))]) := fun t h => k271 t (st272.trans h)
  obtain ⟨fs, hr, hrun, hended, hW, hsame⟩ := X272.leave (v := (some (.int (Int32.ofNat bs.length)))) (fun h => by rw [Bd.returns] at h; cases h)
  refine ⟨_, _, ?_, hrun, hended, _, _, rfl, ?_, ⟨_, rfl⟩, hW, hsame.mono (by decide) (by decide)⟩
  · rw [← hS0]
    refine k273 _ ?_
    show Steps p.tables e below (T272.setTop (mkF m 4 #[vR sb] [(.int (Int32.ofNat bs.length))])) _
    exact retI X272 hx Bd.returns (hb hby d27_4) hr
  · show Q_rmLS Z bs h0 n0 _ T272.heap _
    rw [hh272]
    exact ⟨rfl, N272, rfl⟩
def Q_rmIA (Z : State)  (h0 : Heap) (n0 : Nat) (v : Option Value) (h : Heap) (L : List Loc) : Prop := v = some (.int (1 : Int32)) ∧ Fr n0 L ∧ h = h0
abbrev y_21 : MethodName := ⟨"java/lang/AbstractStringBuilder", "isLatin1", "()Z"⟩
theorem ef_16 (m : MethodId) (x0 : Addr) : entryFrame m #[(.ref x0)] 1 = mkF m 0 #[.val (.ref x0)] [] := by first | (simp [entryFrame, mkF, argsToLocals, Value.category]; done) | rfl
theorem d16_0 : decode jdk_68_method_68_code 0 = .ok (.getstatic 18, 3) := by decide +kernel
theorem d16_3 : decode jdk_68_method_68_code 3 = .ok (.ifCond .eq 14, 3) := by decide +kernel
theorem d16_6 : decode jdk_68_method_68_code 6 = .ok (.aload_n 0, 1) := by decide +kernel
theorem d16_7 : decode jdk_68_method_68_code 7 = .ok (.getfield 22, 3) := by decide +kernel
theorem d16_10 : decode jdk_68_method_68_code 10 = .ok (.ifCond .ne 7, 3) := by decide +kernel
theorem d16_13 : decode jdk_68_method_68_code 13 = .ok (.iconst 1, 1) := by decide +kernel
theorem d16_14 : decode jdk_68_method_68_code 14 = .ok (.goto 4, 3) := by decide +kernel
theorem d16_18 : decode jdk_68_method_68_code 18 = .ok (.ireturn, 1) := by decide +kernel
theorem rmIA (l : Launch) (Z : State) (a0 : Array Value) (hw : HW Z a0) (ws : List Jvm.Cond) (sb : Addr) (zC : Int32) (h0 : Heap) (n0 : Nat) (O0 : Old Z n0 h0) (SC : Sta Z Z.heap "java/lang/String" "COMPACT_STRINGS" "Z" (.int zC)) (hzC : ¬ zC = 0) (Fc : Fld Z h0 sb "java/lang/AbstractStringBuilder" "coder" "B" (.int (0 : Int32))) :
    MF l Z y_21 jdk_68_method_68_code 1 (some .boolean) ws ({ frames := 0, cells := 0, slots := 0, locals := 0 } : Room) #[(.ref sb)] h0 (Q_rmIA Z  h0 n0) := by
  refine MetFree.of_bodySF (plainFor_of_name pn_AbstractStringBuilder) hisR ?_
  intro p e s m args below meth c s₁ Bd hml0 hP hK
  obtain ⟨rfl, hZ, hh⟩ := hP
  have hx := Bd.exec
  have hby := Bd.bytes
  have hml : c.maxLocals = 1 := hml0
  have hown : s.vm.findClass "java/lang/AbstractStringBuilder" = some m.cls := findClass_of_methodNamed Bd.named
  have hnm := (name_of_methodNamed Bd.named Bd.method).1
  have X0 : Stand p l e ({ frames := 0, cells := 0, slots := 0, locals := 0 } : Room) s m #[(.ref sb)] below meth c s₁ [] 0 0 := Stand.of_body Bd
  have e0 : s₁.heap = h0 := by rw [← hh, Bd.state]; rfl
  have N0 := Fr.nil n0
  obtain ⟨S0, hS0⟩ : ∃ z, z = s₁.setTop (entryFrame m #[(.ref sb)] 1) := ⟨_, rfl⟩
  have k0 : Rch p e below S0 s₁ (mkF m 0 #[vR sb] []) := fun t kq => hS0 ▸ castTop (ef_16 m sb) kq
  obtain ⟨T274, X274, e274, st274⟩ := getS2 X0 hx hZ hown (host := "") (Or.inl (hw _ (gm 55 rfl))) Via.refl e0 (SC.ext O0.2) (g := (mkF m 0 #[vR sb] [])) rfl (hb hby d16_0)
  have k275 : Rch p e below S0 T274 (mkF m 3 #[vR sb] [(.int zC)]) := fun t h => k0 t (st274 t h)
  have k277 : Rch p e below S0 T274 (mkF m 7 #[vR sb] [(.ref sb)]) := fun t h => k275 t (by
      refine XS.ifNo X274.here hx rfl (hb hby d16_3) rfl ((if0 _ _).trans (feq (hzC : ¬ (zC = (0 : Int32)))).1) ?_
      refine XS.aloadN X274.here hx rfl (hb hby d16_6) rfl rfl ?_
      exact h)
  obtain ⟨T276, X276, e276, st276⟩ := getF X274 hx hZ hown (host := "") (Or.inl (hw _ (gm 58 rfl))) Via.refl e274 Fc (g := (mkF m 7 #[vR sb] [(.ref sb)])) rfl rfl (hb hby d16_7)
  have k278 : Rch p e below S0 T276 (mkF m 10 #[vR sb] [(.int (0 : Int32))]) := fun t h => k277 t (st276 t h)
  have k279 : Rch p e below S0 T276 (mkF m 18 #[vR sb] [(.int (1 : Int32))]) := fun t h => k278 t (by
      refine XS.ifNo X276.here hx rfl (hb hby d16_10) rfl ((if0 _ _).trans (teq (by decide : (0 : Int32) = (0 : Int32))).2) ?_
      refine XS.iconst X276.here hx rfl (hb hby d16_13) ?_
      refine XS.goto X276.here hx rfl (pc0 := 14) (pc' := 18) rfl (hb hby d16_14) (by decide) (by decide) ?_
      exact h)
  obtain ⟨fs, hr, hrun, hended, hW, hsame⟩ := X276.leave (v := (some (.int (1 : Int32)))) (fun h => by rw [Bd.returns] at h; cases h)
  refine ⟨_, _, ?_, hrun, hended, _, _, rfl, ?_, ⟨_, rfl⟩, hW, hsame.mono (by decide) (by decide)⟩
  · rw [← hS0]
    refine k279 _ ?_
    show Steps p.tables e below (T276.setTop (mkF m 18 #[vR sb] [(.int (1 : Int32))])) _
    exact retN X276 hx (t := .boolean) Bd.returns (by simp) (hb hby d16_18) hr
  · show Q_rmIA Z  h0 n0 _ T276.heap _
    rw [e276]
    exact ⟨rfl, N0, rfl⟩
def Q_rmCK (Z : State)  (h0 : Heap) (n0 : Nat) (v : Option Value) (h : Heap) (L : List Loc) : Prop := v = none ∧ Fr n0 L ∧ h = h0
abbrev y_22 : MethodName := ⟨"java/util/Arrays", "checkLength", "(II)V"⟩
theorem ef_31 (m : MethodId) (x0 : Int32) (x1 : Int32) : entryFrame m #[(.int x0), (.int x1)] 2 = mkF m 0 #[.val (.int x0), .val (.int x1)] [] := by first | (simp [entryFrame, mkF, argsToLocals, Value.category]; done) | rfl
theorem pn_Arrays : plainName "java/util/Arrays" = true := by first | (simp [plainName, overriddenIn]; done) | decide +kernel
theorem d31_0 : decode jdk_65_method_131_code 0 = .ok (.iload_n 1, 1) := by decide +kernel
theorem d31_1 : decode jdk_65_method_131_code 1 = .ok (.iload_n 0, 1) := by decide +kernel
theorem d31_2 : decode jdk_65_method_131_code 2 = .ok (.if_icmp .ge 35, 3) := by decide +kernel
theorem d31_37 : decode jdk_65_method_131_code 37 = .ok (.return_, 1) := by decide +kernel
theorem rmCK (l : Launch) (Z : State) (a0 : Array Value) (hw : HW Z a0) (ws : List Jvm.Cond) (p1 : Int32) (p2 : Int32) (h0 : Heap) (n0 : Nat) (O0 : Old Z n0 h0) (hq : ¬ (p2 < p1)) :
    MF l Z y_22 jdk_65_method_131_code 2 none ws ({ frames := 0, cells := 0, slots := 0, locals := 0 } : Room) #[(.int p1), (.int p2)] h0 (Q_rmCK Z  h0 n0) := by
  refine MetFree.of_bodySF (plainFor_of_name pn_Arrays) hisR ?_
  intro p e s m args below meth c s₁ Bd hml0 hP hK
  obtain ⟨rfl, hZ, hh⟩ := hP
  have hx := Bd.exec
  have hby := Bd.bytes
  have hml : c.maxLocals = 2 := hml0
  have hown : s.vm.findClass "java/util/Arrays" = some m.cls := findClass_of_methodNamed Bd.named
  have hnm := (name_of_methodNamed Bd.named Bd.method).1
  have X0 : Stand p l e ({ frames := 0, cells := 0, slots := 0, locals := 0 } : Room) s m #[(.int p1), (.int p2)] below meth c s₁ [] 0 0 := Stand.of_body Bd
  have e0 : s₁.heap = h0 := by rw [← hh, Bd.state]; rfl
  have N0 := Fr.nil n0
  obtain ⟨S0, hS0⟩ : ∃ z, z = s₁.setTop (entryFrame m #[(.int p1), (.int p2)] 2) := ⟨_, rfl⟩
  have k0 : Rch p e below S0 s₁ (mkF m 0 #[vI p1, vI p2] []) := fun t kq => hS0 ▸ castTop (ef_31 m p1 p2) kq
  have k280 : Rch p e below S0 s₁ (mkF m 37 #[vI p1, vI p2] []) := fun t h => k0 t (by
      refine XS.iloadN X0.here hx rfl (hb hby d31_0) rfl ?_
      refine XS.iloadN X0.here hx rfl (hb hby d31_1) rfl ?_
      refine XS.icmpYes X0.here hx rfl (pc0 := 2) (pc' := 37) rfl (hb hby d31_2) rfl (flt (hq : ¬ (p2 < p1))).2.1 (by decide) (by decide) ?_
      exact h)
  obtain ⟨fs, hr, hrun, hended, hW, hsame⟩ := X0.leave (v := none) (fun _ => rfl)
  refine ⟨_, _, ?_, hrun, hended, _, _, rfl, ?_, ⟨_, rfl⟩, hW, hsame.mono (by decide) (by decide)⟩
  · rw [← hS0]
    refine k280 _ ?_
    show Steps p.tables e below (s₁.setTop (mkF m 37 #[vI p1, vI p2] [])) _
    exact X0.returnOut hx Bd.returns (hb hby d31_37) hr
  · show Q_rmCK Z  h0 n0 _ s₁.heap _
    rw [e0]
    exact ⟨rfl, N0, rfl⟩
def Q_rmMN (Z : State) (p2 : Int32) (h0 : Heap) (n0 : Nat) (v : Option Value) (h : Heap) (L : List Loc) : Prop := v = some (.int p2) ∧ Fr n0 L ∧ h = h0
abbrev y_23 : MethodName := ⟨"java/lang/Math", "min", "(II)I"⟩
theorem ef_32 (m : MethodId) (x0 : Int32) (x1 : Int32) : entryFrame m #[(.int x0), (.int x1)] 2 = mkF m 0 #[.val (.int x0), .val (.int x1)] [] := by first | (simp [entryFrame, mkF, argsToLocals, Value.category]; done) | rfl
theorem d32_0 : decode jdk_29_method_69_code 0 = .ok (.iload_n 0, 1) := by decide +kernel
theorem d32_1 : decode jdk_29_method_69_code 1 = .ok (.iload_n 1, 1) := by decide +kernel
theorem d32_2 : decode jdk_29_method_69_code 2 = .ok (.if_icmp .gt 7, 3) := by decide +kernel
theorem d32_9 : decode jdk_29_method_69_code 9 = .ok (.iload_n 1, 1) := by decide +kernel
theorem d32_10 : decode jdk_29_method_69_code 10 = .ok (.ireturn, 1) := by decide +kernel
theorem rmMN (l : Launch) (Z : State) (a0 : Array Value) (hw : HW Z a0) (ws : List Jvm.Cond) (p1 : Int32) (p2 : Int32) (h0 : Heap) (n0 : Nat) (O0 : Old Z n0 h0) (hq : p2 < p1) :
    MF l Z y_23 jdk_29_method_69_code 2 (some .int) ws ({ frames := 0, cells := 0, slots := 0, locals := 0 } : Room) #[(.int p1), (.int p2)] h0 (Q_rmMN Z p2 h0 n0) := by
  refine MetFree.of_bodySF (Jvm.Free.JP.mathPlain rfl (by decide +kernel)) hisR ?_
  intro p e s m args below meth c s₁ Bd hml0 hP hK
  obtain ⟨rfl, hZ, hh⟩ := hP
  have hx := Bd.exec
  have hby := Bd.bytes
  have hml : c.maxLocals = 2 := hml0
  have hown : s.vm.findClass "java/lang/Math" = some m.cls := findClass_of_methodNamed Bd.named
  have hnm := (name_of_methodNamed Bd.named Bd.method).1
  have X0 : Stand p l e ({ frames := 0, cells := 0, slots := 0, locals := 0 } : Room) s m #[(.int p1), (.int p2)] below meth c s₁ [] 0 0 := Stand.of_body Bd
  have e0 : s₁.heap = h0 := by rw [← hh, Bd.state]; rfl
  have N0 := Fr.nil n0
  obtain ⟨S0, hS0⟩ : ∃ z, z = s₁.setTop (entryFrame m #[(.int p1), (.int p2)] 2) := ⟨_, rfl⟩
  have k0 : Rch p e below S0 s₁ (mkF m 0 #[vI p1, vI p2] []) := fun t kq => hS0 ▸ castTop (ef_32 m p1 p2) kq
  have k281 : Rch p e below S0 s₁ (mkF m 10 #[vI p1, vI p2] [(.int p2)]) := fun t h => k0 t (by
      refine XS.iloadN X0.here hx rfl (hb hby d32_0) rfl ?_
      refine XS.iloadN X0.here hx rfl (hb hby d32_1) rfl ?_
      refine XS.icmpYes X0.here hx rfl (pc0 := 2) (pc' := 9) rfl (hb hby d32_2) rfl (tlt (hq : p2 < p1)).2.2.1 (by decide) (by decide) ?_
      refine XS.iloadN X0.here hx rfl (hb hby d32_9) rfl ?_
      exact h)
  obtain ⟨fs, hr, hrun, hended, hW, hsame⟩ := X0.leave (v := (some (.int p2))) (fun h => by rw [Bd.returns] at h; cases h)
  refine ⟨_, _, ?_, hrun, hended, _, _, rfl, ?_, ⟨_, rfl⟩, hW, hsame.mono (by decide) (by decide)⟩
  · rw [← hS0]
    refine k281 _ ?_
    show Steps p.tables e below (s₁.setTop (mkF m 10 #[vI p1, vI p2] [(.int p2)])) _
    exact retI X0 hx Bd.returns (hb hby d32_10) hr
  · show Q_rmMN Z p2 h0 n0 _ s₁.heap _
    rw [e0]
    exact ⟨rfl, N0, rfl⟩
def Q_rmBY (Z : State) (bs : List Int32) (h0 : Heap) (n0 : Nat) (v : Option Value) (h : Heap) (L : List Loc) : Prop := ∃ y ky, v = some (.ref y) ∧ Fr n0 L ∧ Ext h0 h ∧ h0.size ≤ y ∧ Exa Z h y "[B" ∧ Arv Z h y ky .byte (Int32.ofNat bs.length) (bs.map Value.int) (.int (0 : Int32))
abbrev y_24 : MethodName := ⟨"java/util/Arrays", "copyOfRangeByte", "([BII)[B"⟩
theorem ef_30 (m : MethodId) (x0 : Addr) (x1 : Int32) (x2 : Int32) : entryFrame m #[(.ref x0), (.int x1), (.int x2)] 5 = mkF m 0 #[.val (.ref x0), .val (.int x1), .val (.int x2), .unset, .unset] [] := by first | (simp [entryFrame, mkF, argsToLocals, Value.category]; done) | rfl
theorem d30_0 : decode jdk_65_method_133_code 0 = .ok (.iload_n 1, 1) := by decide +kernel
theorem d30_1 : decode jdk_65_method_133_code 1 = .ok (.iload_n 2, 1) := by decide +kernel
theorem pd_26 : parseMethodDescriptor "(II)V" = some ⟨[.int, .int], none⟩ := by decide +kernel
theorem d30_2 : decode jdk_65_method_133_code 2 = .ok (.invokestatic 343, 3) := by decide +kernel
theorem d30_5 : decode jdk_65_method_133_code 5 = .ok (.iload_n 2, 1) := by decide +kernel
theorem d30_6 : decode jdk_65_method_133_code 6 = .ok (.iload_n 1, 1) := by decide +kernel
theorem d30_7 : decode jdk_65_method_133_code 7 = .ok (.isub, 1) := by decide +kernel
theorem d30_8 : decode jdk_65_method_133_code 8 = .ok (.istore_n 3, 1) := by decide +kernel
theorem d30_9 : decode jdk_65_method_133_code 9 = .ok (.iload_n 3, 1) := by decide +kernel
theorem d30_10 : decode jdk_65_method_133_code 10 = .ok (.newarray .byte, 2) := by decide +kernel
theorem d30_12 : decode jdk_65_method_133_code 12 = .ok (.astore 4, 2) := by decide +kernel
theorem d30_14 : decode jdk_65_method_133_code 14 = .ok (.aload_n 0, 1) := by decide +kernel
theorem d30_15 : decode jdk_65_method_133_code 15 = .ok (.iload_n 1, 1) := by decide +kernel
theorem d30_16 : decode jdk_65_method_133_code 16 = .ok (.aload 4, 2) := by decide +kernel
theorem d30_18 : decode jdk_65_method_133_code 18 = .ok (.iconst 0, 1) := by decide +kernel
theorem d30_19 : decode jdk_65_method_133_code 19 = .ok (.aload_n 0, 1) := by decide +kernel
theorem d30_20 : decode jdk_65_method_133_code 20 = .ok (.arraylength, 1) := by decide +kernel
theorem d30_21 : decode jdk_65_method_133_code 21 = .ok (.iload_n 1, 1) := by decide +kernel
theorem d30_22 : decode jdk_65_method_133_code 22 = .ok (.isub, 1) := by decide +kernel
theorem d30_23 : decode jdk_65_method_133_code 23 = .ok (.iload_n 3, 1) := by decide +kernel
theorem pd_27 : parseMethodDescriptor "(II)I" = some ⟨[.int, .int], some .int⟩ := by decide +kernel
theorem d30_24 : decode jdk_65_method_133_code 24 = .ok (.invokestatic 304, 3) := by decide +kernel
theorem d30_27 : decode jdk_65_method_133_code 27 = .ok (.invokestatic 150, 3) := by decide +kernel
theorem d30_30 : decode jdk_65_method_133_code 30 = .ok (.aload 4, 2) := by decide +kernel
theorem d30_32 : decode jdk_65_method_133_code 32 = .ok (.areturn, 1) := by decide +kernel
theorem rmBY (l : Launch) (Z : State) (a0 : Array Value) (hw : HW Z a0) (ws : List Jvm.Cond) (tb : Addr) (kb : ClassId) (cap : Nat) (bs : List Int32) (h0 : Heap) (n0 : Nat) (O0 : Old Z n0 h0) (Vb : Arv Z h0 tb kb .byte (Int32.ofNat cap) (bs.map Value.int) (.int (0 : Int32))) (hlt : bs.length < cap) (hc2 : cap ≤ 32) :
    MF l Z y_24 jdk_65_method_133_code 5 (some (.array .byte)) ws ({ frames := 1, cells := 1, slots := 32, locals := 34 } : Room) #[(.ref tb), (.int (0 : Int32)), (.int (Int32.ofNat bs.length))] h0 (Q_rmBY Z bs h0 n0) := by
  refine MetFree.of_bodySF (plainFor_of_name pn_Arrays) hisR ?_
  intro p e s m args below meth c s₁ Bd hml0 hP hK
  obtain ⟨rfl, hZ, hh⟩ := hP
  have hx := Bd.exec
  have hby := Bd.bytes
  have hml : c.maxLocals = 5 := hml0
  have hown : s.vm.findClass "java/util/Arrays" = some m.cls := findClass_of_methodNamed Bd.named
  have hnm := (name_of_methodNamed Bd.named Bd.method).1
  have X0 : Stand p l e ({ frames := 1, cells := 1, slots := 32, locals := 34 } : Room) s m #[(.ref tb), (.int (0 : Int32)), (.int (Int32.ofNat bs.length))] below meth c s₁ [] 0 0 := Stand.of_body Bd
  have e0 : s₁.heap = h0 := by rw [← hh, Bd.state]; rfl
  have N0 := Fr.nil n0
  obtain ⟨S0, hS0⟩ : ∃ z, z = s₁.setTop (entryFrame m #[(.ref tb), (.int (0 : Int32)), (.int (Int32.ofNat bs.length))] 5) := ⟨_, rfl⟩
  have k0 : Rch p e below S0 s₁ (mkF m 0 #[vR tb, vI 0, vI (Int32.ofNat bs.length), vU, vU] []) := fun t kq => hS0 ▸ castTop (ef_30 m tb (0 : Int32) (Int32.ofNat bs.length)) kq
  have K0 : Keep h0 h0 [] := Keep.refl h0 _
  have k282 : Rch p e below S0 s₁ (mkF m 2 #[vR tb, vI 0, vI (Int32.ofNat bs.length), vU, vU] [(.int (Int32.ofNat bs.length)), (.int (0 : Int32))]) := fun t h => k0 t (by
      refine XS.iloadN X0.here hx rfl (hb hby d30_0) rfl ?_
      refine XS.iloadN X0.here hx rfl (hb hby d30_1) rfl ?_
      exact h)
  obtain ⟨_, _, ⟨T283, L283, kk283, n283⟩, -, X283, ⟨Lc283, hQ283, l283, y283, z283⟩, st283⟩ := Jvm.LawKit.callS X0 hx (y := y_22) hown (mvT hZ (hw _ (gm 159 rfl))) (mvT hZ (hw _ (gm 160 rfl))) (mvT hZ (hw _ (gm 154 rfl))) (mvT hZ (hw _ (gm 161 rfl))) (by decide) (backOf (W := 0) (rmCK l Z a0 hw [] (0 : Int32) (Int32.ofNat bs.length)  h0 n0 O0 (own_on0 (by omega))) hZ (hw _ (gm 161 rfl)) (hw _ (gm 154 rfl)) (by decide) (by decide)) (g := (mkF m 2 #[vR tb, vI 0, vI (Int32.ofNat bs.length), vU, vU] [(.int (Int32.ofNat bs.length)), (.int (0 : Int32))])) rfl (by rw [hml]; rfl) (argsL := [(.int (0 : Int32)), (.int (Int32.ofNat bs.length))]) (rest := []) (lenOf pd_26 rfl) rfl (by show 2 * 0 + _ ≤ _; exact Nat.le_of_eq rfl) (hb hby d30_2) (fun _ _ => ⟨rfl, e0, (by decide : 0 + 0 ≤ _), (by decide : 0 + 0 ≤ _)⟩)
  dsimp only [Pt.U, Pt.locs, Pt.cells, Pt.slots] at X283 l283 y283 z283 st283 hQ283
  subst l283 y283 z283
  obtain ⟨rfl, Nq283, hh283⟩ := hQ283
  have N283 := Fr.app N0 Nq283
  have k284 : Rch p e below S0 T283 (mkF m 5 #[vR tb, vI 0, vI (Int32.ofNat bs.length), vU, vU] []) := fun t h => k282 t (st283 t h)
  have k286 : Rch p e below S0 T283 (mkF m 10 #[vR tb, vI 0, vI (Int32.ofNat bs.length), vI (Int32.ofNat bs.length), vU] [(.int (Int32.ofNat bs.length))]) := fun t h => k284 t (by
      refine XS.iloadN X283.here hx rfl (hb hby d30_5) rfl ?_
      refine XS.iloadN X283.here hx rfl (hb hby d30_6) rfl ?_
      show Steps p.tables e below (T283.setTop (mkF m 7 #[vR tb, vI 0, vI (Int32.ofNat bs.length), vU, vU] [(.int (0 : Int32)), (.int (Int32.ofNat bs.length))])) _
      refine XS.isub X283.here hx rfl (hb hby d30_7) rfl ?_
      rw [own_sub0 _]
      refine XS.istoreN X283.here hx rfl (hb hby d30_8) rfl (l' := #[vR tb, vI 0, vI (Int32.ofNat bs.length), vI (Int32.ofNat bs.length), vU]) rfl ?_
      refine XS.iloadN X283.here hx rfl (hb hby d30_9) rfl ?_
      exact h)
  obtain ⟨T285, h285, k285, X285, e285, E285, A285, E_b285, st285⟩ := newPE X283 hx hZ (hw _ (gm 20 rfl)) hh283 (g := (mkF m 10 #[vR tb, vI 0, vI (Int32.ofNat bs.length), vI (Int32.ofNat bs.length), vU] [(.int (Int32.ofNat bs.length))])) rfl (hb hby d30_10) rfl (own_on0 (by omega)) (cap := 32) (by rw [(own_tn (by omega)).1]; omega) (by decide) (by decide) (by decide) (ad := "[B") (by decide)
  obtain ⟨b285, g285⟩ : ∃ z, z = h0.size := ⟨_, rfl⟩
  rw [← g285] at A285 st285 E_b285
  have k287 : Rch p e below S0 T285 (mkF m 12 #[vR tb, vI 0, vI (Int32.ofNat bs.length), vI (Int32.ofNat bs.length), vU] [(.ref b285)]) := fun t h => k286 t (st285 t h)
  have ne_tb_b285 : tb ≠ b285 := own_ne Vb.lt (Nat.le_of_eq g285.symm)
  have ge_b285 : n0 ≤ b285 := own_ge O0 (Nat.le_of_eq g285.symm)
  have sz_b285 : h0.size ≤ b285 := Nat.le_trans K0.1 (Nat.le_of_eq g285.symm)
  have O288 := O0.ext E285
  have K289 := K0.ext E285
  replace Vb := Vb.ext E285
  have V_b285 : Arv Z h285 b285 k285 .byte (Int32.ofNat bs.length) [] (.int (0 : Int32)) := Arv.new A285 (own_on0 (by omega))
  have k291 : Rch p e below S0 T285 (mkF m 20 #[vR tb, vI 0, vI (Int32.ofNat bs.length), vI (Int32.ofNat bs.length), vR b285] [(.ref tb), (.int (0 : Int32)), (.ref b285), (.int (0 : Int32)), (.ref tb)]) := fun t h => k287 t (by
      refine XS.astore X285.here hx rfl (hb hby d30_12) rfl rfl (l' := #[vR tb, vI 0, vI (Int32.ofNat bs.length), vI (Int32.ofNat bs.length), vR b285]) rfl ?_
      refine XS.aloadN X285.here hx rfl (hb hby d30_14) rfl rfl ?_
      refine XS.iloadN X285.here hx rfl (hb hby d30_15) rfl ?_
      refine XS.aload X285.here hx rfl (hb hby d30_16) rfl rfl ?_
      refine XS.iconst X285.here hx rfl (hb hby d30_18) ?_
      refine XS.aloadN X285.here hx rfl (hb hby d30_19) rfl rfl ?_
      exact h)
  obtain ⟨cl290, Ar290, q290, Sz290, Ng290, Hs290, G290⟩ := id Vb
  have k292 : Rch p e below S0 T285 (mkF m 24 #[vR tb, vI 0, vI (Int32.ofNat bs.length), vI (Int32.ofNat bs.length), vR b285] [(.int (Int32.ofNat bs.length)), (.int (Int32.ofNat cap)), (.int (0 : Int32)), (.ref b285), (.int (0 : Int32)), (.ref tb)]) := fun t h => k291 t (by
      refine X285.arraylength hx (by rw [e285]; exact Ar290.1) (State.isArrayOf_alike hZ.alike Ar290.2.1) (g := (mkF m 20 #[vR tb, vI 0, vI (Int32.ofNat bs.length), vI (Int32.ofNat bs.length), vR b285] [(.ref tb), (.int (0 : Int32)), (.ref b285), (.int (0 : Int32)), (.ref tb)])) rfl rfl (hb hby d30_20) _ ?_
      rw [len_of Sz290 Ng290]
      refine XS.iloadN X285.here hx rfl (hb hby d30_21) rfl ?_
      show Steps p.tables e below (T285.setTop (mkF m 22 #[vR tb, vI 0, vI (Int32.ofNat bs.length), vI (Int32.ofNat bs.length), vR b285] [(.int (0 : Int32)), (.int (Int32.ofNat cap)), (.int (0 : Int32)), (.ref b285), (.int (0 : Int32)), (.ref tb)])) _
      refine XS.isub X285.here hx rfl (hb hby d30_22) rfl ?_
      rw [own_sub0 _]
      refine XS.iloadN X285.here hx rfl (hb hby d30_23) rfl ?_
      exact h)
  obtain ⟨_, _, ⟨T293, L293, kk293, n293⟩, -, X293, ⟨Lc293, hQ293, l293, y293, z293⟩, st293⟩ := Jvm.LawKit.callS X285 hx (y := y_23) hown (mvT hZ (hw _ (gm 162 rfl))) (mvT hZ (hw _ (gm 163 rfl))) (mvT hZ (hw _ (gm 164 rfl))) (mvT hZ (hw _ (gm 165 rfl))) (by decide) (backOf (W := 4) (rmMN l Z a0 hw [] (Int32.ofNat cap) (Int32.ofNat bs.length)  h285 n0 O288 ((own_olt (by omega) (by omega)).mpr hlt)) hZ (hw _ (gm 165 rfl)) (hw _ (gm 164 rfl)) (by decide) (by decide)) (g := (mkF m 24 #[vR tb, vI 0, vI (Int32.ofNat bs.length), vI (Int32.ofNat bs.length), vR b285] [(.int (Int32.ofNat bs.length)), (.int (Int32.ofNat cap)), (.int (0 : Int32)), (.ref b285), (.int (0 : Int32)), (.ref tb)])) rfl (by rw [hml]; rfl) (argsL := [(.int (Int32.ofNat cap)), (.int (Int32.ofNat bs.length))]) (rest := [(.int (0 : Int32)), (.ref b285), (.int (0 : Int32)), (.ref tb)]) (lenOf pd_27 rfl) rfl (by show 2 * 0 + _ ≤ _; exact Nat.le_of_eq rfl) (hb hby d30_24) (fun _ _ => ⟨rfl, e285, (by decide : 1 + 0 ≤ _), (by decide : 32 + 0 ≤ _)⟩)
  dsimp only [Pt.U, Pt.locs, Pt.cells, Pt.slots] at X293 l293 y293 z293 st293 hQ293
  subst l293 y293 z293
  obtain ⟨rfl, Nq293, hh293⟩ := hQ293
  have N293 := Fr.app N283 Nq293
  have k294 : Rch p e below S0 T293 (mkF m 27 #[vR tb, vI 0, vI (Int32.ofNat bs.length), vI (Int32.ofNat bs.length), vR b285] [(.int (Int32.ofNat bs.length)), (.int (0 : Int32)), (.ref b285), (.int (0 : Int32)), (.ref tb)]) := fun t h => k292 t (st293 t h)
  obtain ⟨T295, h295, L295, X295, e295, N295, K295, V295, st295⟩ := cpA X293 hx hZ hown (hw _ (gm 166 rfl)) (hw _ (gm 125 rfl)) (hw _ (gm 123 rfl)) (hw _ (gm 124 rfl)) hh293 Vb (V_b285.pad (pad_rep ([]) (.int (0 : Int32)) 32)) (Or.inl ⟨rfl, rfl⟩) (by decide) (by decide) (own_on0 (by omega)) (by rw [(own_tn (i := bs.length) (by omega)).1, show ((0 : Int32)).toNatClampNeg = 0 from rfl, (own_tn (i := cap) (by omega)).1]; omega) (by rw [show ((0 : Int32)).toNatClampNeg = 0 from rfl]; omega) rfl (by rw [(own_tn (i := bs.length) (by omega)).1, show ((0 : Int32)).toNatClampNeg = 0 from rfl]; simp; omega) N293 ge_b285 (g := (mkF m 27 #[vR tb, vI 0, vI (Int32.ofNat bs.length), vI (Int32.ofNat bs.length), vR b285] [(.int (Int32.ofNat bs.length)), (.int (0 : Int32)), (.ref b285), (.int (0 : Int32)), (.ref tb)])) rfl (by rw [hml]; rfl) rfl (hb hby d30_27) (by decide) (W := 0) (by show 2 * 0 + _ ≤ _; exact Nat.le_of_eq rfl) (by decide)
  have k296 : Rch p e below S0 T295 (mkF m 30 #[vR tb, vI 0, vI (Int32.ofNat bs.length), vI (Int32.ofNat bs.length), vR b285] []) := fun t h => k294 t (st295 t h)
  rw [(own_tn (i := bs.length) (by omega)).1, show ((0 : Int32)).toNatClampNeg = 0 from rfl] at V295
  replace V295 := own_cp ([]) (bs) (32) V295
  have O297 := O288.keep K295 (allS ge_b285 all0)
  have K298 := K289.trans K295 (allS (Or.inr sz_b285) all0)
  replace Vb := Vb.keep K295 (ninS ne_tb_b285 nin0)
  replace E_b285 := E_b285.keep K295
  have k299 : Rch p e below S0 T295 (mkF m 32 #[vR tb, vI 0, vI (Int32.ofNat bs.length), vI (Int32.ofNat bs.length), vR b285] [(.ref b285)]) := fun t h => k296 t (by
      refine XS.aload X295.here hx rfl (hb hby d30_30) rfl rfl ?_
      exact h)
  obtain ⟨fs, hr, hrun, hended, hW, hsame⟩ := X295.leave (v := (some (.ref b285))) (fun h => by rw [Bd.returns] at h; cases h)
  refine ⟨_, _, ?_, hrun, hended, _, _, rfl, ?_, ⟨_, rfl⟩, hW, hsame.mono (by decide) (by decide)⟩
  · rw [← hS0]
    refine k299 _ ?_
    show Steps p.tables e below (T295.setTop (mkF m 32 #[vR tb, vI 0, vI (Int32.ofNat bs.length), vI (Int32.ofNat bs.length), vR b285] [(.ref b285)])) _
    jvm_step X295.here [X295.here.top, hx, (hb hby d30_32), X295.method', Bd.returns, Value.isRef, FieldType.isReference]
    first | (intro acts; rw [hr _ acts rfl rfl rfl]) | rw [hr _ _ rfl rfl rfl]
    exact Steps.refl _
  · show Q_rmBY Z bs h0 n0 _ T295.heap _
    rw [e295]
    exact ⟨_, _, rfl, N295, own_ext K298, sz_b285, E_b285, V295⟩
def Q_rmCR (Z : State) (bs : List Int32) (h0 : Heap) (n0 : Nat) (v : Option Value) (h : Heap) (L : List Loc) : Prop := ∃ y ky, v = some (.ref y) ∧ Fr n0 L ∧ Ext h0 h ∧ h0.size ≤ y ∧ Exa Z h y "[B" ∧ Arv Z h y ky .byte (Int32.ofNat bs.length) (bs.map Value.int) (.int (0 : Int32))
abbrev y_25 : MethodName := ⟨"java/util/Arrays", "copyOfRange", "([BII)[B"⟩
theorem ef_29 (m : MethodId) (x0 : Addr) (x1 : Int32) (x2 : Int32) : entryFrame m #[(.ref x0), (.int x1), (.int x2)] 3 = mkF m 0 #[.val (.ref x0), .val (.int x1), .val (.int x2)] [] := by first | (simp [entryFrame, mkF, argsToLocals, Value.category]; done) | rfl
theorem d29_0 : decode jdk_65_method_132_code 0 = .ok (.iload_n 1, 1) := by decide +kernel
theorem d29_1 : decode jdk_65_method_132_code 1 = .ok (.ifCond .ne 9, 3) := by decide +kernel
theorem d29_4 : decode jdk_65_method_132_code 4 = .ok (.iload_n 2, 1) := by decide +kernel
theorem d29_5 : decode jdk_65_method_132_code 5 = .ok (.aload_n 0, 1) := by decide +kernel
theorem d29_6 : decode jdk_65_method_132_code 6 = .ok (.arraylength, 1) := by decide +kernel
theorem d29_7 : decode jdk_65_method_132_code 7 = .ok (.if_icmp .eq 10, 3) := by decide +kernel
theorem d29_10 : decode jdk_65_method_132_code 10 = .ok (.aload_n 0, 1) := by decide +kernel
theorem d29_11 : decode jdk_65_method_132_code 11 = .ok (.iload_n 1, 1) := by decide +kernel
theorem d29_12 : decode jdk_65_method_132_code 12 = .ok (.iload_n 2, 1) := by decide +kernel
theorem pd_25 : parseMethodDescriptor "([BII)[B" = some ⟨[(.array .byte), .int, .int], some (.array .byte)⟩ := by decide +kernel
theorem d29_13 : decode jdk_65_method_132_code 13 = .ok (.invokestatic 339, 3) := by decide +kernel
theorem d29_16 : decode jdk_65_method_132_code 16 = .ok (.areturn, 1) := by decide +kernel
theorem rmCR (l : Launch) (Z : State) (a0 : Array Value) (hw : HW Z a0) (ws : List Jvm.Cond) (tb : Addr) (kb : ClassId) (cap : Nat) (bs : List Int32) (h0 : Heap) (n0 : Nat) (O0 : Old Z n0 h0) (Vb : Arv Z h0 tb kb .byte (Int32.ofNat cap) (bs.map Value.int) (.int (0 : Int32))) (hlt : bs.length < cap) (hc2 : cap ≤ 32) :
    MF l Z y_25 jdk_65_method_132_code 3 (some (.array .byte)) ws ({ frames := 2, cells := 1, slots := 32, locals := 50 } : Room) #[(.ref tb), (.int (0 : Int32)), (.int (Int32.ofNat bs.length))] h0 (Q_rmCR Z bs h0 n0) := by
  refine MetFree.of_bodySF (plainFor_of_name pn_Arrays) hisR ?_
  intro p e s m args below meth c s₁ Bd hml0 hP hK
  obtain ⟨rfl, hZ, hh⟩ := hP
  have hx := Bd.exec
  have hby := Bd.bytes
  have hml : c.maxLocals = 3 := hml0
  have hown : s.vm.findClass "java/util/Arrays" = some m.cls := findClass_of_methodNamed Bd.named
  have hnm := (name_of_methodNamed Bd.named Bd.method).1
  have X0 : Stand p l e ({ frames := 2, cells := 1, slots := 32, locals := 50 } : Room) s m #[(.ref tb), (.int (0 : Int32)), (.int (Int32.ofNat bs.length))] below meth c s₁ [] 0 0 := Stand.of_body Bd
  have e0 : s₁.heap = h0 := by rw [← hh, Bd.state]; rfl
  have N0 := Fr.nil n0
  obtain ⟨S0, hS0⟩ : ∃ z, z = s₁.setTop (entryFrame m #[(.ref tb), (.int (0 : Int32)), (.int (Int32.ofNat bs.length))] 3) := ⟨_, rfl⟩
  have k0 : Rch p e below S0 s₁ (mkF m 0 #[vR tb, vI 0, vI (Int32.ofNat bs.length)] []) := fun t kq => hS0 ▸ castTop (ef_29 m tb (0 : Int32) (Int32.ofNat bs.length)) kq
  have K0 : Keep h0 h0 [] := Keep.refl h0 _
  have k301 : Rch p e below S0 s₁ (mkF m 6 #[vR tb, vI 0, vI (Int32.ofNat bs.length)] [(.ref tb), (.int (Int32.ofNat bs.length))]) := fun t h => k0 t (by
      refine XS.iloadN X0.here hx rfl (hb hby d29_0) rfl ?_
      refine XS.ifNo X0.here hx rfl (hb hby d29_1) rfl ((if0 _ _).trans (teq (by decide : (0 : Int32) = (0 : Int32))).2) ?_
      refine XS.iloadN X0.here hx rfl (hb hby d29_4) rfl ?_
      refine XS.aloadN X0.here hx rfl (hb hby d29_5) rfl rfl ?_
      exact h)
  obtain ⟨cl300, Ar300, q300, Sz300, Ng300, Hs300, G300⟩ := id Vb
  have k302 : Rch p e below S0 s₁ (mkF m 13 #[vR tb, vI 0, vI (Int32.ofNat bs.length)] [(.int (Int32.ofNat bs.length)), (.int (0 : Int32)), (.ref tb)]) := fun t h => k301 t (by
      refine X0.arraylength hx (by rw [e0]; exact Ar300.1) (State.isArrayOf_alike hZ.alike Ar300.2.1) (g := (mkF m 6 #[vR tb, vI 0, vI (Int32.ofNat bs.length)] [(.ref tb), (.int (Int32.ofNat bs.length))])) rfl rfl (hb hby d29_6) _ ?_
      rw [len_of Sz300 Ng300]
      refine XS.icmpNo X0.here hx rfl (hb hby d29_7) rfl (feq ((own_one hlt (by omega)) : ¬ ((Int32.ofNat bs.length) = (Int32.ofNat cap)))).1 ?_
      refine XS.aloadN X0.here hx rfl (hb hby d29_10) rfl rfl ?_
      refine XS.iloadN X0.here hx rfl (hb hby d29_11) rfl ?_
      refine XS.iloadN X0.here hx rfl (hb hby d29_12) rfl ?_
      exact h)
  obtain ⟨_, _, ⟨T303, L303, kk303, n303⟩, -, X303, ⟨Lc303, hQ303, l303, y303, z303⟩, st303⟩ := Jvm.LawKit.callS X0 hx (y := y_24) hown (mvT hZ (hw _ (gm 156 rfl))) (mvT hZ (hw _ (gm 157 rfl))) (mvT hZ (hw _ (gm 154 rfl))) (mvT hZ (hw _ (gm 158 rfl))) (by decide) (backOf (W := 0) (rmBY l Z a0 hw [] tb kb cap bs h0 n0 O0 Vb hlt hc2) hZ (hw _ (gm 158 rfl)) (hw _ (gm 154 rfl)) (by decide) (by decide)) (g := (mkF m 13 #[vR tb, vI 0, vI (Int32.ofNat bs.length)] [(.int (Int32.ofNat bs.length)), (.int (0 : Int32)), (.ref tb)])) rfl (by rw [hml]; rfl) (argsL := [(.ref tb), (.int (0 : Int32)), (.int (Int32.ofNat bs.length))]) (rest := []) (lenOf pd_25 rfl) rfl (by show 2 * 0 + _ ≤ _; exact Nat.le_of_eq rfl) (hb hby d29_13) (fun _ _ => ⟨rfl, e0, (by decide : 0 + 1 ≤ _), (by decide : 0 + 32 ≤ _)⟩)
  dsimp only [Pt.U, Pt.locs, Pt.cells, Pt.slots] at X303 l303 y303 z303 st303 hQ303
  subst l303 y303 z303
  obtain ⟨y303, ky303, rfl, Nq303, E303, z303, Ey303, V303⟩ := hQ303
  have N303 := Fr.app N0 Nq303
  have k304 : Rch p e below S0 T303 (mkF m 16 #[vR tb, vI 0, vI (Int32.ofNat bs.length)] [(.ref y303)]) := fun t h => k302 t (st303 t h)
  have ne_tb_y303 : tb ≠ y303 := own_ne Vb.lt z303
  have ge_y303 : n0 ≤ y303 := own_ge O0 z303
  have sz_y303 : h0.size ≤ y303 := Nat.le_trans K0.1 z303
  have O305 := O0.ext E303
  have K306 := K0.ext E303
  replace Vb := Vb.ext E303
  obtain ⟨fs, hr, hrun, hended, hW, hsame⟩ := X303.leave (v := (some (.ref y303))) (fun h => by rw [Bd.returns] at h; cases h)
  refine ⟨_, _, ?_, hrun, hended, _, _, rfl, ?_, ⟨_, rfl⟩, hW, hsame.mono (by decide) (by decide)⟩
  · rw [← hS0]
    refine k304 _ ?_
    show Steps p.tables e below (T303.setTop (mkF m 16 #[vR tb, vI 0, vI (Int32.ofNat bs.length)] [(.ref y303)])) _
    jvm_step X303.here [X303.here.top, hx, (hb hby d29_16), X303.method', Bd.returns, Value.isRef, FieldType.isReference]
    first | (intro acts; rw [hr _ acts rfl rfl rfl]) | rw [hr _ _ rfl rfl rfl]
    exact Steps.refl _
  · show Q_rmCR Z bs h0 n0 _ T303.heap _
    exact ⟨_, _, rfl, N303, own_ext K306, sz_y303, Ey303, V303⟩
def Q_rmSV (Z : State) (b1 : Addr) (bs : List Int32) (h0 : Heap) (n0 : Nat) (v : Option Value) (h : Heap) (L : List Loc) : Prop := v = none ∧ Fr n0 L ∧ Keep h0 h [b1] ∧ ∃ y ky, h0.size ≤ y ∧ Exa Z h y "[B" ∧ Fld Z h b1 "java/lang/String" "value" "[B" (.ref y) ∧ Fld Z h b1 "java/lang/String" "coder" "B" (.int (0 : Int32)) ∧ Arv Z h y ky .byte (Int32.ofNat bs.length) (bs.map Value.int) (.int (0 : Int32))
abbrev y_26 : MethodName := ⟨"java/lang/String", "<init>", "(Ljava/lang/AbstractStringBuilder;Ljava/lang/Void;)V"⟩
theorem ef_25n (m : MethodId) (x0 : Addr) (x1 : Addr) : entryFrame m #[(.ref x0), (.ref x1), .null] 5 = mkF m 0 #[.val (.ref x0), .val (.ref x1), .val .null, .unset, .unset] [] := by first | (simp [entryFrame, mkF, argsToLocals, Value.category]; done) | rfl
theorem d25_0 : decode jdk_42_method_150_code 0 = .ok (.aload_n 0, 1) := by decide +kernel
theorem d25_1 : decode jdk_42_method_150_code 1 = .ok (.invokespecial 1, 3) := by decide +kernel
theorem d25_4 : decode jdk_42_method_150_code 4 = .ok (.aload_n 1, 1) := by decide +kernel
theorem pd_24 : parseMethodDescriptor "()[B" = some ⟨[], some (.array .byte)⟩ := by decide +kernel
theorem d25_5 : decode jdk_42_method_150_code 5 = .ok (.invokevirtual 552, 3) := by decide +kernel
theorem d25_8 : decode jdk_42_method_150_code 8 = .ok (.astore_n 3, 1) := by decide +kernel
theorem d25_9 : decode jdk_42_method_150_code 9 = .ok (.aload_n 1, 1) := by decide +kernel
theorem d25_10 : decode jdk_42_method_150_code 10 = .ok (.invokevirtual 549, 3) := by decide +kernel
theorem d25_13 : decode jdk_42_method_150_code 13 = .ok (.istore 4, 2) := by decide +kernel
theorem d25_15 : decode jdk_42_method_150_code 15 = .ok (.aload_n 1, 1) := by decide +kernel
theorem pd_13 : parseMethodDescriptor "()Z" = some ⟨[], some .boolean⟩ := by decide +kernel
theorem d25_16 : decode jdk_42_method_150_code 16 = .ok (.invokevirtual 1047, 3) := by decide +kernel
theorem d25_19 : decode jdk_42_method_150_code 19 = .ok (.ifCond .eq 22, 3) := by decide +kernel
theorem d25_22 : decode jdk_42_method_150_code 22 = .ok (.aload_n 0, 1) := by decide +kernel
theorem d25_23 : decode jdk_42_method_150_code 23 = .ok (.iconst 0, 1) := by decide +kernel
theorem d25_24 : decode jdk_42_method_150_code 24 = .ok (.putfield 15, 3) := by decide +kernel
theorem d25_27 : decode jdk_42_method_150_code 27 = .ok (.aload_n 0, 1) := by decide +kernel
theorem d25_28 : decode jdk_42_method_150_code 28 = .ok (.aload_n 3, 1) := by decide +kernel
theorem d25_29 : decode jdk_42_method_150_code 29 = .ok (.iconst 0, 1) := by decide +kernel
theorem d25_30 : decode jdk_42_method_150_code 30 = .ok (.iload 4, 2) := by decide +kernel
theorem d25_32 : decode jdk_42_method_150_code 32 = .ok (.invokestatic 54, 3) := by decide +kernel
theorem d25_35 : decode jdk_42_method_150_code 35 = .ok (.putfield 9, 3) := by decide +kernel
theorem d25_38 : decode jdk_42_method_150_code 38 = .ok (.goto 59, 3) := by decide +kernel
theorem d25_97 : decode jdk_42_method_150_code 97 = .ok (.return_, 1) := by decide +kernel
theorem rmSV (l : Launch) (Z : State) (a0 : Array Value) (hw : HW Z a0) (ws : List Jvm.Cond) (b1 : Addr) (sb : Addr) (tb : Addr) (kb : ClassId) (cap : Nat) (bs : List Int32) (zC : Int32) (h0 : Heap) (n0 : Nat) (O0 : Old Z n0 h0) (SC : Sta Z Z.heap "java/lang/String" "COMPACT_STRINGS" "Z" (.int zC)) (hzC : ¬ zC = 0) (ge_b1 : n0 ≤ b1) (E_b1 : Exa Z h0 b1 "java/lang/String") (F_b1_value : Fld Z h0 b1 "java/lang/String" "value" "[B" .null) (F_b1_coder : Fld Z h0 b1 "java/lang/String" "coder" "B" (.int (0 : Int32))) (ne_tb_b1 : tb ≠ b1) (E_sb : Exa Z h0 sb "java/lang/StringBuilder") (Fc : Fld Z h0 sb "java/lang/AbstractStringBuilder" "coder" "B" (.int (0 : Int32))) (Fv : Fld Z h0 sb "java/lang/AbstractStringBuilder" "value" "[B" (.ref tb)) (Fn : Fld Z h0 sb "java/lang/AbstractStringBuilder" "count" "I" (.int (Int32.ofNat bs.length))) (Vb : Arv Z h0 tb kb .byte (Int32.ofNat cap) (bs.map Value.int) (.int (0 : Int32))) (hlt : bs.length < cap) (hc2 : cap ≤ 32) :
    MF l Z y_26 jdk_42_method_150_code 5 none ws ({ frames := 3, cells := 1, slots := 32, locals := 70 } : Room) #[(.ref b1), (.ref sb), .null] h0 (Q_rmSV Z b1 bs h0 n0) := by
  refine MetFree.of_bodySF (plainFor_of_name pn_String) hisR ?_
  intro p e s m args below meth c s₁ Bd hml0 hP hK
  obtain ⟨rfl, hZ, hh⟩ := hP
  have hx := Bd.exec
  have hby := Bd.bytes
  have hml : c.maxLocals = 5 := hml0
  have hown : s.vm.findClass "java/lang/String" = some m.cls := findClass_of_methodNamed Bd.named
  have hnm := (name_of_methodNamed Bd.named Bd.method).1
  have X0 : Stand p l e ({ frames := 3, cells := 1, slots := 32, locals := 70 } : Room) s m #[(.ref b1), (.ref sb), .null] below meth c s₁ [] 0 0 := Stand.of_body Bd
  have e0 : s₁.heap = h0 := by rw [← hh, Bd.state]; rfl
  have N0 := Fr.nil n0
  obtain ⟨S0, hS0⟩ : ∃ z, z = s₁.setTop (entryFrame m #[(.ref b1), (.ref sb), .null] 5) := ⟨_, rfl⟩
  have k0 : Rch p e below S0 s₁ (mkF m 0 #[vR b1, vR sb, .val .null, vU, vU] []) := fun t kq => hS0 ▸ castTop (ef_25n m b1 sb) kq
  have K0 : Keep h0 h0 [b1] := Keep.refl h0 _
  have k308 : Rch p e below S0 s₁ (mkF m 1 #[vR b1, vR sb, .val .null, vU, vU] [(.ref b1)]) := fun t h => k0 t (by
      refine XS.aloadN X0.here hx rfl (hb hby d25_0) rfl rfl ?_
      exact h)
  obtain ⟨T307, X307, e307, st307⟩ := initO X0 hx hZ hown (hw _ (gm 16 rfl)) (hw _ (gm 17 rfl)) (hw _ (gm 18 rfl)) e0 (g := (mkF m 1 #[vR b1, vR sb, .val .null, vU, vU] [(.ref b1)])) rfl (by rw [hml]; rfl) rfl (hb hby d25_1) (by decide) (W := 0) (by show 2 * 0 + _ ≤ _; exact Nat.le_of_eq rfl) (by decide)
  have k309 : Rch p e below S0 T307 (mkF m 4 #[vR b1, vR sb, .val .null, vU, vU] []) := fun t h => k308 t (st307 t h)
  have k310 : Rch p e below S0 T307 (mkF m 5 #[vR b1, vR sb, .val .null, vU, vU] [(.ref sb)]) := fun t h => k309 t (by
      refine XS.aloadN X307.here hx rfl (hb hby d25_4) rfl rfl ?_
      exact h)
  obtain ⟨cq311, kq311, q311a, q311b, q311c⟩ := isOf hZ e307 E_sb
  obtain ⟨_, _, ⟨T311, L311, kk311, n311⟩, -, X311, ⟨Lc311, hQ311, l311, y311, z311⟩, st311⟩ := X307.virtualBack hx (y := y_18) (z := y_18) hown (mvT hZ (hw _ (gm 138 rfl))) (mvT hZ (hw _ (gm 139 rfl))) (notFace_of_selects (args := #[]) (mvT hZ (hw _ (gm 141 rfl)))) (mvT hZ (hw _ (gm 141 rfl))) (mvT hZ (hw _ (gm 140 rfl))) (by decide) (backOf (W := 0) (rmGV l Z a0 hw [] sb tb  h0 n0 O0 Fv) hZ (hw _ (gm 142 rfl)) (hw _ (gm 52 rfl)) (by decide) (by decide)) q311a q311c (g := (mkF m 5 #[vR b1, vR sb, .val .null, vU, vU] [(.ref sb)])) rfl (by rw [hml]; rfl) (Steps.refl _) (argsL := []) (rest := []) (lenOf pd_24 rfl) rfl (by show 2 * 0 + _ ≤ _; exact Nat.le_of_eq rfl) (hb hby d25_5) (fun _ _ => ⟨rfl, e307, (by decide : 0 + 0 ≤ _), (by decide : 0 + 0 ≤ _)⟩)
  dsimp only [Pt.U, Pt.locs, Pt.cells, Pt.slots] at X311 l311 y311 z311 st311 hQ311
  subst l311 y311 z311
  obtain ⟨rfl, Nq311, hh311⟩ := hQ311
  have N311 := Fr.app N0 Nq311
  have k312 : Rch p e below S0 T311 (mkF m 8 #[vR b1, vR sb, .val .null, vU, vU] [(.ref tb)]) := fun t h => k310 t (st311.trans h)
  have k313 : Rch p e below S0 T311 (mkF m 10 #[vR b1, vR sb, .val .null, vR tb, vU] [(.ref sb)]) := fun t h => k312 t (by
      refine XS.astoreN X311.here hx rfl (hb hby d25_8) rfl rfl (l' := #[vR b1, vR sb, .val .null, vR tb, vU]) rfl ?_
      refine XS.aloadN X311.here hx rfl (hb hby d25_9) rfl rfl ?_
      exact h)
  obtain ⟨cq314, kq314, q314a, q314b, q314c⟩ := isOf hZ hh311 E_sb
  obtain ⟨_, _, ⟨T314, L314, kk314, n314⟩, -, X314, ⟨Lc314, hQ314, l314, y314, z314⟩, st314⟩ := X311.virtualBack hx (y := y_19) (z := y_20) hown (mvT hZ (hw _ (gm 143 rfl))) (mvT hZ (hw _ (gm 144 rfl))) (own_nf (args := #[]) (y' := y_15) rfl (mvT hZ (hw _ (gm 85 rfl)))) (mvT hZ (hw _ (gm 146 rfl))) (mvT hZ (hw _ (gm 147 rfl))) (by decide) (backOf (W := 0) (rmLS l Z a0 hw [] sb bs h0 n0 O0 E_sb Fn) hZ (hw _ (gm 148 rfl)) (hw _ (gm 44 rfl)) (by decide) (by decide)) q314a q314c (g := (mkF m 10 #[vR b1, vR sb, .val .null, vR tb, vU] [(.ref sb)])) rfl (by rw [hml]; rfl) (Steps.refl _) (argsL := []) (rest := []) (lenOf pd_9 rfl) rfl (by show 2 * 0 + _ ≤ _; exact Nat.le_of_eq rfl) (hb hby d25_10) (fun _ _ => ⟨rfl, hh311, (by decide : 0 + 0 ≤ _), (by decide : 0 + 0 ≤ _)⟩)
  dsimp only [Pt.U, Pt.locs, Pt.cells, Pt.slots] at X314 l314 y314 z314 st314 hQ314
  subst l314 y314 z314
  obtain ⟨rfl, Nq314, hh314⟩ := hQ314
  have N314 := Fr.app N311 Nq314
  have k315 : Rch p e below S0 T314 (mkF m 13 #[vR b1, vR sb, .val .null, vR tb, vU] [(.int (Int32.ofNat bs.length))]) := fun t h => k313 t (st314.trans h)
  have k316 : Rch p e below S0 T314 (mkF m 16 #[vR b1, vR sb, .val .null, vR tb, vI (Int32.ofNat bs.length)] [(.ref sb)]) := fun t h => k315 t (by
      refine XS.istore X314.here hx rfl (hb hby d25_13) rfl (l' := #[vR b1, vR sb, .val .null, vR tb, vI (Int32.ofNat bs.length)]) rfl ?_
      refine XS.aloadN X314.here hx rfl (hb hby d25_15) rfl rfl ?_
      exact h)
  obtain ⟨cq317, kq317, q317a, q317b, q317c⟩ := isOf hZ hh314 E_sb
  obtain ⟨_, _, ⟨T317, L317, kk317, n317⟩, -, X317, ⟨Lc317, hQ317, l317, y317, z317⟩, st317⟩ := X314.virtualBack hx (y := y_21) (z := y_21) hown (mvT hZ (hw _ (gm 151 rfl))) (mvT hZ (hw _ (gm 88 rfl))) (notFace_of_selects (args := #[]) (mvT hZ (hw _ (gm 90 rfl)))) (mvT hZ (hw _ (gm 90 rfl))) (mvT hZ (hw _ (gm 89 rfl))) (by decide) (backOf (W := 0) (rmIA l Z a0 hw [] sb zC h0 n0 O0 SC hzC Fc) hZ (hw _ (gm 91 rfl)) (hw _ (gm 52 rfl)) (by decide) (by decide)) q317a q317c (g := (mkF m 16 #[vR b1, vR sb, .val .null, vR tb, vI (Int32.ofNat bs.length)] [(.ref sb)])) rfl (by rw [hml]; rfl) (Steps.refl _) (argsL := []) (rest := []) (lenOf pd_13 rfl) rfl (by show 2 * 0 + _ ≤ _; exact Nat.le_of_eq rfl) (hb hby d25_16) (fun _ _ => ⟨rfl, hh314, (by decide : 0 + 0 ≤ _), (by decide : 0 + 0 ≤ _)⟩)
  dsimp only [Pt.U, Pt.locs, Pt.cells, Pt.slots] at X317 l317 y317 z317 st317 hQ317
  subst l317 y317 z317
  obtain ⟨rfl, Nq317, hh317⟩ := hQ317
  have N317 := Fr.app N314 Nq317
  have k318 : Rch p e below S0 T317 (mkF m 19 #[vR b1, vR sb, .val .null, vR tb, vI (Int32.ofNat bs.length)] [(.int (1 : Int32))]) := fun t h => k316 t (st317.trans h)
  have k320 : Rch p e below S0 T317 (mkF m 24 #[vR b1, vR sb, .val .null, vR tb, vI (Int32.ofNat bs.length)] [(.int (0 : Int32)), (.ref b1)]) := fun t h => k318 t (by
      refine XS.ifNo X317.here hx rfl (hb hby d25_19) rfl ((if0 _ _).trans (feq (by decide : ¬ ((1 : Int32) = (0 : Int32)))).1) ?_
      refine XS.aloadN X317.here hx rfl (hb hby d25_22) rfl rfl ?_
      refine XS.iconst X317.here hx rfl (hb hby d25_23) ?_
      exact h)
  obtain ⟨T319, h319, X319, e319, W319, st319⟩ := putFN X317 hx hZ hown (hw _ (gm 26 rfl)) Via.refl hh317 F_b1_coder E_b1 (Or.inr ⟨(hw _ (gm 22 rfl)), rfl, hnm⟩) (hw _ (gm 6 rfl)) (ty := .byte) (v' := (.int (0 : Int32))) (by decide) (by decide) (by decide) (g := (mkF m 24 #[vR b1, vR sb, .val .null, vR tb, vI (Int32.ofNat bs.length)] [(.int (0 : Int32)), (.ref b1)])) rfl rfl (hb hby d25_24)
  have k321 : Rch p e below S0 T319 (mkF m 27 #[vR b1, vR sb, .val .null, vR tb, vI (Int32.ofNat bs.length)] []) := fun t h => k320 t (st319 t h)
  have N319 := Fr.snoc X319 N317 ge_b1
  replace F_b1_coder := F_b1_coder.same W319
  have O322 := O0.wr W319 ge_b1
  have K323 := K0.wr W319 (Or.inl (gm 0 rfl))
  replace Vb := Vb.other W319 ne_tb_b1
  replace E_b1 := E_b1.wr W319
  replace F_b1_value := F_b1_value.other W319 (Or.inr (slot_ne (Or.inr (hw _ (gm 21 rfl))) (Or.inr (hw _ (gm 22 rfl))) (by decide) (t := (.array .byte)) (t' := .byte) (by decide) (by decide)))
  have k324 : Rch p e below S0 T319 (mkF m 32 #[vR b1, vR sb, .val .null, vR tb, vI (Int32.ofNat bs.length)] [(.int (Int32.ofNat bs.length)), (.int (0 : Int32)), (.ref tb), (.ref b1)]) := fun t h => k321 t (by
      refine XS.aloadN X319.here hx rfl (hb hby d25_27) rfl rfl ?_
      refine XS.aloadN X319.here hx rfl (hb hby d25_28) rfl rfl ?_
      refine XS.iconst X319.here hx rfl (hb hby d25_29) ?_
      refine XS.iload X319.here hx rfl (hb hby d25_30) rfl ?_
      exact h)
  obtain ⟨_, _, ⟨T325, L325, kk325, n325⟩, -, X325, ⟨Lc325, hQ325, l325, y325, z325⟩, st325⟩ := Jvm.LawKit.callS X319 hx (y := y_25) hown (mvT hZ (hw _ (gm 152 rfl))) (mvT hZ (hw _ (gm 153 rfl))) (mvT hZ (hw _ (gm 154 rfl))) (mvT hZ (hw _ (gm 155 rfl))) (by decide) (backOf (W := 1) (rmCR l Z a0 hw [] tb kb cap bs h319 n0 O322 Vb hlt hc2) hZ (hw _ (gm 155 rfl)) (hw _ (gm 154 rfl)) (by decide) (by decide)) (g := (mkF m 32 #[vR b1, vR sb, .val .null, vR tb, vI (Int32.ofNat bs.length)] [(.int (Int32.ofNat bs.length)), (.int (0 : Int32)), (.ref tb), (.ref b1)])) rfl (by rw [hml]; rfl) (argsL := [(.ref tb), (.int (0 : Int32)), (.int (Int32.ofNat bs.length))]) (rest := [(.ref b1)]) (lenOf pd_25 rfl) rfl (by show 2 * 0 + _ ≤ _; exact Nat.le_of_eq rfl) (hb hby d25_32) (fun _ _ => ⟨rfl, e319, (by decide : 0 + 1 ≤ _), (by decide : 0 + 32 ≤ _)⟩)
  dsimp only [Pt.U, Pt.locs, Pt.cells, Pt.slots] at X325 l325 y325 z325 st325 hQ325
  subst l325 y325 z325
  obtain ⟨y325, ky325, rfl, Nq325, E325, z325, Ey325, V325⟩ := hQ325
  have N325 := Fr.app N319 Nq325
  have k326 : Rch p e below S0 T325 (mkF m 35 #[vR b1, vR sb, .val .null, vR tb, vI (Int32.ofNat bs.length)] [(.ref y325), (.ref b1)]) := fun t h => k324 t (st325 t h)
  have ne_tb_y325 : tb ≠ y325 := own_ne Vb.lt z325
  have ne_b1_y325 : b1 ≠ y325 := own_ne E_b1.lt z325
  have ge_y325 : n0 ≤ y325 := own_ge O322 z325
  have sz_y325 : h0.size ≤ y325 := Nat.le_trans K323.1 z325
  have O327 := O322.ext E325
  have K328 := K323.ext E325
  replace Vb := Vb.ext E325
  replace E_b1 := E_b1.ext E325
  replace F_b1_value := F_b1_value.ext E325
  replace F_b1_coder := F_b1_coder.ext E325
  obtain ⟨T329, h329, X329, e329, W329, st329⟩ := putF X325 hx hZ hown (host := "") (Or.inl (hw _ (gm 25 rfl))) Via.refl rfl F_b1_value E_b1 (Or.inr ⟨(hw _ (gm 21 rfl)), rfl, hnm⟩) (hw _ (gm 6 rfl)) (ty := (.array .byte)) (by decide) rfl rfl (g := (mkF m 35 #[vR b1, vR sb, .val .null, vR tb, vI (Int32.ofNat bs.length)] [(.ref y325), (.ref b1)])) rfl rfl (hb hby d25_35)
  have k330 : Rch p e below S0 T329 (mkF m 38 #[vR b1, vR sb, .val .null, vR tb, vI (Int32.ofNat bs.length)] []) := fun t h => k326 t (st329 t h)
  have N329 := Fr.snoc X329 N325 ge_b1
  replace F_b1_value := F_b1_value.same W329
  have O331 := O327.wr W329 ge_b1
  have K332 := K328.wr W329 (Or.inl (gm 0 rfl))
  replace E_b1 := E_b1.wr W329
  replace F_b1_coder := F_b1_coder.other W329 (Or.inr (slot_ne (Or.inr (hw _ (gm 22 rfl))) (Or.inr (hw _ (gm 21 rfl))) (by decide) (t := .byte) (t' := (.array .byte)) (by decide) (by decide)))
  replace Ey325 := Ey325.wr W329
  replace V325 := V325.other W329 (Ne.symm ne_b1_y325)
  have k333 : Rch p e below S0 T329 (mkF m 97 #[vR b1, vR sb, .val .null, vR tb, vI (Int32.ofNat bs.length)] []) := fun t h => k330 t (by
      refine XS.goto X329.here hx rfl (pc0 := 38) (pc' := 97) rfl (hb hby d25_38) (by decide) (by decide) ?_
      exact h)
  obtain ⟨fs, hr, hrun, hended, hW, hsame⟩ := X329.leave (v := none) (fun _ => rfl)
  refine ⟨_, _, ?_, hrun, hended, _, _, rfl, ?_, ⟨_, rfl⟩, hW, hsame.mono (by decide) (by decide)⟩
  · rw [← hS0]
    refine k333 _ ?_
    show Steps p.tables e below (T329.setTop (mkF m 97 #[vR b1, vR sb, .val .null, vR tb, vI (Int32.ofNat bs.length)] [])) _
    exact X329.returnOut hx Bd.returns (hb hby d25_97) hr
  · show Q_rmSV Z b1 bs h0 n0 _ T329.heap _
    rw [e329]
    exact ⟨rfl, N329, K332, _, _, sz_y325, Ey325, F_b1_value, F_b1_coder, V325⟩
def Q_rmSS (Z : State) (b1 : Addr) (bs : List Int32) (h0 : Heap) (n0 : Nat) (v : Option Value) (h : Heap) (L : List Loc) : Prop := v = none ∧ Fr n0 L ∧ Keep h0 h [b1] ∧ ∃ y ky, h0.size ≤ y ∧ Exa Z h y "[B" ∧ Fld Z h b1 "java/lang/String" "value" "[B" (.ref y) ∧ Fld Z h b1 "java/lang/String" "coder" "B" (.int (0 : Int32)) ∧ Arv Z h y ky .byte (Int32.ofNat bs.length) (bs.map Value.int) (.int (0 : Int32))
abbrev y_27 : MethodName := ⟨"java/lang/String", "<init>", "(Ljava/lang/StringBuilder;)V"⟩
theorem ef_24 (m : MethodId) (x0 : Addr) (x1 : Addr) : entryFrame m #[(.ref x0), (.ref x1)] 2 = mkF m 0 #[.val (.ref x0), .val (.ref x1)] [] := by first | (simp [entryFrame, mkF, argsToLocals, Value.category]; done) | rfl
theorem d24_0 : decode jdk_42_method_53_code 0 = .ok (.aload_n 0, 1) := by decide +kernel
theorem d24_1 : decode jdk_42_method_53_code 1 = .ok (.aload_n 1, 1) := by decide +kernel
theorem d24_2 : decode jdk_42_method_53_code 2 = .ok (.aconst_null, 1) := by decide +kernel
theorem pd_23 : parseMethodDescriptor "(Ljava/lang/AbstractStringBuilder;Ljava/lang/Void;)V" = some ⟨[(.object "java/lang/AbstractStringBuilder"), (.object "java/lang/Void")], none⟩ := by decide +kernel
theorem d24_3 : decode jdk_42_method_53_code 3 = .ok (.invokespecial 489, 3) := by decide +kernel
theorem d24_6 : decode jdk_42_method_53_code 6 = .ok (.return_, 1) := by decide +kernel
theorem rmSS (l : Launch) (Z : State) (a0 : Array Value) (hw : HW Z a0) (ws : List Jvm.Cond) (b1 : Addr) (sb : Addr) (tb : Addr) (kb : ClassId) (cap : Nat) (bs : List Int32) (zC : Int32) (h0 : Heap) (n0 : Nat) (O0 : Old Z n0 h0) (SC : Sta Z Z.heap "java/lang/String" "COMPACT_STRINGS" "Z" (.int zC)) (hzC : ¬ zC = 0) (ge_b1 : n0 ≤ b1) (E_b1 : Exa Z h0 b1 "java/lang/String") (F_b1_value : Fld Z h0 b1 "java/lang/String" "value" "[B" .null) (F_b1_coder : Fld Z h0 b1 "java/lang/String" "coder" "B" (.int (0 : Int32))) (ne_tb_b1 : tb ≠ b1) (E_sb : Exa Z h0 sb "java/lang/StringBuilder") (Fc : Fld Z h0 sb "java/lang/AbstractStringBuilder" "coder" "B" (.int (0 : Int32))) (Fv : Fld Z h0 sb "java/lang/AbstractStringBuilder" "value" "[B" (.ref tb)) (Fn : Fld Z h0 sb "java/lang/AbstractStringBuilder" "count" "I" (.int (Int32.ofNat bs.length))) (Vb : Arv Z h0 tb kb .byte (Int32.ofNat cap) (bs.map Value.int) (.int (0 : Int32))) (hlt : bs.length < cap) (hc2 : cap ≤ 32) :
    MF l Z y_27 jdk_42_method_53_code 2 none ws ({ frames := 4, cells := 1, slots := 32, locals := 88 } : Room) #[(.ref b1), (.ref sb)] h0 (Q_rmSS Z b1 bs h0 n0) := by
  refine MetFree.of_bodySF (plainFor_of_name pn_String) hisR ?_
  intro p e s m args below meth c s₁ Bd hml0 hP hK
  obtain ⟨rfl, hZ, hh⟩ := hP
  have hx := Bd.exec
  have hby := Bd.bytes
  have hml : c.maxLocals = 2 := hml0
  have hown : s.vm.findClass "java/lang/String" = some m.cls := findClass_of_methodNamed Bd.named
  have hnm := (name_of_methodNamed Bd.named Bd.method).1
  have X0 : Stand p l e ({ frames := 4, cells := 1, slots := 32, locals := 88 } : Room) s m #[(.ref b1), (.ref sb)] below meth c s₁ [] 0 0 := Stand.of_body Bd
  have e0 : s₁.heap = h0 := by rw [← hh, Bd.state]; rfl
  have N0 := Fr.nil n0
  obtain ⟨S0, hS0⟩ : ∃ z, z = s₁.setTop (entryFrame m #[(.ref b1), (.ref sb)] 2) := ⟨_, rfl⟩
  have k0 : Rch p e below S0 s₁ (mkF m 0 #[vR b1, vR sb] []) := fun t kq => hS0 ▸ castTop (ef_24 m b1 sb) kq
  have K0 : Keep h0 h0 [b1] := Keep.refl h0 _
  have k334 : Rch p e below S0 s₁ (mkF m 3 #[vR b1, vR sb] [.null, (.ref sb), (.ref b1)]) := fun t h => k0 t (by
      refine XS.aloadN X0.here hx rfl (hb hby d24_0) rfl rfl ?_
      refine XS.aloadN X0.here hx rfl (hb hby d24_1) rfl rfl ?_
      refine XS.aconstNull X0.here hx rfl (hb hby d24_2) ?_
      exact h)
  obtain ⟨_, _, ⟨T335, L335, kk335, n335⟩, -, X335, ⟨Lc335, hQ335, l335, y335, z335⟩, st335⟩ := X0.specialBack hx (y := y_26) rfl hown (mvT hZ (hw _ (gm 135 rfl))) (mvT hZ (hw _ (gm 136 rfl))) (mvT hZ (hw _ (gm 137 rfl))) (by decide) (backOf (W := 0) (rmSV l Z a0 hw [] b1 sb tb kb cap bs zC h0 n0 O0 SC hzC ge_b1 E_b1 F_b1_value F_b1_coder ne_tb_b1 E_sb Fc Fv Fn Vb hlt hc2) hZ (hw _ (gm 137 rfl)) (hw _ (gm 7 rfl)) (by decide) (by decide)) (g := (mkF m 3 #[vR b1, vR sb] [.null, (.ref sb), (.ref b1)])) rfl (by rw [hml]; rfl) (Steps.refl _) (a := b1) (argsL := [(.ref sb), .null]) (rest := []) (lenOf pd_23 rfl) rfl (by show 2 * 0 + _ ≤ _; exact Nat.le_of_eq rfl) (hb hby d24_3) (fun _ _ => ⟨rfl, e0, (by decide : 0 + 1 ≤ _), (by decide : 0 + 32 ≤ _)⟩)
  dsimp only [Pt.U, Pt.locs, Pt.cells, Pt.slots] at X335 l335 y335 z335 st335 hQ335
  subst l335 y335 z335
  obtain ⟨rfl, Nq335, K335, y335, ky335, z335, Ey335, Gv335, Gc335, V335⟩ := hQ335
  have N335 := Fr.app N0 Nq335
  have k336 : Rch p e below S0 T335 (mkF m 6 #[vR b1, vR sb] []) := fun t h => k334 t (st335.trans h)
  have O337 := O0.keep K335 (allS ge_b1 all0)
  have K338 := K0.trans K335 (allS (Or.inl (gm 0 rfl)) all0)
  replace E_b1 := E_b1.keep K335
  obtain ⟨fs, hr, hrun, hended, hW, hsame⟩ := X335.leave (v := none) (fun _ => rfl)
  refine ⟨_, _, ?_, hrun, hended, _, _, rfl, ?_, ⟨_, rfl⟩, hW, hsame.mono (by decide) (by decide)⟩
  · rw [← hS0]
    refine k336 _ ?_
    show Steps p.tables e below (T335.setTop (mkF m 6 #[vR b1, vR sb] [])) _
    exact X335.returnOut hx Bd.returns (hb hby d24_6) hr
  · show Q_rmSS Z b1 bs h0 n0 _ T335.heap _
    exact ⟨rfl, N335, K338, _, _, z335, Ey335, Gv335, Gc335, V335⟩
def Q_rmTS (Z : State) (bs : List Int32) (h0 : Heap) (n0 : Nat) (v : Option Value) (h : Heap) (L : List Loc) : Prop := ∃ b1 y ky, v = some (.ref b1) ∧ Fr n0 L ∧ Ext h0 h ∧ h0.size ≤ b1 ∧ Exa Z h b1 "java/lang/String" ∧ h0.size ≤ y ∧ Exa Z h y "[B" ∧ Fld Z h b1 "java/lang/String" "value" "[B" (.ref y) ∧ Fld Z h b1 "java/lang/String" "coder" "B" (.int (0 : Int32)) ∧ Arv Z h y ky .byte (Int32.ofNat bs.length) (bs.map Value.int) (.int (0 : Int32))
abbrev y_28 : MethodName := ⟨"java/lang/StringBuilder", "toString", "()Ljava/lang/String;"⟩
theorem ef_23 (m : MethodId) (x0 : Addr) : entryFrame m #[(.ref x0)] 1 = mkF m 0 #[.val (.ref x0)] [] := by first | (simp [entryFrame, mkF, argsToLocals, Value.category]; done) | rfl
theorem d23_0 : decode jdk_67_method_42_code 0 = .ok (.new 18, 3) := by decide +kernel
theorem d23_3 : decode jdk_67_method_42_code 3 = .ok (.dup, 1) := by decide +kernel
theorem d23_4 : decode jdk_67_method_42_code 4 = .ok (.aload_n 0, 1) := by decide +kernel
theorem pd_22 : parseMethodDescriptor "(Ljava/lang/StringBuilder;)V" = some ⟨[(.object "java/lang/StringBuilder")], none⟩ := by decide +kernel
theorem d23_5 : decode jdk_67_method_42_code 5 = .ok (.invokespecial 137, 3) := by decide +kernel
theorem d23_8 : decode jdk_67_method_42_code 8 = .ok (.areturn, 1) := by decide +kernel
theorem rmTS (l : Launch) (Z : State) (a0 : Array Value) (hw : HW Z a0) (ws : List Jvm.Cond) (sb : Addr) (tb : Addr) (kb : ClassId) (cap : Nat) (bs : List Int32) (zC : Int32) (h0 : Heap) (n0 : Nat) (O0 : Old Z n0 h0) (SC : Sta Z Z.heap "java/lang/String" "COMPACT_STRINGS" "Z" (.int zC)) (hzC : ¬ zC = 0) (E_sb : Exa Z h0 sb "java/lang/StringBuilder") (Fc : Fld Z h0 sb "java/lang/AbstractStringBuilder" "coder" "B" (.int (0 : Int32))) (Fv : Fld Z h0 sb "java/lang/AbstractStringBuilder" "value" "[B" (.ref tb)) (Fn : Fld Z h0 sb "java/lang/AbstractStringBuilder" "count" "I" (.int (Int32.ofNat bs.length))) (Vb : Arv Z h0 tb kb .byte (Int32.ofNat cap) (bs.map Value.int) (.int (0 : Int32))) (hlt : bs.length < cap) (hc2 : cap ≤ 32) :
    MF l Z y_28 jdk_67_method_42_code 1 (some (.object "java/lang/String")) ws ({ frames := 5, cells := 2, slots := 36, locals := 104 } : Room) #[(.ref sb)] h0 (Q_rmTS Z bs h0 n0) := by
  refine MetFree.of_bodySF (plainFor_of_name pn_StringBuilder) hisR ?_
  intro p e s m args below meth c s₁ Bd hml0 hP hK
  obtain ⟨rfl, hZ, hh⟩ := hP
  have hx := Bd.exec
  have hby := Bd.bytes
  have hml : c.maxLocals = 1 := hml0
  have hown : s.vm.findClass "java/lang/StringBuilder" = some m.cls := findClass_of_methodNamed Bd.named
  have hnm := (name_of_methodNamed Bd.named Bd.method).1
  have X0 : Stand p l e ({ frames := 5, cells := 2, slots := 36, locals := 104 } : Room) s m #[(.ref sb)] below meth c s₁ [] 0 0 := Stand.of_body Bd
  have e0 : s₁.heap = h0 := by rw [← hh, Bd.state]; rfl
  have N0 := Fr.nil n0
  obtain ⟨S0, hS0⟩ : ∃ z, z = s₁.setTop (entryFrame m #[(.ref sb)] 1) := ⟨_, rfl⟩
  have k0 : Rch p e below S0 s₁ (mkF m 0 #[vR sb] []) := fun t kq => hS0 ▸ castTop (ef_23 m sb) kq
  have K0 : Keep h0 h0 [] := Keep.refl h0 _
  obtain ⟨T339, h339, X339, e339, E339, A339, D339, -, st339⟩ := newO X0 hx hZ hown (hw _ (gm 131 rfl)) (hw _ (gm 6 rfl)) (hw _ (gm 7 rfl)) e0 (g := (mkF m 0 #[vR sb] [])) rfl (hb hby d23_0) (by decide) (by decide)
  obtain ⟨b339, g339⟩ : ∃ z, z = h0.size := ⟨_, rfl⟩
  rw [← g339] at A339 D339 st339
  have k340 : Rch p e below S0 T339 (mkF m 3 #[vR sb] [(.ref b339)]) := fun t h => k0 t (st339 t h)
  have ne_sb_b339 : sb ≠ b339 := own_ne E_sb.lt (Nat.le_of_eq g339.symm)
  have ne_tb_b339 : tb ≠ b339 := own_ne Vb.lt (Nat.le_of_eq g339.symm)
  have ge_b339 : n0 ≤ b339 := own_ge O0 (Nat.le_of_eq g339.symm)
  have sz_b339 : h0.size ≤ b339 := Nat.le_trans K0.1 (Nat.le_of_eq g339.symm)
  have O341 := O0.ext E339
  have K342 := K0.ext E339
  replace E_sb := E_sb.ext E339
  replace Fc := Fc.ext E339
  replace Fv := Fv.ext E339
  replace Fn := Fn.ext E339
  replace Vb := Vb.ext E339
  have E_b339 := A339
  have F_b339_value : Fld Z h339 b339 "java/lang/String" "value" "[B" .null := D339 (Or.inr (hw _ (gm 21 rfl))) (ty := (.array .byte)) (by decide)
  have F_b339_coder : Fld Z h339 b339 "java/lang/String" "coder" "B" (.int (0 : Int32)) := D339 (Or.inr (hw _ (gm 22 rfl))) (ty := .byte) (by decide)
  have k343 : Rch p e below S0 T339 (mkF m 5 #[vR sb] [(.ref sb), (.ref b339), (.ref b339)]) := fun t h => k340 t (by
      refine XS.dup X339.here hx rfl (hb hby d23_3) rfl rfl ?_
      refine XS.aloadN X339.here hx rfl (hb hby d23_4) rfl rfl ?_
      exact h)
  obtain ⟨_, _, ⟨T344, L344, kk344, n344⟩, -, X344, ⟨Lc344, hQ344, l344, y344, z344⟩, st344⟩ := X339.specialBack hx (y := y_27) rfl hown (mvT hZ (hw _ (gm 132 rfl))) (mvT hZ (hw _ (gm 133 rfl))) (mvT hZ (hw _ (gm 134 rfl))) (by decide) (backOf (W := 1) (rmSS l Z a0 hw [] b339 sb tb kb cap bs zC h339 n0 O341 SC hzC ge_b339 E_b339 F_b339_value F_b339_coder ne_tb_b339 E_sb Fc Fv Fn Vb hlt hc2) hZ (hw _ (gm 134 rfl)) (hw _ (gm 7 rfl)) (by decide) (by decide)) (g := (mkF m 5 #[vR sb] [(.ref sb), (.ref b339), (.ref b339)])) rfl (by rw [hml]; rfl) (Steps.refl _) (a := b339) (argsL := [(.ref sb)]) (rest := [(.ref b339)]) (lenOf pd_22 rfl) rfl (by show 2 * 0 + _ ≤ _; exact Nat.le_of_eq rfl) (hb hby d23_5) (fun _ _ => ⟨rfl, e339, (by decide : 1 + 1 ≤ _), (by decide : 4 + 32 ≤ _)⟩)
  dsimp only [Pt.U, Pt.locs, Pt.cells, Pt.slots] at X344 l344 y344 z344 st344 hQ344
  subst l344 y344 z344
  obtain ⟨rfl, Nq344, K344, y344, ky344, z344, Ey344, Gv344, Gc344, V344⟩ := hQ344
  have N344 := Fr.app N0 Nq344
  have k345 : Rch p e below S0 T344 (mkF m 8 #[vR sb] [(.ref b339)]) := fun t h => k343 t (st344.trans h)
  have szy344 := Nat.le_trans K342.1 z344
  have O346 := O341.keep K344 (allS ge_b339 all0)
  have K347 := K342.trans K344 (allS (Or.inr sz_b339) all0)
  replace E_b339 := E_b339.keep K344
  obtain ⟨fs, hr, hrun, hended, hW, hsame⟩ := X344.leave (v := (some (.ref b339))) (fun h => by rw [Bd.returns] at h; cases h)
  refine ⟨_, _, ?_, hrun, hended, _, _, rfl, ?_, ⟨_, rfl⟩, hW, hsame.mono (by decide) (by decide)⟩
  · rw [← hS0]
    refine k345 _ ?_
    show Steps p.tables e below (T344.setTop (mkF m 8 #[vR sb] [(.ref b339)])) _
    jvm_step X344.here [X344.here.top, hx, (hb hby d23_8), X344.method', Bd.returns, Value.isRef, FieldType.isReference]
    first | (intro acts; rw [hr _ acts rfl rfl rfl]) | rw [hr _ _ rfl rfl rfl]
    exact Steps.refl _
  · show Q_rmTS Z bs h0 n0 _ T344.heap _
    exact ⟨_, _, _, rfl, N344, own_ext K347, sz_b339, E_b339, szy344, Ey344, Gv344, Gc344, V344⟩
def b8 (c : Int32) : Int32 := c.toInt8.toInt32
def u16 (cs : List Int32) : List Int32 := cs.flatMap fun c => [own_lo c, own_hi c]
theorem u16_len (cs : List Int32) : (u16 cs).length = 2 * cs.length := by
  induction cs with
  | nil => rfl
  | cons b r ih => simp only [u16, List.flatMap_cons, List.length_append, List.length_cons, List.length_nil] at ih ⊢; omega
theorem u16_app (bs cs : List Int32) : u16 (bs ++ cs) = u16 bs ++ u16 cs := by simp [u16]
theorem u16_at (cs : List Int32) (d : Value) : ∀ q, q < cs.length → ((u16 cs).map Value.int).getD (2 * q) d = .int (own_lo (cs.getD q 0)) ∧ ((u16 cs).map Value.int).getD (2 * q + 1) d = .int (own_hi (cs.getD q 0)) := by
  induction cs with
  | nil => intro q h; exact absurd h (Nat.not_lt_zero _)
  | cons b r ih =>
    intro q h
    cases q with
    | zero => exact ⟨rfl, rfl⟩
    | succ q =>
      have := ih q (by simpa using h)
      exact this
theorem u16_of (cs : List Int32) (vs : List Value) (n : Nat) (hn : cs.length = n) (hl : vs.length = 2 * n) (hv : ∀ q, q < n → vs.getD (2 * q) (.int (0 : Int32)) = .int (own_lo (cs.getD q 0)) ∧ vs.getD (2 * q + 1) (.int (0 : Int32)) = .int (own_hi (cs.getD q 0))) : ∀ i, ((u16 cs).map Value.int).getD i (.int (0 : Int32)) = vs.getD i (.int (0 : Int32)) := by
  intro i
  by_cases h : i < 2 * n
  · have q := hv (i / 2) (by omega)
    have r := u16_at cs (.int (0 : Int32)) (i / 2) (by omega)
    rcases Nat.mod_two_eq_zero_or_one i with e | e
    · have e2 : 2 * (i / 2) = i := by omega
      rw [e2] at q r
      rw [q.1, r.1]
    · have e2 : 2 * (i / 2) + 1 = i := by omega
      rw [e2] at q r
      rw [q.2, r.2]
  · rw [List.getD_eq_getElem?_getD, List.getD_eq_getElem?_getD, List.getElem?_eq_none (by rw [List.length_map, u16_len]; omega), List.getElem?_eq_none (by omega)]
theorem own_set2 (xs : List Value) (m : Nat) (a b d : Value) : ((xs ++ List.replicate (m + 2) d).set xs.length a).set (xs.length + 1) b = xs ++ [a, b] ++ List.replicate m d := by
  rw [List.set_append_right _ _ (Nat.le_refl _), List.set_append_right _ _ (by omega)]
  simp [List.replicate_succ]
theorem own_set1 (xs : List Value) (m : Nat) (a d : Value) : (xs ++ List.replicate (m + 1) d).set xs.length a = xs ++ [a] ++ List.replicate m d := by
  rw [List.set_append_right _ _ (Nat.le_refl _)]
  simp [List.replicate_succ]
theorem own_takes (bs : List Int32) (i : Nat) (h : i < bs.length) : bs.take (i + 1) = bs.take i ++ [bs.getD i 0] := by
  rw [List.getD_eq_getElem?_getD, List.getElem?_eq_getElem h]
  simp
theorem own_ustep (bs : List Int32) (i : Nat) (hi : i < bs.length) (h16 : bs.length ≤ 16) : ((((u16 (bs.take i)).map Value.int ++ List.replicate (32 - 2 * i) (Value.int (0 : Int32))).set (2 * i) (.int (own_lo (bs.getD i 0)))).set (2 * i + 1) (.int (own_hi (bs.getD i 0)))) = (u16 (bs.take (i + 1))).map Value.int ++ List.replicate (32 - 2 * (i + 1)) (Value.int (0 : Int32)) := by
  have hl : ((u16 (bs.take i)).map Value.int).length = 2 * i := by rw [List.length_map, u16_len, List.length_take]; omega
  have e : 32 - 2 * i = (32 - 2 * (i + 1)) + 2 := by omega
  have := own_set2 ((u16 (bs.take i)).map Value.int) (32 - 2 * (i + 1)) (.int (own_lo (bs.getD i 0))) (.int (own_hi (bs.getD i 0))) (.int (0 : Int32))
  rw [hl] at this
  rw [e, this, own_takes bs i hi, u16_app, List.map_append]
  rfl
theorem own_push {Z : State} {h : Heap} {a : Addr} {k : ClassId} {ty : FieldType} {z : Int32} (bs : List Int32) (ch : Int32) (F : Arv Z h a k ty z ((bs.map Value.int ++ List.replicate 16 (Value.int (0 : Int32))).set bs.length (.int ch)) (.int (0 : Int32))) : Arv Z h a k ty z ((bs ++ [ch]).map Value.int) (.int (0 : Int32)) := by
  have := own_set1 (bs.map Value.int) 15 (.int ch) (.int (0 : Int32))
  rw [List.length_map] at this
  rw [this] at F
  rw [List.map_append]
  exact F.pad fun i => (pad_rep _ _ _ i).symm
def StgL (Z : State) (h : Heap) (a tt : Addr) (kt : ClassId) (cs : List Int32) : Prop := Exa Z h a "java/lang/String" ∧ Fld Z h a "java/lang/String" "value" "[B" (.ref tt) ∧ Fld Z h a "java/lang/String" "coder" "B" (.int (0 : Int32)) ∧ Arv Z h tt kt .byte (Int32.ofNat (cs.map b8).length) ((cs.map b8).map Value.int) (.int (0 : Int32)) ∧ ∀ c ∈ cs, ¬ c < 0 ∧ ¬ (255 : Int32) < c
def StgU (Z : State) (h : Heap) (a tt : Addr) (kt : ClassId) (cs : List Int32) : Prop := Exa Z h a "java/lang/String" ∧ Fld Z h a "java/lang/String" "value" "[B" (.ref tt) ∧ Fld Z h a "java/lang/String" "coder" "B" (.int (1 : Int32)) ∧ Arv Z h tt kt .byte (Int32.ofNat (u16 cs).length) ((u16 cs).map Value.int) (.int (0 : Int32)) ∧ ∀ c ∈ cs, ¬ c < 0 ∧ ¬ (65535 : Int32) < c
def Stg (Z : State) (h : Heap) (a : Addr) (cs : List Int32) : Prop := (∃ tt kt, StgL Z h a tt kt cs) ∨ (∃ tt kt, StgU Z h a tt kt cs)
theorem Stg.ext {Z : State} {h h' : Heap} {a : Addr} {cs : List Int32} (S : Stg Z h a cs) (E : Ext h h') : Stg Z h' a cs := by
  rcases S with ⟨tt, kt, q1, q2, q3, q4, q5⟩ | ⟨tt, kt, q1, q2, q3, q4, q5⟩
  · exact Or.inl ⟨tt, kt, q1.ext E, q2.ext E, q3.ext E, q4.ext E, q5⟩
  · exact Or.inr ⟨tt, kt, q1.ext E, q2.ext E, q3.ext E, q4.ext E, q5⟩
theorem Stg.exa {Z : State} {h : Heap} {a : Addr} {cs : List Int32} (S : Stg Z h a cs) : Exa Z h a "java/lang/String" := by
  rcases S with ⟨tt, kt, q1, -⟩ | ⟨tt, kt, q1, -⟩ <;> exact q1
theorem Stg.lt {Z : State} {h : Heap} {a : Addr} {cs : List Int32} (S : Stg Z h a cs) : a < h.size := S.exa.lt
def own_ok (c : Int32) : Bool := decide ((¬ c < 97 ∧ ¬ (122 : Int32) < c) ∨ (¬ c < 65 ∧ ¬ (90 : Int32) < c) ∨ (¬ c < 48 ∧ ¬ (57 : Int32) < c) ∨ c = 46 ∨ c = 45 ∨ c = 95)
def own_nm (c : Int32) : Int32 := if own_ok c then c else 95
theorem nm_list (cs : List Int32) (i : Nat) (h : i < cs.length) : (cs.take (i + 1)).map own_nm = (cs.take i).map own_nm ++ [own_nm (cs.getD i 0)] := by
  rw [own_takes cs i h, List.map_append]; rfl
theorem own_or32 (c : Int32) (h : 0 ≤ c.toInt) : c.toInt ≤ (c ||| 32).toInt := by
  have a1 : (c ||| 32).toInt = (c.toBitVec ||| 32#32).toInt := rfl
  have a2 : c.toInt = c.toBitVec.toInt := rfl
  have b1 : c.toBitVec.toNat < 2 ^ 31 := by
    have : c.toBitVec.toNat < 2 ^ 32 := c.toBitVec.isLt
    rw [a2, BitVec.toInt_eq_toNat_cond] at h
    split at h <;> omega
  have b2 : (c.toBitVec ||| 32#32).toNat = c.toBitVec.toNat ||| 32 := by rw [BitVec.toNat_or]; rfl
  have b3 : (c.toBitVec.toNat ||| 32) < 2 ^ 31 := Nat.or_lt_two_pow b1 (by decide)
  have b4 := @Nat.left_le_or c.toBitVec.toNat 32
  rw [a1, a2, BitVec.toInt_eq_toNat_of_lt (x := c.toBitVec) (by omega), BitVec.toInt_eq_toNat_of_lt (x := c.toBitVec ||| 32#32) (by rw [b2]; omega), b2]
  omega
set_option maxRecDepth 65536 in
theorem own_let128 : ∀ i < 128, (decide (¬ (Int32.ofNat i ||| 32) < 97 ∧ ¬ (122 : Int32) < (Int32.ofNat i ||| 32))) = decide ((¬ Int32.ofNat i < 97 ∧ ¬ (122 : Int32) < Int32.ofNat i) ∨ (¬ Int32.ofNat i < 65 ∧ ¬ (90 : Int32) < Int32.ofNat i)) := by decide +kernel
theorem own_let (c : Int32) (h : ¬ c < 0) : (¬ (c ||| 32) < 97 ∧ ¬ (122 : Int32) < (c ||| 32)) ↔ ((¬ c < 97 ∧ ¬ (122 : Int32) < c) ∨ (¬ c < 65 ∧ ¬ (90 : Int32) < c)) := by
  have e0 : (0 : Int32).toInt = 0 := by decide
  have h0 : 0 ≤ c.toInt := by rw [Int32.lt_iff_toInt_lt] at h; omega
  by_cases q : c.toInt < 128
  · have e : c = Int32.ofNat c.toInt.toNat := by
      apply Int32.toInt_inj.mp
      rw [Int32.toInt_ofNat_of_lt (by omega)]; omega
    have r := own_let128 c.toInt.toNat (by omega)
    rw [← e] at r
    exact decide_eq_decide.mp r
  · have g := own_or32 c h0
    have e122 : (122 : Int32).toInt = 122 := by decide
    have e90 : (90 : Int32).toInt = 90 := by decide
    constructor
    · intro w; exact absurd (by rw [Int32.lt_iff_toInt_lt]; omega) w.2
    · intro w
      rcases w with w | w
      · exact absurd (by rw [Int32.lt_iff_toInt_lt]; omega) w.2
      · exact absurd (by rw [Int32.lt_iff_toInt_lt]; omega) w.2
theorem own_nmy (c : Int32) (h : (¬ c < 97 ∧ ¬ (122 : Int32) < c) ∨ (¬ c < 65 ∧ ¬ (90 : Int32) < c) ∨ (¬ c < 48 ∧ ¬ (57 : Int32) < c) ∨ c = 46 ∨ c = 45 ∨ c = 95) : own_nm c = c := by
  unfold own_nm own_ok; rw [decide_eq_true h]; rfl
theorem own_nmn (c : Int32) (h : ¬ ((¬ c < 97 ∧ ¬ (122 : Int32) < c) ∨ (¬ c < 65 ∧ ¬ (90 : Int32) < c) ∨ (¬ c < 48 ∧ ¬ (57 : Int32) < c) ∨ c = 46 ∨ c = 45 ∨ c = 95)) : own_nm c = 95 := by
  unfold own_nm own_ok; rw [decide_eq_false h]; rfl
theorem own_ieq (c k : Int32) : c = k ↔ c.toInt = k.toInt := ⟨fun q => by rw [q], fun q => Int32.toInt_inj.mp q⟩
theorem own_ten (c : Int32) : (¬ c < 97 ∧ ¬ (122 : Int32) < c ∧ own_nm c = c) ∨ (c < 97 ∧ ¬ c < 65 ∧ ¬ (90 : Int32) < c ∧ own_nm c = c) ∨ (c < 97 ∧ ¬ c < 65 ∧ (90 : Int32) < c ∧ ¬ c < 48 ∧ (57 : Int32) < c ∧ ¬ c = 46 ∧ ¬ c = 45 ∧ c = 95 ∧ own_nm c = c) ∨ (c < 97 ∧ ¬ c < 65 ∧ (90 : Int32) < c ∧ ¬ c < 48 ∧ (57 : Int32) < c ∧ ¬ c = 46 ∧ ¬ c = 45 ∧ ¬ c = 95 ∧ own_nm c = 95) ∨ (c < 97 ∧ c < 65 ∧ ¬ c < 48 ∧ ¬ (57 : Int32) < c ∧ own_nm c = c) ∨ (c < 97 ∧ c < 65 ∧ ¬ c < 48 ∧ (57 : Int32) < c ∧ ¬ c = 46 ∧ ¬ c = 45 ∧ ¬ c = 95 ∧ own_nm c = 95) ∨ (c < 97 ∧ c < 65 ∧ c < 48 ∧ c = 46 ∧ own_nm c = c) ∨ (c < 97 ∧ c < 65 ∧ c < 48 ∧ ¬ c = 46 ∧ c = 45 ∧ own_nm c = c) ∨ (c < 97 ∧ c < 65 ∧ c < 48 ∧ ¬ c = 46 ∧ ¬ c = 45 ∧ ¬ c = 95 ∧ own_nm c = 95) ∨ (¬ c < 97 ∧ (122 : Int32) < c ∧ ¬ c < 65 ∧ (90 : Int32) < c ∧ ¬ c < 48 ∧ (57 : Int32) < c ∧ ¬ c = 46 ∧ ¬ c = 45 ∧ ¬ c = 95 ∧ own_nm c = 95) := by
  have ny := own_nmy c
  have nn := own_nmn c
  simp only [Int32.lt_iff_toInt_lt, own_ieq c 46, own_ieq c 45, own_ieq c 95, show (97 : Int32).toInt = 97 from by decide, show (122 : Int32).toInt = 122 from by decide, show (65 : Int32).toInt = 65 from by decide, show (90 : Int32).toInt = 90 from by decide, show (48 : Int32).toInt = 48 from by decide, show (57 : Int32).toInt = 57 from by decide, show (46 : Int32).toInt = 46 from by decide, show (45 : Int32).toInt = 45 from by decide, show (95 : Int32).toInt = 95 from by decide] at ny nn ⊢
  by_cases k1 : c.toInt < 97
  · by_cases k2 : c.toInt < 65
    · by_cases k3 : c.toInt < 48
      · by_cases k4 : c.toInt = 46
        · exact Or.inr (Or.inr (Or.inr (Or.inr (Or.inr (Or.inr (Or.inl ⟨k1, k2, k3, k4, ny (by omega)⟩))))))
        · by_cases k5 : c.toInt = 45
          · exact Or.inr (Or.inr (Or.inr (Or.inr (Or.inr (Or.inr (Or.inr (Or.inl ⟨k1, k2, k3, k4, k5, ny (by omega)⟩)))))))
          · exact Or.inr (Or.inr (Or.inr (Or.inr (Or.inr (Or.inr (Or.inr (Or.inr (Or.inl ⟨k1, k2, k3, k4, k5, by omega, nn (by omega)⟩))))))))
      · by_cases k4 : 57 < c.toInt
        · exact Or.inr (Or.inr (Or.inr (Or.inr (Or.inr (Or.inl ⟨k1, k2, k3, k4, by omega, by omega, by omega, nn (by omega)⟩)))))
        · exact Or.inr (Or.inr (Or.inr (Or.inr (Or.inl ⟨k1, k2, k3, k4, ny (by omega)⟩))))
    · by_cases k3 : 90 < c.toInt
      · by_cases k4 : c.toInt = 95
        · exact Or.inr (Or.inr (Or.inl ⟨k1, k2, k3, by omega, by omega, by omega, by omega, k4, ny (by omega)⟩))
        · exact Or.inr (Or.inr (Or.inr (Or.inl ⟨k1, k2, k3, by omega, by omega, by omega, by omega, k4, nn (by omega)⟩)))
      · exact Or.inr (Or.inl ⟨k1, k2, k3, ny (by omega)⟩)
  · by_cases k2 : 122 < c.toInt
    · exact Or.inr (Or.inr (Or.inr (Or.inr (Or.inr (Or.inr (Or.inr (Or.inr (Or.inr ⟨k1, k2, by omega, by omega, by omega, by omega, by omega, by omega, by omega, nn (by omega)⟩))))))))
    · exact Or.inl ⟨k1, k2, ny (by omega)⟩
theorem own_seven (c lt : Int32) (hlt : (lt = 1 ∧ ((¬ c < 97 ∧ ¬ (122 : Int32) < c) ∨ (¬ c < 65 ∧ ¬ (90 : Int32) < c))) ∨ (lt = 0 ∧ ¬ ((¬ c < 97 ∧ ¬ (122 : Int32) < c) ∨ (¬ c < 65 ∧ ¬ (90 : Int32) < c)))) : (¬ c < 48 ∧ (57 : Int32) < c ∧ ¬ lt = 0 ∧ own_nm c = c) ∨ (¬ c < 48 ∧ ¬ (57 : Int32) < c ∧ lt = 0 ∧ own_nm c = c) ∨ (c < 48 ∧ lt = 0 ∧ c = 46 ∧ own_nm c = c) ∨ (c < 48 ∧ lt = 0 ∧ ¬ c = 46 ∧ c = 45 ∧ own_nm c = c) ∨ (c < 48 ∧ lt = 0 ∧ ¬ c = 46 ∧ ¬ c = 45 ∧ ¬ c = 95 ∧ own_nm c = 95) ∨ (¬ c < 48 ∧ (57 : Int32) < c ∧ lt = 0 ∧ ¬ c = 46 ∧ ¬ c = 45 ∧ c = 95 ∧ own_nm c = c) ∨ (¬ c < 48 ∧ (57 : Int32) < c ∧ lt = 0 ∧ ¬ c = 46 ∧ ¬ c = 45 ∧ ¬ c = 95 ∧ own_nm c = 95) := by
  have ny := own_nmy c
  have nn := own_nmn c
  simp only [Int32.lt_iff_toInt_lt, own_ieq c 46, own_ieq c 45, own_ieq c 95, show (97 : Int32).toInt = 97 from by decide, show (122 : Int32).toInt = 122 from by decide, show (65 : Int32).toInt = 65 from by decide, show (90 : Int32).toInt = 90 from by decide, show (48 : Int32).toInt = 48 from by decide, show (57 : Int32).toInt = 57 from by decide, show (46 : Int32).toInt = 46 from by decide, show (45 : Int32).toInt = 45 from by decide, show (95 : Int32).toInt = 95 from by decide] at ny nn hlt ⊢
  rcases hlt with ⟨e, k⟩ | ⟨e, k⟩
  · exact Or.inl ⟨by omega, by omega, by rw [e]; decide, ny (by omega)⟩
  · by_cases k3 : c.toInt < 48
    · by_cases k4 : c.toInt = 46
      · exact Or.inr (Or.inr (Or.inl ⟨k3, e, k4, ny (by omega)⟩))
      · by_cases k5 : c.toInt = 45
        · exact Or.inr (Or.inr (Or.inr (Or.inl ⟨k3, e, k4, k5, ny (by omega)⟩)))
        · exact Or.inr (Or.inr (Or.inr (Or.inr (Or.inl ⟨k3, e, k4, k5, by omega, nn (by omega)⟩))))
    · by_cases k4 : 57 < c.toInt
      · by_cases k5 : c.toInt = 95
        · exact Or.inr (Or.inr (Or.inr (Or.inr (Or.inr (Or.inl ⟨k3, k4, e, by omega, by omega, k5, ny (by omega)⟩)))))
        · exact Or.inr (Or.inr (Or.inr (Or.inr (Or.inr (Or.inr ⟨k3, k4, e, by omega, by omega, k5, nn (by omega)⟩)))))
      · exact Or.inr (Or.inl ⟨k3, k4, e, ny (by omega)⟩)
theorem own_nm7 (c : Int32) : ¬ own_nm c < 0 ∧ ¬ (127 : Int32) < own_nm c := by
  have q := own_ten c
  simp only [Int32.lt_iff_toInt_lt, show (0 : Int32).toInt = 0 from by decide, show (127 : Int32).toInt = 127 from by decide]
  by_cases h : own_ok c = true
  · have e : own_nm c = c := by unfold own_nm; rw [if_pos h]
    have g := of_decide_eq_true h
    rw [e]
    simp only [Int32.lt_iff_toInt_lt, own_ieq c 46, own_ieq c 45, own_ieq c 95, show (97 : Int32).toInt = 97 from by decide, show (122 : Int32).toInt = 122 from by decide, show (65 : Int32).toInt = 65 from by decide, show (90 : Int32).toInt = 90 from by decide, show (48 : Int32).toInt = 48 from by decide, show (57 : Int32).toInt = 57 from by decide, show (46 : Int32).toInt = 46 from by decide, show (45 : Int32).toInt = 45 from by decide, show (95 : Int32).toInt = 95 from by decide] at g
    omega
  · have e : own_nm c = 95 := by unfold own_nm; rw [if_neg h]
    rw [e]; decide
theorem own_7f8 (y : Int32) (h : ¬ y < 0 ∧ ¬ (127 : Int32) < y) : ¬ y < 0 ∧ ¬ (255 : Int32) < y := by
  refine ⟨h.1, fun q => h.2 ?_⟩
  rw [Int32.lt_iff_toInt_lt] at q ⊢
  have e : (255 : Int32).toInt = 255 := by decide
  have e' : (127 : Int32).toInt = 127 := by decide
  omega
theorem own_8f (y : Int32) (h : ¬ y < 0 ∧ ¬ (255 : Int32) < y) : ¬ y < 0 ∧ ¬ (65535 : Int32) < y := by
  refine ⟨h.1, fun q => h.2 ?_⟩
  rw [Int32.lt_iff_toInt_lt] at q ⊢
  have e : (255 : Int32).toInt = 255 := by decide
  have e' : (65535 : Int32).toInt = 65535 := by decide
  omega
theorem own_7b (y : Int32) (h : ¬ y < 0 ∧ ¬ (127 : Int32) < y) : b8 y = y ∧ nar .byte (y.toInt8.toInt32) = y ∧ (y &&& (255 : Int32)) = y := by
  have e0 : (0 : Int32).toInt = 0 := by decide
  have e1 : (127 : Int32).toInt = 127 := by decide
  have h' := h
  rw [Int32.lt_iff_toInt_lt, Int32.lt_iff_toInt_lt] at h'
  have e : y.toInt8.toInt32 = y := by
    apply Int32.toInt_inj.mp
    have q := c_i2b y
    omega
  refine ⟨e, ?_, ?_⟩
  · show (y.toInt8.toInt32).toInt8.toInt32 = y
    rw [e, e]
  · apply Int32.toInt_inj.mp
    have q := c_mask y 255 8 (by decide) (by decide)
    omega
theorem own_b8l (bs : List Int32) (h : ∀ c ∈ bs, ¬ c < 0 ∧ ¬ (127 : Int32) < c) : bs.map b8 = bs := by
  induction bs with
  | nil => rfl
  | cons b r ih => rw [List.map_cons, ih (fun c hc => h c (List.mem_cons_of_mem _ hc)), (own_7b b (h b (List.mem_cons_self ..))).1]
theorem own_i2b (c : Int32) (h : ¬ c < 0 ∧ ¬ (255 : Int32) < c) : (c.toInt8.toInt32).toInt = if c.toInt < 128 then c.toInt else c.toInt - 256 := by
  have q := c_i2b c
  have h0 : (0 : Int32).toInt = 0 := by decide
  have h1 : (255 : Int32).toInt = 255 := by decide
  rw [Int32.lt_iff_toInt_lt, Int32.lt_iff_toInt_lt] at h
  split <;> omega
theorem own_b2c (c : Int32) (h : ¬ c < 0 ∧ ¬ (255 : Int32) < c) : (b8 c &&& (255 : Int32)) = c := by
  apply Int32.toInt_inj.mp
  have a := c_mask (b8 c) 255 8 (by decide) (by decide)
  have b : (b8 c).toInt = _ := own_i2b c h
  have h' := h
  rw [Int32.lt_iff_toInt_lt, Int32.lt_iff_toInt_lt, show (0 : Int32).toInt = 0 from by decide, show (255 : Int32).toInt = 255 from by decide] at h'
  split at b <;> omega
theorem own_atb (cs : List Int32) (i : Nat) (hi : i < cs.length) : ((cs.map b8).map Value.int).getD i (.int (0 : Int32)) = .int (b8 (cs.getD i 0)) := by
  simp only [List.getD_eq_getElem?_getD, List.getElem?_map, List.getElem?_eq_getElem hi, Option.map_some, Option.getD_some]
theorem own_half {n : Nat} (h : n ≤ 1000) : Int32.ofNat (2 * n) >>> ((1 : Int32) &&& 31) = Int32.ofNat n := by
  apply Int32.toInt_inj.mp
  have q := c_ishr (Int32.ofNat (2 * n)) 1 1 (by decide)
  rw [(own_tn (by omega)).2] at q
  rw [q, (own_tn (by omega)).2]
  omega
theorem own_c16 (p : Int32) : ¬ p.toUInt32.toUInt16.toUInt32.toInt32 < 0 ∧ ¬ (65535 : Int32) < p.toUInt32.toUInt16.toUInt32.toInt32 := by
  have q := c_i2c p
  rw [Int32.lt_iff_toInt_lt, Int32.lt_iff_toInt_lt, show (0 : Int32).toInt = 0 from by decide, show (65535 : Int32).toInt = 65535 from by decide]
  omega
theorem own_nab {n : Nat} (hn : n ≤ 16) : ¬ ((((16 : Int32) ||| (0 : Int32)) ||| Int32.ofNat n) < 0) ∧ ¬ (((16 : Int32) - (0 : Int32)) < Int32.ofNat n) := by
  have : ∀ k : Nat, k < 17 → ¬ ((((16 : Int32) ||| (0 : Int32)) ||| Int32.ofNat k) < 0) ∧ ¬ (((16 : Int32) - (0 : Int32)) < Int32.ofNat k) := by decide
  exact this n (by omega)
def Q_rmPIn (Z : State) (i : Nat) (h0 : Heap) (n0 : Nat) (v : Option Value) (h : Heap) (L : List Loc) : Prop := v = some (.int (Int32.ofNat i)) ∧ Fr n0 L ∧ h = h0
abbrev y_29 : MethodName := ⟨"jdk/internal/util/Preconditions", "checkIndex", "(IILjava/util/function/BiFunction;)I"⟩
theorem ef_37n (m : MethodId) (x0 : Int32) (x1 : Int32) : entryFrame m #[(.int x0), (.int x1), .null] 3 = mkF m 0 #[.val (.int x0), .val (.int x1), .val .null] [] := by first | (simp [entryFrame, mkF, argsToLocals, Value.category]; done) | rfl
theorem pn_Preconditions : plainName "jdk/internal/util/Preconditions" = true := by first | (simp [plainName, overriddenIn]; done) | decide +kernel
theorem d37_0 : decode jdk_41_method_11_code 0 = .ok (.iload_n 0, 1) := by decide +kernel
theorem d37_1 : decode jdk_41_method_11_code 1 = .ok (.ifCond .lt 8, 3) := by decide +kernel
theorem d37_4 : decode jdk_41_method_11_code 4 = .ok (.iload_n 0, 1) := by decide +kernel
theorem d37_5 : decode jdk_41_method_11_code 5 = .ok (.iload_n 1, 1) := by decide +kernel
theorem d37_6 : decode jdk_41_method_11_code 6 = .ok (.if_icmp .lt 10, 3) := by decide +kernel
theorem d37_16 : decode jdk_41_method_11_code 16 = .ok (.iload_n 0, 1) := by decide +kernel
theorem d37_17 : decode jdk_41_method_11_code 17 = .ok (.ireturn, 1) := by decide +kernel
theorem rmPIn (l : Launch) (Z : State) (a0 : Array Value) (hw : HW Z a0) (ws : List Jvm.Cond) (i : Nat) (n : Nat) (h0 : Heap) (n0 : Nat) (O0 : Old Z n0 h0) (hi : i < n) (hn : n ≤ 8) :
    MF l Z y_29 jdk_41_method_11_code 3 (some .int) ws ({ frames := 0, cells := 0, slots := 0, locals := 0 } : Room) #[(.int (Int32.ofNat i)), (.int (Int32.ofNat n)), .null] h0 (Q_rmPIn Z i h0 n0) := by
  refine MetFree.of_bodySF (plainFor_of_name pn_Preconditions) hisR ?_
  intro p e s m args below meth c s₁ Bd hml0 hP hK
  obtain ⟨rfl, hZ, hh⟩ := hP
  have hx := Bd.exec
  have hby := Bd.bytes
  have hml : c.maxLocals = 3 := hml0
  have hown : s.vm.findClass "jdk/internal/util/Preconditions" = some m.cls := findClass_of_methodNamed Bd.named
  have hnm := (name_of_methodNamed Bd.named Bd.method).1
  have X0 : Stand p l e ({ frames := 0, cells := 0, slots := 0, locals := 0 } : Room) s m #[(.int (Int32.ofNat i)), (.int (Int32.ofNat n)), .null] below meth c s₁ [] 0 0 := Stand.of_body Bd
  have e0 : s₁.heap = h0 := by rw [← hh, Bd.state]; rfl
  have N0 := Fr.nil n0
  obtain ⟨S0, hS0⟩ : ∃ z, z = s₁.setTop (entryFrame m #[(.int (Int32.ofNat i)), (.int (Int32.ofNat n)), .null] 3) := ⟨_, rfl⟩
  have k0 : Rch p e below S0 s₁ (mkF m 0 #[vI (Int32.ofNat i), vI (Int32.ofNat n), .val .null] []) := fun t kq => hS0 ▸ castTop (ef_37n m (Int32.ofNat i) (Int32.ofNat n)) kq
  have k348 : Rch p e below S0 s₁ (mkF m 17 #[vI (Int32.ofNat i), vI (Int32.ofNat n), .val .null] [(.int (Int32.ofNat i))]) := fun t h => k0 t (by
      refine XS.iloadN X0.here hx rfl (hb hby d37_0) rfl ?_
      refine XS.ifNo X0.here hx rfl (hb hby d37_1) rfl ((if0 _ _).trans (flt ((own_on0 (by omega)) : ¬ ((Int32.ofNat i) < (0 : Int32)))).1) ?_
      refine XS.iloadN X0.here hx rfl (hb hby d37_4) rfl ?_
      refine XS.iloadN X0.here hx rfl (hb hby d37_5) rfl ?_
      refine XS.icmpYes X0.here hx rfl (pc0 := 6) (pc' := 16) rfl (hb hby d37_6) rfl (tlt (((own_olt (by omega) (by omega)).mpr hi) : (Int32.ofNat i) < (Int32.ofNat n))).1 (by decide) (by decide) ?_
      refine XS.iloadN X0.here hx rfl (hb hby d37_16) rfl ?_
      exact h)
  obtain ⟨fs, hr, hrun, hended, hW, hsame⟩ := X0.leave (v := (some (.int (Int32.ofNat i)))) (fun h => by rw [Bd.returns] at h; cases h)
  refine ⟨_, _, ?_, hrun, hended, _, _, rfl, ?_, ⟨_, rfl⟩, hW, hsame.mono (by decide) (by decide)⟩
  · rw [← hS0]
    refine k348 _ ?_
    show Steps p.tables e below (s₁.setTop (mkF m 17 #[vI (Int32.ofNat i), vI (Int32.ofNat n), .val .null] [(.int (Int32.ofNat i))])) _
    exact retI X0 hx Bd.returns (hb hby d37_17) hr
  · show Q_rmPIn Z i h0 n0 _ s₁.heap _
    rw [e0]
    exact ⟨rfl, N0, rfl⟩
def Q_rmXIn (Z : State)  (h0 : Heap) (n0 : Nat) (v : Option Value) (h : Heap) (L : List Loc) : Prop := v = none ∧ Fr n0 L ∧ h = h0
abbrev y_30 : MethodName := ⟨"java/lang/String", "checkIndex", "(II)V"⟩
theorem ef_36 (m : MethodId) (x0 : Int32) (x1 : Int32) : entryFrame m #[(.int x0), (.int x1)] 2 = mkF m 0 #[.val (.int x0), .val (.int x1)] [] := by first | (simp [entryFrame, mkF, argsToLocals, Value.category]; done) | rfl
theorem d36_0 : decode jdk_42_method_155_code 0 = .ok (.iload_n 0, 1) := by decide +kernel
theorem d36_1 : decode jdk_42_method_155_code 1 = .ok (.iload_n 1, 1) := by decide +kernel
theorem d36_2 : decode jdk_42_method_155_code 2 = .ok (.getstatic 1053, 3) := by decide +kernel
theorem pd_30 : parseMethodDescriptor "(IILjava/util/function/BiFunction;)I" = some ⟨[.int, .int, (.object "java/util/function/BiFunction")], some .int⟩ := by decide +kernel
theorem d36_5 : decode jdk_42_method_155_code 5 = .ok (.invokestatic 1059, 3) := by decide +kernel
theorem d36_8 : decode jdk_42_method_155_code 8 = .ok (.pop, 1) := by decide +kernel
theorem d36_9 : decode jdk_42_method_155_code 9 = .ok (.return_, 1) := by decide +kernel
theorem rmXIn (l : Launch) (Z : State) (a0 : Array Value) (hw : HW Z a0) (ws : List Jvm.Cond) (i : Nat) (n : Nat) (h0 : Heap) (n0 : Nat) (O0 : Old Z n0 h0) (SP : Sta Z Z.heap "jdk/internal/util/Preconditions" "SIOOBE_FORMATTER" "Ljava/util/function/BiFunction;" .null) (hi : i < n) (hn : n ≤ 8) :
    MF l Z y_30 jdk_42_method_155_code 2 none ws ({ frames := 1, cells := 0, slots := 0, locals := 24 } : Room) #[(.int (Int32.ofNat i)), (.int (Int32.ofNat n))] h0 (Q_rmXIn Z  h0 n0) := by
  refine MetFree.of_bodySF (plainFor_of_name pn_String) hisR ?_
  intro p e s m args below meth c s₁ Bd hml0 hP hK
  obtain ⟨rfl, hZ, hh⟩ := hP
  have hx := Bd.exec
  have hby := Bd.bytes
  have hml : c.maxLocals = 2 := hml0
  have hown : s.vm.findClass "java/lang/String" = some m.cls := findClass_of_methodNamed Bd.named
  have hnm := (name_of_methodNamed Bd.named Bd.method).1
  have X0 : Stand p l e ({ frames := 1, cells := 0, slots := 0, locals := 24 } : Room) s m #[(.int (Int32.ofNat i)), (.int (Int32.ofNat n))] below meth c s₁ [] 0 0 := Stand.of_body Bd
  have e0 : s₁.heap = h0 := by rw [← hh, Bd.state]; rfl
  have N0 := Fr.nil n0
  obtain ⟨S0, hS0⟩ : ∃ z, z = s₁.setTop (entryFrame m #[(.int (Int32.ofNat i)), (.int (Int32.ofNat n))] 2) := ⟨_, rfl⟩
  have k0 : Rch p e below S0 s₁ (mkF m 0 #[vI (Int32.ofNat i), vI (Int32.ofNat n)] []) := fun t kq => hS0 ▸ castTop (ef_36 m (Int32.ofNat i) (Int32.ofNat n)) kq
  have k350 : Rch p e below S0 s₁ (mkF m 2 #[vI (Int32.ofNat i), vI (Int32.ofNat n)] [(.int (Int32.ofNat n)), (.int (Int32.ofNat i))]) := fun t h => k0 t (by
      refine XS.iloadN X0.here hx rfl (hb hby d36_0) rfl ?_
      refine XS.iloadN X0.here hx rfl (hb hby d36_1) rfl ?_
      exact h)
  obtain ⟨T349, X349, e349, st349⟩ := getS2 X0 hx hZ hown (host := "") (Or.inl (hw _ (gm 184 rfl))) Via.refl e0 (SP.ext O0.2) (g := (mkF m 2 #[vI (Int32.ofNat i), vI (Int32.ofNat n)] [(.int (Int32.ofNat n)), (.int (Int32.ofNat i))])) rfl (hb hby d36_2)
  have k351 : Rch p e below S0 T349 (mkF m 5 #[vI (Int32.ofNat i), vI (Int32.ofNat n)] [.null, (.int (Int32.ofNat n)), (.int (Int32.ofNat i))]) := fun t h => k350 t (st349 t h)
  obtain ⟨_, _, ⟨T352, L352, kk352, n352⟩, -, X352, ⟨Lc352, hQ352, l352, y352, z352⟩, st352⟩ := Jvm.LawKit.callS X349 hx (y := y_29) hown (mvT hZ (hw _ (gm 186 rfl))) (mvT hZ (hw _ (gm 187 rfl))) (mvT hZ (hw _ (gm 185 rfl))) (mvT hZ (hw _ (gm 188 rfl))) (by decide) (backOf (W := 0) (rmPIn l Z a0 hw [] i n  h0 n0 O0 hi hn) hZ (hw _ (gm 188 rfl)) (hw _ (gm 185 rfl)) (by decide) (by decide)) (g := (mkF m 5 #[vI (Int32.ofNat i), vI (Int32.ofNat n)] [.null, (.int (Int32.ofNat n)), (.int (Int32.ofNat i))])) rfl (by rw [hml]; rfl) (argsL := [(.int (Int32.ofNat i)), (.int (Int32.ofNat n)), .null]) (rest := []) (lenOf pd_30 rfl) rfl (by show 2 * 0 + _ ≤ _; exact Nat.le_of_eq rfl) (hb hby d36_5) (fun _ _ => ⟨rfl, e349, (by decide : 0 + 0 ≤ _), (by decide : 0 + 0 ≤ _)⟩)
  dsimp only [Pt.U, Pt.locs, Pt.cells, Pt.slots] at X352 l352 y352 z352 st352 hQ352
  subst l352 y352 z352
  obtain ⟨rfl, Nq352, hh352⟩ := hQ352
  have N352 := Fr.app N0 Nq352
  have k353 : Rch p e below S0 T352 (mkF m 8 #[vI (Int32.ofNat i), vI (Int32.ofNat n)] [(.int (Int32.ofNat i))]) := fun t h => k351 t (st352 t h)
  have k354 : Rch p e below S0 T352 (mkF m 9 #[vI (Int32.ofNat i), vI (Int32.ofNat n)] []) := fun t h => k353 t (by
      refine XS.pop X352.here hx rfl (hb hby d36_8) rfl rfl ?_
      exact h)
  obtain ⟨fs, hr, hrun, hended, hW, hsame⟩ := X352.leave (v := none) (fun _ => rfl)
  refine ⟨_, _, ?_, hrun, hended, _, _, rfl, ?_, ⟨_, rfl⟩, hW, hsame.mono (by decide) (by decide)⟩
  · rw [← hS0]
    refine k354 _ ?_
    show Steps p.tables e below (T352.setTop (mkF m 9 #[vI (Int32.ofNat i), vI (Int32.ofNat n)] [])) _
    exact X352.returnOut hx Bd.returns (hb hby d36_9) hr
  · show Q_rmXIn Z  h0 n0 _ T352.heap _
    rw [hh352]
    exact ⟨rfl, N352, rfl⟩
def Q_rmPFn (Z : State)  (h0 : Heap) (n0 : Nat) (v : Option Value) (h : Heap) (L : List Loc) : Prop := v = some (.int (0 : Int32)) ∧ Fr n0 L ∧ h = h0
abbrev y_31 : MethodName := ⟨"jdk/internal/util/Preconditions", "checkFromIndexSize", "(IIILjava/util/function/BiFunction;)I"⟩
theorem ef_49n (m : MethodId) (x0 : Int32) (x1 : Int32) (x2 : Int32) : entryFrame m #[(.int x0), (.int x1), (.int x2), .null] 4 = mkF m 0 #[.val (.int x0), .val (.int x1), .val (.int x2), .val .null] [] := by first | (simp [entryFrame, mkF, argsToLocals, Value.category]; done) | rfl
theorem d49_0 : decode jdk_41_method_13_code 0 = .ok (.iload_n 2, 1) := by decide +kernel
theorem d49_1 : decode jdk_41_method_13_code 1 = .ok (.iload_n 0, 1) := by decide +kernel
theorem d49_2 : decode jdk_41_method_13_code 2 = .ok (.ior, 1) := by decide +kernel
theorem d49_3 : decode jdk_41_method_13_code 3 = .ok (.iload_n 1, 1) := by decide +kernel
theorem d49_4 : decode jdk_41_method_13_code 4 = .ok (.ior, 1) := by decide +kernel
theorem d49_5 : decode jdk_41_method_13_code 5 = .ok (.ifCond .lt 10, 3) := by decide +kernel
theorem d49_8 : decode jdk_41_method_13_code 8 = .ok (.iload_n 1, 1) := by decide +kernel
theorem d49_9 : decode jdk_41_method_13_code 9 = .ok (.iload_n 2, 1) := by decide +kernel
theorem d49_10 : decode jdk_41_method_13_code 10 = .ok (.iload_n 0, 1) := by decide +kernel
theorem d49_11 : decode jdk_41_method_13_code 11 = .ok (.isub, 1) := by decide +kernel
theorem d49_12 : decode jdk_41_method_13_code 12 = .ok (.if_icmp .le 11, 3) := by decide +kernel
theorem d49_23 : decode jdk_41_method_13_code 23 = .ok (.iload_n 0, 1) := by decide +kernel
theorem d49_24 : decode jdk_41_method_13_code 24 = .ok (.ireturn, 1) := by decide +kernel
theorem rmPFn (l : Launch) (Z : State) (a0 : Array Value) (hw : HW Z a0) (ws : List Jvm.Cond) (n : Nat) (h0 : Heap) (n0 : Nat) (O0 : Old Z n0 h0) (hn : n ≤ 16) :
    MF l Z y_31 jdk_41_method_13_code 4 (some .int) ws ({ frames := 0, cells := 0, slots := 0, locals := 0 } : Room) #[(.int (0 : Int32)), (.int (Int32.ofNat n)), (.int (16 : Int32)), .null] h0 (Q_rmPFn Z  h0 n0) := by
  refine MetFree.of_bodySF (plainFor_of_name pn_Preconditions) hisR ?_
  intro p e s m args below meth c s₁ Bd hml0 hP hK
  obtain ⟨rfl, hZ, hh⟩ := hP
  have hx := Bd.exec
  have hby := Bd.bytes
  have hml : c.maxLocals = 4 := hml0
  have hown : s.vm.findClass "jdk/internal/util/Preconditions" = some m.cls := findClass_of_methodNamed Bd.named
  have hnm := (name_of_methodNamed Bd.named Bd.method).1
  have X0 : Stand p l e ({ frames := 0, cells := 0, slots := 0, locals := 0 } : Room) s m #[(.int (0 : Int32)), (.int (Int32.ofNat n)), (.int (16 : Int32)), .null] below meth c s₁ [] 0 0 := Stand.of_body Bd
  have e0 : s₁.heap = h0 := by rw [← hh, Bd.state]; rfl
  have N0 := Fr.nil n0
  obtain ⟨S0, hS0⟩ : ∃ z, z = s₁.setTop (entryFrame m #[(.int (0 : Int32)), (.int (Int32.ofNat n)), (.int (16 : Int32)), .null] 4) := ⟨_, rfl⟩
  have k0 : Rch p e below S0 s₁ (mkF m 0 #[vI 0, vI (Int32.ofNat n), vI 16, .val .null] []) := fun t kq => hS0 ▸ castTop (ef_49n m (0 : Int32) (Int32.ofNat n) (16 : Int32)) kq
  have k355 : Rch p e below S0 s₁ (mkF m 24 #[vI 0, vI (Int32.ofNat n), vI 16, .val .null] [(.int (0 : Int32))]) := fun t h => k0 t (by
      refine XS.iloadN X0.here hx rfl (hb hby d49_0) rfl ?_
      refine XS.iloadN X0.here hx rfl (hb hby d49_1) rfl ?_
      refine XS.ior X0.here hx rfl (hb hby d49_2) rfl ?_
      refine XS.iloadN X0.here hx rfl (hb hby d49_3) rfl ?_
      refine XS.ior X0.here hx rfl (hb hby d49_4) rfl ?_
      refine XS.ifNo X0.here hx rfl (hb hby d49_5) rfl ((if0 _ _).trans (flt ((own_nab hn).1 : ¬ ((((16 : Int32) ||| (0 : Int32)) ||| (Int32.ofNat n)) < (0 : Int32)))).1) ?_
      refine XS.iloadN X0.here hx rfl (hb hby d49_8) rfl ?_
      refine XS.iloadN X0.here hx rfl (hb hby d49_9) rfl ?_
      refine XS.iloadN X0.here hx rfl (hb hby d49_10) rfl ?_
      refine XS.isub X0.here hx rfl (hb hby d49_11) rfl ?_
      refine XS.icmpYes X0.here hx rfl (pc0 := 12) (pc' := 23) rfl (hb hby d49_12) rfl (flt ((own_nab hn).2 : ¬ (((16 : Int32) - (0 : Int32)) < (Int32.ofNat n)))).2.2.2 (by decide) (by decide) ?_
      refine XS.iloadN X0.here hx rfl (hb hby d49_23) rfl ?_
      exact h)
  obtain ⟨fs, hr, hrun, hended, hW, hsame⟩ := X0.leave (v := (some (.int (0 : Int32)))) (fun h => by rw [Bd.returns] at h; cases h)
  refine ⟨_, _, ?_, hrun, hended, _, _, rfl, ?_, ⟨_, rfl⟩, hW, hsame.mono (by decide) (by decide)⟩
  · rw [← hS0]
    refine k355 _ ?_
    show Steps p.tables e below (s₁.setTop (mkF m 24 #[vI 0, vI (Int32.ofNat n), vI 16, .val .null] [(.int (0 : Int32))])) _
    exact retI X0 hx Bd.returns (hb hby d49_24) hr
  · show Q_rmPFn Z  h0 n0 _ s₁.heap _
    rw [e0]
    exact ⟨rfl, N0, rfl⟩
def Q_rmXBn (Z : State)  (h0 : Heap) (n0 : Nat) (v : Option Value) (h : Heap) (L : List Loc) : Prop := v = some (.int (0 : Int32)) ∧ Fr n0 L ∧ h = h0
abbrev y_32 : MethodName := ⟨"java/lang/String", "checkBoundsOffCount", "(III)I"⟩
theorem ef_48 (m : MethodId) (x0 : Int32) (x1 : Int32) (x2 : Int32) : entryFrame m #[(.int x0), (.int x1), (.int x2)] 3 = mkF m 0 #[.val (.int x0), .val (.int x1), .val (.int x2)] [] := by first | (simp [entryFrame, mkF, argsToLocals, Value.category]; done) | rfl
theorem d48_0 : decode jdk_42_method_157_code 0 = .ok (.iload_n 0, 1) := by decide +kernel
theorem d48_1 : decode jdk_42_method_157_code 1 = .ok (.iload_n 1, 1) := by decide +kernel
theorem d48_2 : decode jdk_42_method_157_code 2 = .ok (.iload_n 2, 1) := by decide +kernel
theorem d48_3 : decode jdk_42_method_157_code 3 = .ok (.getstatic 1053, 3) := by decide +kernel
theorem pd_38 : parseMethodDescriptor "(IIILjava/util/function/BiFunction;)I" = some ⟨[.int, .int, .int, (.object "java/util/function/BiFunction")], some .int⟩ := by decide +kernel
theorem d48_6 : decode jdk_42_method_157_code 6 = .ok (.invokestatic 1065, 3) := by decide +kernel
theorem d48_9 : decode jdk_42_method_157_code 9 = .ok (.ireturn, 1) := by decide +kernel
theorem rmXBn (l : Launch) (Z : State) (a0 : Array Value) (hw : HW Z a0) (ws : List Jvm.Cond) (n : Nat) (h0 : Heap) (n0 : Nat) (O0 : Old Z n0 h0) (SP : Sta Z Z.heap "jdk/internal/util/Preconditions" "SIOOBE_FORMATTER" "Ljava/util/function/BiFunction;" .null) (hn : n ≤ 16) :
    MF l Z y_32 jdk_42_method_157_code 3 (some .int) ws ({ frames := 1, cells := 0, slots := 0, locals := 24 } : Room) #[(.int (0 : Int32)), (.int (Int32.ofNat n)), (.int (16 : Int32))] h0 (Q_rmXBn Z  h0 n0) := by
  refine MetFree.of_bodySF (plainFor_of_name pn_String) hisR ?_
  intro p e s m args below meth c s₁ Bd hml0 hP hK
  obtain ⟨rfl, hZ, hh⟩ := hP
  have hx := Bd.exec
  have hby := Bd.bytes
  have hml : c.maxLocals = 3 := hml0
  have hown : s.vm.findClass "java/lang/String" = some m.cls := findClass_of_methodNamed Bd.named
  have hnm := (name_of_methodNamed Bd.named Bd.method).1
  have X0 : Stand p l e ({ frames := 1, cells := 0, slots := 0, locals := 24 } : Room) s m #[(.int (0 : Int32)), (.int (Int32.ofNat n)), (.int (16 : Int32))] below meth c s₁ [] 0 0 := Stand.of_body Bd
  have e0 : s₁.heap = h0 := by rw [← hh, Bd.state]; rfl
  have N0 := Fr.nil n0
  obtain ⟨S0, hS0⟩ : ∃ z, z = s₁.setTop (entryFrame m #[(.int (0 : Int32)), (.int (Int32.ofNat n)), (.int (16 : Int32))] 3) := ⟨_, rfl⟩
  have k0 : Rch p e below S0 s₁ (mkF m 0 #[vI 0, vI (Int32.ofNat n), vI 16] []) := fun t kq => hS0 ▸ castTop (ef_48 m (0 : Int32) (Int32.ofNat n) (16 : Int32)) kq
  have k357 : Rch p e below S0 s₁ (mkF m 3 #[vI 0, vI (Int32.ofNat n), vI 16] [(.int (16 : Int32)), (.int (Int32.ofNat n)), (.int (0 : Int32))]) := fun t h => k0 t (by
      refine XS.iloadN X0.here hx rfl (hb hby d48_0) rfl ?_
      refine XS.iloadN X0.here hx rfl (hb hby d48_1) rfl ?_
      refine XS.iloadN X0.here hx rfl (hb hby d48_2) rfl ?_
      exact h)
  obtain ⟨T356, X356, e356, st356⟩ := getS2 X0 hx hZ hown (host := "") (Or.inl (hw _ (gm 184 rfl))) Via.refl e0 (SP.ext O0.2) (g := (mkF m 3 #[vI 0, vI (Int32.ofNat n), vI 16] [(.int (16 : Int32)), (.int (Int32.ofNat n)), (.int (0 : Int32))])) rfl (hb hby d48_3)
  have k358 : Rch p e below S0 T356 (mkF m 6 #[vI 0, vI (Int32.ofNat n), vI 16] [.null, (.int (16 : Int32)), (.int (Int32.ofNat n)), (.int (0 : Int32))]) := fun t h => k357 t (st356 t h)
  obtain ⟨_, _, ⟨T359, L359, kk359, n359⟩, -, X359, ⟨Lc359, hQ359, l359, y359, z359⟩, st359⟩ := Jvm.LawKit.callS X356 hx (y := y_31) hown (mvT hZ (hw _ (gm 229 rfl))) (mvT hZ (hw _ (gm 230 rfl))) (mvT hZ (hw _ (gm 185 rfl))) (mvT hZ (hw _ (gm 231 rfl))) (by decide) (backOf (W := 0) (rmPFn l Z a0 hw [] n  h0 n0 O0 hn) hZ (hw _ (gm 231 rfl)) (hw _ (gm 185 rfl)) (by decide) (by decide)) (g := (mkF m 6 #[vI 0, vI (Int32.ofNat n), vI 16] [.null, (.int (16 : Int32)), (.int (Int32.ofNat n)), (.int (0 : Int32))])) rfl (by rw [hml]; rfl) (argsL := [(.int (0 : Int32)), (.int (Int32.ofNat n)), (.int (16 : Int32)), .null]) (rest := []) (lenOf pd_38 rfl) rfl (by show 2 * 0 + _ ≤ _; exact Nat.le_of_eq rfl) (hb hby d48_6) (fun _ _ => ⟨rfl, e356, (by decide : 0 + 0 ≤ _), (by decide : 0 + 0 ≤ _)⟩)
  dsimp only [Pt.U, Pt.locs, Pt.cells, Pt.slots] at X359 l359 y359 z359 st359 hQ359
  subst l359 y359 z359
  obtain ⟨rfl, Nq359, hh359⟩ := hQ359
  have N359 := Fr.app N0 Nq359
  have k360 : Rch p e below S0 T359 (mkF m 9 #[vI 0, vI (Int32.ofNat n), vI 16] [(.int (0 : Int32))]) := fun t h => k358 t (st359 t h)
  obtain ⟨fs, hr, hrun, hended, hW, hsame⟩ := X359.leave (v := (some (.int (0 : Int32)))) (fun h => by rw [Bd.returns] at h; cases h)
  refine ⟨_, _, ?_, hrun, hended, _, _, rfl, ?_, ⟨_, rfl⟩, hW, hsame.mono (by decide) (by decide)⟩
  · rw [← hS0]
    refine k360 _ ?_
    show Steps p.tables e below (T359.setTop (mkF m 9 #[vI 0, vI (Int32.ofNat n), vI 16] [(.int (0 : Int32))])) _
    exact retI X359 hx Bd.returns (hb hby d48_9) hr
  · show Q_rmXBn Z  h0 n0 _ T359.heap _
    rw [hh359]
    exact ⟨rfl, N359, rfl⟩
def Q_rmPIr (Z : State) (i : Nat) (h0 : Heap) (n0 : Nat) (v : Option Value) (h : Heap) (L : List Loc) : Prop := v = some (.int (Int32.ofNat i)) ∧ Fr n0 L ∧ h = h0
theorem ef_37 (m : MethodId) (x0 : Int32) (x1 : Int32) (x2 : Addr) : entryFrame m #[(.int x0), (.int x1), (.ref x2)] 3 = mkF m 0 #[.val (.int x0), .val (.int x1), .val (.ref x2)] [] := by first | (simp [entryFrame, mkF, argsToLocals, Value.category]; done) | rfl
theorem rmPIr (l : Launch) (Z : State) (a0 : Array Value) (hw : HW Z a0) (ws : List Jvm.Cond) (i : Nat) (n : Nat) (wP : Addr) (h0 : Heap) (n0 : Nat) (O0 : Old Z n0 h0) (hi : i < n) (hn : n ≤ 8) :
    MF l Z y_29 jdk_41_method_11_code 3 (some .int) ws ({ frames := 0, cells := 0, slots := 0, locals := 0 } : Room) #[(.int (Int32.ofNat i)), (.int (Int32.ofNat n)), (.ref wP)] h0 (Q_rmPIr Z i h0 n0) := by
  refine MetFree.of_bodySF (plainFor_of_name pn_Preconditions) hisR ?_
  intro p e s m args below meth c s₁ Bd hml0 hP hK
  obtain ⟨rfl, hZ, hh⟩ := hP
  have hx := Bd.exec
  have hby := Bd.bytes
  have hml : c.maxLocals = 3 := hml0
  have hown : s.vm.findClass "jdk/internal/util/Preconditions" = some m.cls := findClass_of_methodNamed Bd.named
  have hnm := (name_of_methodNamed Bd.named Bd.method).1
  have X0 : Stand p l e ({ frames := 0, cells := 0, slots := 0, locals := 0 } : Room) s m #[(.int (Int32.ofNat i)), (.int (Int32.ofNat n)), (.ref wP)] below meth c s₁ [] 0 0 := Stand.of_body Bd
  have e0 : s₁.heap = h0 := by rw [← hh, Bd.state]; rfl
  have N0 := Fr.nil n0
  obtain ⟨S0, hS0⟩ : ∃ z, z = s₁.setTop (entryFrame m #[(.int (Int32.ofNat i)), (.int (Int32.ofNat n)), (.ref wP)] 3) := ⟨_, rfl⟩
  have k0 : Rch p e below S0 s₁ (mkF m 0 #[vI (Int32.ofNat i), vI (Int32.ofNat n), vR wP] []) := fun t kq => hS0 ▸ castTop (ef_37 m (Int32.ofNat i) (Int32.ofNat n) wP) kq
  have k361 : Rch p e below S0 s₁ (mkF m 17 #[vI (Int32.ofNat i), vI (Int32.ofNat n), vR wP] [(.int (Int32.ofNat i))]) := fun t h => k0 t (by
      refine XS.iloadN X0.here hx rfl (hb hby d37_0) rfl ?_
      refine XS.ifNo X0.here hx rfl (hb hby d37_1) rfl ((if0 _ _).trans (flt ((own_on0 (by omega)) : ¬ ((Int32.ofNat i) < (0 : Int32)))).1) ?_
      refine XS.iloadN X0.here hx rfl (hb hby d37_4) rfl ?_
      refine XS.iloadN X0.here hx rfl (hb hby d37_5) rfl ?_
      refine XS.icmpYes X0.here hx rfl (pc0 := 6) (pc' := 16) rfl (hb hby d37_6) rfl (tlt (((own_olt (by omega) (by omega)).mpr hi) : (Int32.ofNat i) < (Int32.ofNat n))).1 (by decide) (by decide) ?_
      refine XS.iloadN X0.here hx rfl (hb hby d37_16) rfl ?_
      exact h)
  obtain ⟨fs, hr, hrun, hended, hW, hsame⟩ := X0.leave (v := (some (.int (Int32.ofNat i)))) (fun h => by rw [Bd.returns] at h; cases h)
  refine ⟨_, _, ?_, hrun, hended, _, _, rfl, ?_, ⟨_, rfl⟩, hW, hsame.mono (by decide) (by decide)⟩
  · rw [← hS0]
    refine k361 _ ?_
    show Steps p.tables e below (s₁.setTop (mkF m 17 #[vI (Int32.ofNat i), vI (Int32.ofNat n), vR wP] [(.int (Int32.ofNat i))])) _
    exact retI X0 hx Bd.returns (hb hby d37_17) hr
  · show Q_rmPIr Z i h0 n0 _ s₁.heap _
    rw [e0]
    exact ⟨rfl, N0, rfl⟩
def Q_rmXIr (Z : State)  (h0 : Heap) (n0 : Nat) (v : Option Value) (h : Heap) (L : List Loc) : Prop := v = none ∧ Fr n0 L ∧ h = h0
theorem rmXIr (l : Launch) (Z : State) (a0 : Array Value) (hw : HW Z a0) (ws : List Jvm.Cond) (i : Nat) (n : Nat) (wP : Addr) (h0 : Heap) (n0 : Nat) (O0 : Old Z n0 h0) (SP : Sta Z Z.heap "jdk/internal/util/Preconditions" "SIOOBE_FORMATTER" "Ljava/util/function/BiFunction;" (.ref wP)) (hi : i < n) (hn : n ≤ 8) :
    MF l Z y_30 jdk_42_method_155_code 2 none ws ({ frames := 1, cells := 0, slots := 0, locals := 24 } : Room) #[(.int (Int32.ofNat i)), (.int (Int32.ofNat n))] h0 (Q_rmXIr Z  h0 n0) := by
  refine MetFree.of_bodySF (plainFor_of_name pn_String) hisR ?_
  intro p e s m args below meth c s₁ Bd hml0 hP hK
  obtain ⟨rfl, hZ, hh⟩ := hP
  have hx := Bd.exec
  have hby := Bd.bytes
  have hml : c.maxLocals = 2 := hml0
  have hown : s.vm.findClass "java/lang/String" = some m.cls := findClass_of_methodNamed Bd.named
  have hnm := (name_of_methodNamed Bd.named Bd.method).1
  have X0 : Stand p l e ({ frames := 1, cells := 0, slots := 0, locals := 24 } : Room) s m #[(.int (Int32.ofNat i)), (.int (Int32.ofNat n))] below meth c s₁ [] 0 0 := Stand.of_body Bd
  have e0 : s₁.heap = h0 := by rw [← hh, Bd.state]; rfl
  have N0 := Fr.nil n0
  obtain ⟨S0, hS0⟩ : ∃ z, z = s₁.setTop (entryFrame m #[(.int (Int32.ofNat i)), (.int (Int32.ofNat n))] 2) := ⟨_, rfl⟩
  have k0 : Rch p e below S0 s₁ (mkF m 0 #[vI (Int32.ofNat i), vI (Int32.ofNat n)] []) := fun t kq => hS0 ▸ castTop (ef_36 m (Int32.ofNat i) (Int32.ofNat n)) kq
  have k363 : Rch p e below S0 s₁ (mkF m 2 #[vI (Int32.ofNat i), vI (Int32.ofNat n)] [(.int (Int32.ofNat n)), (.int (Int32.ofNat i))]) := fun t h => k0 t (by
      refine XS.iloadN X0.here hx rfl (hb hby d36_0) rfl ?_
      refine XS.iloadN X0.here hx rfl (hb hby d36_1) rfl ?_
      exact h)
  obtain ⟨T362, X362, e362, st362⟩ := getS2 X0 hx hZ hown (host := "") (Or.inl (hw _ (gm 184 rfl))) Via.refl e0 (SP.ext O0.2) (g := (mkF m 2 #[vI (Int32.ofNat i), vI (Int32.ofNat n)] [(.int (Int32.ofNat n)), (.int (Int32.ofNat i))])) rfl (hb hby d36_2)
  have k364 : Rch p e below S0 T362 (mkF m 5 #[vI (Int32.ofNat i), vI (Int32.ofNat n)] [(.ref wP), (.int (Int32.ofNat n)), (.int (Int32.ofNat i))]) := fun t h => k363 t (st362 t h)
  obtain ⟨_, _, ⟨T365, L365, kk365, n365⟩, -, X365, ⟨Lc365, hQ365, l365, y365, z365⟩, st365⟩ := Jvm.LawKit.callS X362 hx (y := y_29) hown (mvT hZ (hw _ (gm 186 rfl))) (mvT hZ (hw _ (gm 187 rfl))) (mvT hZ (hw _ (gm 185 rfl))) (mvT hZ (hw _ (gm 188 rfl))) (by decide) (backOf (W := 0) (rmPIr l Z a0 hw [] i n wP  h0 n0 O0 hi hn) hZ (hw _ (gm 188 rfl)) (hw _ (gm 185 rfl)) (by decide) (by decide)) (g := (mkF m 5 #[vI (Int32.ofNat i), vI (Int32.ofNat n)] [(.ref wP), (.int (Int32.ofNat n)), (.int (Int32.ofNat i))])) rfl (by rw [hml]; rfl) (argsL := [(.int (Int32.ofNat i)), (.int (Int32.ofNat n)), (.ref wP)]) (rest := []) (lenOf pd_30 rfl) rfl (by show 2 * 0 + _ ≤ _; exact Nat.le_of_eq rfl) (hb hby d36_5) (fun _ _ => ⟨rfl, e362, (by decide : 0 + 0 ≤ _), (by decide : 0 + 0 ≤ _)⟩)
  dsimp only [Pt.U, Pt.locs, Pt.cells, Pt.slots] at X365 l365 y365 z365 st365 hQ365
  subst l365 y365 z365
  obtain ⟨rfl, Nq365, hh365⟩ := hQ365
  have N365 := Fr.app N0 Nq365
  have k366 : Rch p e below S0 T365 (mkF m 8 #[vI (Int32.ofNat i), vI (Int32.ofNat n)] [(.int (Int32.ofNat i))]) := fun t h => k364 t (st365 t h)
  have k367 : Rch p e below S0 T365 (mkF m 9 #[vI (Int32.ofNat i), vI (Int32.ofNat n)] []) := fun t h => k366 t (by
      refine XS.pop X365.here hx rfl (hb hby d36_8) rfl rfl ?_
      exact h)
  obtain ⟨fs, hr, hrun, hended, hW, hsame⟩ := X365.leave (v := none) (fun _ => rfl)
  refine ⟨_, _, ?_, hrun, hended, _, _, rfl, ?_, ⟨_, rfl⟩, hW, hsame.mono (by decide) (by decide)⟩
  · rw [← hS0]
    refine k367 _ ?_
    show Steps p.tables e below (T365.setTop (mkF m 9 #[vI (Int32.ofNat i), vI (Int32.ofNat n)] [])) _
    exact X365.returnOut hx Bd.returns (hb hby d36_9) hr
  · show Q_rmXIr Z  h0 n0 _ T365.heap _
    rw [hh365]
    exact ⟨rfl, N365, rfl⟩
def Q_rmPFr (Z : State)  (h0 : Heap) (n0 : Nat) (v : Option Value) (h : Heap) (L : List Loc) : Prop := v = some (.int (0 : Int32)) ∧ Fr n0 L ∧ h = h0
theorem ef_49 (m : MethodId) (x0 : Int32) (x1 : Int32) (x2 : Int32) (x3 : Addr) : entryFrame m #[(.int x0), (.int x1), (.int x2), (.ref x3)] 4 = mkF m 0 #[.val (.int x0), .val (.int x1), .val (.int x2), .val (.ref x3)] [] := by first | (simp [entryFrame, mkF, argsToLocals, Value.category]; done) | rfl
theorem rmPFr (l : Launch) (Z : State) (a0 : Array Value) (hw : HW Z a0) (ws : List Jvm.Cond) (n : Nat) (wP : Addr) (h0 : Heap) (n0 : Nat) (O0 : Old Z n0 h0) (hn : n ≤ 16) :
    MF l Z y_31 jdk_41_method_13_code 4 (some .int) ws ({ frames := 0, cells := 0, slots := 0, locals := 0 } : Room) #[(.int (0 : Int32)), (.int (Int32.ofNat n)), (.int (16 : Int32)), (.ref wP)] h0 (Q_rmPFr Z  h0 n0) := by
  refine MetFree.of_bodySF (plainFor_of_name pn_Preconditions) hisR ?_
  intro p e s m args below meth c s₁ Bd hml0 hP hK
  obtain ⟨rfl, hZ, hh⟩ := hP
  have hx := Bd.exec
  have hby := Bd.bytes
  have hml : c.maxLocals = 4 := hml0
  have hown : s.vm.findClass "jdk/internal/util/Preconditions" = some m.cls := findClass_of_methodNamed Bd.named
  have hnm := (name_of_methodNamed Bd.named Bd.method).1
  have X0 : Stand p l e ({ frames := 0, cells := 0, slots := 0, locals := 0 } : Room) s m #[(.int (0 : Int32)), (.int (Int32.ofNat n)), (.int (16 : Int32)), (.ref wP)] below meth c s₁ [] 0 0 := Stand.of_body Bd
  have e0 : s₁.heap = h0 := by rw [← hh, Bd.state]; rfl
  have N0 := Fr.nil n0
  obtain ⟨S0, hS0⟩ : ∃ z, z = s₁.setTop (entryFrame m #[(.int (0 : Int32)), (.int (Int32.ofNat n)), (.int (16 : Int32)), (.ref wP)] 4) := ⟨_, rfl⟩
  have k0 : Rch p e below S0 s₁ (mkF m 0 #[vI 0, vI (Int32.ofNat n), vI 16, vR wP] []) := fun t kq => hS0 ▸ castTop (ef_49 m (0 : Int32) (Int32.ofNat n) (16 : Int32) wP) kq
  have k368 : Rch p e below S0 s₁ (mkF m 24 #[vI 0, vI (Int32.ofNat n), vI 16, vR wP] [(.int (0 : Int32))]) := fun t h => k0 t (by
      refine XS.iloadN X0.here hx rfl (hb hby d49_0) rfl ?_
      refine XS.iloadN X0.here hx rfl (hb hby d49_1) rfl ?_
      refine XS.ior X0.here hx rfl (hb hby d49_2) rfl ?_
      refine XS.iloadN X0.here hx rfl (hb hby d49_3) rfl ?_
      refine XS.ior X0.here hx rfl (hb hby d49_4) rfl ?_
      refine XS.ifNo X0.here hx rfl (hb hby d49_5) rfl ((if0 _ _).trans (flt ((own_nab hn).1 : ¬ ((((16 : Int32) ||| (0 : Int32)) ||| (Int32.ofNat n)) < (0 : Int32)))).1) ?_
      refine XS.iloadN X0.here hx rfl (hb hby d49_8) rfl ?_
      refine XS.iloadN X0.here hx rfl (hb hby d49_9) rfl ?_
      refine XS.iloadN X0.here hx rfl (hb hby d49_10) rfl ?_
      refine XS.isub X0.here hx rfl (hb hby d49_11) rfl ?_
      refine XS.icmpYes X0.here hx rfl (pc0 := 12) (pc' := 23) rfl (hb hby d49_12) rfl (flt ((own_nab hn).2 : ¬ (((16 : Int32) - (0 : Int32)) < (Int32.ofNat n)))).2.2.2 (by decide) (by decide) ?_
      refine XS.iloadN X0.here hx rfl (hb hby d49_23) rfl ?_
      exact h)
  obtain ⟨fs, hr, hrun, hended, hW, hsame⟩ := X0.leave (v := (some (.int (0 : Int32)))) (fun h => by rw [Bd.returns] at h; cases h)
  refine ⟨_, _, ?_, hrun, hended, _, _, rfl, ?_, ⟨_, rfl⟩, hW, hsame.mono (by decide) (by decide)⟩
  · rw [← hS0]
    refine k368 _ ?_
    show Steps p.tables e below (s₁.setTop (mkF m 24 #[vI 0, vI (Int32.ofNat n), vI 16, vR wP] [(.int (0 : Int32))])) _
    exact retI X0 hx Bd.returns (hb hby d49_24) hr
  · show Q_rmPFr Z  h0 n0 _ s₁.heap _
    rw [e0]
    exact ⟨rfl, N0, rfl⟩
def Q_rmXBr (Z : State)  (h0 : Heap) (n0 : Nat) (v : Option Value) (h : Heap) (L : List Loc) : Prop := v = some (.int (0 : Int32)) ∧ Fr n0 L ∧ h = h0
theorem rmXBr (l : Launch) (Z : State) (a0 : Array Value) (hw : HW Z a0) (ws : List Jvm.Cond) (n : Nat) (wP : Addr) (h0 : Heap) (n0 : Nat) (O0 : Old Z n0 h0) (SP : Sta Z Z.heap "jdk/internal/util/Preconditions" "SIOOBE_FORMATTER" "Ljava/util/function/BiFunction;" (.ref wP)) (hn : n ≤ 16) :
    MF l Z y_32 jdk_42_method_157_code 3 (some .int) ws ({ frames := 1, cells := 0, slots := 0, locals := 24 } : Room) #[(.int (0 : Int32)), (.int (Int32.ofNat n)), (.int (16 : Int32))] h0 (Q_rmXBr Z  h0 n0) := by
  refine MetFree.of_bodySF (plainFor_of_name pn_String) hisR ?_
  intro p e s m args below meth c s₁ Bd hml0 hP hK
  obtain ⟨rfl, hZ, hh⟩ := hP
  have hx := Bd.exec
  have hby := Bd.bytes
  have hml : c.maxLocals = 3 := hml0
  have hown : s.vm.findClass "java/lang/String" = some m.cls := findClass_of_methodNamed Bd.named
  have hnm := (name_of_methodNamed Bd.named Bd.method).1
  have X0 : Stand p l e ({ frames := 1, cells := 0, slots := 0, locals := 24 } : Room) s m #[(.int (0 : Int32)), (.int (Int32.ofNat n)), (.int (16 : Int32))] below meth c s₁ [] 0 0 := Stand.of_body Bd
  have e0 : s₁.heap = h0 := by rw [← hh, Bd.state]; rfl
  have N0 := Fr.nil n0
  obtain ⟨S0, hS0⟩ : ∃ z, z = s₁.setTop (entryFrame m #[(.int (0 : Int32)), (.int (Int32.ofNat n)), (.int (16 : Int32))] 3) := ⟨_, rfl⟩
  have k0 : Rch p e below S0 s₁ (mkF m 0 #[vI 0, vI (Int32.ofNat n), vI 16] []) := fun t kq => hS0 ▸ castTop (ef_48 m (0 : Int32) (Int32.ofNat n) (16 : Int32)) kq
  have k370 : Rch p e below S0 s₁ (mkF m 3 #[vI 0, vI (Int32.ofNat n), vI 16] [(.int (16 : Int32)), (.int (Int32.ofNat n)), (.int (0 : Int32))]) := fun t h => k0 t (by
      refine XS.iloadN X0.here hx rfl (hb hby d48_0) rfl ?_
      refine XS.iloadN X0.here hx rfl (hb hby d48_1) rfl ?_
      refine XS.iloadN X0.here hx rfl (hb hby d48_2) rfl ?_
      exact h)
  obtain ⟨T369, X369, e369, st369⟩ := getS2 X0 hx hZ hown (host := "") (Or.inl (hw _ (gm 184 rfl))) Via.refl e0 (SP.ext O0.2) (g := (mkF m 3 #[vI 0, vI (Int32.ofNat n), vI 16] [(.int (16 : Int32)), (.int (Int32.ofNat n)), (.int (0 : Int32))])) rfl (hb hby d48_3)
  have k371 : Rch p e below S0 T369 (mkF m 6 #[vI 0, vI (Int32.ofNat n), vI 16] [(.ref wP), (.int (16 : Int32)), (.int (Int32.ofNat n)), (.int (0 : Int32))]) := fun t h => k370 t (st369 t h)
  obtain ⟨_, _, ⟨T372, L372, kk372, n372⟩, -, X372, ⟨Lc372, hQ372, l372, y372, z372⟩, st372⟩ := Jvm.LawKit.callS X369 hx (y := y_31) hown (mvT hZ (hw _ (gm 229 rfl))) (mvT hZ (hw _ (gm 230 rfl))) (mvT hZ (hw _ (gm 185 rfl))) (mvT hZ (hw _ (gm 231 rfl))) (by decide) (backOf (W := 0) (rmPFr l Z a0 hw [] n wP  h0 n0 O0 hn) hZ (hw _ (gm 231 rfl)) (hw _ (gm 185 rfl)) (by decide) (by decide)) (g := (mkF m 6 #[vI 0, vI (Int32.ofNat n), vI 16] [(.ref wP), (.int (16 : Int32)), (.int (Int32.ofNat n)), (.int (0 : Int32))])) rfl (by rw [hml]; rfl) (argsL := [(.int (0 : Int32)), (.int (Int32.ofNat n)), (.int (16 : Int32)), (.ref wP)]) (rest := []) (lenOf pd_38 rfl) rfl (by show 2 * 0 + _ ≤ _; exact Nat.le_of_eq rfl) (hb hby d48_6) (fun _ _ => ⟨rfl, e369, (by decide : 0 + 0 ≤ _), (by decide : 0 + 0 ≤ _)⟩)
  dsimp only [Pt.U, Pt.locs, Pt.cells, Pt.slots] at X372 l372 y372 z372 st372 hQ372
  subst l372 y372 z372
  obtain ⟨rfl, Nq372, hh372⟩ := hQ372
  have N372 := Fr.app N0 Nq372
  have k373 : Rch p e below S0 T372 (mkF m 9 #[vI 0, vI (Int32.ofNat n), vI 16] [(.int (0 : Int32))]) := fun t h => k371 t (st372 t h)
  obtain ⟨fs, hr, hrun, hended, hW, hsame⟩ := X372.leave (v := (some (.int (0 : Int32)))) (fun h => by rw [Bd.returns] at h; cases h)
  refine ⟨_, _, ?_, hrun, hended, _, _, rfl, ?_, ⟨_, rfl⟩, hW, hsame.mono (by decide) (by decide)⟩
  · rw [← hS0]
    refine k373 _ ?_
    show Steps p.tables e below (T372.setTop (mkF m 9 #[vI 0, vI (Int32.ofNat n), vI 16] [(.int (0 : Int32))])) _
    exact retI X372 hx Bd.returns (hb hby d48_9) hr
  · show Q_rmXBr Z  h0 n0 _ T372.heap _
    rw [hh372]
    exact ⟨rfl, N372, rfl⟩
theorem rmXI (l : Launch) (Z : State) (a0 : Array Value) (hw : ∀ d ∈ tables_1, d.before a0 Z = true) (ws : List Jvm.Cond) (i : Nat) (n : Nat) (fm : Value) (h0 : Heap) (n0 : Nat) (O0 : Old Z n0 h0) (SP : Sta Z Z.heap "jdk/internal/util/Preconditions" "SIOOBE_FORMATTER" "Ljava/util/function/BiFunction;" fm) (hfm : fm = .null ∨ ∃ wP, fm = .ref wP) (hi : i < n) (hn : n ≤ 8) :
    MetFree l y_30 (head1 (Jvm.Cond.code y_30 jdk_42_method_155_code 2 none :: ws) ({ frames := 1, cells := 0, slots := 0, locals := 24 } : Room)) (fun a U => a = #[(.int (Int32.ofNat i)), (.int (Int32.ofNat n))] ∧ Z.Warmed39 U.vm ∧ U.heap = h0) (fun _ _ _ _ _ => True) (fun _ U o U' => ∃ v L, o = .returned v ∧ Q_rmXIn Z h0 n0 v U'.heap L ∧ FrameEnd U o U' L ({ frames := 1, cells := 0, slots := 0, locals := 24 } : Room).cells ({ frames := 1, cells := 0, slots := 0, locals := 24 } : Room).slots) := by
  rcases hfm with rfl | ⟨wP, rfl⟩
  · exact rmXIn l Z a0 hw ws i n h0 n0 O0 SP hi hn
  · exact rmXIr l Z a0 hw ws i n wP h0 n0 O0 SP hi hn
theorem rmXB (l : Launch) (Z : State) (a0 : Array Value) (hw : ∀ d ∈ tables_1, d.before a0 Z = true) (ws : List Jvm.Cond) (n : Nat) (fm : Value) (h0 : Heap) (n0 : Nat) (O0 : Old Z n0 h0) (SP : Sta Z Z.heap "jdk/internal/util/Preconditions" "SIOOBE_FORMATTER" "Ljava/util/function/BiFunction;" fm) (hfm : fm = .null ∨ ∃ wP, fm = .ref wP) (hn : n ≤ 16) :
    MetFree l y_32 (head1 (Jvm.Cond.code y_32 jdk_42_method_157_code 3 (some .int) :: ws) ({ frames := 1, cells := 0, slots := 0, locals := 24 } : Room)) (fun a U => a = #[(.int (0 : Int32)), (.int (Int32.ofNat n)), (.int (16 : Int32))] ∧ Z.Warmed39 U.vm ∧ U.heap = h0) (fun _ _ _ _ _ => True) (fun _ U o U' => ∃ v L, o = .returned v ∧ Q_rmXBn Z h0 n0 v U'.heap L ∧ FrameEnd U o U' L ({ frames := 1, cells := 0, slots := 0, locals := 24 } : Room).cells ({ frames := 1, cells := 0, slots := 0, locals := 24 } : Room).slots) := by
  rcases hfm with rfl | ⟨wP, rfl⟩
  · exact rmXBn l Z a0 hw ws n h0 n0 O0 SP hn
  · exact rmXBr l Z a0 hw ws n wP h0 n0 O0 SP hn
theorem rmLEs (l : Launch) (Z : State) (a0 : Array Value) (hw : ∀ d ∈ tables_1, d.before a0 Z = true) (ws : List Jvm.Cond) (a1 : Addr) (cs : List Int32) (zC : Int32) (h0 : Heap) (n0 : Nat) (O0 : Old Z n0 h0) (SC : Sta Z Z.heap "java/lang/String" "COMPACT_STRINGS" "Z" (.int zC)) (hzC : ¬ zC = 0) (S1 : Stg Z h0 a1 cs) (hn : cs.length ≤ 8) :
    MetFree l y_11 (head1 (Jvm.Cond.code y_11 jdk_42_method_54_code 1 (some .int) :: ws) ({ frames := 1, cells := 0, slots := 0, locals := 20 } : Room)) (fun a U => a = #[(.ref a1)] ∧ Z.Warmed39 U.vm ∧ U.heap = h0) (fun _ _ _ _ _ => True) (fun _ U o U' => ∃ v L, o = .returned v ∧ Q_rmLE Z (Int32.ofNat cs.length) h0 n0 v U'.heap L ∧ FrameEnd U o U' L ({ frames := 1, cells := 0, slots := 0, locals := 20 } : Room).cells ({ frames := 1, cells := 0, slots := 0, locals := 20 } : Room).slots) := by
  rcases S1 with ⟨tt, kt, q1, q2, q3, q4, q5⟩ | ⟨tt, kt, q1, q2, q3, q4, q5⟩
  · exact rmLE l Z a0 hw ws a1 tt kt _ _ _ zC _ h0 n0 O0 SC hzC q1 q2 q3 q4 (by rw [List.length_map]; exact own_shr0 _)
  · exact rmLE l Z a0 hw ws a1 tt kt _ _ _ zC _ h0 n0 O0 SC hzC q1 q2 q3 q4 (by rw [u16_len]; exact own_half (by omega))
def Q_rmIL (Z : State)  (h0 : Heap) (n0 : Nat) (v : Option Value) (h : Heap) (L : List Loc) : Prop := v = some (.int (1 : Int32)) ∧ Fr n0 L ∧ h = h0
abbrev y_33 : MethodName := ⟨"java/lang/String", "isLatin1", "()Z"⟩
theorem ef_34 (m : MethodId) (x0 : Addr) : entryFrame m #[(.ref x0)] 1 = mkF m 0 #[.val (.ref x0)] [] := by first | (simp [entryFrame, mkF, argsToLocals, Value.category]; done) | rfl
theorem d34_0 : decode jdk_42_method_154_code 0 = .ok (.getstatic 38, 3) := by decide +kernel
theorem d34_3 : decode jdk_42_method_154_code 3 = .ok (.ifCond .eq 14, 3) := by decide +kernel
theorem d34_6 : decode jdk_42_method_154_code 6 = .ok (.aload_n 0, 1) := by decide +kernel
theorem d34_7 : decode jdk_42_method_154_code 7 = .ok (.getfield 15, 3) := by decide +kernel
theorem d34_10 : decode jdk_42_method_154_code 10 = .ok (.ifCond .ne 7, 3) := by decide +kernel
theorem d34_13 : decode jdk_42_method_154_code 13 = .ok (.iconst 1, 1) := by decide +kernel
theorem d34_14 : decode jdk_42_method_154_code 14 = .ok (.goto 4, 3) := by decide +kernel
theorem d34_18 : decode jdk_42_method_154_code 18 = .ok (.ireturn, 1) := by decide +kernel
theorem rmIL (l : Launch) (Z : State) (a0 : Array Value) (hw : HW Z a0) (ws : List Jvm.Cond) (a1 : Addr) (zC : Int32) (h0 : Heap) (n0 : Nat) (O0 : Old Z n0 h0) (SC : Sta Z Z.heap "java/lang/String" "COMPACT_STRINGS" "Z" (.int zC)) (hzC : ¬ zC = 0) (Sc : Fld Z h0 a1 "java/lang/String" "coder" "B" (.int (0 : Int32))) :
    MF l Z y_33 jdk_42_method_154_code 1 (some .boolean) ws ({ frames := 0, cells := 0, slots := 0, locals := 0 } : Room) #[(.ref a1)] h0 (Q_rmIL Z  h0 n0) := by
  refine MetFree.of_bodySF (plainFor_of_name pn_String) hisR ?_
  intro p e s m args below meth c s₁ Bd hml0 hP hK
  obtain ⟨rfl, hZ, hh⟩ := hP
  have hx := Bd.exec
  have hby := Bd.bytes
  have hml : c.maxLocals = 1 := hml0
  have hown : s.vm.findClass "java/lang/String" = some m.cls := findClass_of_methodNamed Bd.named
  have hnm := (name_of_methodNamed Bd.named Bd.method).1
  have X0 : Stand p l e ({ frames := 0, cells := 0, slots := 0, locals := 0 } : Room) s m #[(.ref a1)] below meth c s₁ [] 0 0 := Stand.of_body Bd
  have e0 : s₁.heap = h0 := by rw [← hh, Bd.state]; rfl
  have N0 := Fr.nil n0
  obtain ⟨S0, hS0⟩ : ∃ z, z = s₁.setTop (entryFrame m #[(.ref a1)] 1) := ⟨_, rfl⟩
  have k0 : Rch p e below S0 s₁ (mkF m 0 #[vR a1] []) := fun t kq => hS0 ▸ castTop (ef_34 m a1) kq
  obtain ⟨T374, X374, e374, st374⟩ := getS2 X0 hx hZ hown (host := "") (Or.inl (hw _ (gm 27 rfl))) Via.refl e0 (SC.ext O0.2) (g := (mkF m 0 #[vR a1] [])) rfl (hb hby d34_0)
  have k375 : Rch p e below S0 T374 (mkF m 3 #[vR a1] [(.int zC)]) := fun t h => k0 t (st374 t h)
  have k377 : Rch p e below S0 T374 (mkF m 7 #[vR a1] [(.ref a1)]) := fun t h => k375 t (by
      refine XS.ifNo X374.here hx rfl (hb hby d34_3) rfl ((if0 _ _).trans (feq (hzC : ¬ (zC = (0 : Int32)))).1) ?_
      refine XS.aloadN X374.here hx rfl (hb hby d34_6) rfl rfl ?_
      exact h)
  obtain ⟨T376, X376, e376, st376⟩ := getF X374 hx hZ hown (host := "") (Or.inl (hw _ (gm 26 rfl))) Via.refl e374 Sc (g := (mkF m 7 #[vR a1] [(.ref a1)])) rfl rfl (hb hby d34_7)
  have k378 : Rch p e below S0 T376 (mkF m 10 #[vR a1] [(.int (0 : Int32))]) := fun t h => k377 t (st376 t h)
  have k379 : Rch p e below S0 T376 (mkF m 18 #[vR a1] [(.int (1 : Int32))]) := fun t h => k378 t (by
      refine XS.ifNo X376.here hx rfl (hb hby d34_10) rfl ((if0 _ _).trans (teq (by decide : (0 : Int32) = (0 : Int32))).2) ?_
      refine XS.iconst X376.here hx rfl (hb hby d34_13) ?_
      refine XS.goto X376.here hx rfl (pc0 := 14) (pc' := 18) rfl (hb hby d34_14) (by decide) (by decide) ?_
      exact h)
  obtain ⟨fs, hr, hrun, hended, hW, hsame⟩ := X376.leave (v := (some (.int (1 : Int32)))) (fun h => by rw [Bd.returns] at h; cases h)
  refine ⟨_, _, ?_, hrun, hended, _, _, rfl, ?_, ⟨_, rfl⟩, hW, hsame.mono (by decide) (by decide)⟩
  · rw [← hS0]
    refine k379 _ ?_
    show Steps p.tables e below (T376.setTop (mkF m 18 #[vR a1] [(.int (1 : Int32))])) _
    exact retN X376 hx (t := .boolean) Bd.returns (by simp) (hb hby d34_18) hr
  · show Q_rmIL Z  h0 n0 _ T376.heap _
    rw [e376]
    exact ⟨rfl, N0, rfl⟩
def Q_rmILu (Z : State)  (h0 : Heap) (n0 : Nat) (v : Option Value) (h : Heap) (L : List Loc) : Prop := v = some (.int (0 : Int32)) ∧ Fr n0 L ∧ h = h0
theorem d34_17 : decode jdk_42_method_154_code 17 = .ok (.iconst 0, 1) := by decide +kernel
theorem rmILu (l : Launch) (Z : State) (a0 : Array Value) (hw : HW Z a0) (ws : List Jvm.Cond) (a1 : Addr) (zC : Int32) (h0 : Heap) (n0 : Nat) (O0 : Old Z n0 h0) (SC : Sta Z Z.heap "java/lang/String" "COMPACT_STRINGS" "Z" (.int zC)) (hzC : ¬ zC = 0) (Sc : Fld Z h0 a1 "java/lang/String" "coder" "B" (.int (1 : Int32))) :
    MF l Z y_33 jdk_42_method_154_code 1 (some .boolean) ws ({ frames := 0, cells := 0, slots := 0, locals := 0 } : Room) #[(.ref a1)] h0 (Q_rmILu Z  h0 n0) := by
  refine MetFree.of_bodySF (plainFor_of_name pn_String) hisR ?_
  intro p e s m args below meth c s₁ Bd hml0 hP hK
  obtain ⟨rfl, hZ, hh⟩ := hP
  have hx := Bd.exec
  have hby := Bd.bytes
  have hml : c.maxLocals = 1 := hml0
  have hown : s.vm.findClass "java/lang/String" = some m.cls := findClass_of_methodNamed Bd.named
  have hnm := (name_of_methodNamed Bd.named Bd.method).1
  have X0 : Stand p l e ({ frames := 0, cells := 0, slots := 0, locals := 0 } : Room) s m #[(.ref a1)] below meth c s₁ [] 0 0 := Stand.of_body Bd
  have e0 : s₁.heap = h0 := by rw [← hh, Bd.state]; rfl
  have N0 := Fr.nil n0
  obtain ⟨S0, hS0⟩ : ∃ z, z = s₁.setTop (entryFrame m #[(.ref a1)] 1) := ⟨_, rfl⟩
  have k0 : Rch p e below S0 s₁ (mkF m 0 #[vR a1] []) := fun t kq => hS0 ▸ castTop (ef_34 m a1) kq
  obtain ⟨T380, X380, e380, st380⟩ := getS2 X0 hx hZ hown (host := "") (Or.inl (hw _ (gm 27 rfl))) Via.refl e0 (SC.ext O0.2) (g := (mkF m 0 #[vR a1] [])) rfl (hb hby d34_0)
  have k381 : Rch p e below S0 T380 (mkF m 3 #[vR a1] [(.int zC)]) := fun t h => k0 t (st380 t h)
  have k383 : Rch p e below S0 T380 (mkF m 7 #[vR a1] [(.ref a1)]) := fun t h => k381 t (by
      refine XS.ifNo X380.here hx rfl (hb hby d34_3) rfl ((if0 _ _).trans (feq (hzC : ¬ (zC = (0 : Int32)))).1) ?_
      refine XS.aloadN X380.here hx rfl (hb hby d34_6) rfl rfl ?_
      exact h)
  obtain ⟨T382, X382, e382, st382⟩ := getF X380 hx hZ hown (host := "") (Or.inl (hw _ (gm 26 rfl))) Via.refl e380 Sc (g := (mkF m 7 #[vR a1] [(.ref a1)])) rfl rfl (hb hby d34_7)
  have k384 : Rch p e below S0 T382 (mkF m 10 #[vR a1] [(.int (1 : Int32))]) := fun t h => k383 t (st382 t h)
  have k385 : Rch p e below S0 T382 (mkF m 18 #[vR a1] [(.int (0 : Int32))]) := fun t h => k384 t (by
      refine XS.ifYes X382.here hx rfl (pc0 := 10) (pc' := 17) rfl (hb hby d34_10) rfl ((if0 _ _).trans (feq (by decide : ¬ ((1 : Int32) = (0 : Int32)))).2) (by decide) (by decide) ?_
      refine XS.iconst X382.here hx rfl (hb hby d34_17) ?_
      exact h)
  obtain ⟨fs, hr, hrun, hended, hW, hsame⟩ := X382.leave (v := (some (.int (0 : Int32)))) (fun h => by rw [Bd.returns] at h; cases h)
  refine ⟨_, _, ?_, hrun, hended, _, _, rfl, ?_, ⟨_, rfl⟩, hW, hsame.mono (by decide) (by decide)⟩
  · rw [← hS0]
    refine k385 _ ?_
    show Steps p.tables e below (T382.setTop (mkF m 18 #[vR a1] [(.int (0 : Int32))])) _
    exact retN X382 hx (t := .boolean) Bd.returns (by simp) (hb hby d34_18) hr
  · show Q_rmILu Z  h0 n0 _ T382.heap _
    rw [e382]
    exact ⟨rfl, N0, rfl⟩
def Q_rmLC (Z : State) (cs : List Int32) (i : Nat) (h0 : Heap) (n0 : Nat) (v : Option Value) (h : Heap) (L : List Loc) : Prop := v = some (.int (cs.getD i 0)) ∧ Fr n0 L ∧ h = h0
abbrev y_34 : MethodName := ⟨"java/lang/StringLatin1", "charAt", "([BI)C"⟩
theorem ef_35 (m : MethodId) (x0 : Addr) (x1 : Int32) : entryFrame m #[(.ref x0), (.int x1)] 2 = mkF m 0 #[.val (.ref x0), .val (.int x1)] [] := by first | (simp [entryFrame, mkF, argsToLocals, Value.category]; done) | rfl
theorem pn_StringLatin1 : plainName "java/lang/StringLatin1" = true := by first | (simp [plainName, overriddenIn]; done) | decide +kernel
theorem d35_0 : decode jdk_43_method_2_code 0 = .ok (.iload_n 1, 1) := by decide +kernel
theorem d35_1 : decode jdk_43_method_2_code 1 = .ok (.aload_n 0, 1) := by decide +kernel
theorem d35_2 : decode jdk_43_method_2_code 2 = .ok (.arraylength, 1) := by decide +kernel
theorem d35_3 : decode jdk_43_method_2_code 3 = .ok (.invokestatic 9, 3) := by decide +kernel
theorem d35_6 : decode jdk_43_method_2_code 6 = .ok (.aload_n 0, 1) := by decide +kernel
theorem d35_7 : decode jdk_43_method_2_code 7 = .ok (.iload_n 1, 1) := by decide +kernel
theorem d35_8 : decode jdk_43_method_2_code 8 = .ok (.baload, 1) := by decide +kernel
theorem d35_9 : decode jdk_43_method_2_code 9 = .ok (.sipush 255, 3) := by decide +kernel
theorem d35_12 : decode jdk_43_method_2_code 12 = .ok (.iand, 1) := by decide +kernel
theorem d35_13 : decode jdk_43_method_2_code 13 = .ok (.i2c, 1) := by decide +kernel
theorem d35_14 : decode jdk_43_method_2_code 14 = .ok (.ireturn, 1) := by decide +kernel
theorem rmLC (l : Launch) (Z : State) (a0 : Array Value) (hw : HW Z a0) (ws : List Jvm.Cond) (tt : Addr) (kt : ClassId) (cs : List Int32) (i : Nat) (fm : Value) (h0 : Heap) (n0 : Nat) (O0 : Old Z n0 h0) (SP : Sta Z Z.heap "jdk/internal/util/Preconditions" "SIOOBE_FORMATTER" "Ljava/util/function/BiFunction;" fm) (hfm : fm = .null ∨ ∃ wP, fm = .ref wP) (Vt : Arv Z h0 tt kt .byte (Int32.ofNat (cs.map b8).length) ((cs.map b8).map Value.int) (.int (0 : Int32))) (hp : ∀ c ∈ cs, ¬ c < 0 ∧ ¬ (255 : Int32) < c) (hi : i < cs.length) (hn : cs.length ≤ 8) :
    MF l Z y_34 jdk_43_method_2_code 2 (some .char) ws ({ frames := 2, cells := 0, slots := 0, locals := 46 } : Room) #[(.ref tt), (.int (Int32.ofNat i))] h0 (Q_rmLC Z cs i h0 n0) := by
  refine MetFree.of_bodySF (plainFor_of_name pn_StringLatin1) hisR ?_
  intro p e s m args below meth c s₁ Bd hml0 hP hK
  obtain ⟨rfl, hZ, hh⟩ := hP
  have hx := Bd.exec
  have hby := Bd.bytes
  have hml : c.maxLocals = 2 := hml0
  have hown : s.vm.findClass "java/lang/StringLatin1" = some m.cls := findClass_of_methodNamed Bd.named
  have hnm := (name_of_methodNamed Bd.named Bd.method).1
  have X0 : Stand p l e ({ frames := 2, cells := 0, slots := 0, locals := 46 } : Room) s m #[(.ref tt), (.int (Int32.ofNat i))] below meth c s₁ [] 0 0 := Stand.of_body Bd
  have e0 : s₁.heap = h0 := by rw [← hh, Bd.state]; rfl
  have N0 := Fr.nil n0
  obtain ⟨S0, hS0⟩ : ∃ z, z = s₁.setTop (entryFrame m #[(.ref tt), (.int (Int32.ofNat i))] 2) := ⟨_, rfl⟩
  have k0 : Rch p e below S0 s₁ (mkF m 0 #[vR tt, vI (Int32.ofNat i)] []) := fun t kq => hS0 ▸ castTop (ef_35 m tt (Int32.ofNat i)) kq
  rw [List.length_map] at Vt
  have hic := own_memD cs _ hp i hi
  have k387 : Rch p e below S0 s₁ (mkF m 2 #[vR tt, vI (Int32.ofNat i)] [(.ref tt), (.int (Int32.ofNat i))]) := fun t h => k0 t (by
      refine XS.iloadN X0.here hx rfl (hb hby d35_0) rfl ?_
      refine XS.aloadN X0.here hx rfl (hb hby d35_1) rfl rfl ?_
      exact h)
  obtain ⟨cl386, Ar386, q386, Sz386, Ng386, Hs386, G386⟩ := id Vt
  have k388 : Rch p e below S0 s₁ (mkF m 3 #[vR tt, vI (Int32.ofNat i)] [(.int (Int32.ofNat cs.length)), (.int (Int32.ofNat i))]) := fun t h => k387 t (by
      refine X0.arraylength hx (by rw [e0]; exact Ar386.1) (State.isArrayOf_alike hZ.alike Ar386.2.1) (g := (mkF m 2 #[vR tt, vI (Int32.ofNat i)] [(.ref tt), (.int (Int32.ofNat i))])) rfl rfl (hb hby d35_2) _ ?_
      rw [len_of Sz386 Ng386]
      exact h)
  obtain ⟨_, _, ⟨T389, L389, kk389, n389⟩, -, X389, ⟨Lc389, hQ389, l389, y389, z389⟩, st389⟩ := Jvm.LawKit.callS X0 hx (y := y_30) hown (mvT hZ (hw _ (gm 181 rfl))) (mvT hZ (hw _ (gm 182 rfl))) (mvT hZ (hw _ (gm 7 rfl))) (mvT hZ (hw _ (gm 183 rfl))) (by decide) (backOf (W := 0) (rmXI l Z a0 hw [] i cs.length fm  h0 n0 O0 SP hfm hi hn) hZ (hw _ (gm 183 rfl)) (hw _ (gm 7 rfl)) (by decide) (by decide)) (g := (mkF m 3 #[vR tt, vI (Int32.ofNat i)] [(.int (Int32.ofNat cs.length)), (.int (Int32.ofNat i))])) rfl (by rw [hml]; rfl) (argsL := [(.int (Int32.ofNat i)), (.int (Int32.ofNat cs.length))]) (rest := []) (lenOf pd_26 rfl) rfl (by show 2 * 0 + _ ≤ _; exact Nat.le_of_eq rfl) (hb hby d35_3) (fun _ _ => ⟨rfl, e0, (by decide : 0 + 0 ≤ _), (by decide : 0 + 0 ≤ _)⟩)
  dsimp only [Pt.U, Pt.locs, Pt.cells, Pt.slots] at X389 l389 y389 z389 st389 hQ389
  subst l389 y389 z389
  obtain ⟨rfl, Nq389, hh389⟩ := hQ389
  have N389 := Fr.app N0 Nq389
  have k390 : Rch p e below S0 T389 (mkF m 6 #[vR tt, vI (Int32.ofNat i)] []) := fun t h => k388 t (st389 t h)
  have k392 : Rch p e below S0 T389 (mkF m 8 #[vR tt, vI (Int32.ofNat i)] [(.int (Int32.ofNat i)), (.ref tt)]) := fun t h => k390 t (by
      refine XS.aloadN X389.here hx rfl (hb hby d35_6) rfl rfl ?_
      refine XS.iloadN X389.here hx rfl (hb hby d35_7) rfl ?_
      exact h)
  obtain ⟨cl391, Ar391, q391, Sz391, Ng391, Hs391, G391⟩ := id Vt
  have hin391 : ¬ ((Int32.ofNat i) < 0 ∨ cl391.slots.size ≤ ((Int32.ofNat i)).toNatClampNeg) := inb_of Sz391 (own_inb (by omega) (by omega))
  have hat391 : cl391.slots[((Int32.ofNat i)).toNatClampNeg]? = some (.int (b8 (cs.getD i 0))) := Hs391.at hin391 (by rw [(own_tn (by omega)).1]; exact own_atb cs i hi)
  have k393 : Rch p e below S0 T389 (mkF m 14 #[vR tt, vI (Int32.ofNat i)] [(.int (cs.getD i 0))]) := fun t h => k392 t (by
      refine X389.baloadBytes hx (j := (Int32.ofNat i)) (v := (.int (b8 (cs.getD i 0)))) (by rw [hh389]; exact Ar391.1) (State.isArrayOf_alike hZ.alike Ar391.2.1) Ar391.2.2 hin391 hat391 (g := (mkF m 8 #[vR tt, vI (Int32.ofNat i)] [(.int (Int32.ofNat i)), (.ref tt)])) rfl rfl (hb hby d35_8) _ ?_
      refine XS.sipush X389.here hx rfl (hb hby d35_9) ?_
      show Steps p.tables e below (T389.setTop (mkF m 12 #[vR tt, vI (Int32.ofNat i)] [(.int (255 : Int32)), (.int (b8 (cs.getD i 0)))])) _
      refine XS.iand X389.here hx rfl (hb hby d35_12) rfl ?_
      rw [own_b2c _ hic]
      show Steps p.tables e below (T389.setTop (mkF m 13 #[vR tt, vI (Int32.ofNat i)] [(.int (cs.getD i 0))])) _
      refine XS.i2c X389.here hx rfl (hb hby d35_13) rfl ?_
      rw [(own_nar _ hic).2]
      exact h)
  obtain ⟨fs, hr, hrun, hended, hW, hsame⟩ := X389.leave (v := (some (.int (nar .char (cs.getD i 0))))) (fun h => by rw [Bd.returns] at h; cases h)
  refine ⟨_, _, ?_, hrun, hended, _, _, rfl, ?_, ⟨_, rfl⟩, hW, hsame.mono (by decide) (by decide)⟩
  · rw [← hS0]
    refine k393 _ ?_
    show Steps p.tables e below (T389.setTop (mkF m 14 #[vR tt, vI (Int32.ofNat i)] [(.int (cs.getD i 0))])) _
    exact retN X389 hx (t := .char) Bd.returns (by simp) (hb hby d35_14) hr
  · show Q_rmLC Z cs i h0 n0 _ T389.heap _
    rw [hh389]
    exact ⟨by rw [(own_nar _ hic).1], N389, rfl⟩
def Q_rmUL (Z : State) (n : Nat) (h0 : Heap) (n0 : Nat) (v : Option Value) (h : Heap) (L : List Loc) : Prop := v = some (.int (Int32.ofNat n)) ∧ Fr n0 L ∧ h = h0
abbrev y_35 : MethodName := ⟨"java/lang/StringUTF16", "length", "([B)I"⟩
theorem ef_47 (m : MethodId) (x0 : Addr) : entryFrame m #[(.ref x0)] 1 = mkF m 0 #[.val (.ref x0)] [] := by first | (simp [entryFrame, mkF, argsToLocals, Value.category]; done) | rfl
theorem d47_0 : decode jdk_52_method_6_code 0 = .ok (.aload_n 0, 1) := by decide +kernel
theorem d47_1 : decode jdk_52_method_6_code 1 = .ok (.arraylength, 1) := by decide +kernel
theorem d47_2 : decode jdk_52_method_6_code 2 = .ok (.iconst 1, 1) := by decide +kernel
theorem d47_3 : decode jdk_52_method_6_code 3 = .ok (.ishr, 1) := by decide +kernel
theorem d47_4 : decode jdk_52_method_6_code 4 = .ok (.ireturn, 1) := by decide +kernel
theorem rmUL (l : Launch) (Z : State) (a0 : Array Value) (hw : HW Z a0) (ws : List Jvm.Cond) (tt : Addr) (kt : ClassId) (n : Nat) (vs : List Value) (h0 : Heap) (n0 : Nat) (O0 : Old Z n0 h0) (Vt : Arv Z h0 tt kt .byte (Int32.ofNat (2 * n)) vs (.int (0 : Int32))) (hn : n ≤ 1000) :
    MF l Z y_35 jdk_52_method_6_code 1 (some .int) ws ({ frames := 0, cells := 0, slots := 0, locals := 0 } : Room) #[(.ref tt)] h0 (Q_rmUL Z n h0 n0) := by
  refine MetFree.of_bodySF (plainFor_of_name pn_StringUTF16) hisR ?_
  intro p e s m args below meth c s₁ Bd hml0 hP hK
  obtain ⟨rfl, hZ, hh⟩ := hP
  have hx := Bd.exec
  have hby := Bd.bytes
  have hml : c.maxLocals = 1 := hml0
  have hown : s.vm.findClass "java/lang/StringUTF16" = some m.cls := findClass_of_methodNamed Bd.named
  have hnm := (name_of_methodNamed Bd.named Bd.method).1
  have X0 : Stand p l e ({ frames := 0, cells := 0, slots := 0, locals := 0 } : Room) s m #[(.ref tt)] below meth c s₁ [] 0 0 := Stand.of_body Bd
  have e0 : s₁.heap = h0 := by rw [← hh, Bd.state]; rfl
  have N0 := Fr.nil n0
  obtain ⟨S0, hS0⟩ : ∃ z, z = s₁.setTop (entryFrame m #[(.ref tt)] 1) := ⟨_, rfl⟩
  have k0 : Rch p e below S0 s₁ (mkF m 0 #[vR tt] []) := fun t kq => hS0 ▸ castTop (ef_47 m tt) kq
  have k395 : Rch p e below S0 s₁ (mkF m 1 #[vR tt] [(.ref tt)]) := fun t h => k0 t (by
      refine XS.aloadN X0.here hx rfl (hb hby d47_0) rfl rfl ?_
      exact h)
  obtain ⟨cl394, Ar394, q394, Sz394, Ng394, Hs394, G394⟩ := id Vt
  have k396 : Rch p e below S0 s₁ (mkF m 4 #[vR tt] [(.int (Int32.ofNat n))]) := fun t h => k395 t (by
      refine X0.arraylength hx (by rw [e0]; exact Ar394.1) (State.isArrayOf_alike hZ.alike Ar394.2.1) (g := (mkF m 1 #[vR tt] [(.ref tt)])) rfl rfl (hb hby d47_1) _ ?_
      rw [len_of Sz394 Ng394]
      refine XS.iconst X0.here hx rfl (hb hby d47_2) ?_
      show Steps p.tables e below (s₁.setTop (mkF m 3 #[vR tt] [(.int (1 : Int32)), (.int (Int32.ofNat (2 * n)))])) _
      refine XS.ishr X0.here hx rfl (hb hby d47_3) rfl ?_
      rw [own_half hn]
      exact h)
  obtain ⟨fs, hr, hrun, hended, hW, hsame⟩ := X0.leave (v := (some (.int (Int32.ofNat n)))) (fun h => by rw [Bd.returns] at h; cases h)
  refine ⟨_, _, ?_, hrun, hended, _, _, rfl, ?_, ⟨_, rfl⟩, hW, hsame.mono (by decide) (by decide)⟩
  · rw [← hS0]
    refine k396 _ ?_
    show Steps p.tables e below (s₁.setTop (mkF m 4 #[vR tt] [(.int (Int32.ofNat n))])) _
    exact retI X0 hx Bd.returns (hb hby d47_4) hr
  · show Q_rmUL Z n h0 n0 _ s₁.heap _
    rw [e0]
    exact ⟨rfl, N0, rfl⟩
def Q_rmUX (Z : State)  (h0 : Heap) (n0 : Nat) (v : Option Value) (h : Heap) (L : List Loc) : Prop := v = none ∧ Fr n0 L ∧ h = h0
abbrev y_36 : MethodName := ⟨"java/lang/StringUTF16", "checkIndex", "(I[B)V"⟩
theorem ef_51 (m : MethodId) (x0 : Int32) (x1 : Addr) : entryFrame m #[(.int x0), (.ref x1)] 2 = mkF m 0 #[.val (.int x0), .val (.ref x1)] [] := by first | (simp [entryFrame, mkF, argsToLocals, Value.category]; done) | rfl
theorem d51_0 : decode jdk_52_method_91_code 0 = .ok (.iload_n 0, 1) := by decide +kernel
theorem d51_1 : decode jdk_52_method_91_code 1 = .ok (.aload_n 1, 1) := by decide +kernel
theorem pd_36 : parseMethodDescriptor "([B)I" = some ⟨[(.array .byte)], some .int⟩ := by decide +kernel
theorem d51_2 : decode jdk_52_method_91_code 2 = .ok (.invokestatic 48, 3) := by decide +kernel
theorem d51_5 : decode jdk_52_method_91_code 5 = .ok (.invokestatic 414, 3) := by decide +kernel
theorem d51_8 : decode jdk_52_method_91_code 8 = .ok (.return_, 1) := by decide +kernel
theorem rmUX (l : Launch) (Z : State) (a0 : Array Value) (hw : HW Z a0) (ws : List Jvm.Cond) (tt : Addr) (kt : ClassId) (cs : List Int32) (i : Nat) (fm : Value) (h0 : Heap) (n0 : Nat) (O0 : Old Z n0 h0) (SP : Sta Z Z.heap "jdk/internal/util/Preconditions" "SIOOBE_FORMATTER" "Ljava/util/function/BiFunction;" fm) (hfm : fm = .null ∨ ∃ wP, fm = .ref wP) (Vt : Arv Z h0 tt kt .byte (Int32.ofNat (2 * cs.length)) ((u16 cs).map Value.int) (.int (0 : Int32))) (hi : i < cs.length) (hn : cs.length ≤ 8) :
    MF l Z y_36 jdk_52_method_91_code 2 none ws ({ frames := 2, cells := 0, slots := 0, locals := 40 } : Room) #[(.int (Int32.ofNat i)), (.ref tt)] h0 (Q_rmUX Z  h0 n0) := by
  refine MetFree.of_bodySF (plainFor_of_name pn_StringUTF16) hisR ?_
  intro p e s m args below meth c s₁ Bd hml0 hP hK
  obtain ⟨rfl, hZ, hh⟩ := hP
  have hx := Bd.exec
  have hby := Bd.bytes
  have hml : c.maxLocals = 2 := hml0
  have hown : s.vm.findClass "java/lang/StringUTF16" = some m.cls := findClass_of_methodNamed Bd.named
  have hnm := (name_of_methodNamed Bd.named Bd.method).1
  have X0 : Stand p l e ({ frames := 2, cells := 0, slots := 0, locals := 40 } : Room) s m #[(.int (Int32.ofNat i)), (.ref tt)] below meth c s₁ [] 0 0 := Stand.of_body Bd
  have e0 : s₁.heap = h0 := by rw [← hh, Bd.state]; rfl
  have N0 := Fr.nil n0
  obtain ⟨S0, hS0⟩ : ∃ z, z = s₁.setTop (entryFrame m #[(.int (Int32.ofNat i)), (.ref tt)] 2) := ⟨_, rfl⟩
  have k0 : Rch p e below S0 s₁ (mkF m 0 #[vI (Int32.ofNat i), vR tt] []) := fun t kq => hS0 ▸ castTop (ef_51 m (Int32.ofNat i) tt) kq
  have k397 : Rch p e below S0 s₁ (mkF m 2 #[vI (Int32.ofNat i), vR tt] [(.ref tt), (.int (Int32.ofNat i))]) := fun t h => k0 t (by
      refine XS.iloadN X0.here hx rfl (hb hby d51_0) rfl ?_
      refine XS.aloadN X0.here hx rfl (hb hby d51_1) rfl rfl ?_
      exact h)
  obtain ⟨_, _, ⟨T398, L398, kk398, n398⟩, -, X398, ⟨Lc398, hQ398, l398, y398, z398⟩, st398⟩ := Jvm.LawKit.callS X0 hx (y := y_35) hown (mvT hZ (hw _ (gm 223 rfl))) (mvT hZ (hw _ (gm 224 rfl))) (mvT hZ (hw _ (gm 30 rfl))) (mvT hZ (hw _ (gm 225 rfl))) (by decide) (backOf (W := 1) (rmUL l Z a0 hw [] tt kt cs.length _ h0 n0 O0 Vt (by omega)) hZ (hw _ (gm 225 rfl)) (hw _ (gm 30 rfl)) (by decide) (by decide)) (g := (mkF m 2 #[vI (Int32.ofNat i), vR tt] [(.ref tt), (.int (Int32.ofNat i))])) rfl (by rw [hml]; rfl) (argsL := [(.ref tt)]) (rest := [(.int (Int32.ofNat i))]) (lenOf pd_36 rfl) rfl (by show 2 * 0 + _ ≤ _; exact Nat.le_of_eq rfl) (hb hby d51_2) (fun _ _ => ⟨rfl, e0, (by decide : 0 + 0 ≤ _), (by decide : 0 + 0 ≤ _)⟩)
  dsimp only [Pt.U, Pt.locs, Pt.cells, Pt.slots] at X398 l398 y398 z398 st398 hQ398
  subst l398 y398 z398
  obtain ⟨rfl, Nq398, hh398⟩ := hQ398
  have N398 := Fr.app N0 Nq398
  have k399 : Rch p e below S0 T398 (mkF m 5 #[vI (Int32.ofNat i), vR tt] [(.int (Int32.ofNat cs.length)), (.int (Int32.ofNat i))]) := fun t h => k397 t (st398 t h)
  obtain ⟨_, _, ⟨T400, L400, kk400, n400⟩, -, X400, ⟨Lc400, hQ400, l400, y400, z400⟩, st400⟩ := Jvm.LawKit.callS X398 hx (y := y_30) hown (mvT hZ (hw _ (gm 240 rfl))) (mvT hZ (hw _ (gm 182 rfl))) (mvT hZ (hw _ (gm 7 rfl))) (mvT hZ (hw _ (gm 183 rfl))) (by decide) (backOf (W := 0) (rmXI l Z a0 hw [] i cs.length fm  h0 n0 O0 SP hfm hi hn) hZ (hw _ (gm 183 rfl)) (hw _ (gm 7 rfl)) (by decide) (by decide)) (g := (mkF m 5 #[vI (Int32.ofNat i), vR tt] [(.int (Int32.ofNat cs.length)), (.int (Int32.ofNat i))])) rfl (by rw [hml]; rfl) (argsL := [(.int (Int32.ofNat i)), (.int (Int32.ofNat cs.length))]) (rest := []) (lenOf pd_26 rfl) rfl (by show 2 * 0 + _ ≤ _; exact Nat.le_of_eq rfl) (hb hby d51_5) (fun _ _ => ⟨rfl, hh398, (by decide : 0 + 0 ≤ _), (by decide : 0 + 0 ≤ _)⟩)
  dsimp only [Pt.U, Pt.locs, Pt.cells, Pt.slots] at X400 l400 y400 z400 st400 hQ400
  subst l400 y400 z400
  obtain ⟨rfl, Nq400, hh400⟩ := hQ400
  have N400 := Fr.app N398 Nq400
  have k401 : Rch p e below S0 T400 (mkF m 8 #[vI (Int32.ofNat i), vR tt] []) := fun t h => k399 t (st400 t h)
  obtain ⟨fs, hr, hrun, hended, hW, hsame⟩ := X400.leave (v := none) (fun _ => rfl)
  refine ⟨_, _, ?_, hrun, hended, _, _, rfl, ?_, ⟨_, rfl⟩, hW, hsame.mono (by decide) (by decide)⟩
  · rw [← hS0]
    refine k401 _ ?_
    show Steps p.tables e below (T400.setTop (mkF m 8 #[vI (Int32.ofNat i), vR tt] [])) _
    exact X400.returnOut hx Bd.returns (hb hby d51_8) hr
  · show Q_rmUX Z  h0 n0 _ T400.heap _
    rw [hh400]
    exact ⟨rfl, N400, rfl⟩
def Q_rmUC (Z : State) (cs : List Int32) (i : Nat) (h0 : Heap) (n0 : Nat) (v : Option Value) (h : Heap) (L : List Loc) : Prop := v = some (.int (cs.getD i 0)) ∧ Fr n0 L ∧ h = h0
abbrev y_37 : MethodName := ⟨"java/lang/StringUTF16", "charAt", "([BI)C"⟩
theorem ef_50 (m : MethodId) (x0 : Addr) (x1 : Int32) : entryFrame m #[(.ref x0), (.int x1)] 2 = mkF m 0 #[.val (.ref x0), .val (.int x1)] [] := by first | (simp [entryFrame, mkF, argsToLocals, Value.category]; done) | rfl
theorem d50_0 : decode jdk_52_method_83_code 0 = .ok (.iload_n 1, 1) := by decide +kernel
theorem d50_1 : decode jdk_52_method_83_code 1 = .ok (.aload_n 0, 1) := by decide +kernel
theorem pd_39 : parseMethodDescriptor "(I[B)V" = some ⟨[.int, (.array .byte)], none⟩ := by decide +kernel
theorem d50_2 : decode jdk_52_method_83_code 2 = .ok (.invokestatic 67, 3) := by decide +kernel
theorem d50_5 : decode jdk_52_method_83_code 5 = .ok (.aload_n 0, 1) := by decide +kernel
theorem d50_6 : decode jdk_52_method_83_code 6 = .ok (.iload_n 1, 1) := by decide +kernel
theorem d50_7 : decode jdk_52_method_83_code 7 = .ok (.invokestatic 71, 3) := by decide +kernel
theorem d50_10 : decode jdk_52_method_83_code 10 = .ok (.ireturn, 1) := by decide +kernel
theorem rmUC (l : Launch) (Z : State) (a0 : Array Value) (hw : HW Z a0) (ws : List Jvm.Cond) (tt : Addr) (kt : ClassId) (cs : List Int32) (i : Nat) (fm : Value) (h0 : Heap) (n0 : Nat) (O0 : Old Z n0 h0) (SAs : Sta Z Z.heap "java/lang/StringUTF16" "$assertionsDisabled" "Z" (.int (1 : Int32))) (SHi : Sta Z Z.heap "java/lang/StringUTF16" "HI_BYTE_SHIFT" "I" (.int (0 : Int32))) (SLo : Sta Z Z.heap "java/lang/StringUTF16" "LO_BYTE_SHIFT" "I" (.int (8 : Int32))) (SP : Sta Z Z.heap "jdk/internal/util/Preconditions" "SIOOBE_FORMATTER" "Ljava/util/function/BiFunction;" fm) (hfm : fm = .null ∨ ∃ wP, fm = .ref wP) (Vt : Arv Z h0 tt kt .byte (Int32.ofNat (u16 cs).length) ((u16 cs).map Value.int) (.int (0 : Int32))) (hp : ∀ c ∈ cs, ¬ c < 0 ∧ ¬ (65535 : Int32) < c) (hi : i < cs.length) (hn : cs.length ≤ 8) :
    MF l Z y_37 jdk_52_method_83_code 2 (some .char) ws ({ frames := 3, cells := 0, slots := 0, locals := 56 } : Room) #[(.ref tt), (.int (Int32.ofNat i))] h0 (Q_rmUC Z cs i h0 n0) := by
  refine MetFree.of_bodySF (plainFor_of_name pn_StringUTF16) hisR ?_
  intro p e s m args below meth c s₁ Bd hml0 hP hK
  obtain ⟨rfl, hZ, hh⟩ := hP
  have hx := Bd.exec
  have hby := Bd.bytes
  have hml : c.maxLocals = 2 := hml0
  have hown : s.vm.findClass "java/lang/StringUTF16" = some m.cls := findClass_of_methodNamed Bd.named
  have hnm := (name_of_methodNamed Bd.named Bd.method).1
  have X0 : Stand p l e ({ frames := 3, cells := 0, slots := 0, locals := 56 } : Room) s m #[(.ref tt), (.int (Int32.ofNat i))] below meth c s₁ [] 0 0 := Stand.of_body Bd
  have e0 : s₁.heap = h0 := by rw [← hh, Bd.state]; rfl
  have N0 := Fr.nil n0
  obtain ⟨S0, hS0⟩ : ∃ z, z = s₁.setTop (entryFrame m #[(.ref tt), (.int (Int32.ofNat i))] 2) := ⟨_, rfl⟩
  have k0 : Rch p e below S0 s₁ (mkF m 0 #[vR tt, vI (Int32.ofNat i)] []) := fun t kq => hS0 ▸ castTop (ef_50 m tt (Int32.ofNat i)) kq
  rw [u16_len] at Vt
  have hic := own_memD cs _ hp i hi
  have k402 : Rch p e below S0 s₁ (mkF m 2 #[vR tt, vI (Int32.ofNat i)] [(.ref tt), (.int (Int32.ofNat i))]) := fun t h => k0 t (by
      refine XS.iloadN X0.here hx rfl (hb hby d50_0) rfl ?_
      refine XS.aloadN X0.here hx rfl (hb hby d50_1) rfl rfl ?_
      exact h)
  obtain ⟨_, _, ⟨T403, L403, kk403, n403⟩, -, X403, ⟨Lc403, hQ403, l403, y403, z403⟩, st403⟩ := Jvm.LawKit.callS X0 hx (y := y_36) hown (mvT hZ (hw _ (gm 237 rfl))) (mvT hZ (hw _ (gm 238 rfl))) (mvT hZ (hw _ (gm 30 rfl))) (mvT hZ (hw _ (gm 239 rfl))) (by decide) (backOf (W := 0) (rmUX l Z a0 hw []  tt kt cs i fm h0 n0 O0 SP hfm Vt hi hn) hZ (hw _ (gm 239 rfl)) (hw _ (gm 30 rfl)) (by decide) (by decide)) (g := (mkF m 2 #[vR tt, vI (Int32.ofNat i)] [(.ref tt), (.int (Int32.ofNat i))])) rfl (by rw [hml]; rfl) (argsL := [(.int (Int32.ofNat i)), (.ref tt)]) (rest := []) (lenOf pd_39 rfl) rfl (by show 2 * 0 + _ ≤ _; exact Nat.le_of_eq rfl) (hb hby d50_2) (fun _ _ => ⟨rfl, e0, (by decide : 0 + 0 ≤ _), (by decide : 0 + 0 ≤ _)⟩)
  dsimp only [Pt.U, Pt.locs, Pt.cells, Pt.slots] at X403 l403 y403 z403 st403 hQ403
  subst l403 y403 z403
  obtain ⟨rfl, Nq403, hh403⟩ := hQ403
  have N403 := Fr.app N0 Nq403
  have k404 : Rch p e below S0 T403 (mkF m 5 #[vR tt, vI (Int32.ofNat i)] []) := fun t h => k402 t (st403 t h)
  have k405 : Rch p e below S0 T403 (mkF m 7 #[vR tt, vI (Int32.ofNat i)] [(.int (Int32.ofNat i)), (.ref tt)]) := fun t h => k404 t (by
      refine XS.aloadN X403.here hx rfl (hb hby d50_5) rfl rfl ?_
      refine XS.iloadN X403.here hx rfl (hb hby d50_6) rfl ?_
      exact h)
  obtain ⟨_, _, ⟨T406, L406, kk406, n406⟩, -, X406, ⟨Lc406, hQ406, l406, y406, z406⟩, st406⟩ := Jvm.LawKit.callS X403 hx (y := y_3) hown (mvT hZ (hw _ (gm 205 rfl))) (mvT hZ (hw _ (gm 206 rfl))) (mvT hZ (hw _ (gm 30 rfl))) (mvT hZ (hw _ (gm 207 rfl))) (by decide) (backOf (W := 0) (rmGC l Z a0 hw [] tt i kt cs.length _ (cs.getD i 0) h0 n0 O0 SAs SHi SLo (by omega) hi hic (u16_at cs _ i hi).1 (u16_at cs _ i hi).2 Vt) hZ (hw _ (gm 207 rfl)) (hw _ (gm 30 rfl)) (by decide) (by decide)) (g := (mkF m 7 #[vR tt, vI (Int32.ofNat i)] [(.int (Int32.ofNat i)), (.ref tt)])) rfl (by rw [hml]; rfl) (argsL := [(.ref tt), (.int (Int32.ofNat i))]) (rest := []) (lenOf pd_29 rfl) rfl (by show 2 * 0 + _ ≤ _; exact Nat.le_of_eq rfl) (hb hby d50_7) (fun _ _ => ⟨rfl, hh403, (by decide : 0 + 0 ≤ _), (by decide : 0 + 0 ≤ _)⟩)
  dsimp only [Pt.U, Pt.locs, Pt.cells, Pt.slots] at X406 l406 y406 z406 st406 hQ406
  subst l406 y406 z406
  obtain ⟨rfl, Nq406, hh406⟩ := hQ406
  have N406 := Fr.app N403 Nq406
  have k407 : Rch p e below S0 T406 (mkF m 10 #[vR tt, vI (Int32.ofNat i)] [(.int (cs.getD i 0))]) := fun t h => k405 t (st406 t h)
  obtain ⟨fs, hr, hrun, hended, hW, hsame⟩ := X406.leave (v := (some (.int (nar .char (cs.getD i 0))))) (fun h => by rw [Bd.returns] at h; cases h)
  refine ⟨_, _, ?_, hrun, hended, _, _, rfl, ?_, ⟨_, rfl⟩, hW, hsame.mono (by decide) (by decide)⟩
  · rw [← hS0]
    refine k407 _ ?_
    show Steps p.tables e below (T406.setTop (mkF m 10 #[vR tt, vI (Int32.ofNat i)] [(.int (cs.getD i 0))])) _
    exact retN X406 hx (t := .char) Bd.returns (by simp) (hb hby d50_10) hr
  · show Q_rmUC Z cs i h0 n0 _ T406.heap _
    rw [hh406]
    exact ⟨by rw [(own_narc _ hic).1], N406, rfl⟩
def Q_rmCAl (Z : State) (cs : List Int32) (i : Nat) (h0 : Heap) (n0 : Nat) (v : Option Value) (h : Heap) (L : List Loc) : Prop := v = some (.int (cs.getD i 0)) ∧ Fr n0 L ∧ h = h0
abbrev y_38 : MethodName := ⟨"java/lang/String", "charAt", "(I)C"⟩
theorem ef_33 (m : MethodId) (x0 : Addr) (x1 : Int32) : entryFrame m #[(.ref x0), (.int x1)] 2 = mkF m 0 #[.val (.ref x0), .val (.int x1)] [] := by first | (simp [entryFrame, mkF, argsToLocals, Value.category]; done) | rfl
theorem d33_0 : decode jdk_42_method_56_code 0 = .ok (.aload_n 0, 1) := by decide +kernel
theorem d33_1 : decode jdk_42_method_56_code 1 = .ok (.invokevirtual 492, 3) := by decide +kernel
theorem d33_4 : decode jdk_42_method_56_code 4 = .ok (.ifCond .eq 12, 3) := by decide +kernel
theorem d33_7 : decode jdk_42_method_56_code 7 = .ok (.aload_n 0, 1) := by decide +kernel
theorem d33_8 : decode jdk_42_method_56_code 8 = .ok (.getfield 9, 3) := by decide +kernel
theorem d33_11 : decode jdk_42_method_56_code 11 = .ok (.iload_n 1, 1) := by decide +kernel
theorem d33_12 : decode jdk_42_method_56_code 12 = .ok (.invokestatic 495, 3) := by decide +kernel
theorem d33_15 : decode jdk_42_method_56_code 15 = .ok (.ireturn, 1) := by decide +kernel
theorem rmCAl (l : Launch) (Z : State) (a0 : Array Value) (hw : HW Z a0) (ws : List Jvm.Cond) (a1 : Addr) (tt : Addr) (kt : ClassId) (cs : List Int32) (i : Nat) (fm : Value) (zC : Int32) (h0 : Heap) (n0 : Nat) (O0 : Old Z n0 h0) (SC : Sta Z Z.heap "java/lang/String" "COMPACT_STRINGS" "Z" (.int zC)) (hzC : ¬ zC = 0) (SP : Sta Z Z.heap "jdk/internal/util/Preconditions" "SIOOBE_FORMATTER" "Ljava/util/function/BiFunction;" fm) (hfm : fm = .null ∨ ∃ wP, fm = .ref wP) (Ex : Exa Z h0 a1 "java/lang/String") (Sv : Fld Z h0 a1 "java/lang/String" "value" "[B" (.ref tt)) (Sc : Fld Z h0 a1 "java/lang/String" "coder" "B" (.int (0 : Int32))) (Vt : Arv Z h0 tt kt .byte (Int32.ofNat (cs.map b8).length) ((cs.map b8).map Value.int) (.int (0 : Int32))) (hp : ∀ c ∈ cs, ¬ c < 0 ∧ ¬ (255 : Int32) < c) (hi : i < cs.length) (hn : cs.length ≤ 8) :
    MF l Z y_38 jdk_42_method_56_code 2 (some .char) ws ({ frames := 4, cells := 0, slots := 0, locals := 74 } : Room) #[(.ref a1), (.int (Int32.ofNat i))] h0 (Q_rmCAl Z cs i h0 n0) := by
  refine MetFree.of_bodySF (plainFor_of_name pn_String) hisR ?_
  intro p e s m args below meth c s₁ Bd hml0 hP hK
  obtain ⟨rfl, hZ, hh⟩ := hP
  have hx := Bd.exec
  have hby := Bd.bytes
  have hml : c.maxLocals = 2 := hml0
  have hown : s.vm.findClass "java/lang/String" = some m.cls := findClass_of_methodNamed Bd.named
  have hnm := (name_of_methodNamed Bd.named Bd.method).1
  have X0 : Stand p l e ({ frames := 4, cells := 0, slots := 0, locals := 74 } : Room) s m #[(.ref a1), (.int (Int32.ofNat i))] below meth c s₁ [] 0 0 := Stand.of_body Bd
  have e0 : s₁.heap = h0 := by rw [← hh, Bd.state]; rfl
  have N0 := Fr.nil n0
  obtain ⟨S0, hS0⟩ : ∃ z, z = s₁.setTop (entryFrame m #[(.ref a1), (.int (Int32.ofNat i))] 2) := ⟨_, rfl⟩
  have k0 : Rch p e below S0 s₁ (mkF m 0 #[vR a1, vI (Int32.ofNat i)] []) := fun t kq => hS0 ▸ castTop (ef_33 m a1 (Int32.ofNat i)) kq
  have hic := own_memD cs _ hp i hi
  have k408 : Rch p e below S0 s₁ (mkF m 1 #[vR a1, vI (Int32.ofNat i)] [(.ref a1)]) := fun t h => k0 t (by
      refine XS.aloadN X0.here hx rfl (hb hby d33_0) rfl rfl ?_
      exact h)
  obtain ⟨cq409, kq409, q409a, q409b, q409c⟩ := isOf hZ e0 Ex
  obtain ⟨_, _, ⟨T409, L409, kk409, n409⟩, -, X409, ⟨Lc409, hQ409, l409, y409, z409⟩, st409⟩ := X0.virtualBack hx (y := y_33) (z := y_33) hown (mvT hZ (hw _ (gm 173 rfl))) (mvT hZ (hw _ (gm 174 rfl))) (notFace_of_selects (args := #[]) (mvT hZ (hw _ (gm 176 rfl)))) (mvT hZ (hw _ (gm 176 rfl))) (mvT hZ (hw _ (gm 175 rfl))) (by decide) (backOf (W := 0) (rmIL l Z a0 hw [] a1 zC h0 n0 O0 SC hzC Sc) hZ (hw _ (gm 177 rfl)) (hw _ (gm 7 rfl)) (by decide) (by decide)) q409a q409c (g := (mkF m 1 #[vR a1, vI (Int32.ofNat i)] [(.ref a1)])) rfl (by rw [hml]; rfl) (Steps.refl _) (argsL := []) (rest := []) (lenOf pd_13 rfl) rfl (by show 2 * 0 + _ ≤ _; exact Nat.le_of_eq rfl) (hb hby d33_1) (fun _ _ => ⟨rfl, e0, (by decide : 0 + 0 ≤ _), (by decide : 0 + 0 ≤ _)⟩)
  dsimp only [Pt.U, Pt.locs, Pt.cells, Pt.slots] at X409 l409 y409 z409 st409 hQ409
  subst l409 y409 z409
  obtain ⟨rfl, Nq409, hh409⟩ := hQ409
  have N409 := Fr.app N0 Nq409
  have k410 : Rch p e below S0 T409 (mkF m 4 #[vR a1, vI (Int32.ofNat i)] [(.int (1 : Int32))]) := fun t h => k408 t (st409.trans h)
  have k412 : Rch p e below S0 T409 (mkF m 8 #[vR a1, vI (Int32.ofNat i)] [(.ref a1)]) := fun t h => k410 t (by
      refine XS.ifNo X409.here hx rfl (hb hby d33_4) rfl ((if0 _ _).trans (feq (by decide : ¬ ((1 : Int32) = (0 : Int32)))).1) ?_
      refine XS.aloadN X409.here hx rfl (hb hby d33_7) rfl rfl ?_
      exact h)
  obtain ⟨T411, X411, e411, st411⟩ := getF X409 hx hZ hown (host := "") (Or.inl (hw _ (gm 25 rfl))) Via.refl hh409 Sv (g := (mkF m 8 #[vR a1, vI (Int32.ofNat i)] [(.ref a1)])) rfl rfl (hb hby d33_8)
  have k413 : Rch p e below S0 T411 (mkF m 11 #[vR a1, vI (Int32.ofNat i)] [(.ref tt)]) := fun t h => k412 t (st411 t h)
  have k414 : Rch p e below S0 T411 (mkF m 12 #[vR a1, vI (Int32.ofNat i)] [(.int (Int32.ofNat i)), (.ref tt)]) := fun t h => k413 t (by
      refine XS.iloadN X411.here hx rfl (hb hby d33_11) rfl ?_
      exact h)
  obtain ⟨_, _, ⟨T415, L415, kk415, n415⟩, -, X415, ⟨Lc415, hQ415, l415, y415, z415⟩, st415⟩ := Jvm.LawKit.callS X411 hx (y := y_34) hown (mvT hZ (hw _ (gm 178 rfl))) (mvT hZ (hw _ (gm 179 rfl))) (mvT hZ (hw _ (gm 94 rfl))) (mvT hZ (hw _ (gm 180 rfl))) (by decide) (backOf (W := 0) (rmLC l Z a0 hw []  tt kt cs i fm h0 n0 O0 SP hfm Vt hp hi hn) hZ (hw _ (gm 180 rfl)) (hw _ (gm 94 rfl)) (by decide) (by decide)) (g := (mkF m 12 #[vR a1, vI (Int32.ofNat i)] [(.int (Int32.ofNat i)), (.ref tt)])) rfl (by rw [hml]; rfl) (argsL := [(.ref tt), (.int (Int32.ofNat i))]) (rest := []) (lenOf pd_29 rfl) rfl (by show 2 * 0 + _ ≤ _; exact Nat.le_of_eq rfl) (hb hby d33_12) (fun _ _ => ⟨rfl, e411, (by decide : 0 + 0 ≤ _), (by decide : 0 + 0 ≤ _)⟩)
  dsimp only [Pt.U, Pt.locs, Pt.cells, Pt.slots] at X415 l415 y415 z415 st415 hQ415
  subst l415 y415 z415
  obtain ⟨rfl, Nq415, hh415⟩ := hQ415
  have N415 := Fr.app N409 Nq415
  have k416 : Rch p e below S0 T415 (mkF m 15 #[vR a1, vI (Int32.ofNat i)] [(.int (cs.getD i 0))]) := fun t h => k414 t (st415 t h)
  obtain ⟨fs, hr, hrun, hended, hW, hsame⟩ := X415.leave (v := (some (.int (nar .char (cs.getD i 0))))) (fun h => by rw [Bd.returns] at h; cases h)
  refine ⟨_, _, ?_, hrun, hended, _, _, rfl, ?_, ⟨_, rfl⟩, hW, hsame.mono (by decide) (by decide)⟩
  · rw [← hS0]
    refine k416 _ ?_
    show Steps p.tables e below (T415.setTop (mkF m 15 #[vR a1, vI (Int32.ofNat i)] [(.int (cs.getD i 0))])) _
    exact retN X415 hx (t := .char) Bd.returns (by simp) (hb hby d33_15) hr
  · show Q_rmCAl Z cs i h0 n0 _ T415.heap _
    rw [hh415]
    exact ⟨by rw [(own_narc _ (own_8f _ hic)).1], N415, rfl⟩
def Q_rmCAu (Z : State) (cs : List Int32) (i : Nat) (h0 : Heap) (n0 : Nat) (v : Option Value) (h : Heap) (L : List Loc) : Prop := v = some (.int (cs.getD i 0)) ∧ Fr n0 L ∧ h = h0
theorem d33_16 : decode jdk_42_method_56_code 16 = .ok (.aload_n 0, 1) := by decide +kernel
theorem d33_17 : decode jdk_42_method_56_code 17 = .ok (.getfield 9, 3) := by decide +kernel
theorem d33_20 : decode jdk_42_method_56_code 20 = .ok (.iload_n 1, 1) := by decide +kernel
theorem d33_21 : decode jdk_42_method_56_code 21 = .ok (.invokestatic 498, 3) := by decide +kernel
theorem d33_24 : decode jdk_42_method_56_code 24 = .ok (.ireturn, 1) := by decide +kernel
theorem rmCAu (l : Launch) (Z : State) (a0 : Array Value) (hw : HW Z a0) (ws : List Jvm.Cond) (a1 : Addr) (tt : Addr) (kt : ClassId) (cs : List Int32) (i : Nat) (fm : Value) (zC : Int32) (h0 : Heap) (n0 : Nat) (O0 : Old Z n0 h0) (SC : Sta Z Z.heap "java/lang/String" "COMPACT_STRINGS" "Z" (.int zC)) (hzC : ¬ zC = 0) (SAs : Sta Z Z.heap "java/lang/StringUTF16" "$assertionsDisabled" "Z" (.int (1 : Int32))) (SHi : Sta Z Z.heap "java/lang/StringUTF16" "HI_BYTE_SHIFT" "I" (.int (0 : Int32))) (SLo : Sta Z Z.heap "java/lang/StringUTF16" "LO_BYTE_SHIFT" "I" (.int (8 : Int32))) (SP : Sta Z Z.heap "jdk/internal/util/Preconditions" "SIOOBE_FORMATTER" "Ljava/util/function/BiFunction;" fm) (hfm : fm = .null ∨ ∃ wP, fm = .ref wP) (Ex : Exa Z h0 a1 "java/lang/String") (Sv : Fld Z h0 a1 "java/lang/String" "value" "[B" (.ref tt)) (Sc : Fld Z h0 a1 "java/lang/String" "coder" "B" (.int (1 : Int32))) (Vt : Arv Z h0 tt kt .byte (Int32.ofNat (u16 cs).length) ((u16 cs).map Value.int) (.int (0 : Int32))) (hp : ∀ c ∈ cs, ¬ c < 0 ∧ ¬ (65535 : Int32) < c) (hi : i < cs.length) (hn : cs.length ≤ 8) :
    MF l Z y_38 jdk_42_method_56_code 2 (some .char) ws ({ frames := 4, cells := 0, slots := 0, locals := 74 } : Room) #[(.ref a1), (.int (Int32.ofNat i))] h0 (Q_rmCAu Z cs i h0 n0) := by
  refine MetFree.of_bodySF (plainFor_of_name pn_String) hisR ?_
  intro p e s m args below meth c s₁ Bd hml0 hP hK
  obtain ⟨rfl, hZ, hh⟩ := hP
  have hx := Bd.exec
  have hby := Bd.bytes
  have hml : c.maxLocals = 2 := hml0
  have hown : s.vm.findClass "java/lang/String" = some m.cls := findClass_of_methodNamed Bd.named
  have hnm := (name_of_methodNamed Bd.named Bd.method).1
  have X0 : Stand p l e ({ frames := 4, cells := 0, slots := 0, locals := 74 } : Room) s m #[(.ref a1), (.int (Int32.ofNat i))] below meth c s₁ [] 0 0 := Stand.of_body Bd
  have e0 : s₁.heap = h0 := by rw [← hh, Bd.state]; rfl
  have N0 := Fr.nil n0
  obtain ⟨S0, hS0⟩ : ∃ z, z = s₁.setTop (entryFrame m #[(.ref a1), (.int (Int32.ofNat i))] 2) := ⟨_, rfl⟩
  have k0 : Rch p e below S0 s₁ (mkF m 0 #[vR a1, vI (Int32.ofNat i)] []) := fun t kq => hS0 ▸ castTop (ef_33 m a1 (Int32.ofNat i)) kq
  have hic := own_memD cs _ hp i hi
  have k417 : Rch p e below S0 s₁ (mkF m 1 #[vR a1, vI (Int32.ofNat i)] [(.ref a1)]) := fun t h => k0 t (by
      refine XS.aloadN X0.here hx rfl (hb hby d33_0) rfl rfl ?_
      exact h)
  obtain ⟨cq418, kq418, q418a, q418b, q418c⟩ := isOf hZ e0 Ex
  obtain ⟨_, _, ⟨T418, L418, kk418, n418⟩, -, X418, ⟨Lc418, hQ418, l418, y418, z418⟩, st418⟩ := X0.virtualBack hx (y := y_33) (z := y_33) hown (mvT hZ (hw _ (gm 173 rfl))) (mvT hZ (hw _ (gm 174 rfl))) (notFace_of_selects (args := #[]) (mvT hZ (hw _ (gm 176 rfl)))) (mvT hZ (hw _ (gm 176 rfl))) (mvT hZ (hw _ (gm 175 rfl))) (by decide) (backOf (W := 0) (rmILu l Z a0 hw [] a1 zC h0 n0 O0 SC hzC Sc) hZ (hw _ (gm 177 rfl)) (hw _ (gm 7 rfl)) (by decide) (by decide)) q418a q418c (g := (mkF m 1 #[vR a1, vI (Int32.ofNat i)] [(.ref a1)])) rfl (by rw [hml]; rfl) (Steps.refl _) (argsL := []) (rest := []) (lenOf pd_13 rfl) rfl (by show 2 * 0 + _ ≤ _; exact Nat.le_of_eq rfl) (hb hby d33_1) (fun _ _ => ⟨rfl, e0, (by decide : 0 + 0 ≤ _), (by decide : 0 + 0 ≤ _)⟩)
  dsimp only [Pt.U, Pt.locs, Pt.cells, Pt.slots] at X418 l418 y418 z418 st418 hQ418
  subst l418 y418 z418
  obtain ⟨rfl, Nq418, hh418⟩ := hQ418
  have N418 := Fr.app N0 Nq418
  have k419 : Rch p e below S0 T418 (mkF m 4 #[vR a1, vI (Int32.ofNat i)] [(.int (0 : Int32))]) := fun t h => k417 t (st418.trans h)
  have k421 : Rch p e below S0 T418 (mkF m 17 #[vR a1, vI (Int32.ofNat i)] [(.ref a1)]) := fun t h => k419 t (by
      refine XS.ifYes X418.here hx rfl (pc0 := 4) (pc' := 16) rfl (hb hby d33_4) rfl ((if0 _ _).trans (teq (by decide : (0 : Int32) = (0 : Int32))).1) (by decide) (by decide) ?_
      refine XS.aloadN X418.here hx rfl (hb hby d33_16) rfl rfl ?_
      exact h)
  obtain ⟨T420, X420, e420, st420⟩ := getF X418 hx hZ hown (host := "") (Or.inl (hw _ (gm 25 rfl))) Via.refl hh418 Sv (g := (mkF m 17 #[vR a1, vI (Int32.ofNat i)] [(.ref a1)])) rfl rfl (hb hby d33_17)
  have k422 : Rch p e below S0 T420 (mkF m 20 #[vR a1, vI (Int32.ofNat i)] [(.ref tt)]) := fun t h => k421 t (st420 t h)
  have k423 : Rch p e below S0 T420 (mkF m 21 #[vR a1, vI (Int32.ofNat i)] [(.int (Int32.ofNat i)), (.ref tt)]) := fun t h => k422 t (by
      refine XS.iloadN X420.here hx rfl (hb hby d33_20) rfl ?_
      exact h)
  obtain ⟨_, _, ⟨T424, L424, kk424, n424⟩, -, X424, ⟨Lc424, hQ424, l424, y424, z424⟩, st424⟩ := Jvm.LawKit.callS X420 hx (y := y_37) hown (mvT hZ (hw _ (gm 234 rfl))) (mvT hZ (hw _ (gm 235 rfl))) (mvT hZ (hw _ (gm 30 rfl))) (mvT hZ (hw _ (gm 236 rfl))) (by decide) (backOf (W := 0) (rmUC l Z a0 hw []  tt kt cs i fm h0 n0 O0 SAs SHi SLo SP hfm Vt hp hi hn) hZ (hw _ (gm 236 rfl)) (hw _ (gm 30 rfl)) (by decide) (by decide)) (g := (mkF m 21 #[vR a1, vI (Int32.ofNat i)] [(.int (Int32.ofNat i)), (.ref tt)])) rfl (by rw [hml]; rfl) (argsL := [(.ref tt), (.int (Int32.ofNat i))]) (rest := []) (lenOf pd_29 rfl) rfl (by show 2 * 0 + _ ≤ _; exact Nat.le_of_eq rfl) (hb hby d33_21) (fun _ _ => ⟨rfl, e420, (by decide : 0 + 0 ≤ _), (by decide : 0 + 0 ≤ _)⟩)
  dsimp only [Pt.U, Pt.locs, Pt.cells, Pt.slots] at X424 l424 y424 z424 st424 hQ424
  subst l424 y424 z424
  obtain ⟨rfl, Nq424, hh424⟩ := hQ424
  have N424 := Fr.app N418 Nq424
  have k425 : Rch p e below S0 T424 (mkF m 24 #[vR a1, vI (Int32.ofNat i)] [(.int (cs.getD i 0))]) := fun t h => k423 t (st424 t h)
  obtain ⟨fs, hr, hrun, hended, hW, hsame⟩ := X424.leave (v := (some (.int (nar .char (cs.getD i 0))))) (fun h => by rw [Bd.returns] at h; cases h)
  refine ⟨_, _, ?_, hrun, hended, _, _, rfl, ?_, ⟨_, rfl⟩, hW, hsame.mono (by decide) (by decide)⟩
  · rw [← hS0]
    refine k425 _ ?_
    show Steps p.tables e below (T424.setTop (mkF m 24 #[vR a1, vI (Int32.ofNat i)] [(.int (cs.getD i 0))])) _
    exact retN X424 hx (t := .char) Bd.returns (by simp) (hb hby d33_24) hr
  · show Q_rmCAu Z cs i h0 n0 _ T424.heap _
    rw [hh424]
    exact ⟨by rw [(own_narc _ hic).1], N424, rfl⟩
theorem rmCAs (l : Launch) (Z : State) (a0 : Array Value) (hw : ∀ d ∈ tables_1, d.before a0 Z = true) (ws : List Jvm.Cond) (a1 : Addr) (i : Nat) (cs : List Int32) (fm : Value) (zC : Int32) (h0 : Heap) (n0 : Nat) (O0 : Old Z n0 h0) (SC : Sta Z Z.heap "java/lang/String" "COMPACT_STRINGS" "Z" (.int zC)) (hzC : ¬ zC = 0) (SAs : Sta Z Z.heap "java/lang/StringUTF16" "$assertionsDisabled" "Z" (.int (1 : Int32))) (SHi : Sta Z Z.heap "java/lang/StringUTF16" "HI_BYTE_SHIFT" "I" (.int (0 : Int32))) (SLo : Sta Z Z.heap "java/lang/StringUTF16" "LO_BYTE_SHIFT" "I" (.int (8 : Int32))) (SP : Sta Z Z.heap "jdk/internal/util/Preconditions" "SIOOBE_FORMATTER" "Ljava/util/function/BiFunction;" fm) (hfm : fm = .null ∨ ∃ wP, fm = .ref wP) (S1 : Stg Z h0 a1 cs) (hi : i < cs.length) (hn : cs.length ≤ 8) :
    MetFree l y_38 (head1 (Jvm.Cond.code y_38 jdk_42_method_56_code 2 (some .char) :: ws) ({ frames := 4, cells := 0, slots := 0, locals := 74 } : Room)) (fun a U => a = #[(.ref a1), (.int (Int32.ofNat i))] ∧ Z.Warmed39 U.vm ∧ U.heap = h0) (fun _ _ _ _ _ => True) (fun _ U o U' => ∃ v L, o = .returned v ∧ Q_rmCAl Z cs i h0 n0 v U'.heap L ∧ FrameEnd U o U' L ({ frames := 4, cells := 0, slots := 0, locals := 74 } : Room).cells ({ frames := 4, cells := 0, slots := 0, locals := 74 } : Room).slots) := by
  rcases S1 with ⟨tt, kt, q1, q2, q3, q4, q5⟩ | ⟨tt, kt, q1, q2, q3, q4, q5⟩
  · exact rmCAl l Z a0 hw ws a1 tt kt cs i fm zC h0 n0 O0 SC hzC SP hfm q1 q2 q3 q4 q5 hi hn
  · exact rmCAu l Z a0 hw ws a1 tt kt cs i fm zC h0 n0 O0 SC hzC SAs SHi SLo SP hfm q1 q2 q3 q4 q5 hi hn
def Q_rmNM (Z : State) (ch : Int32) (h0 : Heap) (n0 : Nat) (v : Option Value) (h : Heap) (L : List Loc) : Prop := v = some (.int (own_nm ch)) ∧ Fr n0 L ∧ h = h0
abbrev y_39 : MethodName := ⟨"com/example/nuthatch/nuthatch/EntryNameMemberPinLaw", "named", "(C)C"⟩
theorem ef_52 (m : MethodId) (x0 : Int32) : entryFrame m #[(.int x0)] 4 = mkF m 0 #[.val (.int x0), .unset, .unset, .unset] [] := by first | (simp [entryFrame, mkF, argsToLocals, Value.category]; done) | rfl
theorem pn_EntryNameMemberPinLaw : plainName "com/example/nuthatch/nuthatch/EntryNameMemberPinLaw" = true := by first | (simp [plainName, overriddenIn]; done) | decide +kernel
theorem d52_0 : decode method_3_code 0 = .ok (.iload_n 0, 1) := by decide +kernel
theorem d52_1 : decode method_3_code 1 = .ok (.bipush 32, 2) := by decide +kernel
theorem d52_3 : decode method_3_code 3 = .ok (.ior, 1) := by decide +kernel
theorem d52_4 : decode method_3_code 4 = .ok (.istore_n 1, 1) := by decide +kernel
theorem d52_5 : decode method_3_code 5 = .ok (.iload_n 1, 1) := by decide +kernel
theorem d52_6 : decode method_3_code 6 = .ok (.bipush 97, 2) := by decide +kernel
theorem d52_8 : decode method_3_code 8 = .ok (.if_icmp .lt 13, 3) := by decide +kernel
theorem d52_11 : decode method_3_code 11 = .ok (.iload_n 1, 1) := by decide +kernel
theorem d52_12 : decode method_3_code 12 = .ok (.bipush 122, 2) := by decide +kernel
theorem d52_14 : decode method_3_code 14 = .ok (.if_icmp .gt 7, 3) := by decide +kernel
theorem d52_17 : decode method_3_code 17 = .ok (.iconst 1, 1) := by decide +kernel
theorem d52_18 : decode method_3_code 18 = .ok (.goto 4, 3) := by decide +kernel
theorem d52_22 : decode method_3_code 22 = .ok (.istore_n 2, 1) := by decide +kernel
theorem d52_21 : decode method_3_code 21 = .ok (.iconst 0, 1) := by decide +kernel
theorem d52_23 : decode method_3_code 23 = .ok (.iload_n 0, 1) := by decide +kernel
theorem d52_24 : decode method_3_code 24 = .ok (.bipush 48, 2) := by decide +kernel
theorem d52_26 : decode method_3_code 26 = .ok (.if_icmp .lt 13, 3) := by decide +kernel
theorem d52_29 : decode method_3_code 29 = .ok (.iload_n 0, 1) := by decide +kernel
theorem d52_30 : decode method_3_code 30 = .ok (.bipush 57, 2) := by decide +kernel
theorem d52_32 : decode method_3_code 32 = .ok (.if_icmp .gt 7, 3) := by decide +kernel
theorem d52_39 : decode method_3_code 39 = .ok (.iconst 0, 1) := by decide +kernel
theorem d52_40 : decode method_3_code 40 = .ok (.istore_n 3, 1) := by decide +kernel
theorem d52_41 : decode method_3_code 41 = .ok (.iload_n 2, 1) := by decide +kernel
theorem d52_42 : decode method_3_code 42 = .ok (.ifCond .ne 25, 3) := by decide +kernel
theorem d52_67 : decode method_3_code 67 = .ok (.iload_n 0, 1) := by decide +kernel
theorem d52_68 : decode method_3_code 68 = .ok (.ireturn, 1) := by decide +kernel
theorem d52_35 : decode method_3_code 35 = .ok (.iconst 1, 1) := by decide +kernel
theorem d52_36 : decode method_3_code 36 = .ok (.goto 4, 3) := by decide +kernel
theorem d52_45 : decode method_3_code 45 = .ok (.iload_n 3, 1) := by decide +kernel
theorem d52_46 : decode method_3_code 46 = .ok (.ifCond .ne 21, 3) := by decide +kernel
theorem d52_49 : decode method_3_code 49 = .ok (.iload_n 0, 1) := by decide +kernel
theorem d52_50 : decode method_3_code 50 = .ok (.bipush 46, 2) := by decide +kernel
theorem d52_52 : decode method_3_code 52 = .ok (.if_icmp .eq 15, 3) := by decide +kernel
theorem d52_55 : decode method_3_code 55 = .ok (.iload_n 0, 1) := by decide +kernel
theorem d52_56 : decode method_3_code 56 = .ok (.bipush 45, 2) := by decide +kernel
theorem d52_58 : decode method_3_code 58 = .ok (.if_icmp .eq 9, 3) := by decide +kernel
theorem d52_61 : decode method_3_code 61 = .ok (.iload_n 0, 1) := by decide +kernel
theorem d52_62 : decode method_3_code 62 = .ok (.bipush 95, 2) := by decide +kernel
theorem d52_64 : decode method_3_code 64 = .ok (.if_icmp .ne 5, 3) := by decide +kernel
theorem d52_69 : decode method_3_code 69 = .ok (.bipush 95, 2) := by decide +kernel
theorem d52_71 : decode method_3_code 71 = .ok (.ireturn, 1) := by decide +kernel
theorem rmNM (l : Launch) (Z : State) (a0 : Array Value) (hw : HW Z a0) (ws : List Jvm.Cond) (ch : Int32) (h0 : Heap) (n0 : Nat) (O0 : Old Z n0 h0) (hc : ¬ ch < 0 ∧ ¬ (65535 : Int32) < ch) :
    MF l Z y_39 method_3_code 4 (some .char) ws ({ frames := 0, cells := 0, slots := 0, locals := 0 } : Room) #[(.int ch)] h0 (Q_rmNM Z ch h0 n0) := by
  refine MetFree.of_bodySF (plainFor_of_name pn_EntryNameMemberPinLaw) hisR ?_
  intro p e s m args below meth c s₁ Bd hml0 hP hK
  obtain ⟨rfl, hZ, hh⟩ := hP
  have hx := Bd.exec
  have hby := Bd.bytes
  have hml : c.maxLocals = 4 := hml0
  have hown : s.vm.findClass "com/example/nuthatch/nuthatch/EntryNameMemberPinLaw" = some m.cls := findClass_of_methodNamed Bd.named
  have hnm := (name_of_methodNamed Bd.named Bd.method).1
  have X0 : Stand p l e ({ frames := 0, cells := 0, slots := 0, locals := 0 } : Room) s m #[(.int ch)] below meth c s₁ [] 0 0 := Stand.of_body Bd
  have e0 : s₁.heap = h0 := by rw [← hh, Bd.state]; rfl
  have N0 := Fr.nil n0
  obtain ⟨S0, hS0⟩ : ∃ z, z = s₁.setTop (entryFrame m #[(.int ch)] 4) := ⟨_, rfl⟩
  have k0 : Rch p e below S0 s₁ (mkF m 0 #[vI ch, vU, vU, vU] []) := fun t kq => hS0 ▸ castTop (ef_52 m ch) kq
  have k426 : Rch p e below S0 s₁ (mkF m 5 #[vI ch, vI (ch ||| (32 : Int32)), vU, vU] []) := fun t h => k0 t (by
      refine XS.iloadN X0.here hx rfl (hb hby d52_0) rfl ?_
      refine XS.bipush X0.here hx rfl (hb hby d52_1) ?_
      refine XS.ior X0.here hx rfl (hb hby d52_3) rfl ?_
      refine XS.istoreN X0.here hx rfl (hb hby d52_4) rfl (l' := #[vI ch, vI (ch ||| (32 : Int32)), vU, vU]) rfl ?_
      exact h)
  have hlx := own_let ch hc.1
  obtain ⟨T430, lt, X430, e430, k430, hlt⟩ : ∃ (T' : State) (lt : Int32), Like X0 T' ∧ T'.heap = h0 ∧ Rch p e below S0 T' (mkF m 23 #[vI ch, vI (ch ||| (32 : Int32)), vI lt, vU] []) ∧ ((lt = 1 ∧ ((¬ ch < 97 ∧ ¬ (122 : Int32) < ch) ∨ (¬ ch < 65 ∧ ¬ (90 : Int32) < ch))) ∨ (lt = 0 ∧ ¬ ((¬ ch < 97 ∧ ¬ (122 : Int32) < ch) ∨ (¬ ch < 65 ∧ ¬ (90 : Int32) < ch)))) := by
    rcases (show (¬ (ch ||| (32 : Int32)) < 97 ∧ ¬ (122 : Int32) < (ch ||| (32 : Int32))) ∨ (ch ||| (32 : Int32)) < 97 ∨ (¬ (ch ||| (32 : Int32)) < 97 ∧ (122 : Int32) < (ch ||| (32 : Int32))) from by by_cases z1 : (ch ||| (32 : Int32)) < 97 <;> by_cases z2 : (122 : Int32) < (ch ||| (32 : Int32)) <;> simp [z1, z2]) with ⟨g1, g2⟩ | g1 | ⟨g1, g2⟩
    · have k427 : Rch p e below S0 s₁ (mkF m 23 #[vI ch, vI (ch ||| (32 : Int32)), vI 1, vU] []) := fun t h => k426 t (by
          refine XS.iloadN X0.here hx rfl (hb hby d52_5) rfl ?_
          refine XS.bipush X0.here hx rfl (hb hby d52_6) ?_
          refine XS.icmpNo X0.here hx rfl (hb hby d52_8) rfl (flt (g1 : ¬ ((ch ||| (32 : Int32)) < (97 : Int32)))).1 ?_
          refine XS.iloadN X0.here hx rfl (hb hby d52_11) rfl ?_
          refine XS.bipush X0.here hx rfl (hb hby d52_12) ?_
          refine XS.icmpNo X0.here hx rfl (hb hby d52_14) rfl (flt (g2 : ¬ ((122 : Int32) < (ch ||| (32 : Int32))))).2.2.1 ?_
          refine XS.iconst X0.here hx rfl (hb hby d52_17) ?_
          refine XS.goto X0.here hx rfl (pc0 := 18) (pc' := 22) rfl (hb hby d52_18) (by decide) (by decide) ?_
          refine XS.istoreN X0.here hx rfl (hb hby d52_22) rfl (l' := #[vI ch, vI (ch ||| (32 : Int32)), vI 1, vU]) rfl ?_
          exact h)
      exact ⟨_, (1 : Int32), X0, e0, k427, Or.inl ⟨rfl, hlx.mp ⟨g1, g2⟩⟩⟩
    · have k428 : Rch p e below S0 s₁ (mkF m 23 #[vI ch, vI (ch ||| (32 : Int32)), vI 0, vU] []) := fun t h => k426 t (by
          refine XS.iloadN X0.here hx rfl (hb hby d52_5) rfl ?_
          refine XS.bipush X0.here hx rfl (hb hby d52_6) ?_
          refine XS.icmpYes X0.here hx rfl (pc0 := 8) (pc' := 21) rfl (hb hby d52_8) rfl (tlt (g1 : (ch ||| (32 : Int32)) < (97 : Int32))).1 (by decide) (by decide) ?_
          refine XS.iconst X0.here hx rfl (hb hby d52_21) ?_
          refine XS.istoreN X0.here hx rfl (hb hby d52_22) rfl (l' := #[vI ch, vI (ch ||| (32 : Int32)), vI 0, vU]) rfl ?_
          exact h)
      exact ⟨_, (0 : Int32), X0, e0, k428, Or.inr ⟨rfl, fun q => (hlx.mpr q).1 g1⟩⟩
    · have k429 : Rch p e below S0 s₁ (mkF m 23 #[vI ch, vI (ch ||| (32 : Int32)), vI 0, vU] []) := fun t h => k426 t (by
          refine XS.iloadN X0.here hx rfl (hb hby d52_5) rfl ?_
          refine XS.bipush X0.here hx rfl (hb hby d52_6) ?_
          refine XS.icmpNo X0.here hx rfl (hb hby d52_8) rfl (flt (g1 : ¬ ((ch ||| (32 : Int32)) < (97 : Int32)))).1 ?_
          refine XS.iloadN X0.here hx rfl (hb hby d52_11) rfl ?_
          refine XS.bipush X0.here hx rfl (hb hby d52_12) ?_
          refine XS.icmpYes X0.here hx rfl (pc0 := 14) (pc' := 21) rfl (hb hby d52_14) rfl (tlt (g2 : (122 : Int32) < (ch ||| (32 : Int32)))).2.2.1 (by decide) (by decide) ?_
          refine XS.iconst X0.here hx rfl (hb hby d52_21) ?_
          refine XS.istoreN X0.here hx rfl (hb hby d52_22) rfl (l' := #[vI ch, vI (ch ||| (32 : Int32)), vI 0, vU]) rfl ?_
          exact h)
      exact ⟨_, (0 : Int32), X0, e0, k429, Or.inr ⟨rfl, fun q => (hlx.mpr q).2 g2⟩⟩
  replace X430 := X430.out
  rcases own_seven ch lt hlt with ⟨c1, c2, c3, cr⟩ | ⟨c1, c2, c3, cr⟩ | ⟨c1, c2, c3, cr⟩ | ⟨c1, c2, c3, c4, cr⟩ | ⟨c1, c2, c3, c4, c5, cr⟩ | ⟨c1, c2, c3, c4, c5, c6, cr⟩ | ⟨c1, c2, c3, c4, c5, c6, cr⟩
  · have k431 : Rch p e below S0 T430 (mkF m 68 #[vI ch, vI (ch ||| (32 : Int32)), vI lt, vI 0] [(.int ch)]) := fun t h => k430 t (by
        refine XS.iloadN X430.here hx rfl (hb hby d52_23) rfl ?_
        refine XS.bipush X430.here hx rfl (hb hby d52_24) ?_
        refine XS.icmpNo X430.here hx rfl (hb hby d52_26) rfl (flt (c1 : ¬ (ch < (48 : Int32)))).1 ?_
        refine XS.iloadN X430.here hx rfl (hb hby d52_29) rfl ?_
        refine XS.bipush X430.here hx rfl (hb hby d52_30) ?_
        refine XS.icmpYes X430.here hx rfl (pc0 := 32) (pc' := 39) rfl (hb hby d52_32) rfl (tlt (c2 : (57 : Int32) < ch)).2.2.1 (by decide) (by decide) ?_
        refine XS.iconst X430.here hx rfl (hb hby d52_39) ?_
        refine XS.istoreN X430.here hx rfl (hb hby d52_40) rfl (l' := #[vI ch, vI (ch ||| (32 : Int32)), vI lt, vI 0]) rfl ?_
        refine XS.iloadN X430.here hx rfl (hb hby d52_41) rfl ?_
        refine XS.ifYes X430.here hx rfl (pc0 := 42) (pc' := 67) rfl (hb hby d52_42) rfl ((if0 _ _).trans (feq (c3 : ¬ (lt = (0 : Int32)))).2) (by decide) (by decide) ?_
        refine XS.iloadN X430.here hx rfl (hb hby d52_67) rfl ?_
        exact h)
    obtain ⟨fs, hr, hrun, hended, hW, hsame⟩ := X430.leave (v := (some (.int (nar .char ch)))) (fun h => by rw [Bd.returns] at h; cases h)
    refine ⟨_, _, ?_, hrun, hended, _, _, rfl, ?_, ⟨_, rfl⟩, hW, hsame.mono (by decide) (by decide)⟩
    · rw [← hS0]
      refine k431 _ ?_
      show Steps p.tables e below (T430.setTop (mkF m 68 #[vI ch, vI (ch ||| (32 : Int32)), vI lt, vI 0] [(.int ch)])) _
      exact retN X430 hx (t := .char) Bd.returns (by simp) (hb hby d52_68) hr
    · show Q_rmNM Z ch h0 n0 _ T430.heap _
      rw [e430]
      exact ⟨by rw [cr]; rw [(own_narc _ hc).1], N0, rfl⟩
  · have k432 : Rch p e below S0 T430 (mkF m 68 #[vI ch, vI (ch ||| (32 : Int32)), vI lt, vI 1] [(.int ch)]) := fun t h => k430 t (by
        refine XS.iloadN X430.here hx rfl (hb hby d52_23) rfl ?_
        refine XS.bipush X430.here hx rfl (hb hby d52_24) ?_
        refine XS.icmpNo X430.here hx rfl (hb hby d52_26) rfl (flt (c1 : ¬ (ch < (48 : Int32)))).1 ?_
        refine XS.iloadN X430.here hx rfl (hb hby d52_29) rfl ?_
        refine XS.bipush X430.here hx rfl (hb hby d52_30) ?_
        refine XS.icmpNo X430.here hx rfl (hb hby d52_32) rfl (flt (c2 : ¬ ((57 : Int32) < ch))).2.2.1 ?_
        refine XS.iconst X430.here hx rfl (hb hby d52_35) ?_
        refine XS.goto X430.here hx rfl (pc0 := 36) (pc' := 40) rfl (hb hby d52_36) (by decide) (by decide) ?_
        refine XS.istoreN X430.here hx rfl (hb hby d52_40) rfl (l' := #[vI ch, vI (ch ||| (32 : Int32)), vI lt, vI 1]) rfl ?_
        refine XS.iloadN X430.here hx rfl (hb hby d52_41) rfl ?_
        refine XS.ifNo X430.here hx rfl (hb hby d52_42) rfl ((if0 _ _).trans (teq (c3 : lt = (0 : Int32))).2) ?_
        refine XS.iloadN X430.here hx rfl (hb hby d52_45) rfl ?_
        refine XS.ifYes X430.here hx rfl (pc0 := 46) (pc' := 67) rfl (hb hby d52_46) rfl ((if0 _ _).trans (feq (by decide : ¬ ((1 : Int32) = (0 : Int32)))).2) (by decide) (by decide) ?_
        refine XS.iloadN X430.here hx rfl (hb hby d52_67) rfl ?_
        exact h)
    obtain ⟨fs, hr, hrun, hended, hW, hsame⟩ := X430.leave (v := (some (.int (nar .char ch)))) (fun h => by rw [Bd.returns] at h; cases h)
    refine ⟨_, _, ?_, hrun, hended, _, _, rfl, ?_, ⟨_, rfl⟩, hW, hsame.mono (by decide) (by decide)⟩
    · rw [← hS0]
      refine k432 _ ?_
      show Steps p.tables e below (T430.setTop (mkF m 68 #[vI ch, vI (ch ||| (32 : Int32)), vI lt, vI 1] [(.int ch)])) _
      exact retN X430 hx (t := .char) Bd.returns (by simp) (hb hby d52_68) hr
    · show Q_rmNM Z ch h0 n0 _ T430.heap _
      rw [e430]
      exact ⟨by rw [cr]; rw [(own_narc _ hc).1], N0, rfl⟩
  · have k433 : Rch p e below S0 T430 (mkF m 68 #[vI ch, vI (ch ||| (32 : Int32)), vI lt, vI 0] [(.int ch)]) := fun t h => k430 t (by
        refine XS.iloadN X430.here hx rfl (hb hby d52_23) rfl ?_
        refine XS.bipush X430.here hx rfl (hb hby d52_24) ?_
        refine XS.icmpYes X430.here hx rfl (pc0 := 26) (pc' := 39) rfl (hb hby d52_26) rfl (tlt (c1 : ch < (48 : Int32))).1 (by decide) (by decide) ?_
        refine XS.iconst X430.here hx rfl (hb hby d52_39) ?_
        refine XS.istoreN X430.here hx rfl (hb hby d52_40) rfl (l' := #[vI ch, vI (ch ||| (32 : Int32)), vI lt, vI 0]) rfl ?_
        refine XS.iloadN X430.here hx rfl (hb hby d52_41) rfl ?_
        refine XS.ifNo X430.here hx rfl (hb hby d52_42) rfl ((if0 _ _).trans (teq (c2 : lt = (0 : Int32))).2) ?_
        refine XS.iloadN X430.here hx rfl (hb hby d52_45) rfl ?_
        refine XS.ifNo X430.here hx rfl (hb hby d52_46) rfl ((if0 _ _).trans (teq (by decide : (0 : Int32) = (0 : Int32))).2) ?_
        refine XS.iloadN X430.here hx rfl (hb hby d52_49) rfl ?_
        refine XS.bipush X430.here hx rfl (hb hby d52_50) ?_
        refine XS.icmpYes X430.here hx rfl (pc0 := 52) (pc' := 67) rfl (hb hby d52_52) rfl (teq (c3 : ch = (46 : Int32))).1 (by decide) (by decide) ?_
        refine XS.iloadN X430.here hx rfl (hb hby d52_67) rfl ?_
        exact h)
    obtain ⟨fs, hr, hrun, hended, hW, hsame⟩ := X430.leave (v := (some (.int (nar .char ch)))) (fun h => by rw [Bd.returns] at h; cases h)
    refine ⟨_, _, ?_, hrun, hended, _, _, rfl, ?_, ⟨_, rfl⟩, hW, hsame.mono (by decide) (by decide)⟩
    · rw [← hS0]
      refine k433 _ ?_
      show Steps p.tables e below (T430.setTop (mkF m 68 #[vI ch, vI (ch ||| (32 : Int32)), vI lt, vI 0] [(.int ch)])) _
      exact retN X430 hx (t := .char) Bd.returns (by simp) (hb hby d52_68) hr
    · show Q_rmNM Z ch h0 n0 _ T430.heap _
      rw [e430]
      exact ⟨by rw [cr]; rw [(own_narc _ hc).1], N0, rfl⟩
  · have k434 : Rch p e below S0 T430 (mkF m 68 #[vI ch, vI (ch ||| (32 : Int32)), vI lt, vI 0] [(.int ch)]) := fun t h => k430 t (by
        refine XS.iloadN X430.here hx rfl (hb hby d52_23) rfl ?_
        refine XS.bipush X430.here hx rfl (hb hby d52_24) ?_
        refine XS.icmpYes X430.here hx rfl (pc0 := 26) (pc' := 39) rfl (hb hby d52_26) rfl (tlt (c1 : ch < (48 : Int32))).1 (by decide) (by decide) ?_
        refine XS.iconst X430.here hx rfl (hb hby d52_39) ?_
        refine XS.istoreN X430.here hx rfl (hb hby d52_40) rfl (l' := #[vI ch, vI (ch ||| (32 : Int32)), vI lt, vI 0]) rfl ?_
        refine XS.iloadN X430.here hx rfl (hb hby d52_41) rfl ?_
        refine XS.ifNo X430.here hx rfl (hb hby d52_42) rfl ((if0 _ _).trans (teq (c2 : lt = (0 : Int32))).2) ?_
        refine XS.iloadN X430.here hx rfl (hb hby d52_45) rfl ?_
        refine XS.ifNo X430.here hx rfl (hb hby d52_46) rfl ((if0 _ _).trans (teq (by decide : (0 : Int32) = (0 : Int32))).2) ?_
        refine XS.iloadN X430.here hx rfl (hb hby d52_49) rfl ?_
        refine XS.bipush X430.here hx rfl (hb hby d52_50) ?_
        refine XS.icmpNo X430.here hx rfl (hb hby d52_52) rfl (feq (c3 : ¬ (ch = (46 : Int32)))).1 ?_
        refine XS.iloadN X430.here hx rfl (hb hby d52_55) rfl ?_
        refine XS.bipush X430.here hx rfl (hb hby d52_56) ?_
        refine XS.icmpYes X430.here hx rfl (pc0 := 58) (pc' := 67) rfl (hb hby d52_58) rfl (teq (c4 : ch = (45 : Int32))).1 (by decide) (by decide) ?_
        refine XS.iloadN X430.here hx rfl (hb hby d52_67) rfl ?_
        exact h)
    obtain ⟨fs, hr, hrun, hended, hW, hsame⟩ := X430.leave (v := (some (.int (nar .char ch)))) (fun h => by rw [Bd.returns] at h; cases h)
    refine ⟨_, _, ?_, hrun, hended, _, _, rfl, ?_, ⟨_, rfl⟩, hW, hsame.mono (by decide) (by decide)⟩
    · rw [← hS0]
      refine k434 _ ?_
      show Steps p.tables e below (T430.setTop (mkF m 68 #[vI ch, vI (ch ||| (32 : Int32)), vI lt, vI 0] [(.int ch)])) _
      exact retN X430 hx (t := .char) Bd.returns (by simp) (hb hby d52_68) hr
    · show Q_rmNM Z ch h0 n0 _ T430.heap _
      rw [e430]
      exact ⟨by rw [cr]; rw [(own_narc _ hc).1], N0, rfl⟩
  · have k435 : Rch p e below S0 T430 (mkF m 71 #[vI ch, vI (ch ||| (32 : Int32)), vI lt, vI 0] [(.int (95 : Int32))]) := fun t h => k430 t (by
        refine XS.iloadN X430.here hx rfl (hb hby d52_23) rfl ?_
        refine XS.bipush X430.here hx rfl (hb hby d52_24) ?_
        refine XS.icmpYes X430.here hx rfl (pc0 := 26) (pc' := 39) rfl (hb hby d52_26) rfl (tlt (c1 : ch < (48 : Int32))).1 (by decide) (by decide) ?_
        refine XS.iconst X430.here hx rfl (hb hby d52_39) ?_
        refine XS.istoreN X430.here hx rfl (hb hby d52_40) rfl (l' := #[vI ch, vI (ch ||| (32 : Int32)), vI lt, vI 0]) rfl ?_
        refine XS.iloadN X430.here hx rfl (hb hby d52_41) rfl ?_
        refine XS.ifNo X430.here hx rfl (hb hby d52_42) rfl ((if0 _ _).trans (teq (c2 : lt = (0 : Int32))).2) ?_
        refine XS.iloadN X430.here hx rfl (hb hby d52_45) rfl ?_
        refine XS.ifNo X430.here hx rfl (hb hby d52_46) rfl ((if0 _ _).trans (teq (by decide : (0 : Int32) = (0 : Int32))).2) ?_
        refine XS.iloadN X430.here hx rfl (hb hby d52_49) rfl ?_
        refine XS.bipush X430.here hx rfl (hb hby d52_50) ?_
        refine XS.icmpNo X430.here hx rfl (hb hby d52_52) rfl (feq (c3 : ¬ (ch = (46 : Int32)))).1 ?_
        refine XS.iloadN X430.here hx rfl (hb hby d52_55) rfl ?_
        refine XS.bipush X430.here hx rfl (hb hby d52_56) ?_
        refine XS.icmpNo X430.here hx rfl (hb hby d52_58) rfl (feq (c4 : ¬ (ch = (45 : Int32)))).1 ?_
        refine XS.iloadN X430.here hx rfl (hb hby d52_61) rfl ?_
        refine XS.bipush X430.here hx rfl (hb hby d52_62) ?_
        refine XS.icmpYes X430.here hx rfl (pc0 := 64) (pc' := 69) rfl (hb hby d52_64) rfl (feq (c5 : ¬ (ch = (95 : Int32)))).2 (by decide) (by decide) ?_
        refine XS.bipush X430.here hx rfl (hb hby d52_69) ?_
        exact h)
    obtain ⟨fs, hr, hrun, hended, hW, hsame⟩ := X430.leave (v := (some (.int (nar .char (95 : Int32))))) (fun h => by rw [Bd.returns] at h; cases h)
    refine ⟨_, _, ?_, hrun, hended, _, _, rfl, ?_, ⟨_, rfl⟩, hW, hsame.mono (by decide) (by decide)⟩
    · rw [← hS0]
      refine k435 _ ?_
      show Steps p.tables e below (T430.setTop (mkF m 71 #[vI ch, vI (ch ||| (32 : Int32)), vI lt, vI 0] [(.int (95 : Int32))])) _
      exact retN X430 hx (t := .char) Bd.returns (by simp) (hb hby d52_71) hr
    · show Q_rmNM Z ch h0 n0 _ T430.heap _
      rw [e430]
      exact ⟨by rw [cr]; rfl, N0, rfl⟩
  · have k436 : Rch p e below S0 T430 (mkF m 68 #[vI ch, vI (ch ||| (32 : Int32)), vI lt, vI 0] [(.int ch)]) := fun t h => k430 t (by
        refine XS.iloadN X430.here hx rfl (hb hby d52_23) rfl ?_
        refine XS.bipush X430.here hx rfl (hb hby d52_24) ?_
        refine XS.icmpNo X430.here hx rfl (hb hby d52_26) rfl (flt (c1 : ¬ (ch < (48 : Int32)))).1 ?_
        refine XS.iloadN X430.here hx rfl (hb hby d52_29) rfl ?_
        refine XS.bipush X430.here hx rfl (hb hby d52_30) ?_
        refine XS.icmpYes X430.here hx rfl (pc0 := 32) (pc' := 39) rfl (hb hby d52_32) rfl (tlt (c2 : (57 : Int32) < ch)).2.2.1 (by decide) (by decide) ?_
        refine XS.iconst X430.here hx rfl (hb hby d52_39) ?_
        refine XS.istoreN X430.here hx rfl (hb hby d52_40) rfl (l' := #[vI ch, vI (ch ||| (32 : Int32)), vI lt, vI 0]) rfl ?_
        refine XS.iloadN X430.here hx rfl (hb hby d52_41) rfl ?_
        refine XS.ifNo X430.here hx rfl (hb hby d52_42) rfl ((if0 _ _).trans (teq (c3 : lt = (0 : Int32))).2) ?_
        refine XS.iloadN X430.here hx rfl (hb hby d52_45) rfl ?_
        refine XS.ifNo X430.here hx rfl (hb hby d52_46) rfl ((if0 _ _).trans (teq (by decide : (0 : Int32) = (0 : Int32))).2) ?_
        refine XS.iloadN X430.here hx rfl (hb hby d52_49) rfl ?_
        refine XS.bipush X430.here hx rfl (hb hby d52_50) ?_
        refine XS.icmpNo X430.here hx rfl (hb hby d52_52) rfl (feq (c4 : ¬ (ch = (46 : Int32)))).1 ?_
        refine XS.iloadN X430.here hx rfl (hb hby d52_55) rfl ?_
        refine XS.bipush X430.here hx rfl (hb hby d52_56) ?_
        refine XS.icmpNo X430.here hx rfl (hb hby d52_58) rfl (feq (c5 : ¬ (ch = (45 : Int32)))).1 ?_
        refine XS.iloadN X430.here hx rfl (hb hby d52_61) rfl ?_
        refine XS.bipush X430.here hx rfl (hb hby d52_62) ?_
        refine XS.icmpNo X430.here hx rfl (hb hby d52_64) rfl (teq (c6 : ch = (95 : Int32))).2 ?_
        refine XS.iloadN X430.here hx rfl (hb hby d52_67) rfl ?_
        exact h)
    obtain ⟨fs, hr, hrun, hended, hW, hsame⟩ := X430.leave (v := (some (.int (nar .char ch)))) (fun h => by rw [Bd.returns] at h; cases h)
    refine ⟨_, _, ?_, hrun, hended, _, _, rfl, ?_, ⟨_, rfl⟩, hW, hsame.mono (by decide) (by decide)⟩
    · rw [← hS0]
      refine k436 _ ?_
      show Steps p.tables e below (T430.setTop (mkF m 68 #[vI ch, vI (ch ||| (32 : Int32)), vI lt, vI 0] [(.int ch)])) _
      exact retN X430 hx (t := .char) Bd.returns (by simp) (hb hby d52_68) hr
    · show Q_rmNM Z ch h0 n0 _ T430.heap _
      rw [e430]
      exact ⟨by rw [cr]; rw [(own_narc _ hc).1], N0, rfl⟩
  · have k437 : Rch p e below S0 T430 (mkF m 71 #[vI ch, vI (ch ||| (32 : Int32)), vI lt, vI 0] [(.int (95 : Int32))]) := fun t h => k430 t (by
        refine XS.iloadN X430.here hx rfl (hb hby d52_23) rfl ?_
        refine XS.bipush X430.here hx rfl (hb hby d52_24) ?_
        refine XS.icmpNo X430.here hx rfl (hb hby d52_26) rfl (flt (c1 : ¬ (ch < (48 : Int32)))).1 ?_
        refine XS.iloadN X430.here hx rfl (hb hby d52_29) rfl ?_
        refine XS.bipush X430.here hx rfl (hb hby d52_30) ?_
        refine XS.icmpYes X430.here hx rfl (pc0 := 32) (pc' := 39) rfl (hb hby d52_32) rfl (tlt (c2 : (57 : Int32) < ch)).2.2.1 (by decide) (by decide) ?_
        refine XS.iconst X430.here hx rfl (hb hby d52_39) ?_
        refine XS.istoreN X430.here hx rfl (hb hby d52_40) rfl (l' := #[vI ch, vI (ch ||| (32 : Int32)), vI lt, vI 0]) rfl ?_
        refine XS.iloadN X430.here hx rfl (hb hby d52_41) rfl ?_
        refine XS.ifNo X430.here hx rfl (hb hby d52_42) rfl ((if0 _ _).trans (teq (c3 : lt = (0 : Int32))).2) ?_
        refine XS.iloadN X430.here hx rfl (hb hby d52_45) rfl ?_
        refine XS.ifNo X430.here hx rfl (hb hby d52_46) rfl ((if0 _ _).trans (teq (by decide : (0 : Int32) = (0 : Int32))).2) ?_
        refine XS.iloadN X430.here hx rfl (hb hby d52_49) rfl ?_
        refine XS.bipush X430.here hx rfl (hb hby d52_50) ?_
        refine XS.icmpNo X430.here hx rfl (hb hby d52_52) rfl (feq (c4 : ¬ (ch = (46 : Int32)))).1 ?_
        refine XS.iloadN X430.here hx rfl (hb hby d52_55) rfl ?_
        refine XS.bipush X430.here hx rfl (hb hby d52_56) ?_
        refine XS.icmpNo X430.here hx rfl (hb hby d52_58) rfl (feq (c5 : ¬ (ch = (45 : Int32)))).1 ?_
        refine XS.iloadN X430.here hx rfl (hb hby d52_61) rfl ?_
        refine XS.bipush X430.here hx rfl (hb hby d52_62) ?_
        refine XS.icmpYes X430.here hx rfl (pc0 := 64) (pc' := 69) rfl (hb hby d52_64) rfl (feq (c6 : ¬ (ch = (95 : Int32)))).2 (by decide) (by decide) ?_
        refine XS.bipush X430.here hx rfl (hb hby d52_69) ?_
        exact h)
    obtain ⟨fs, hr, hrun, hended, hW, hsame⟩ := X430.leave (v := (some (.int (nar .char (95 : Int32))))) (fun h => by rw [Bd.returns] at h; cases h)
    refine ⟨_, _, ?_, hrun, hended, _, _, rfl, ?_, ⟨_, rfl⟩, hW, hsame.mono (by decide) (by decide)⟩
    · rw [← hS0]
      refine k437 _ ?_
      show Steps p.tables e below (T430.setTop (mkF m 71 #[vI ch, vI (ch ||| (32 : Int32)), vI lt, vI 0] [(.int (95 : Int32))])) _
      exact retN X430 hx (t := .char) Bd.returns (by simp) (hb hby d52_71) hr
    · show Q_rmNM Z ch h0 n0 _ T430.heap _
      rw [e430]
      exact ⟨by rw [cr]; rfl, N0, rfl⟩
def Q_rmAI (Z : State) (sb : Addr) (h0 : Heap) (n0 : Nat) (v : Option Value) (h : Heap) (L : List Loc) : Prop := v = none ∧ Fr n0 L ∧ Keep h0 h [sb] ∧ ∃ tb kb, h0.size ≤ tb ∧ sb ≠ tb ∧ Fld Z h sb "java/lang/AbstractStringBuilder" "coder" "B" (.int (0 : Int32)) ∧ Fld Z h sb "java/lang/AbstractStringBuilder" "value" "[B" (.ref tb) ∧ Fld Z h sb "java/lang/AbstractStringBuilder" "count" "I" (.int (Int32.ofNat ([] : List Int32).length)) ∧ Fld Z h sb "java/lang/AbstractStringBuilder" "maybeLatin1" "Z" (.int (0 : Int32)) ∧ Arv Z h tb kb .byte (Int32.ofNat 16) (([] : List Int32).map Value.int) (.int (0 : Int32))
abbrev y_40 : MethodName := ⟨"java/lang/AbstractStringBuilder", "<init>", "(I)V"⟩
theorem ef_10 (m : MethodId) (x0 : Addr) (x1 : Int32) : entryFrame m #[(.ref x0), (.int x1)] 2 = mkF m 0 #[.val (.ref x0), .val (.int x1)] [] := by first | (simp [entryFrame, mkF, argsToLocals, Value.category]; done) | rfl
theorem d10_0 : decode jdk_68_method_2_code 0 = .ok (.aload_n 0, 1) := by decide +kernel
theorem d10_1 : decode jdk_68_method_2_code 1 = .ok (.invokespecial 3, 3) := by decide +kernel
theorem d10_4 : decode jdk_68_method_2_code 4 = .ok (.getstatic 18, 3) := by decide +kernel
theorem d10_7 : decode jdk_68_method_2_code 7 = .ok (.ifCond .eq 18, 3) := by decide +kernel
theorem d10_10 : decode jdk_68_method_2_code 10 = .ok (.aload_n 0, 1) := by decide +kernel
theorem d10_11 : decode jdk_68_method_2_code 11 = .ok (.iload_n 1, 1) := by decide +kernel
theorem d10_12 : decode jdk_68_method_2_code 12 = .ok (.newarray .byte, 2) := by decide +kernel
theorem d10_14 : decode jdk_68_method_2_code 14 = .ok (.putfield 15, 3) := by decide +kernel
theorem d10_17 : decode jdk_68_method_2_code 17 = .ok (.aload_n 0, 1) := by decide +kernel
theorem d10_18 : decode jdk_68_method_2_code 18 = .ok (.iconst 0, 1) := by decide +kernel
theorem d10_19 : decode jdk_68_method_2_code 19 = .ok (.putfield 22, 3) := by decide +kernel
theorem d10_22 : decode jdk_68_method_2_code 22 = .ok (.goto 16, 3) := by decide +kernel
theorem d10_38 : decode jdk_68_method_2_code 38 = .ok (.return_, 1) := by decide +kernel
theorem rmAI (l : Launch) (Z : State) (a0 : Array Value) (hw : HW Z a0) (ws : List Jvm.Cond) (sb : Addr) (zC : Int32) (h0 : Heap) (n0 : Nat) (O0 : Old Z n0 h0) (SC : Sta Z Z.heap "java/lang/String" "COMPACT_STRINGS" "Z" (.int zC)) (hzC : ¬ zC = 0) (ge_sb : n0 ≤ sb) (E_sb : Exa Z h0 sb "java/lang/StringBuilder") (Fc : Fld Z h0 sb "java/lang/AbstractStringBuilder" "coder" "B" (.int (0 : Int32))) (Fv : Fld Z h0 sb "java/lang/AbstractStringBuilder" "value" "[B" .null) (Fn : Fld Z h0 sb "java/lang/AbstractStringBuilder" "count" "I" (.int (0 : Int32))) (Fm : Fld Z h0 sb "java/lang/AbstractStringBuilder" "maybeLatin1" "Z" (.int (0 : Int32))) :
    MF l Z y_40 jdk_68_method_2_code 2 none ws ({ frames := 1, cells := 1, slots := 16, locals := 30 } : Room) #[(.ref sb), (.int (16 : Int32))] h0 (Q_rmAI Z sb h0 n0) := by
  refine MetFree.of_bodySF (plainFor_of_name pn_AbstractStringBuilder) hisR ?_
  intro p e s m args below meth c s₁ Bd hml0 hP hK
  obtain ⟨rfl, hZ, hh⟩ := hP
  have hx := Bd.exec
  have hby := Bd.bytes
  have hml : c.maxLocals = 2 := hml0
  have hown : s.vm.findClass "java/lang/AbstractStringBuilder" = some m.cls := findClass_of_methodNamed Bd.named
  have hnm := (name_of_methodNamed Bd.named Bd.method).1
  have X0 : Stand p l e ({ frames := 1, cells := 1, slots := 16, locals := 30 } : Room) s m #[(.ref sb), (.int (16 : Int32))] below meth c s₁ [] 0 0 := Stand.of_body Bd
  have e0 : s₁.heap = h0 := by rw [← hh, Bd.state]; rfl
  have N0 := Fr.nil n0
  obtain ⟨S0, hS0⟩ : ∃ z, z = s₁.setTop (entryFrame m #[(.ref sb), (.int (16 : Int32))] 2) := ⟨_, rfl⟩
  have k0 : Rch p e below S0 s₁ (mkF m 0 #[vR sb, vI 16] []) := fun t kq => hS0 ▸ castTop (ef_10 m sb (16 : Int32)) kq
  have K0 : Keep h0 h0 [sb] := Keep.refl h0 _
  have k439 : Rch p e below S0 s₁ (mkF m 1 #[vR sb, vI 16] [(.ref sb)]) := fun t h => k0 t (by
      refine XS.aloadN X0.here hx rfl (hb hby d10_0) rfl rfl ?_
      exact h)
  obtain ⟨T438, X438, e438, st438⟩ := initO X0 hx hZ hown (hw _ (gm 54 rfl)) (hw _ (gm 17 rfl)) (hw _ (gm 18 rfl)) e0 (g := (mkF m 1 #[vR sb, vI 16] [(.ref sb)])) rfl (by rw [hml]; rfl) rfl (hb hby d10_1) (by decide) (W := 0) (by show 2 * 0 + _ ≤ _; exact Nat.le_of_eq rfl) (by decide)
  have k440 : Rch p e below S0 T438 (mkF m 4 #[vR sb, vI 16] []) := fun t h => k439 t (st438 t h)
  obtain ⟨T441, X441, e441, st441⟩ := getS2 X438 hx hZ hown (host := "") (Or.inl (hw _ (gm 55 rfl))) Via.refl e438 (SC.ext O0.2) (g := (mkF m 4 #[vR sb, vI 16] [])) rfl (hb hby d10_4)
  have k442 : Rch p e below S0 T441 (mkF m 7 #[vR sb, vI 16] [(.int zC)]) := fun t h => k440 t (st441 t h)
  have k444 : Rch p e below S0 T441 (mkF m 12 #[vR sb, vI 16] [(.int (16 : Int32)), (.ref sb)]) := fun t h => k442 t (by
      refine XS.ifNo X441.here hx rfl (hb hby d10_7) rfl ((if0 _ _).trans (feq (hzC : ¬ (zC = (0 : Int32)))).1) ?_
      refine XS.aloadN X441.here hx rfl (hb hby d10_10) rfl rfl ?_
      refine XS.iloadN X441.here hx rfl (hb hby d10_11) rfl ?_
      exact h)
  obtain ⟨T443, h443, k443, X443, e443, E443, A443, st443⟩ := newP X441 hx hZ (hw _ (gm 20 rfl)) e441 (g := (mkF m 12 #[vR sb, vI 16] [(.int (16 : Int32)), (.ref sb)])) rfl (hb hby d10_12) rfl (by decide) (cap := 16) (by decide) (by decide) (by decide) (by decide)
  obtain ⟨b443, g443⟩ : ∃ z, z = h0.size := ⟨_, rfl⟩
  rw [← g443] at A443 st443
  have k445 : Rch p e below S0 T443 (mkF m 14 #[vR sb, vI 16] [(.ref b443), (.ref sb)]) := fun t h => k444 t (st443 t h)
  have ne_sb_b443 : sb ≠ b443 := own_ne E_sb.lt (Nat.le_of_eq g443.symm)
  have ge_b443 : n0 ≤ b443 := own_ge O0 (Nat.le_of_eq g443.symm)
  have sz_b443 : h0.size ≤ b443 := Nat.le_trans K0.1 (Nat.le_of_eq g443.symm)
  have O446 := O0.ext E443
  have K447 := K0.ext E443
  replace E_sb := E_sb.ext E443
  replace Fc := Fc.ext E443
  replace Fv := Fv.ext E443
  replace Fn := Fn.ext E443
  replace Fm := Fm.ext E443
  have V_b443 : Arv Z h443 b443 k443 .byte (16 : Int32) [] (.int (0 : Int32)) := Arv.new A443 (by decide)
  obtain ⟨T448, h448, X448, e448, W448, st448⟩ := putF X443 hx hZ hown (host := "") (Or.inl (hw _ (gm 56 rfl))) Via.refl e443 Fv E_sb (Or.inl (hw _ (gm 57 rfl))) (hw _ (gm 43 rfl)) (ty := (.array .byte)) (by decide) rfl rfl (g := (mkF m 14 #[vR sb, vI 16] [(.ref b443), (.ref sb)])) rfl rfl (hb hby d10_14)
  have k449 : Rch p e below S0 T448 (mkF m 17 #[vR sb, vI 16] []) := fun t h => k445 t (st448 t h)
  have N448 := Fr.snoc X448 N0 ge_sb
  replace Fv := Fv.same W448
  have O450 := O446.wr W448 ge_sb
  have K451 := K447.wr W448 (Or.inl (gm 0 rfl))
  replace E_sb := E_sb.wr W448
  replace Fc := Fc.other W448 (Or.inr (slot_ne (Or.inl (hw _ (gm 59 rfl))) (Or.inl (hw _ (gm 57 rfl))) (by decide) (t := .byte) (t' := (.array .byte)) (by decide) (by decide)))
  replace Fn := Fn.other W448 (Or.inr (slot_ne (Or.inl (hw _ (gm 81 rfl))) (Or.inl (hw _ (gm 57 rfl))) (by decide) (t := .int) (t' := (.array .byte)) (by decide) (by decide)))
  replace Fm := Fm.other W448 (Or.inr (slot_ne (Or.inl (hw _ (gm 233 rfl))) (Or.inl (hw _ (gm 57 rfl))) (by decide) (t := .boolean) (t' := (.array .byte)) (by decide) (by decide)))
  replace V_b443 := V_b443.other W448 (Ne.symm ne_sb_b443)
  have k453 : Rch p e below S0 T448 (mkF m 19 #[vR sb, vI 16] [(.int (0 : Int32)), (.ref sb)]) := fun t h => k449 t (by
      refine XS.aloadN X448.here hx rfl (hb hby d10_17) rfl rfl ?_
      refine XS.iconst X448.here hx rfl (hb hby d10_18) ?_
      exact h)
  obtain ⟨T452, h452, X452, e452, W452, st452⟩ := putFN X448 hx hZ hown (hw _ (gm 58 rfl)) Via.refl e448 Fc E_sb (Or.inl (hw _ (gm 59 rfl))) (hw _ (gm 43 rfl)) (ty := .byte) (v' := (.int (0 : Int32))) (by decide) (by decide) (by decide) (g := (mkF m 19 #[vR sb, vI 16] [(.int (0 : Int32)), (.ref sb)])) rfl rfl (hb hby d10_19)
  have k454 : Rch p e below S0 T452 (mkF m 22 #[vR sb, vI 16] []) := fun t h => k453 t (st452 t h)
  have N452 := Fr.snoc X452 N448 ge_sb
  replace Fc := Fc.same W452
  have O455 := O450.wr W452 ge_sb
  have K456 := K451.wr W452 (Or.inl (gm 0 rfl))
  replace E_sb := E_sb.wr W452
  replace Fn := Fn.other W452 (Or.inr (slot_ne (Or.inl (hw _ (gm 81 rfl))) (Or.inl (hw _ (gm 59 rfl))) (by decide) (t := .int) (t' := .byte) (by decide) (by decide)))
  replace Fm := Fm.other W452 (Or.inr (slot_ne (Or.inl (hw _ (gm 233 rfl))) (Or.inl (hw _ (gm 59 rfl))) (by decide) (t := .boolean) (t' := .byte) (by decide) (by decide)))
  replace Fv := Fv.other W452 (Or.inr (slot_ne (Or.inl (hw _ (gm 57 rfl))) (Or.inl (hw _ (gm 59 rfl))) (by decide) (t := (.array .byte)) (t' := .byte) (by decide) (by decide)))
  replace V_b443 := V_b443.other W452 (Ne.symm ne_sb_b443)
  have k457 : Rch p e below S0 T452 (mkF m 38 #[vR sb, vI 16] []) := fun t h => k454 t (by
      refine XS.goto X452.here hx rfl (pc0 := 22) (pc' := 38) rfl (hb hby d10_22) (by decide) (by decide) ?_
      exact h)
  obtain ⟨fs, hr, hrun, hended, hW, hsame⟩ := X452.leave (v := none) (fun _ => rfl)
  refine ⟨_, _, ?_, hrun, hended, _, _, rfl, ?_, ⟨_, rfl⟩, hW, hsame.mono (by decide) (by decide)⟩
  · rw [← hS0]
    refine k457 _ ?_
    show Steps p.tables e below (T452.setTop (mkF m 38 #[vR sb, vI 16] [])) _
    exact X452.returnOut hx Bd.returns (hb hby d10_38) hr
  · show Q_rmAI Z sb h0 n0 _ T452.heap _
    rw [e452]
    exact ⟨rfl, N452, K456, _, _, sz_b443, ne_sb_b443, Fc, Fv, Fn, Fm, V_b443⟩
def Q_rmSI (Z : State) (sb : Addr) (h0 : Heap) (n0 : Nat) (v : Option Value) (h : Heap) (L : List Loc) : Prop := v = none ∧ Fr n0 L ∧ Keep h0 h [sb] ∧ ∃ tb kb, h0.size ≤ tb ∧ sb ≠ tb ∧ Fld Z h sb "java/lang/AbstractStringBuilder" "coder" "B" (.int (0 : Int32)) ∧ Fld Z h sb "java/lang/AbstractStringBuilder" "value" "[B" (.ref tb) ∧ Fld Z h sb "java/lang/AbstractStringBuilder" "count" "I" (.int (Int32.ofNat ([] : List Int32).length)) ∧ Fld Z h sb "java/lang/AbstractStringBuilder" "maybeLatin1" "Z" (.int (0 : Int32)) ∧ Arv Z h tb kb .byte (Int32.ofNat 16) (([] : List Int32).map Value.int) (.int (0 : Int32))
abbrev y_41 : MethodName := ⟨"java/lang/StringBuilder", "<init>", "()V"⟩
theorem ef_9 (m : MethodId) (x0 : Addr) : entryFrame m #[(.ref x0)] 1 = mkF m 0 #[.val (.ref x0)] [] := by first | (simp [entryFrame, mkF, argsToLocals, Value.category]; done) | rfl
theorem d9_0 : decode jdk_67_method_1_code 0 = .ok (.aload_n 0, 1) := by decide +kernel
theorem d9_1 : decode jdk_67_method_1_code 1 = .ok (.bipush 16, 2) := by decide +kernel
theorem d9_3 : decode jdk_67_method_1_code 3 = .ok (.invokespecial 1, 3) := by decide +kernel
theorem d9_6 : decode jdk_67_method_1_code 6 = .ok (.return_, 1) := by decide +kernel
theorem rmSI (l : Launch) (Z : State) (a0 : Array Value) (hw : HW Z a0) (ws : List Jvm.Cond) (sb : Addr) (zC : Int32) (h0 : Heap) (n0 : Nat) (O0 : Old Z n0 h0) (SC : Sta Z Z.heap "java/lang/String" "COMPACT_STRINGS" "Z" (.int zC)) (hzC : ¬ zC = 0) (ge_sb : n0 ≤ sb) (E_sb : Exa Z h0 sb "java/lang/StringBuilder") (Fc : Fld Z h0 sb "java/lang/AbstractStringBuilder" "coder" "B" (.int (0 : Int32))) (Fv : Fld Z h0 sb "java/lang/AbstractStringBuilder" "value" "[B" .null) (Fn : Fld Z h0 sb "java/lang/AbstractStringBuilder" "count" "I" (.int (0 : Int32))) (Fm : Fld Z h0 sb "java/lang/AbstractStringBuilder" "maybeLatin1" "Z" (.int (0 : Int32))) :
    MF l Z y_41 jdk_67_method_1_code 1 none ws ({ frames := 2, cells := 1, slots := 16, locals := 46 } : Room) #[(.ref sb)] h0 (Q_rmSI Z sb h0 n0) := by
  refine MetFree.of_bodySF (plainFor_of_name pn_StringBuilder) hisR ?_
  intro p e s m args below meth c s₁ Bd hml0 hP hK
  obtain ⟨rfl, hZ, hh⟩ := hP
  have hx := Bd.exec
  have hby := Bd.bytes
  have hml : c.maxLocals = 1 := hml0
  have hown : s.vm.findClass "java/lang/StringBuilder" = some m.cls := findClass_of_methodNamed Bd.named
  have hnm := (name_of_methodNamed Bd.named Bd.method).1
  have X0 : Stand p l e ({ frames := 2, cells := 1, slots := 16, locals := 46 } : Room) s m #[(.ref sb)] below meth c s₁ [] 0 0 := Stand.of_body Bd
  have e0 : s₁.heap = h0 := by rw [← hh, Bd.state]; rfl
  have N0 := Fr.nil n0
  obtain ⟨S0, hS0⟩ : ∃ z, z = s₁.setTop (entryFrame m #[(.ref sb)] 1) := ⟨_, rfl⟩
  have k0 : Rch p e below S0 s₁ (mkF m 0 #[vR sb] []) := fun t kq => hS0 ▸ castTop (ef_9 m sb) kq
  have K0 : Keep h0 h0 [sb] := Keep.refl h0 _
  have k458 : Rch p e below S0 s₁ (mkF m 3 #[vR sb] [(.int (16 : Int32)), (.ref sb)]) := fun t h => k0 t (by
      refine XS.aloadN X0.here hx rfl (hb hby d9_0) rfl rfl ?_
      refine XS.bipush X0.here hx rfl (hb hby d9_1) ?_
      exact h)
  obtain ⟨_, _, ⟨T459, L459, kk459, n459⟩, -, X459, ⟨Lc459, hQ459, l459, y459, z459⟩, st459⟩ := X0.specialBack hx (y := y_40) rfl hown (mvT hZ (hw _ (gm 48 rfl))) (mvT hZ (hw _ (gm 49 rfl))) (mvT hZ (hw _ (gm 53 rfl))) (by decide) (backOf (W := 0) (rmAI l Z a0 hw [] sb zC h0 n0 O0 SC hzC ge_sb E_sb Fc Fv Fn Fm) hZ (hw _ (gm 53 rfl)) (hw _ (gm 52 rfl)) (by decide) (by decide)) (g := (mkF m 3 #[vR sb] [(.int (16 : Int32)), (.ref sb)])) rfl (by rw [hml]; rfl) (Steps.refl _) (a := sb) (argsL := [(.int (16 : Int32))]) (rest := []) (lenOf pd_8 rfl) rfl (by show 2 * 0 + _ ≤ _; exact Nat.le_of_eq rfl) (hb hby d9_3) (fun _ _ => ⟨rfl, e0, (by decide : 0 + 1 ≤ _), (by decide : 0 + 16 ≤ _)⟩)
  dsimp only [Pt.U, Pt.locs, Pt.cells, Pt.slots] at X459 l459 y459 z459 st459 hQ459
  subst l459 y459 z459
  obtain ⟨rfl, Nq459, K459, tb459, kb459, z459, ne459, Fc459, Fv459, Fn459, Fm459, V459⟩ := hQ459
  have N459 := Fr.app N0 Nq459
  have k460 : Rch p e below S0 T459 (mkF m 6 #[vR sb] []) := fun t h => k458 t (st459.trans h)
  have O461 := O0.keep K459 (allS ge_sb all0)
  have K462 := K0.trans K459 (allS (Or.inl (gm 0 rfl)) all0)
  replace E_sb := E_sb.keep K459
  obtain ⟨fs, hr, hrun, hended, hW, hsame⟩ := X459.leave (v := none) (fun _ => rfl)
  refine ⟨_, _, ?_, hrun, hended, _, _, rfl, ?_, ⟨_, rfl⟩, hW, hsame.mono (by decide) (by decide)⟩
  · rw [← hS0]
    refine k460 _ ?_
    show Steps p.tables e below (T459.setTop (mkF m 6 #[vR sb] [])) _
    exact X459.returnOut hx Bd.returns (hb hby d9_6) hr
  · show Q_rmSI Z sb h0 n0 _ T459.heap _
    exact ⟨rfl, N459, K462, _, _, z459, ne459, Fc459, Fv459, Fn459, Fm459, V459⟩
def Q_rmCE (Z : State)  (h0 : Heap) (n0 : Nat) (v : Option Value) (h : Heap) (L : List Loc) : Prop := v = some (.int (1 : Int32)) ∧ Fr n0 L ∧ h = h0
abbrev y_42 : MethodName := ⟨"java/lang/StringLatin1", "canEncode", "(C)Z"⟩
theorem ef_17 (m : MethodId) (x0 : Int32) : entryFrame m #[(.int x0)] 1 = mkF m 0 #[.val (.int x0)] [] := by first | (simp [entryFrame, mkF, argsToLocals, Value.category]; done) | rfl
theorem d17_0 : decode jdk_43_method_3_code 0 = .ok (.iload_n 0, 1) := by decide +kernel
theorem d17_1 : decode jdk_43_method_3_code 1 = .ok (.sipush 255, 3) := by decide +kernel
theorem d17_4 : decode jdk_43_method_3_code 4 = .ok (.if_icmp .gt 7, 3) := by decide +kernel
theorem d17_7 : decode jdk_43_method_3_code 7 = .ok (.iconst 1, 1) := by decide +kernel
theorem d17_8 : decode jdk_43_method_3_code 8 = .ok (.goto 4, 3) := by decide +kernel
theorem d17_12 : decode jdk_43_method_3_code 12 = .ok (.ireturn, 1) := by decide +kernel
theorem rmCE (l : Launch) (Z : State) (a0 : Array Value) (hw : HW Z a0) (ws : List Jvm.Cond) (p1 : Int32) (h0 : Heap) (n0 : Nat) (O0 : Old Z n0 h0) (hq : ¬ ((255 : Int32) < p1)) :
    MF l Z y_42 jdk_43_method_3_code 1 (some .boolean) ws ({ frames := 0, cells := 0, slots := 0, locals := 0 } : Room) #[(.int p1)] h0 (Q_rmCE Z  h0 n0) := by
  refine MetFree.of_bodySF (plainFor_of_name pn_StringLatin1) hisR ?_
  intro p e s m args below meth c s₁ Bd hml0 hP hK
  obtain ⟨rfl, hZ, hh⟩ := hP
  have hx := Bd.exec
  have hby := Bd.bytes
  have hml : c.maxLocals = 1 := hml0
  have hown : s.vm.findClass "java/lang/StringLatin1" = some m.cls := findClass_of_methodNamed Bd.named
  have hnm := (name_of_methodNamed Bd.named Bd.method).1
  have X0 : Stand p l e ({ frames := 0, cells := 0, slots := 0, locals := 0 } : Room) s m #[(.int p1)] below meth c s₁ [] 0 0 := Stand.of_body Bd
  have e0 : s₁.heap = h0 := by rw [← hh, Bd.state]; rfl
  have N0 := Fr.nil n0
  obtain ⟨S0, hS0⟩ : ∃ z, z = s₁.setTop (entryFrame m #[(.int p1)] 1) := ⟨_, rfl⟩
  have k0 : Rch p e below S0 s₁ (mkF m 0 #[vI p1] []) := fun t kq => hS0 ▸ castTop (ef_17 m p1) kq
  have k463 : Rch p e below S0 s₁ (mkF m 12 #[vI p1] [(.int (1 : Int32))]) := fun t h => k0 t (by
      refine XS.iloadN X0.here hx rfl (hb hby d17_0) rfl ?_
      refine XS.sipush X0.here hx rfl (hb hby d17_1) ?_
      refine XS.icmpNo X0.here hx rfl (hb hby d17_4) rfl (flt (hq : ¬ ((255 : Int32) < p1))).2.2.1 ?_
      refine XS.iconst X0.here hx rfl (hb hby d17_7) ?_
      refine XS.goto X0.here hx rfl (pc0 := 8) (pc' := 12) rfl (hb hby d17_8) (by decide) (by decide) ?_
      exact h)
  obtain ⟨fs, hr, hrun, hended, hW, hsame⟩ := X0.leave (v := (some (.int (1 : Int32)))) (fun h => by rw [Bd.returns] at h; cases h)
  refine ⟨_, _, ?_, hrun, hended, _, _, rfl, ?_, ⟨_, rfl⟩, hW, hsame.mono (by decide) (by decide)⟩
  · rw [← hS0]
    refine k463 _ ?_
    show Steps p.tables e below (s₁.setTop (mkF m 12 #[vI p1] [(.int (1 : Int32))])) _
    exact retN X0 hx (t := .boolean) Bd.returns (by simp) (hb hby d17_12) hr
  · show Q_rmCE Z  h0 n0 _ s₁.heap _
    rw [e0]
    exact ⟨rfl, N0, rfl⟩
def Q_rmAC (Z : State) (sb : Addr) (ch : Int32) (tb : Addr) (kb : ClassId) (bs : List Int32) (h0 : Heap) (n0 : Nat) (v : Option Value) (h : Heap) (L : List Loc) : Prop := v = some (.ref sb) ∧ Fr n0 L ∧ Keep h0 h [sb, tb] ∧ Fld Z h sb "java/lang/AbstractStringBuilder" "coder" "B" (.int (0 : Int32)) ∧ Fld Z h sb "java/lang/AbstractStringBuilder" "value" "[B" (.ref tb) ∧ Fld Z h sb "java/lang/AbstractStringBuilder" "count" "I" (.int (Int32.ofNat (bs ++ [ch]).length)) ∧ Fld Z h sb "java/lang/AbstractStringBuilder" "maybeLatin1" "Z" (.int (0 : Int32)) ∧ Arv Z h tb kb .byte (Int32.ofNat 16) ((bs ++ [ch]).map Value.int) (.int (0 : Int32))
abbrev y_43 : MethodName := ⟨"java/lang/AbstractStringBuilder", "append", "(C)Ljava/lang/AbstractStringBuilder;"⟩
theorem ef_14 (m : MethodId) (x0 : Addr) (x1 : Int32) : entryFrame m #[(.ref x0), (.int x1)] 2 = mkF m 0 #[.val (.ref x0), .val (.int x1)] [] := by first | (simp [entryFrame, mkF, argsToLocals, Value.category]; done) | rfl
theorem d14_0 : decode jdk_68_method_31_code 0 = .ok (.aload_n 0, 1) := by decide +kernel
theorem d14_1 : decode jdk_68_method_31_code 1 = .ok (.aload_n 0, 1) := by decide +kernel
theorem d14_2 : decode jdk_68_method_31_code 2 = .ok (.getfield 79, 3) := by decide +kernel
theorem d14_5 : decode jdk_68_method_31_code 5 = .ok (.iconst 1, 1) := by decide +kernel
theorem d14_6 : decode jdk_68_method_31_code 6 = .ok (.iadd, 1) := by decide +kernel
theorem d14_7 : decode jdk_68_method_31_code 7 = .ok (.invokevirtual 100, 3) := by decide +kernel
theorem d14_10 : decode jdk_68_method_31_code 10 = .ok (.aload_n 0, 1) := by decide +kernel
theorem d14_11 : decode jdk_68_method_31_code 11 = .ok (.invokevirtual 83, 3) := by decide +kernel
theorem d14_14 : decode jdk_68_method_31_code 14 = .ok (.ifCond .eq 31, 3) := by decide +kernel
theorem d14_17 : decode jdk_68_method_31_code 17 = .ok (.iload_n 1, 1) := by decide +kernel
theorem pd_14 : parseMethodDescriptor "(C)Z" = some ⟨[.char], some .boolean⟩ := by decide +kernel
theorem d14_18 : decode jdk_68_method_31_code 18 = .ok (.invokestatic 191, 3) := by decide +kernel
theorem d14_21 : decode jdk_68_method_31_code 21 = .ok (.ifCond .eq 24, 3) := by decide +kernel
theorem d14_24 : decode jdk_68_method_31_code 24 = .ok (.aload_n 0, 1) := by decide +kernel
theorem d14_25 : decode jdk_68_method_31_code 25 = .ok (.getfield 15, 3) := by decide +kernel
theorem d14_28 : decode jdk_68_method_31_code 28 = .ok (.aload_n 0, 1) := by decide +kernel
theorem d14_29 : decode jdk_68_method_31_code 29 = .ok (.dup, 1) := by decide +kernel
theorem d14_30 : decode jdk_68_method_31_code 30 = .ok (.getfield 79, 3) := by decide +kernel
theorem d14_33 : decode jdk_68_method_31_code 33 = .ok (.dup_x1, 1) := by decide +kernel
theorem d14_34 : decode jdk_68_method_31_code 34 = .ok (.iconst 1, 1) := by decide +kernel
theorem d14_35 : decode jdk_68_method_31_code 35 = .ok (.iadd, 1) := by decide +kernel
theorem d14_36 : decode jdk_68_method_31_code 36 = .ok (.putfield 79, 3) := by decide +kernel
theorem d14_39 : decode jdk_68_method_31_code 39 = .ok (.iload_n 1, 1) := by decide +kernel
theorem d14_40 : decode jdk_68_method_31_code 40 = .ok (.i2b, 1) := by decide +kernel
theorem d14_41 : decode jdk_68_method_31_code 41 = .ok (.bastore, 1) := by decide +kernel
theorem d14_42 : decode jdk_68_method_31_code 42 = .ok (.goto 33, 3) := by decide +kernel
theorem d14_75 : decode jdk_68_method_31_code 75 = .ok (.aload_n 0, 1) := by decide +kernel
theorem d14_76 : decode jdk_68_method_31_code 76 = .ok (.areturn, 1) := by decide +kernel
theorem rmAC (l : Launch) (Z : State) (a0 : Array Value) (hw : HW Z a0) (ws : List Jvm.Cond) (sb : Addr) (ch : Int32) (tb : Addr) (kb : ClassId) (bs : List Int32) (zC : Int32) (h0 : Heap) (n0 : Nat) (O0 : Old Z n0 h0) (SC : Sta Z Z.heap "java/lang/String" "COMPACT_STRINGS" "Z" (.int zC)) (hzC : ¬ zC = 0) (ge_sb : n0 ≤ sb) (ge_tb : n0 ≤ tb) (ne_sb_tb : sb ≠ tb) (E_sb : Exa Z h0 sb "java/lang/StringBuilder") (Fc : Fld Z h0 sb "java/lang/AbstractStringBuilder" "coder" "B" (.int (0 : Int32))) (Fv : Fld Z h0 sb "java/lang/AbstractStringBuilder" "value" "[B" (.ref tb)) (Fn : Fld Z h0 sb "java/lang/AbstractStringBuilder" "count" "I" (.int (Int32.ofNat bs.length))) (Fm : Fld Z h0 sb "java/lang/AbstractStringBuilder" "maybeLatin1" "Z" (.int (0 : Int32))) (Vb : Arv Z h0 tb kb .byte (Int32.ofNat 16) (bs.map Value.int) (.int (0 : Int32))) (hch : ¬ ch < 0 ∧ ¬ (127 : Int32) < ch) (hb16 : bs.length < 16) :
    MF l Z y_43 jdk_68_method_31_code 2 (some (.object "java/lang/AbstractStringBuilder")) ws ({ frames := 1, cells := 0, slots := 0, locals := 24 } : Room) #[(.ref sb), (.int ch)] h0 (Q_rmAC Z sb ch tb kb bs h0 n0) := by
  refine MetFree.of_bodySF (plainFor_of_name pn_AbstractStringBuilder) hisR ?_
  intro p e s m args below meth c s₁ Bd hml0 hP hK
  obtain ⟨rfl, hZ, hh⟩ := hP
  have hx := Bd.exec
  have hby := Bd.bytes
  have hml : c.maxLocals = 2 := hml0
  have hown : s.vm.findClass "java/lang/AbstractStringBuilder" = some m.cls := findClass_of_methodNamed Bd.named
  have hnm := (name_of_methodNamed Bd.named Bd.method).1
  have X0 : Stand p l e ({ frames := 1, cells := 0, slots := 0, locals := 24 } : Room) s m #[(.ref sb), (.int ch)] below meth c s₁ [] 0 0 := Stand.of_body Bd
  have e0 : s₁.heap = h0 := by rw [← hh, Bd.state]; rfl
  have N0 := Fr.nil n0
  obtain ⟨S0, hS0⟩ : ∃ z, z = s₁.setTop (entryFrame m #[(.ref sb), (.int ch)] 2) := ⟨_, rfl⟩
  have k0 : Rch p e below S0 s₁ (mkF m 0 #[vR sb, vI ch] []) := fun t kq => hS0 ▸ castTop (ef_14 m sb ch) kq
  have K0 : Keep h0 h0 [sb, tb] := Keep.refl h0 _
  have hinc : Int32.ofNat bs.length + (1 : Int32) = Int32.ofNat (bs ++ [ch]).length := by
    rw [List.length_append]
    exact own_inc (by omega)
  have k465 : Rch p e below S0 s₁ (mkF m 2 #[vR sb, vI ch] [(.ref sb), (.ref sb)]) := fun t h => k0 t (by
      refine XS.aloadN X0.here hx rfl (hb hby d14_0) rfl rfl ?_
      refine XS.aloadN X0.here hx rfl (hb hby d14_1) rfl rfl ?_
      exact h)
  obtain ⟨T464, X464, e464, st464⟩ := getF X0 hx hZ hown (host := "") (Or.inl (hw _ (gm 80 rfl))) Via.refl e0 Fn (g := (mkF m 2 #[vR sb, vI ch] [(.ref sb), (.ref sb)])) rfl rfl (hb hby d14_2)
  have k466 : Rch p e below S0 T464 (mkF m 5 #[vR sb, vI ch] [(.int (Int32.ofNat bs.length)), (.ref sb)]) := fun t h => k465 t (st464 t h)
  have k467 : Rch p e below S0 T464 (mkF m 7 #[vR sb, vI ch] [(.int (Int32.ofNat (bs ++ [ch]).length)), (.ref sb)]) := fun t h => k466 t (by
      refine XS.iconst X464.here hx rfl (hb hby d14_5) ?_
      show Steps p.tables e below (T464.setTop (mkF m 6 #[vR sb, vI ch] [(.int (1 : Int32)), (.int (Int32.ofNat bs.length)), (.ref sb)])) _
      refine XS.iadd X464.here hx rfl (hb hby d14_6) rfl ?_
      rw [hinc]
      exact h)
  obtain ⟨cq468, q468, q468'⟩ := E_sb.cell
  obtain ⟨_, _, ⟨T468, L468, kk468, n468⟩, -, X468, ⟨Lc468, hQ468, l468, y468, z468⟩, st468⟩ := X464.privateBack hx (y := y_15) hown (mvT hZ (hw _ (gm 82 rfl))) (mvT hZ (hw _ (gm 83 rfl))) (mvT hZ (own_selU (hw _ (gm 85 rfl)) (hw _ (gm 83 rfl)) (hw _ (gm 84 rfl)) (by decide))) (Cond.privateMethod_at (mvP hZ (hw _ (gm 84 rfl)) (args := #[]))) (mvT hZ (hw _ (gm 86 rfl))) (by decide) (backOf (W := 0) (rmEC l Z a0 hw [] sb (bs ++ [ch]).length tb kb 16 bs h0 n0 O0 Fc Fv Vb (by rw [List.length_append]; exact hb16) (by decide)) hZ (hw _ (gm 86 rfl)) (hw _ (gm 52 rfl)) (by decide) (by decide)) (g := (mkF m 7 #[vR sb, vI ch] [(.int (Int32.ofNat (bs ++ [ch]).length)), (.ref sb)])) rfl (by rw [hml]; rfl) (Steps.refl _) (a := sb) (by rw [e464]; exact q468) q468' (argsL := [(.int (Int32.ofNat (bs ++ [ch]).length))]) (rest := []) (lenOf pd_8 rfl) rfl (by show 2 * 0 + _ ≤ _; exact Nat.le_of_eq rfl) (hb hby d14_7) (fun _ _ => ⟨rfl, e464, (by decide : 0 + 0 ≤ _), (by decide : 0 + 0 ≤ _)⟩)
  dsimp only [Pt.U, Pt.locs, Pt.cells, Pt.slots] at X468 l468 y468 z468 st468 hQ468
  subst l468 y468 z468
  obtain ⟨rfl, Nq468, hh468⟩ := hQ468
  have N468 := Fr.app N0 Nq468
  have k469 : Rch p e below S0 T468 (mkF m 10 #[vR sb, vI ch] []) := fun t h => k467 t (st468.trans h)
  have k470 : Rch p e below S0 T468 (mkF m 11 #[vR sb, vI ch] [(.ref sb)]) := fun t h => k469 t (by
      refine XS.aloadN X468.here hx rfl (hb hby d14_10) rfl rfl ?_
      exact h)
  obtain ⟨cq471, kq471, q471a, q471b, q471c⟩ := isOf hZ hh468 E_sb
  obtain ⟨_, _, ⟨T471, L471, kk471, n471⟩, -, X471, ⟨Lc471, hQ471, l471, y471, z471⟩, st471⟩ := X468.virtualBack hx (y := y_21) (z := y_21) hown (mvT hZ (hw _ (gm 87 rfl))) (mvT hZ (hw _ (gm 88 rfl))) (notFace_of_selects (args := #[]) (mvT hZ (hw _ (gm 90 rfl)))) (mvT hZ (hw _ (gm 90 rfl))) (mvT hZ (hw _ (gm 89 rfl))) (by decide) (backOf (W := 0) (rmIA l Z a0 hw [] sb zC h0 n0 O0 SC hzC Fc) hZ (hw _ (gm 91 rfl)) (hw _ (gm 52 rfl)) (by decide) (by decide)) q471a q471c (g := (mkF m 11 #[vR sb, vI ch] [(.ref sb)])) rfl (by rw [hml]; rfl) (Steps.refl _) (argsL := []) (rest := []) (lenOf pd_13 rfl) rfl (by show 2 * 0 + _ ≤ _; exact Nat.le_of_eq rfl) (hb hby d14_11) (fun _ _ => ⟨rfl, hh468, (by decide : 0 + 0 ≤ _), (by decide : 0 + 0 ≤ _)⟩)
  dsimp only [Pt.U, Pt.locs, Pt.cells, Pt.slots] at X471 l471 y471 z471 st471 hQ471
  subst l471 y471 z471
  obtain ⟨rfl, Nq471, hh471⟩ := hQ471
  have N471 := Fr.app N468 Nq471
  have k472 : Rch p e below S0 T471 (mkF m 14 #[vR sb, vI ch] [(.int (1 : Int32))]) := fun t h => k470 t (st471.trans h)
  have k473 : Rch p e below S0 T471 (mkF m 18 #[vR sb, vI ch] [(.int ch)]) := fun t h => k472 t (by
      refine XS.ifNo X471.here hx rfl (hb hby d14_14) rfl ((if0 _ _).trans (feq (by decide : ¬ ((1 : Int32) = (0 : Int32)))).1) ?_
      refine XS.iloadN X471.here hx rfl (hb hby d14_17) rfl ?_
      exact h)
  obtain ⟨_, _, ⟨T474, L474, kk474, n474⟩, -, X474, ⟨Lc474, hQ474, l474, y474, z474⟩, st474⟩ := Jvm.LawKit.callS X471 hx (y := y_42) hown (mvT hZ (hw _ (gm 92 rfl))) (mvT hZ (hw _ (gm 93 rfl))) (mvT hZ (hw _ (gm 94 rfl))) (mvT hZ (hw _ (gm 95 rfl))) (by decide) (backOf (W := 0) (rmCE l Z a0 hw [] ch  h0 n0 O0 (own_7f8 ch hch).2) hZ (hw _ (gm 95 rfl)) (hw _ (gm 94 rfl)) (by decide) (by decide)) (g := (mkF m 18 #[vR sb, vI ch] [(.int ch)])) rfl (by rw [hml]; rfl) (argsL := [(.int ch)]) (rest := []) (lenOf pd_14 rfl) rfl (by show 2 * 0 + _ ≤ _; exact Nat.le_of_eq rfl) (hb hby d14_18) (fun _ _ => ⟨rfl, hh471, (by decide : 0 + 0 ≤ _), (by decide : 0 + 0 ≤ _)⟩)
  dsimp only [Pt.U, Pt.locs, Pt.cells, Pt.slots] at X474 l474 y474 z474 st474 hQ474
  subst l474 y474 z474
  obtain ⟨rfl, Nq474, hh474⟩ := hQ474
  have N474 := Fr.app N471 Nq474
  have k475 : Rch p e below S0 T474 (mkF m 21 #[vR sb, vI ch] [(.int (1 : Int32))]) := fun t h => k473 t (st474 t h)
  have k477 : Rch p e below S0 T474 (mkF m 25 #[vR sb, vI ch] [(.ref sb)]) := fun t h => k475 t (by
      refine XS.ifNo X474.here hx rfl (hb hby d14_21) rfl ((if0 _ _).trans (feq (by decide : ¬ ((1 : Int32) = (0 : Int32)))).1) ?_
      refine XS.aloadN X474.here hx rfl (hb hby d14_24) rfl rfl ?_
      exact h)
  obtain ⟨T476, X476, e476, st476⟩ := getF X474 hx hZ hown (host := "") (Or.inl (hw _ (gm 56 rfl))) Via.refl hh474 Fv (g := (mkF m 25 #[vR sb, vI ch] [(.ref sb)])) rfl rfl (hb hby d14_25)
  have k478 : Rch p e below S0 T476 (mkF m 28 #[vR sb, vI ch] [(.ref tb)]) := fun t h => k477 t (st476 t h)
  have k480 : Rch p e below S0 T476 (mkF m 30 #[vR sb, vI ch] [(.ref sb), (.ref sb), (.ref tb)]) := fun t h => k478 t (by
      refine XS.aloadN X476.here hx rfl (hb hby d14_28) rfl rfl ?_
      refine XS.dup X476.here hx rfl (hb hby d14_29) rfl rfl ?_
      exact h)
  obtain ⟨T479, X479, e479, st479⟩ := getF X476 hx hZ hown (host := "") (Or.inl (hw _ (gm 80 rfl))) Via.refl e476 Fn (g := (mkF m 30 #[vR sb, vI ch] [(.ref sb), (.ref sb), (.ref tb)])) rfl rfl (hb hby d14_30)
  have k481 : Rch p e below S0 T479 (mkF m 33 #[vR sb, vI ch] [(.int (Int32.ofNat bs.length)), (.ref sb), (.ref tb)]) := fun t h => k480 t (st479 t h)
  have k483 : Rch p e below S0 T479 (mkF m 36 #[vR sb, vI ch] [(.int (Int32.ofNat (bs ++ [ch]).length)), (.ref sb), (.int (Int32.ofNat bs.length)), (.ref tb)]) := fun t h => k481 t (by
      refine XS.dupX1 X479.here hx rfl (hb hby d14_33) rfl rfl rfl ?_
      refine XS.iconst X479.here hx rfl (hb hby d14_34) ?_
      show Steps p.tables e below (T479.setTop (mkF m 35 #[vR sb, vI ch] [(.int (1 : Int32)), (.int (Int32.ofNat bs.length)), (.ref sb), (.int (Int32.ofNat bs.length)), (.ref tb)])) _
      refine XS.iadd X479.here hx rfl (hb hby d14_35) rfl ?_
      rw [hinc]
      exact h)
  obtain ⟨T482, h482, X482, e482, W482, st482⟩ := putF X479 hx hZ hown (host := "") (Or.inl (hw _ (gm 80 rfl))) Via.refl e479 Fn E_sb (Or.inl (hw _ (gm 81 rfl))) (hw _ (gm 43 rfl)) (ty := .int) (by decide) rfl rfl (g := (mkF m 36 #[vR sb, vI ch] [(.int (Int32.ofNat (bs ++ [ch]).length)), (.ref sb), (.int (Int32.ofNat bs.length)), (.ref tb)])) rfl rfl (hb hby d14_36)
  have k484 : Rch p e below S0 T482 (mkF m 39 #[vR sb, vI ch] [(.int (Int32.ofNat bs.length)), (.ref tb)]) := fun t h => k483 t (st482 t h)
  have N482 := Fr.snoc X482 N474 ge_sb
  replace Fn := Fn.same W482
  have O485 := O0.wr W482 ge_sb
  have K486 := K0.wr W482 (Or.inl (gm 0 rfl))
  replace E_sb := E_sb.wr W482
  replace Fc := Fc.other W482 (Or.inr (slot_ne (Or.inl (hw _ (gm 59 rfl))) (Or.inl (hw _ (gm 81 rfl))) (by decide) (t := .byte) (t' := .int) (by decide) (by decide)))
  replace Fv := Fv.other W482 (Or.inr (slot_ne (Or.inl (hw _ (gm 57 rfl))) (Or.inl (hw _ (gm 81 rfl))) (by decide) (t := (.array .byte)) (t' := .int) (by decide) (by decide)))
  replace Fm := Fm.other W482 (Or.inr (slot_ne (Or.inl (hw _ (gm 233 rfl))) (Or.inl (hw _ (gm 81 rfl))) (by decide) (t := .boolean) (t' := .int) (by decide) (by decide)))
  replace Vb := Vb.other W482 (Ne.symm ne_sb_tb)
  replace Vb := Vb.pad (pad_rep (bs.map Value.int) (.int (0 : Int32)) 16)
  have k488 : Rch p e below S0 T482 (mkF m 41 #[vR sb, vI ch] [(.int (ch.toInt8.toInt32)), (.int (Int32.ofNat bs.length)), (.ref tb)]) := fun t h => k484 t (by
      refine XS.iloadN X482.here hx rfl (hb hby d14_39) rfl ?_
      refine XS.i2b X482.here hx rfl (hb hby d14_40) rfl ?_
      exact h)
  obtain ⟨cl487, Ar487, q487, Sz487, Ng487, Hs487, G487⟩ := id Vb
  have hin487 : ¬ ((Int32.ofNat bs.length) < 0 ∨ cl487.slots.size ≤ ((Int32.ofNat bs.length)).toNatClampNeg) := inb_of Sz487 (own_inb (by omega) (by omega))
  obtain ⟨T487, h487, X487, e487, W487, st487⟩ := stB X482 hx hZ e482 Ar487 (j := (Int32.ofNat bs.length)) hin487 (g := (mkF m 41 #[vR sb, vI ch] [(.int (ch.toInt8.toInt32)), (.int (Int32.ofNat bs.length)), (.ref tb)])) rfl rfl (hb hby d14_41)
  have k489 : Rch p e below S0 T487 (mkF m 42 #[vR sb, vI ch] []) := fun t h => k488 t (st487 t h)
  have N487 := Fr.snoc X487 N482 ge_tb
  have Vb' := Arv.set Ar487 q487 Sz487 Ng487 Hs487 G487 (fits_nar_byte _) W487 bs.length (own_tn (by omega)).1 (by rw [List.length_append, List.length_map, List.length_replicate]; omega)
  replace Vb := Vb'
  have O490 := O485.wr W487 ge_tb
  have K491 := K486.wr W487 (Or.inl (gm 1 rfl))
  replace E_sb := E_sb.wr W487
  replace Fc := Fc.other W487 (Or.inl ne_sb_tb)
  replace Fv := Fv.other W487 (Or.inl ne_sb_tb)
  replace Fm := Fm.other W487 (Or.inl ne_sb_tb)
  replace Fn := Fn.other W487 (Or.inl ne_sb_tb)
  rw [show ch.toInt8.toInt32.toInt8.toInt32 = ch from (own_7b ch hch).2.1] at Vb
  replace Vb := own_push bs ch Vb
  have k492 : Rch p e below S0 T487 (mkF m 76 #[vR sb, vI ch] [(.ref sb)]) := fun t h => k489 t (by
      refine XS.goto X487.here hx rfl (pc0 := 42) (pc' := 75) rfl (hb hby d14_42) (by decide) (by decide) ?_
      refine XS.aloadN X487.here hx rfl (hb hby d14_75) rfl rfl ?_
      exact h)
  obtain ⟨fs, hr, hrun, hended, hW, hsame⟩ := X487.leave (v := (some (.ref sb))) (fun h => by rw [Bd.returns] at h; cases h)
  refine ⟨_, _, ?_, hrun, hended, _, _, rfl, ?_, ⟨_, rfl⟩, hW, hsame.mono (by decide) (by decide)⟩
  · rw [← hS0]
    refine k492 _ ?_
    show Steps p.tables e below (T487.setTop (mkF m 76 #[vR sb, vI ch] [(.ref sb)])) _
    jvm_step X487.here [X487.here.top, hx, (hb hby d14_76), X487.method', Bd.returns, Value.isRef, FieldType.isReference]
    first | (intro acts; rw [hr _ acts rfl rfl rfl]) | rw [hr _ _ rfl rfl rfl]
    exact Steps.refl _
  · show Q_rmAC Z sb ch tb kb bs h0 n0 _ T487.heap _
    rw [e487]
    exact ⟨rfl, N487, K491, Fc, Fv, Fn, Fm, Vb⟩
def Q_rmBC (Z : State) (sb : Addr) (ch : Int32) (tb : Addr) (kb : ClassId) (bs : List Int32) (h0 : Heap) (n0 : Nat) (v : Option Value) (h : Heap) (L : List Loc) : Prop := v = some (.ref sb) ∧ Fr n0 L ∧ Keep h0 h [sb, tb] ∧ Fld Z h sb "java/lang/AbstractStringBuilder" "coder" "B" (.int (0 : Int32)) ∧ Fld Z h sb "java/lang/AbstractStringBuilder" "value" "[B" (.ref tb) ∧ Fld Z h sb "java/lang/AbstractStringBuilder" "count" "I" (.int (Int32.ofNat (bs ++ [ch]).length)) ∧ Fld Z h sb "java/lang/AbstractStringBuilder" "maybeLatin1" "Z" (.int (0 : Int32)) ∧ Arv Z h tb kb .byte (Int32.ofNat 16) ((bs ++ [ch]).map Value.int) (.int (0 : Int32))
abbrev y_44 : MethodName := ⟨"java/lang/StringBuilder", "append", "(C)Ljava/lang/StringBuilder;"⟩
theorem ef_13 (m : MethodId) (x0 : Addr) (x1 : Int32) : entryFrame m #[(.ref x0), (.int x1)] 2 = mkF m 0 #[.val (.ref x0), .val (.int x1)] [] := by first | (simp [entryFrame, mkF, argsToLocals, Value.category]; done) | rfl
theorem d13_0 : decode jdk_67_method_14_code 0 = .ok (.aload_n 0, 1) := by decide +kernel
theorem d13_1 : decode jdk_67_method_14_code 1 = .ok (.iload_n 1, 1) := by decide +kernel
theorem pd_12 : parseMethodDescriptor "(C)Ljava/lang/AbstractStringBuilder;" = some ⟨[.char], some (.object "java/lang/AbstractStringBuilder")⟩ := by decide +kernel
theorem d13_2 : decode jdk_67_method_14_code 2 = .ok (.invokespecial 50, 3) := by decide +kernel
theorem d13_5 : decode jdk_67_method_14_code 5 = .ok (.pop, 1) := by decide +kernel
theorem d13_6 : decode jdk_67_method_14_code 6 = .ok (.aload_n 0, 1) := by decide +kernel
theorem d13_7 : decode jdk_67_method_14_code 7 = .ok (.areturn, 1) := by decide +kernel
theorem rmBC (l : Launch) (Z : State) (a0 : Array Value) (hw : HW Z a0) (ws : List Jvm.Cond) (sb : Addr) (ch : Int32) (tb : Addr) (kb : ClassId) (bs : List Int32) (zC : Int32) (h0 : Heap) (n0 : Nat) (O0 : Old Z n0 h0) (SC : Sta Z Z.heap "java/lang/String" "COMPACT_STRINGS" "Z" (.int zC)) (hzC : ¬ zC = 0) (ge_sb : n0 ≤ sb) (ge_tb : n0 ≤ tb) (ne_sb_tb : sb ≠ tb) (E_sb : Exa Z h0 sb "java/lang/StringBuilder") (Fc : Fld Z h0 sb "java/lang/AbstractStringBuilder" "coder" "B" (.int (0 : Int32))) (Fv : Fld Z h0 sb "java/lang/AbstractStringBuilder" "value" "[B" (.ref tb)) (Fn : Fld Z h0 sb "java/lang/AbstractStringBuilder" "count" "I" (.int (Int32.ofNat bs.length))) (Fm : Fld Z h0 sb "java/lang/AbstractStringBuilder" "maybeLatin1" "Z" (.int (0 : Int32))) (Vb : Arv Z h0 tb kb .byte (Int32.ofNat 16) (bs.map Value.int) (.int (0 : Int32))) (hch : ¬ ch < 0 ∧ ¬ (127 : Int32) < ch) (hb16 : bs.length < 16) :
    MF l Z y_44 jdk_67_method_14_code 2 (some (.object "java/lang/StringBuilder")) ws ({ frames := 2, cells := 0, slots := 0, locals := 42 } : Room) #[(.ref sb), (.int ch)] h0 (Q_rmBC Z sb ch tb kb bs h0 n0) := by
  refine MetFree.of_bodySF (plainFor_of_name pn_StringBuilder) hisR ?_
  intro p e s m args below meth c s₁ Bd hml0 hP hK
  obtain ⟨rfl, hZ, hh⟩ := hP
  have hx := Bd.exec
  have hby := Bd.bytes
  have hml : c.maxLocals = 2 := hml0
  have hown : s.vm.findClass "java/lang/StringBuilder" = some m.cls := findClass_of_methodNamed Bd.named
  have hnm := (name_of_methodNamed Bd.named Bd.method).1
  have X0 : Stand p l e ({ frames := 2, cells := 0, slots := 0, locals := 42 } : Room) s m #[(.ref sb), (.int ch)] below meth c s₁ [] 0 0 := Stand.of_body Bd
  have e0 : s₁.heap = h0 := by rw [← hh, Bd.state]; rfl
  have N0 := Fr.nil n0
  obtain ⟨S0, hS0⟩ : ∃ z, z = s₁.setTop (entryFrame m #[(.ref sb), (.int ch)] 2) := ⟨_, rfl⟩
  have k0 : Rch p e below S0 s₁ (mkF m 0 #[vR sb, vI ch] []) := fun t kq => hS0 ▸ castTop (ef_13 m sb ch) kq
  have K0 : Keep h0 h0 [sb, tb] := Keep.refl h0 _
  have k493 : Rch p e below S0 s₁ (mkF m 2 #[vR sb, vI ch] [(.int ch), (.ref sb)]) := fun t h => k0 t (by
      refine XS.aloadN X0.here hx rfl (hb hby d13_0) rfl rfl ?_
      refine XS.iloadN X0.here hx rfl (hb hby d13_1) rfl ?_
      exact h)
  obtain ⟨_, _, ⟨T494, L494, kk494, n494⟩, -, X494, ⟨Lc494, hQ494, l494, y494, z494⟩, st494⟩ := superBack X0 hx hZ (y := y_43) hown (hw _ (gm 75 rfl)) (own_same (y := y_43) (y' := y_15) rfl (hw _ (gm 85 rfl)) (hw _ (gm 76 rfl)) (by decide)) (hw _ (gm 76 rfl)) (hw _ (gm 77 rfl)) (by decide) (backOf (W := 0) (rmAC l Z a0 hw [] sb ch tb kb bs zC h0 n0 O0 SC hzC ge_sb ge_tb ne_sb_tb E_sb Fc Fv Fn Fm Vb hch hb16) hZ (hw _ (gm 79 rfl)) (hw _ (gm 52 rfl)) (by decide) (by decide)) e0 (Ins.self E_sb) (g := (mkF m 2 #[vR sb, vI ch] [(.int ch), (.ref sb)])) rfl (by rw [hml]; rfl) (hw _ (gm 79 rfl)) (argsL := [(.int ch)]) (rest := []) (lenOf pd_12 rfl) rfl (by show 2 * 0 + _ ≤ _; exact Nat.le_of_eq rfl) (hb hby d13_2) (fun _ _ => ⟨rfl, e0, (by decide : 0 + 0 ≤ _), (by decide : 0 + 0 ≤ _)⟩)
  dsimp only [Pt.U, Pt.locs, Pt.cells, Pt.slots] at X494 l494 y494 z494 st494 hQ494
  subst l494 y494 z494
  obtain ⟨rfl, Nq494, K494, Fc494, Fv494, Fn494, Fm494, V494⟩ := hQ494
  have N494 := Fr.app N0 Nq494
  have k495 : Rch p e below S0 T494 (mkF m 5 #[vR sb, vI ch] [(.ref sb)]) := fun t h => k493 t (st494.trans h)
  have O496 := O0.keep K494 (allS ge_sb (allS ge_tb all0))
  have K497 := K0.trans K494 (allS (Or.inl (gm 0 rfl)) (allS (Or.inl (gm 1 rfl)) all0))
  replace E_sb := E_sb.keep K494
  have k498 : Rch p e below S0 T494 (mkF m 7 #[vR sb, vI ch] [(.ref sb)]) := fun t h => k495 t (by
      refine XS.pop X494.here hx rfl (hb hby d13_5) rfl rfl ?_
      refine XS.aloadN X494.here hx rfl (hb hby d13_6) rfl rfl ?_
      exact h)
  obtain ⟨fs, hr, hrun, hended, hW, hsame⟩ := X494.leave (v := (some (.ref sb))) (fun h => by rw [Bd.returns] at h; cases h)
  refine ⟨_, _, ?_, hrun, hended, _, _, rfl, ?_, ⟨_, rfl⟩, hW, hsame.mono (by decide) (by decide)⟩
  · rw [← hS0]
    refine k498 _ ?_
    show Steps p.tables e below (T494.setTop (mkF m 7 #[vR sb, vI ch] [(.ref sb)])) _
    jvm_step X494.here [X494.here.top, hx, (hb hby d13_7), X494.method', Bd.returns, Value.isRef, FieldType.isReference]
    first | (intro acts; rw [hr _ acts rfl rfl rfl]) | rw [hr _ _ rfl rfl rfl]
    exact Steps.refl _
  · show Q_rmBC Z sb ch tb kb bs h0 n0 _ T494.heap _
    exact ⟨rfl, N494, K497, Fc494, Fv494, Fn494, Fm494, V494⟩
def Q_rmUB (Z : State)  (h0 : Heap) (n0 : Nat) (v : Option Value) (h : Heap) (L : List Loc) : Prop := v = none ∧ Fr n0 L ∧ h = h0
abbrev y_45 : MethodName := ⟨"java/lang/StringUTF16", "checkBoundsOffCount", "(II[B)V"⟩
theorem ef_46 (m : MethodId) (x0 : Int32) (x1 : Int32) (x2 : Addr) : entryFrame m #[(.int x0), (.int x1), (.ref x2)] 3 = mkF m 0 #[.val (.int x0), .val (.int x1), .val (.ref x2)] [] := by first | (simp [entryFrame, mkF, argsToLocals, Value.category]; done) | rfl
theorem d46_0 : decode jdk_52_method_94_code 0 = .ok (.iload_n 0, 1) := by decide +kernel
theorem d46_1 : decode jdk_52_method_94_code 1 = .ok (.iload_n 1, 1) := by decide +kernel
theorem d46_2 : decode jdk_52_method_94_code 2 = .ok (.aload_n 2, 1) := by decide +kernel
theorem d46_3 : decode jdk_52_method_94_code 3 = .ok (.invokestatic 48, 3) := by decide +kernel
theorem pd_37 : parseMethodDescriptor "(III)I" = some ⟨[.int, .int, .int], some .int⟩ := by decide +kernel
theorem d46_6 : decode jdk_52_method_94_code 6 = .ok (.invokestatic 419, 3) := by decide +kernel
theorem d46_9 : decode jdk_52_method_94_code 9 = .ok (.pop, 1) := by decide +kernel
theorem d46_10 : decode jdk_52_method_94_code 10 = .ok (.return_, 1) := by decide +kernel
theorem rmUB (l : Launch) (Z : State) (a0 : Array Value) (hw : HW Z a0) (ws : List Jvm.Cond) (t2 : Addr) (k2 : ClassId) (n : Nat) (vs : List Value) (fm : Value) (h0 : Heap) (n0 : Nat) (O0 : Old Z n0 h0) (SP : Sta Z Z.heap "jdk/internal/util/Preconditions" "SIOOBE_FORMATTER" "Ljava/util/function/BiFunction;" fm) (hfm : fm = .null ∨ ∃ wP, fm = .ref wP) (V2 : Arv Z h0 t2 k2 .byte (Int32.ofNat (2 * 16)) vs (.int (0 : Int32))) (hn : n ≤ 16) :
    MF l Z y_45 jdk_52_method_94_code 3 none ws ({ frames := 2, cells := 0, slots := 0, locals := 44 } : Room) #[(.int (0 : Int32)), (.int (Int32.ofNat n)), (.ref t2)] h0 (Q_rmUB Z  h0 n0) := by
  refine MetFree.of_bodySF (plainFor_of_name pn_StringUTF16) hisR ?_
  intro p e s m args below meth c s₁ Bd hml0 hP hK
  obtain ⟨rfl, hZ, hh⟩ := hP
  have hx := Bd.exec
  have hby := Bd.bytes
  have hml : c.maxLocals = 3 := hml0
  have hown : s.vm.findClass "java/lang/StringUTF16" = some m.cls := findClass_of_methodNamed Bd.named
  have hnm := (name_of_methodNamed Bd.named Bd.method).1
  have X0 : Stand p l e ({ frames := 2, cells := 0, slots := 0, locals := 44 } : Room) s m #[(.int (0 : Int32)), (.int (Int32.ofNat n)), (.ref t2)] below meth c s₁ [] 0 0 := Stand.of_body Bd
  have e0 : s₁.heap = h0 := by rw [← hh, Bd.state]; rfl
  have N0 := Fr.nil n0
  obtain ⟨S0, hS0⟩ : ∃ z, z = s₁.setTop (entryFrame m #[(.int (0 : Int32)), (.int (Int32.ofNat n)), (.ref t2)] 3) := ⟨_, rfl⟩
  have k0 : Rch p e below S0 s₁ (mkF m 0 #[vI 0, vI (Int32.ofNat n), vR t2] []) := fun t kq => hS0 ▸ castTop (ef_46 m (0 : Int32) (Int32.ofNat n) t2) kq
  have k499 : Rch p e below S0 s₁ (mkF m 3 #[vI 0, vI (Int32.ofNat n), vR t2] [(.ref t2), (.int (Int32.ofNat n)), (.int (0 : Int32))]) := fun t h => k0 t (by
      refine XS.iloadN X0.here hx rfl (hb hby d46_0) rfl ?_
      refine XS.iloadN X0.here hx rfl (hb hby d46_1) rfl ?_
      refine XS.aloadN X0.here hx rfl (hb hby d46_2) rfl rfl ?_
      exact h)
  obtain ⟨_, _, ⟨T500, L500, kk500, n500⟩, -, X500, ⟨Lc500, hQ500, l500, y500, z500⟩, st500⟩ := Jvm.LawKit.callS X0 hx (y := y_35) hown (mvT hZ (hw _ (gm 223 rfl))) (mvT hZ (hw _ (gm 224 rfl))) (mvT hZ (hw _ (gm 30 rfl))) (mvT hZ (hw _ (gm 225 rfl))) (by decide) (backOf (W := 2) (rmUL l Z a0 hw [] t2 k2 16 _ h0 n0 O0 V2 (by decide)) hZ (hw _ (gm 225 rfl)) (hw _ (gm 30 rfl)) (by decide) (by decide)) (g := (mkF m 3 #[vI 0, vI (Int32.ofNat n), vR t2] [(.ref t2), (.int (Int32.ofNat n)), (.int (0 : Int32))])) rfl (by rw [hml]; rfl) (argsL := [(.ref t2)]) (rest := [(.int (Int32.ofNat n)), (.int (0 : Int32))]) (lenOf pd_36 rfl) rfl (by show 2 * 0 + _ ≤ _; exact Nat.le_of_eq rfl) (hb hby d46_3) (fun _ _ => ⟨rfl, e0, (by decide : 0 + 0 ≤ _), (by decide : 0 + 0 ≤ _)⟩)
  dsimp only [Pt.U, Pt.locs, Pt.cells, Pt.slots] at X500 l500 y500 z500 st500 hQ500
  subst l500 y500 z500
  obtain ⟨rfl, Nq500, hh500⟩ := hQ500
  have N500 := Fr.app N0 Nq500
  have k501 : Rch p e below S0 T500 (mkF m 6 #[vI 0, vI (Int32.ofNat n), vR t2] [(.int (16 : Int32)), (.int (Int32.ofNat n)), (.int (0 : Int32))]) := fun t h => k499 t (st500 t h)
  obtain ⟨_, _, ⟨T502, L502, kk502, n502⟩, -, X502, ⟨Lc502, hQ502, l502, y502, z502⟩, st502⟩ := Jvm.LawKit.callS X500 hx (y := y_32) hown (mvT hZ (hw _ (gm 226 rfl))) (mvT hZ (hw _ (gm 227 rfl))) (mvT hZ (hw _ (gm 7 rfl))) (mvT hZ (hw _ (gm 228 rfl))) (by decide) (backOf (W := 0) (rmXB l Z a0 hw [] n fm  h0 n0 O0 SP hfm hn) hZ (hw _ (gm 228 rfl)) (hw _ (gm 7 rfl)) (by decide) (by decide)) (g := (mkF m 6 #[vI 0, vI (Int32.ofNat n), vR t2] [(.int (16 : Int32)), (.int (Int32.ofNat n)), (.int (0 : Int32))])) rfl (by rw [hml]; rfl) (argsL := [(.int (0 : Int32)), (.int (Int32.ofNat n)), (.int (16 : Int32))]) (rest := []) (lenOf pd_37 rfl) rfl (by show 2 * 0 + _ ≤ _; exact Nat.le_of_eq rfl) (hb hby d46_6) (fun _ _ => ⟨rfl, hh500, (by decide : 0 + 0 ≤ _), (by decide : 0 + 0 ≤ _)⟩)
  dsimp only [Pt.U, Pt.locs, Pt.cells, Pt.slots] at X502 l502 y502 z502 st502 hQ502
  subst l502 y502 z502
  obtain ⟨rfl, Nq502, hh502⟩ := hQ502
  have N502 := Fr.app N500 Nq502
  have k503 : Rch p e below S0 T502 (mkF m 9 #[vI 0, vI (Int32.ofNat n), vR t2] [(.int (0 : Int32))]) := fun t h => k501 t (st502 t h)
  have k504 : Rch p e below S0 T502 (mkF m 10 #[vI 0, vI (Int32.ofNat n), vR t2] []) := fun t h => k503 t (by
      refine XS.pop X502.here hx rfl (hb hby d46_9) rfl rfl ?_
      exact h)
  obtain ⟨fs, hr, hrun, hended, hW, hsame⟩ := X502.leave (v := none) (fun _ => rfl)
  refine ⟨_, _, ?_, hrun, hended, _, _, rfl, ?_, ⟨_, rfl⟩, hW, hsame.mono (by decide) (by decide)⟩
  · rw [← hS0]
    refine k504 _ ?_
    show Steps p.tables e below (T502.setTop (mkF m 10 #[vI 0, vI (Int32.ofNat n), vR t2] [])) _
    exact X502.returnOut hx Bd.returns (hb hby d46_10) hr
  · show Q_rmUB Z  h0 n0 _ T502.heap _
    rw [hh502]
    exact ⟨rfl, N502, rfl⟩
def Q_rmUI (Z : State) (t2 : Addr) (k2 : ClassId) (bs : List Int32) (h0 : Heap) (n0 : Nat) (v : Option Value) (h : Heap) (L : List Loc) : Prop := v = none ∧ Fr n0 L ∧ Keep h0 h [t2] ∧ Arv Z h t2 k2 .byte (Int32.ofNat (2 * 16)) ((u16 bs).map Value.int) (.int (0 : Int32))
abbrev y_46 : MethodName := ⟨"java/lang/StringUTF16", "inflate", "([BI[BII)V"⟩
theorem ef_45 (m : MethodId) (x0 : Addr) (x1 : Int32) (x2 : Addr) (x3 : Int32) (x4 : Int32) : entryFrame m #[(.ref x0), (.int x1), (.ref x2), (.int x3), (.int x4)] 6 = mkF m 0 #[.val (.ref x0), .val (.int x1), .val (.ref x2), .val (.int x3), .val (.int x4), .unset] [] := by first | (simp [entryFrame, mkF, argsToLocals, Value.category]; done) | rfl
theorem d45_0 : decode jdk_52_method_86_code 0 = .ok (.iload_n 3, 1) := by decide +kernel
theorem d45_1 : decode jdk_52_method_86_code 1 = .ok (.iload 4, 2) := by decide +kernel
theorem d45_3 : decode jdk_52_method_86_code 3 = .ok (.aload_n 2, 1) := by decide +kernel
theorem pd_35 : parseMethodDescriptor "(II[B)V" = some ⟨[.int, .int, (.array .byte)], none⟩ := by decide +kernel
theorem d45_4 : decode jdk_52_method_86_code 4 = .ok (.invokestatic 173, 3) := by decide +kernel
theorem d45_7 : decode jdk_52_method_86_code 7 = .ok (.iconst 0, 1) := by decide +kernel
theorem d45_8 : decode jdk_52_method_86_code 8 = .ok (.istore 5, 2) := by decide +kernel
theorem d45_10 : decode jdk_52_method_86_code 10 = .ok (.iload 5, 2) := by decide +kernel
theorem d45_12 : decode jdk_52_method_86_code 12 = .ok (.iload 4, 2) := by decide +kernel
theorem d45_14 : decode jdk_52_method_86_code 14 = .ok (.if_icmp .ge 27, 3) := by decide +kernel
theorem d45_17 : decode jdk_52_method_86_code 17 = .ok (.aload_n 2, 1) := by decide +kernel
theorem d45_18 : decode jdk_52_method_86_code 18 = .ok (.iload_n 3, 1) := by decide +kernel
theorem d45_19 : decode jdk_52_method_86_code 19 = .ok (.iinc 3 1, 3) := by decide +kernel
theorem d45_22 : decode jdk_52_method_86_code 22 = .ok (.aload_n 0, 1) := by decide +kernel
theorem d45_23 : decode jdk_52_method_86_code 23 = .ok (.iload_n 1, 1) := by decide +kernel
theorem d45_24 : decode jdk_52_method_86_code 24 = .ok (.iinc 1 1, 3) := by decide +kernel
theorem d45_27 : decode jdk_52_method_86_code 27 = .ok (.baload, 1) := by decide +kernel
theorem d45_28 : decode jdk_52_method_86_code 28 = .ok (.sipush 255, 3) := by decide +kernel
theorem d45_31 : decode jdk_52_method_86_code 31 = .ok (.iand, 1) := by decide +kernel
theorem d45_32 : decode jdk_52_method_86_code 32 = .ok (.invokestatic 111, 3) := by decide +kernel
theorem d45_35 : decode jdk_52_method_86_code 35 = .ok (.iinc 5 1, 3) := by decide +kernel
theorem d45_38 : decode jdk_52_method_86_code 38 = .ok (.goto (-28), 3) := by decide +kernel
theorem d45_41 : decode jdk_52_method_86_code 41 = .ok (.return_, 1) := by decide +kernel
theorem rmUI (l : Launch) (Z : State) (a0 : Array Value) (hw : HW Z a0) (ws : List Jvm.Cond) (tb : Addr) (t2 : Addr) (kb : ClassId) (k2 : ClassId) (bs : List Int32) (fm : Value) (h0 : Heap) (n0 : Nat) (O0 : Old Z n0 h0) (SAs : Sta Z Z.heap "java/lang/StringUTF16" "$assertionsDisabled" "Z" (.int (1 : Int32))) (SHi : Sta Z Z.heap "java/lang/StringUTF16" "HI_BYTE_SHIFT" "I" (.int (0 : Int32))) (SLo : Sta Z Z.heap "java/lang/StringUTF16" "LO_BYTE_SHIFT" "I" (.int (8 : Int32))) (SP : Sta Z Z.heap "jdk/internal/util/Preconditions" "SIOOBE_FORMATTER" "Ljava/util/function/BiFunction;" fm) (hfm : fm = .null ∨ ∃ wP, fm = .ref wP) (ge_t2 : n0 ≤ t2) (ne_tb_t2 : tb ≠ t2) (Vb : Arv Z h0 tb kb .byte (Int32.ofNat 16) (bs.map Value.int) (.int (0 : Int32))) (V2 : Arv Z h0 t2 k2 .byte (Int32.ofNat (2 * 16)) [] (.int (0 : Int32))) (hp7 : ∀ c ∈ bs, ¬ c < 0 ∧ ¬ (127 : Int32) < c) (hb16 : bs.length ≤ 16) :
    MF l Z y_46 jdk_52_method_86_code 6 none ws ({ frames := 3, cells := 0, slots := 0, locals := 62 } : Room) #[(.ref tb), (.int (0 : Int32)), (.ref t2), (.int (0 : Int32)), (.int (Int32.ofNat bs.length))] h0 (Q_rmUI Z t2 k2 bs h0 n0) := by
  refine MetFree.of_bodySF (plainFor_of_name pn_StringUTF16) hisR ?_
  intro p e s m args below meth c s₁ Bd hml0 hP hK
  obtain ⟨rfl, hZ, hh⟩ := hP
  have hx := Bd.exec
  have hby := Bd.bytes
  have hml : c.maxLocals = 6 := hml0
  have hown : s.vm.findClass "java/lang/StringUTF16" = some m.cls := findClass_of_methodNamed Bd.named
  have hnm := (name_of_methodNamed Bd.named Bd.method).1
  have X0 : Stand p l e ({ frames := 3, cells := 0, slots := 0, locals := 62 } : Room) s m #[(.ref tb), (.int (0 : Int32)), (.ref t2), (.int (0 : Int32)), (.int (Int32.ofNat bs.length))] below meth c s₁ [] 0 0 := Stand.of_body Bd
  have e0 : s₁.heap = h0 := by rw [← hh, Bd.state]; rfl
  have N0 := Fr.nil n0
  obtain ⟨S0, hS0⟩ : ∃ z, z = s₁.setTop (entryFrame m #[(.ref tb), (.int (0 : Int32)), (.ref t2), (.int (0 : Int32)), (.int (Int32.ofNat bs.length))] 6) := ⟨_, rfl⟩
  have k0 : Rch p e below S0 s₁ (mkF m 0 #[vR tb, vI 0, vR t2, vI 0, vI (Int32.ofNat bs.length), vU] []) := fun t kq => hS0 ▸ castTop (ef_45 m tb (0 : Int32) t2 (0 : Int32) (Int32.ofNat bs.length)) kq
  have K0 : Keep h0 h0 [t2] := Keep.refl h0 _
  have k505 : Rch p e below S0 s₁ (mkF m 4 #[vR tb, vI 0, vR t2, vI 0, vI (Int32.ofNat bs.length), vU] [(.ref t2), (.int (Int32.ofNat bs.length)), (.int (0 : Int32))]) := fun t h => k0 t (by
      refine XS.iloadN X0.here hx rfl (hb hby d45_0) rfl ?_
      refine XS.iload X0.here hx rfl (hb hby d45_1) rfl ?_
      refine XS.aloadN X0.here hx rfl (hb hby d45_3) rfl rfl ?_
      exact h)
  obtain ⟨_, _, ⟨T506, L506, kk506, n506⟩, -, X506, ⟨Lc506, hQ506, l506, y506, z506⟩, st506⟩ := Jvm.LawKit.callS X0 hx (y := y_45) hown (mvT hZ (hw _ (gm 220 rfl))) (mvT hZ (hw _ (gm 221 rfl))) (mvT hZ (hw _ (gm 30 rfl))) (mvT hZ (hw _ (gm 222 rfl))) (by decide) (backOf (W := 0) (rmUB l Z a0 hw []  t2 k2 bs.length _ fm h0 n0 O0 SP hfm V2 hb16) hZ (hw _ (gm 222 rfl)) (hw _ (gm 30 rfl)) (by decide) (by decide)) (g := (mkF m 4 #[vR tb, vI 0, vR t2, vI 0, vI (Int32.ofNat bs.length), vU] [(.ref t2), (.int (Int32.ofNat bs.length)), (.int (0 : Int32))])) rfl (by rw [hml]; rfl) (argsL := [(.int (0 : Int32)), (.int (Int32.ofNat bs.length)), (.ref t2)]) (rest := []) (lenOf pd_35 rfl) rfl (by show 2 * 0 + _ ≤ _; exact Nat.le_of_eq rfl) (hb hby d45_4) (fun _ _ => ⟨rfl, e0, (by decide : 0 + 0 ≤ _), (by decide : 0 + 0 ≤ _)⟩)
  dsimp only [Pt.U, Pt.locs, Pt.cells, Pt.slots] at X506 l506 y506 z506 st506 hQ506
  subst l506 y506 z506
  obtain ⟨rfl, Nq506, hh506⟩ := hQ506
  have N506 := Fr.app N0 Nq506
  have k507 : Rch p e below S0 T506 (mkF m 7 #[vR tb, vI 0, vR t2, vI 0, vI (Int32.ofNat bs.length), vU] []) := fun t h => k505 t (st506 t h)
  have k508 : Rch p e below S0 T506 (mkF m 10 #[vR tb, vI 0, vR t2, vI 0, vI (Int32.ofNat bs.length), vI 0] []) := fun t h => k507 t (by
      refine XS.iconst X506.here hx rfl (hb hby d45_7) ?_
      refine XS.istore X506.here hx rfl (hb hby d45_8) rfl (l' := #[vR tb, vI 0, vR t2, vI 0, vI (Int32.ofNat bs.length), vI 0]) rfl ?_
      exact h)
  replace V2 : Arv Z h0 t2 k2 .byte (Int32.ofNat (2 * 16)) ((u16 (bs.take 0)).map Value.int ++ List.replicate (32 - 2 * 0) (Value.int (0 : Int32))) (.int (0 : Int32)) := V2.pad (pad_rep [] (.int (0 : Int32)) 32)
  have loop : ∀ (j i : Nat), i + j = bs.length → ∀ (T : State) (h1 : Heap) (lo : List Loc), Stand p l e ({ frames := 3, cells := 0, slots := 0, locals := 62 } : Room) s m #[(.ref tb), (.int (0 : Int32)), (.ref t2), (.int (0 : Int32)), (.int (Int32.ofNat bs.length))] below meth c T lo 0 0 → T.heap = h1 → Fr n0 lo → Old Z n0 h1 → Keep h0 h1 [t2] → Arv Z h1 t2 k2 .byte (Int32.ofNat (2 * 16)) ((u16 (bs.take i)).map Value.int ++ List.replicate (32 - 2 * i) (Value.int (0 : Int32))) (.int (0 : Int32)) → Arv Z h1 tb kb .byte (Int32.ofNat 16) (bs.map Value.int) (.int (0 : Int32)) → Rch p e below S0 T (mkF m 10 #[vR tb, vI (Int32.ofNat i), vR t2, vI (Int32.ofNat i), vI (Int32.ofNat bs.length), vI (Int32.ofNat i)] []) →
      ∃ (T2 : State) (h2 : Heap) (lo2 : List Loc), Stand p l e ({ frames := 3, cells := 0, slots := 0, locals := 62 } : Room) s m #[(.ref tb), (.int (0 : Int32)), (.ref t2), (.int (0 : Int32)), (.int (Int32.ofNat bs.length))] below meth c T2 lo2 0 0 ∧ T2.heap = h2 ∧ Fr n0 lo2 ∧ Keep h0 h2 [t2] ∧ Arv Z h2 t2 k2 .byte (Int32.ofNat (2 * 16)) ((u16 bs).map Value.int) (.int (0 : Int32)) ∧ Rch p e below S0 T2 (mkF m 41 #[vR tb, vI (Int32.ofNat bs.length), vR t2, vI (Int32.ofNat bs.length), vI (Int32.ofNat bs.length), vI (Int32.ofNat bs.length)] []) := by
    intro j
    induction j with
    | zero =>
      intro i hi T h1 lo X eT NN OO KK V2 Vb1 kk
      obtain rfl : i = bs.length := by omega
      rw [List.take_length] at V2
      replace V2 : Arv Z h1 t2 k2 .byte (Int32.ofNat (2 * 16)) ((u16 bs).map Value.int) (.int (0 : Int32)) := V2.pad fun i => (pad_rep _ _ _ i).symm
      have k509 : Rch p e below S0 T (mkF m 41 #[vR tb, vI (Int32.ofNat bs.length), vR t2, vI (Int32.ofNat bs.length), vI (Int32.ofNat bs.length), vI (Int32.ofNat bs.length)] []) := fun t h => kk t (by
          refine XS.iload X.here hx rfl (hb hby d45_10) rfl ?_
          refine XS.iload X.here hx rfl (hb hby d45_12) rfl ?_
          refine XS.icmpYes X.here hx rfl (pc0 := 14) (pc' := 41) rfl (hb hby d45_14) rfl (flt ((fun q => Nat.lt_irrefl _ ((own_olt (by omega) (by omega)).mp q)) : ¬ ((Int32.ofNat bs.length) < (Int32.ofNat bs.length)))).2.1 (by decide) (by decide) ?_
          exact h)
      exact ⟨_, _, _, X, eT, NN, KK, V2, k509⟩
    | succ j ih =>
      intro i hi T h1 lo X eT NN OO KK V2 Vb1 kk
      have hic := own_memD bs _ hp7 i (by omega)
      have k511 : Rch p e below S0 T (mkF m 27 #[vR tb, vI (Int32.ofNat (i + 1)), vR t2, vI (Int32.ofNat (i + 1)), vI (Int32.ofNat bs.length), vI (Int32.ofNat i)] [(.int (Int32.ofNat i)), (.ref tb), (.int (Int32.ofNat i)), (.ref t2)]) := fun t h => kk t (by
          refine XS.iload X.here hx rfl (hb hby d45_10) rfl ?_
          refine XS.iload X.here hx rfl (hb hby d45_12) rfl ?_
          refine XS.icmpNo X.here hx rfl (hb hby d45_14) rfl (tlt (((own_olt (by omega) (by omega)).mpr (by omega)) : (Int32.ofNat i) < (Int32.ofNat bs.length))).2.1 ?_
          refine XS.aloadN X.here hx rfl (hb hby d45_17) rfl rfl ?_
          refine XS.iloadN X.here hx rfl (hb hby d45_18) rfl ?_
          show Steps p.tables e below (T.setTop (mkF m 19 #[vR tb, vI (Int32.ofNat i), vR t2, vI (Int32.ofNat i), vI (Int32.ofNat bs.length), vI (Int32.ofNat i)] [(.int (Int32.ofNat i)), (.ref t2)])) _
          refine XS.iinc X.here hx rfl (hb hby d45_19) rfl (l' := #[vR tb, vI (Int32.ofNat i), vR t2, vI ((Int32.ofNat i) + (1 : Int32)), vI (Int32.ofNat bs.length), vI (Int32.ofNat i)]) rfl ?_
          rw [own_inc (i := i) (by omega)]
          refine XS.aloadN X.here hx rfl (hb hby d45_22) rfl rfl ?_
          refine XS.iloadN X.here hx rfl (hb hby d45_23) rfl ?_
          show Steps p.tables e below (T.setTop (mkF m 24 #[vR tb, vI (Int32.ofNat i), vR t2, vI (Int32.ofNat (i + 1)), vI (Int32.ofNat bs.length), vI (Int32.ofNat i)] [(.int (Int32.ofNat i)), (.ref tb), (.int (Int32.ofNat i)), (.ref t2)])) _
          refine XS.iinc X.here hx rfl (hb hby d45_24) rfl (l' := #[vR tb, vI ((Int32.ofNat i) + (1 : Int32)), vR t2, vI (Int32.ofNat (i + 1)), vI (Int32.ofNat bs.length), vI (Int32.ofNat i)]) rfl ?_
          rw [own_inc (i := i) (by omega)]
          exact h)
      obtain ⟨cl510, Ar510, q510, Sz510, Ng510, Hs510, G510⟩ := id Vb1
      have hin510 : ¬ ((Int32.ofNat i) < 0 ∨ cl510.slots.size ≤ ((Int32.ofNat i)).toNatClampNeg) := inb_of Sz510 (own_inb (by omega) (by omega))
      have hat510 : cl510.slots[((Int32.ofNat i)).toNatClampNeg]? = some (.int (bs.getD i 0)) := Hs510.at hin510 (by rw [(own_tn (by omega)).1]; exact own_at bs i 0)
      have k512 : Rch p e below S0 T (mkF m 32 #[vR tb, vI (Int32.ofNat (i + 1)), vR t2, vI (Int32.ofNat (i + 1)), vI (Int32.ofNat bs.length), vI (Int32.ofNat i)] [(.int (bs.getD i 0)), (.int (Int32.ofNat i)), (.ref t2)]) := fun t h => k511 t (by
          refine X.baloadBytes hx (j := (Int32.ofNat i)) (v := (.int (bs.getD i 0))) (by rw [eT]; exact Ar510.1) (State.isArrayOf_alike hZ.alike Ar510.2.1) Ar510.2.2 hin510 hat510 (g := (mkF m 27 #[vR tb, vI (Int32.ofNat (i + 1)), vR t2, vI (Int32.ofNat (i + 1)), vI (Int32.ofNat bs.length), vI (Int32.ofNat i)] [(.int (Int32.ofNat i)), (.ref tb), (.int (Int32.ofNat i)), (.ref t2)])) rfl rfl (hb hby d45_27) _ ?_
          refine XS.sipush X.here hx rfl (hb hby d45_28) ?_
          show Steps p.tables e below (T.setTop (mkF m 31 #[vR tb, vI (Int32.ofNat (i + 1)), vR t2, vI (Int32.ofNat (i + 1)), vI (Int32.ofNat bs.length), vI (Int32.ofNat i)] [(.int (255 : Int32)), (.int (bs.getD i 0)), (.int (Int32.ofNat i)), (.ref t2)])) _
          refine XS.iand X.here hx rfl (hb hby d45_31) rfl ?_
          rw [(own_7b _ hic).2.2]
          exact h)
      obtain ⟨_, _, ⟨T513, L513, kk513, n513⟩, -, X513, ⟨Lc513, hQ513, l513, y513, z513⟩, st513⟩ := Jvm.LawKit.callS X hx (y := y_2) hown (mvT hZ (hw _ (gm 199 rfl))) (mvT hZ (hw _ (gm 200 rfl))) (mvT hZ (hw _ (gm 30 rfl))) (mvT hZ (hw _ (gm 201 rfl))) (by decide) (backOf (W := 0) (rmPC l Z a0 hw [] t2 i (bs.getD i 0) k2 16 _ h1 n0 OO SAs SHi SLo ge_t2 (by decide) (by omega) (by rw [List.length_append, List.length_map, u16_len, List.length_take, List.length_replicate]; omega) V2) hZ (hw _ (gm 201 rfl)) (hw _ (gm 30 rfl)) (by decide) (by decide)) (g := (mkF m 32 #[vR tb, vI (Int32.ofNat (i + 1)), vR t2, vI (Int32.ofNat (i + 1)), vI (Int32.ofNat bs.length), vI (Int32.ofNat i)] [(.int (bs.getD i 0)), (.int (Int32.ofNat i)), (.ref t2)])) rfl (by rw [hml]; rfl) (argsL := [(.ref t2), (.int (Int32.ofNat i)), (.int (bs.getD i 0))]) (rest := []) (lenOf pd_33 rfl) rfl (by show 2 * 0 + _ ≤ _; exact Nat.le_of_eq rfl) (hb hby d45_32) (fun _ _ => ⟨rfl, eT, (by decide : 0 + 0 ≤ _), (by decide : 0 + 0 ≤ _)⟩)
      dsimp only [Pt.U, Pt.locs, Pt.cells, Pt.slots] at X513 l513 y513 z513 st513 hQ513
      subst l513 y513 z513
      obtain ⟨rfl, Nq513, K513, Vn513⟩ := hQ513
      have N513 := Fr.app NN Nq513
      have k514 : Rch p e below S0 T513 (mkF m 35 #[vR tb, vI (Int32.ofNat (i + 1)), vR t2, vI (Int32.ofNat (i + 1)), vI (Int32.ofNat bs.length), vI (Int32.ofNat i)] []) := fun t h => k512 t (st513 t h)
      have O515 := OO.keep K513 (allS ge_t2 all0)
      have K516 := KK.trans K513 (allS (Or.inl (gm 0 rfl)) all0)
      replace Vb1 := Vb1.keep K513 (ninS ne_tb_t2 nin0)
      have k517 : Rch p e below S0 T513 (mkF m 10 #[vR tb, vI (Int32.ofNat (i + 1)), vR t2, vI (Int32.ofNat (i + 1)), vI (Int32.ofNat bs.length), vI (Int32.ofNat (i + 1))] []) := fun t h => k514 t (by
          refine XS.iinc X513.here hx rfl (hb hby d45_35) rfl (l' := #[vR tb, vI (Int32.ofNat (i + 1)), vR t2, vI (Int32.ofNat (i + 1)), vI (Int32.ofNat bs.length), vI ((Int32.ofNat i) + (1 : Int32))]) rfl ?_
          rw [own_inc (i := i) (by omega)]
          refine XS.goto X513.here hx rfl (pc0 := 38) (pc' := 10) rfl (hb hby d45_38) (by decide) (by decide) ?_
          exact h)
      rw [own_ustep bs i (by omega) hb16] at Vn513
      exact ih (i + 1) (by omega) _ _ _ X513 rfl N513 O515 K516 Vn513 Vb1 k517
  obtain ⟨TL, hL, loL, XL, eL, NL, KL, VL, kL⟩ := loop bs.length 0 (by omega) _ _ _ X506 hh506 N506 O0 K0 V2 Vb k508
  obtain ⟨fs, hr, hrun, hended, hW, hsame⟩ := XL.leave (v := none) (fun _ => rfl)
  refine ⟨_, _, ?_, hrun, hended, _, _, rfl, ?_, ⟨_, rfl⟩, hW, hsame.mono (by decide) (by decide)⟩
  · rw [← hS0]
    refine kL _ ?_
    show Steps p.tables e below (TL.setTop (mkF m 41 #[vR tb, vI (Int32.ofNat bs.length), vR t2, vI (Int32.ofNat bs.length), vI (Int32.ofNat bs.length), vI (Int32.ofNat bs.length)] [])) _
    exact XL.returnOut hx Bd.returns (hb hby d45_41) hr
  · show Q_rmUI Z t2 k2 bs h0 n0 _ TL.heap _
    rw [eL]
    exact ⟨rfl, NL, KL, VL⟩
def Q_rmLI (Z : State) (t2 : Addr) (k2 : ClassId) (bs : List Int32) (h0 : Heap) (n0 : Nat) (v : Option Value) (h : Heap) (L : List Loc) : Prop := v = none ∧ Fr n0 L ∧ Keep h0 h [t2] ∧ Arv Z h t2 k2 .byte (Int32.ofNat (2 * 16)) ((u16 bs).map Value.int) (.int (0 : Int32))
abbrev y_47 : MethodName := ⟨"java/lang/StringLatin1", "inflate", "([BI[BII)V"⟩
theorem ef_44 (m : MethodId) (x0 : Addr) (x1 : Int32) (x2 : Addr) (x3 : Int32) (x4 : Int32) : entryFrame m #[(.ref x0), (.int x1), (.ref x2), (.int x3), (.int x4)] 5 = mkF m 0 #[.val (.ref x0), .val (.int x1), .val (.ref x2), .val (.int x3), .val (.int x4)] [] := by first | (simp [entryFrame, mkF, argsToLocals, Value.category]; done) | rfl
theorem d44_0 : decode jdk_43_method_50_code 0 = .ok (.aload_n 0, 1) := by decide +kernel
theorem d44_1 : decode jdk_43_method_50_code 1 = .ok (.iload_n 1, 1) := by decide +kernel
theorem d44_2 : decode jdk_43_method_50_code 2 = .ok (.aload_n 2, 1) := by decide +kernel
theorem d44_3 : decode jdk_43_method_50_code 3 = .ok (.iload_n 3, 1) := by decide +kernel
theorem d44_4 : decode jdk_43_method_50_code 4 = .ok (.iload 4, 2) := by decide +kernel
theorem pd_34 : parseMethodDescriptor "([BI[BII)V" = some ⟨[(.array .byte), .int, (.array .byte), .int, .int], none⟩ := by decide +kernel
theorem d44_6 : decode jdk_43_method_50_code 6 = .ok (.invokestatic 240, 3) := by decide +kernel
theorem d44_9 : decode jdk_43_method_50_code 9 = .ok (.return_, 1) := by decide +kernel
theorem rmLI (l : Launch) (Z : State) (a0 : Array Value) (hw : HW Z a0) (ws : List Jvm.Cond) (tb : Addr) (t2 : Addr) (kb : ClassId) (k2 : ClassId) (bs : List Int32) (fm : Value) (h0 : Heap) (n0 : Nat) (O0 : Old Z n0 h0) (SAs : Sta Z Z.heap "java/lang/StringUTF16" "$assertionsDisabled" "Z" (.int (1 : Int32))) (SHi : Sta Z Z.heap "java/lang/StringUTF16" "HI_BYTE_SHIFT" "I" (.int (0 : Int32))) (SLo : Sta Z Z.heap "java/lang/StringUTF16" "LO_BYTE_SHIFT" "I" (.int (8 : Int32))) (SP : Sta Z Z.heap "jdk/internal/util/Preconditions" "SIOOBE_FORMATTER" "Ljava/util/function/BiFunction;" fm) (hfm : fm = .null ∨ ∃ wP, fm = .ref wP) (ge_t2 : n0 ≤ t2) (ne_tb_t2 : tb ≠ t2) (Vb : Arv Z h0 tb kb .byte (Int32.ofNat 16) (bs.map Value.int) (.int (0 : Int32))) (V2 : Arv Z h0 t2 k2 .byte (Int32.ofNat (2 * 16)) [] (.int (0 : Int32))) (hp7 : ∀ c ∈ bs, ¬ c < 0 ∧ ¬ (127 : Int32) < c) (hb16 : bs.length ≤ 16) :
    MF l Z y_47 jdk_43_method_50_code 5 none ws ({ frames := 4, cells := 0, slots := 0, locals := 80 } : Room) #[(.ref tb), (.int (0 : Int32)), (.ref t2), (.int (0 : Int32)), (.int (Int32.ofNat bs.length))] h0 (Q_rmLI Z t2 k2 bs h0 n0) := by
  refine MetFree.of_bodySF (plainFor_of_name pn_StringLatin1) hisR ?_
  intro p e s m args below meth c s₁ Bd hml0 hP hK
  obtain ⟨rfl, hZ, hh⟩ := hP
  have hx := Bd.exec
  have hby := Bd.bytes
  have hml : c.maxLocals = 5 := hml0
  have hown : s.vm.findClass "java/lang/StringLatin1" = some m.cls := findClass_of_methodNamed Bd.named
  have hnm := (name_of_methodNamed Bd.named Bd.method).1
  have X0 : Stand p l e ({ frames := 4, cells := 0, slots := 0, locals := 80 } : Room) s m #[(.ref tb), (.int (0 : Int32)), (.ref t2), (.int (0 : Int32)), (.int (Int32.ofNat bs.length))] below meth c s₁ [] 0 0 := Stand.of_body Bd
  have e0 : s₁.heap = h0 := by rw [← hh, Bd.state]; rfl
  have N0 := Fr.nil n0
  obtain ⟨S0, hS0⟩ : ∃ z, z = s₁.setTop (entryFrame m #[(.ref tb), (.int (0 : Int32)), (.ref t2), (.int (0 : Int32)), (.int (Int32.ofNat bs.length))] 5) := ⟨_, rfl⟩
  have k0 : Rch p e below S0 s₁ (mkF m 0 #[vR tb, vI 0, vR t2, vI 0, vI (Int32.ofNat bs.length)] []) := fun t kq => hS0 ▸ castTop (ef_44 m tb (0 : Int32) t2 (0 : Int32) (Int32.ofNat bs.length)) kq
  have K0 : Keep h0 h0 [t2] := Keep.refl h0 _
  have k518 : Rch p e below S0 s₁ (mkF m 6 #[vR tb, vI 0, vR t2, vI 0, vI (Int32.ofNat bs.length)] [(.int (Int32.ofNat bs.length)), (.int (0 : Int32)), (.ref t2), (.int (0 : Int32)), (.ref tb)]) := fun t h => k0 t (by
      refine XS.aloadN X0.here hx rfl (hb hby d44_0) rfl rfl ?_
      refine XS.iloadN X0.here hx rfl (hb hby d44_1) rfl ?_
      refine XS.aloadN X0.here hx rfl (hb hby d44_2) rfl rfl ?_
      refine XS.iloadN X0.here hx rfl (hb hby d44_3) rfl ?_
      refine XS.iload X0.here hx rfl (hb hby d44_4) rfl ?_
      exact h)
  obtain ⟨_, _, ⟨T519, L519, kk519, n519⟩, -, X519, ⟨Lc519, hQ519, l519, y519, z519⟩, st519⟩ := Jvm.LawKit.callS X0 hx (y := y_46) hown (mvT hZ (hw _ (gm 217 rfl))) (mvT hZ (hw _ (gm 218 rfl))) (mvT hZ (hw _ (gm 30 rfl))) (mvT hZ (hw _ (gm 219 rfl))) (by decide) (backOf (W := 0) (rmUI l Z a0 hw []  tb t2 kb k2 bs fm h0 n0 O0 SAs SHi SLo SP hfm ge_t2 ne_tb_t2 Vb V2 hp7 hb16) hZ (hw _ (gm 219 rfl)) (hw _ (gm 30 rfl)) (by decide) (by decide)) (g := (mkF m 6 #[vR tb, vI 0, vR t2, vI 0, vI (Int32.ofNat bs.length)] [(.int (Int32.ofNat bs.length)), (.int (0 : Int32)), (.ref t2), (.int (0 : Int32)), (.ref tb)])) rfl (by rw [hml]; rfl) (argsL := [(.ref tb), (.int (0 : Int32)), (.ref t2), (.int (0 : Int32)), (.int (Int32.ofNat bs.length))]) (rest := []) (lenOf pd_34 rfl) rfl (by show 2 * 0 + _ ≤ _; exact Nat.le_of_eq rfl) (hb hby d44_6) (fun _ _ => ⟨rfl, e0, (by decide : 0 + 0 ≤ _), (by decide : 0 + 0 ≤ _)⟩)
  dsimp only [Pt.U, Pt.locs, Pt.cells, Pt.slots] at X519 l519 y519 z519 st519 hQ519
  subst l519 y519 z519
  obtain ⟨rfl, Nq519, K519, V519⟩ := hQ519
  have N519 := Fr.app N0 Nq519
  have k520 : Rch p e below S0 T519 (mkF m 9 #[vR tb, vI 0, vR t2, vI 0, vI (Int32.ofNat bs.length)] []) := fun t h => k518 t (st519 t h)
  have O521 := O0.keep K519 (allS ge_t2 all0)
  have K522 := K0.trans K519 (allS (Or.inl (gm 0 rfl)) all0)
  obtain ⟨fs, hr, hrun, hended, hW, hsame⟩ := X519.leave (v := none) (fun _ => rfl)
  refine ⟨_, _, ?_, hrun, hended, _, _, rfl, ?_, ⟨_, rfl⟩, hW, hsame.mono (by decide) (by decide)⟩
  · rw [← hS0]
    refine k520 _ ?_
    show Steps p.tables e below (T519.setTop (mkF m 9 #[vR tb, vI 0, vR t2, vI 0, vI (Int32.ofNat bs.length)] [])) _
    exact X519.returnOut hx Bd.returns (hb hby d44_9) hr
  · show Q_rmLI Z t2 k2 bs h0 n0 _ T519.heap _
    exact ⟨rfl, N519, K522, V519⟩
def Q_rmIF (Z : State) (sb : Addr) (bs : List Int32) (h0 : Heap) (n0 : Nat) (v : Option Value) (h : Heap) (L : List Loc) : Prop := v = none ∧ Fr n0 L ∧ Keep h0 h [sb] ∧ ∃ t2 k2, h0.size ≤ t2 ∧ sb ≠ t2 ∧ Fld Z h sb "java/lang/AbstractStringBuilder" "coder" "B" (.int (1 : Int32)) ∧ Fld Z h sb "java/lang/AbstractStringBuilder" "value" "[B" (.ref t2) ∧ Fld Z h sb "java/lang/AbstractStringBuilder" "count" "I" (.int (Int32.ofNat bs.length)) ∧ Fld Z h sb "java/lang/AbstractStringBuilder" "maybeLatin1" "Z" (.int (0 : Int32)) ∧ Arv Z h t2 k2 .byte (Int32.ofNat (2 * 16)) ((u16 bs).map Value.int) (.int (0 : Int32))
abbrev y_48 : MethodName := ⟨"java/lang/AbstractStringBuilder", "inflate", "()V"⟩
theorem ef_43 (m : MethodId) (x0 : Addr) : entryFrame m #[(.ref x0)] 2 = mkF m 0 #[.val (.ref x0), .unset] [] := by first | (simp [entryFrame, mkF, argsToLocals, Value.category]; done) | rfl
theorem d43_0 : decode jdk_68_method_11_code 0 = .ok (.aload_n 0, 1) := by decide +kernel
theorem d43_1 : decode jdk_68_method_11_code 1 = .ok (.invokevirtual 83, 3) := by decide +kernel
theorem d43_4 : decode jdk_68_method_11_code 4 = .ok (.ifCond .ne 4, 3) := by decide +kernel
theorem d43_8 : decode jdk_68_method_11_code 8 = .ok (.aload_n 0, 1) := by decide +kernel
theorem d43_9 : decode jdk_68_method_11_code 9 = .ok (.getfield 15, 3) := by decide +kernel
theorem d43_12 : decode jdk_68_method_11_code 12 = .ok (.arraylength, 1) := by decide +kernel
theorem d43_13 : decode jdk_68_method_11_code 13 = .ok (.invokestatic 26, 3) := by decide +kernel
theorem d43_16 : decode jdk_68_method_11_code 16 = .ok (.astore_n 1, 1) := by decide +kernel
theorem d43_17 : decode jdk_68_method_11_code 17 = .ok (.aload_n 0, 1) := by decide +kernel
theorem d43_18 : decode jdk_68_method_11_code 18 = .ok (.getfield 15, 3) := by decide +kernel
theorem d43_21 : decode jdk_68_method_11_code 21 = .ok (.iconst 0, 1) := by decide +kernel
theorem d43_22 : decode jdk_68_method_11_code 22 = .ok (.aload_n 1, 1) := by decide +kernel
theorem d43_23 : decode jdk_68_method_11_code 23 = .ok (.iconst 0, 1) := by decide +kernel
theorem d43_24 : decode jdk_68_method_11_code 24 = .ok (.aload_n 0, 1) := by decide +kernel
theorem d43_25 : decode jdk_68_method_11_code 25 = .ok (.getfield 79, 3) := by decide +kernel
theorem d43_28 : decode jdk_68_method_11_code 28 = .ok (.invokestatic 125, 3) := by decide +kernel
theorem d43_31 : decode jdk_68_method_11_code 31 = .ok (.aload_n 0, 1) := by decide +kernel
theorem d43_32 : decode jdk_68_method_11_code 32 = .ok (.aload_n 1, 1) := by decide +kernel
theorem d43_33 : decode jdk_68_method_11_code 33 = .ok (.putfield 15, 3) := by decide +kernel
theorem d43_36 : decode jdk_68_method_11_code 36 = .ok (.aload_n 0, 1) := by decide +kernel
theorem d43_37 : decode jdk_68_method_11_code 37 = .ok (.iconst 1, 1) := by decide +kernel
theorem d43_38 : decode jdk_68_method_11_code 38 = .ok (.putfield 22, 3) := by decide +kernel
theorem d43_41 : decode jdk_68_method_11_code 41 = .ok (.return_, 1) := by decide +kernel
theorem rmIF (l : Launch) (Z : State) (a0 : Array Value) (hw : HW Z a0) (ws : List Jvm.Cond) (sb : Addr) (tb : Addr) (kb : ClassId) (bs : List Int32) (fm : Value) (zC : Int32) (h0 : Heap) (n0 : Nat) (O0 : Old Z n0 h0) (SC : Sta Z Z.heap "java/lang/String" "COMPACT_STRINGS" "Z" (.int zC)) (hzC : ¬ zC = 0) (SAs : Sta Z Z.heap "java/lang/StringUTF16" "$assertionsDisabled" "Z" (.int (1 : Int32))) (SHi : Sta Z Z.heap "java/lang/StringUTF16" "HI_BYTE_SHIFT" "I" (.int (0 : Int32))) (SLo : Sta Z Z.heap "java/lang/StringUTF16" "LO_BYTE_SHIFT" "I" (.int (8 : Int32))) (SP : Sta Z Z.heap "jdk/internal/util/Preconditions" "SIOOBE_FORMATTER" "Ljava/util/function/BiFunction;" fm) (hfm : fm = .null ∨ ∃ wP, fm = .ref wP) (ge_sb : n0 ≤ sb) (E_sb : Exa Z h0 sb "java/lang/StringBuilder") (Fc : Fld Z h0 sb "java/lang/AbstractStringBuilder" "coder" "B" (.int (0 : Int32))) (Fv : Fld Z h0 sb "java/lang/AbstractStringBuilder" "value" "[B" (.ref tb)) (Fn : Fld Z h0 sb "java/lang/AbstractStringBuilder" "count" "I" (.int (Int32.ofNat bs.length))) (Fm : Fld Z h0 sb "java/lang/AbstractStringBuilder" "maybeLatin1" "Z" (.int (0 : Int32))) (ne_sb_tb : sb ≠ tb) (Vb : Arv Z h0 tb kb .byte (Int32.ofNat 16) (bs.map Value.int) (.int (0 : Int32))) (hp7 : ∀ c ∈ bs, ¬ c < 0 ∧ ¬ (127 : Int32) < c) (hb16 : bs.length ≤ 16) :
    MF l Z y_48 jdk_68_method_11_code 2 none ws ({ frames := 5, cells := 1, slots := 32, locals := 98 } : Room) #[(.ref sb)] h0 (Q_rmIF Z sb bs h0 n0) := by
  refine MetFree.of_bodySF (plainFor_of_name pn_AbstractStringBuilder) hisR ?_
  intro p e s m args below meth c s₁ Bd hml0 hP hK
  obtain ⟨rfl, hZ, hh⟩ := hP
  have hx := Bd.exec
  have hby := Bd.bytes
  have hml : c.maxLocals = 2 := hml0
  have hown : s.vm.findClass "java/lang/AbstractStringBuilder" = some m.cls := findClass_of_methodNamed Bd.named
  have hnm := (name_of_methodNamed Bd.named Bd.method).1
  have X0 : Stand p l e ({ frames := 5, cells := 1, slots := 32, locals := 98 } : Room) s m #[(.ref sb)] below meth c s₁ [] 0 0 := Stand.of_body Bd
  have e0 : s₁.heap = h0 := by rw [← hh, Bd.state]; rfl
  have N0 := Fr.nil n0
  obtain ⟨S0, hS0⟩ : ∃ z, z = s₁.setTop (entryFrame m #[(.ref sb)] 2) := ⟨_, rfl⟩
  have k0 : Rch p e below S0 s₁ (mkF m 0 #[vR sb, vU] []) := fun t kq => hS0 ▸ castTop (ef_43 m sb) kq
  have K0 : Keep h0 h0 [sb] := Keep.refl h0 _
  have k523 : Rch p e below S0 s₁ (mkF m 1 #[vR sb, vU] [(.ref sb)]) := fun t h => k0 t (by
      refine XS.aloadN X0.here hx rfl (hb hby d43_0) rfl rfl ?_
      exact h)
  obtain ⟨cq524, kq524, q524a, q524b, q524c⟩ := isOf hZ e0 E_sb
  obtain ⟨_, _, ⟨T524, L524, kk524, n524⟩, -, X524, ⟨Lc524, hQ524, l524, y524, z524⟩, st524⟩ := X0.virtualBack hx (y := y_21) (z := y_21) hown (mvT hZ (hw _ (gm 87 rfl))) (mvT hZ (hw _ (gm 88 rfl))) (notFace_of_selects (args := #[]) (mvT hZ (hw _ (gm 90 rfl)))) (mvT hZ (hw _ (gm 90 rfl))) (mvT hZ (hw _ (gm 89 rfl))) (by decide) (backOf (W := 0) (rmIA l Z a0 hw [] sb zC h0 n0 O0 SC hzC Fc) hZ (hw _ (gm 91 rfl)) (hw _ (gm 52 rfl)) (by decide) (by decide)) q524a q524c (g := (mkF m 1 #[vR sb, vU] [(.ref sb)])) rfl (by rw [hml]; rfl) (Steps.refl _) (argsL := []) (rest := []) (lenOf pd_13 rfl) rfl (by show 2 * 0 + _ ≤ _; exact Nat.le_of_eq rfl) (hb hby d43_1) (fun _ _ => ⟨rfl, e0, (by decide : 0 + 0 ≤ _), (by decide : 0 + 0 ≤ _)⟩)
  dsimp only [Pt.U, Pt.locs, Pt.cells, Pt.slots] at X524 l524 y524 z524 st524 hQ524
  subst l524 y524 z524
  obtain ⟨rfl, Nq524, hh524⟩ := hQ524
  have N524 := Fr.app N0 Nq524
  have k525 : Rch p e below S0 T524 (mkF m 4 #[vR sb, vU] [(.int (1 : Int32))]) := fun t h => k523 t (st524.trans h)
  have k527 : Rch p e below S0 T524 (mkF m 9 #[vR sb, vU] [(.ref sb)]) := fun t h => k525 t (by
      refine XS.ifYes X524.here hx rfl (pc0 := 4) (pc' := 8) rfl (hb hby d43_4) rfl ((if0 _ _).trans (feq (by decide : ¬ ((1 : Int32) = (0 : Int32)))).2) (by decide) (by decide) ?_
      refine XS.aloadN X524.here hx rfl (hb hby d43_8) rfl rfl ?_
      exact h)
  obtain ⟨T526, X526, e526, st526⟩ := getF X524 hx hZ hown (host := "") (Or.inl (hw _ (gm 56 rfl))) Via.refl hh524 Fv (g := (mkF m 9 #[vR sb, vU] [(.ref sb)])) rfl rfl (hb hby d43_9)
  have k528 : Rch p e below S0 T526 (mkF m 12 #[vR sb, vU] [(.ref tb)]) := fun t h => k527 t (st526 t h)
  obtain ⟨cl529, Ar529, q529, Sz529, Ng529, Hs529, G529⟩ := id Vb
  have k530 : Rch p e below S0 T526 (mkF m 13 #[vR sb, vU] [(.int (Int32.ofNat 16))]) := fun t h => k528 t (by
      refine X526.arraylength hx (by rw [e526]; exact Ar529.1) (State.isArrayOf_alike hZ.alike Ar529.2.1) (g := (mkF m 12 #[vR sb, vU] [(.ref tb)])) rfl rfl (hb hby d43_12) _ ?_
      rw [len_of Sz529 Ng529]
      exact h)
  obtain ⟨_, _, ⟨T531, L531, kk531, n531⟩, -, X531, ⟨Lc531, hQ531, l531, y531, z531⟩, st531⟩ := Jvm.LawKit.callS X526 hx (y := y_1) hown (mvT hZ (hw _ (gm 213 rfl))) (mvT hZ (hw _ (gm 193 rfl))) (mvT hZ (hw _ (gm 30 rfl))) (mvT hZ (hw _ (gm 194 rfl))) (by decide) (backOf (W := 0) (rmNF l Z a0 hw [] 16  h0 n0 O0 (by decide)) hZ (hw _ (gm 194 rfl)) (hw _ (gm 30 rfl)) (by decide) (by decide)) (g := (mkF m 13 #[vR sb, vU] [(.int (Int32.ofNat 16))])) rfl (by rw [hml]; rfl) (argsL := [(.int (Int32.ofNat 16))]) (rest := []) (lenOf pd_31 rfl) rfl (by show 2 * 0 + _ ≤ _; exact Nat.le_of_eq rfl) (hb hby d43_13) (fun _ _ => ⟨rfl, e526, (by decide : 0 + 1 ≤ _), (by decide : 0 + 32 ≤ _)⟩)
  dsimp only [Pt.U, Pt.locs, Pt.cells, Pt.slots] at X531 l531 y531 z531 st531 hQ531
  subst l531 y531 z531
  obtain ⟨b531, kb531, rfl, Nq531, E531, z531, V531⟩ := hQ531
  have N531 := Fr.app N524 Nq531
  have k532 : Rch p e below S0 T531 (mkF m 16 #[vR sb, vU] [(.ref b531)]) := fun t h => k530 t (st531 t h)
  have ne_sb_b531 : sb ≠ b531 := own_ne E_sb.lt z531
  have ne_tb_b531 : tb ≠ b531 := own_ne Vb.lt z531
  have ge_b531 : n0 ≤ b531 := own_ge O0 z531
  have sz_b531 : h0.size ≤ b531 := Nat.le_trans K0.1 z531
  have O533 := O0.ext E531
  have K534 := K0.ext E531
  replace E_sb := E_sb.ext E531
  replace Fc := Fc.ext E531
  replace Fv := Fv.ext E531
  replace Fn := Fn.ext E531
  replace Fm := Fm.ext E531
  replace Vb := Vb.ext E531
  have k536 : Rch p e below S0 T531 (mkF m 18 #[vR sb, vR b531] [(.ref sb)]) := fun t h => k532 t (by
      refine XS.astoreN X531.here hx rfl (hb hby d43_16) rfl rfl (l' := #[vR sb, vR b531]) rfl ?_
      refine XS.aloadN X531.here hx rfl (hb hby d43_17) rfl rfl ?_
      exact h)
  obtain ⟨T535, X535, e535, st535⟩ := getF X531 hx hZ hown (host := "") (Or.inl (hw _ (gm 56 rfl))) Via.refl rfl Fv (g := (mkF m 18 #[vR sb, vR b531] [(.ref sb)])) rfl rfl (hb hby d43_18)
  have k537 : Rch p e below S0 T535 (mkF m 21 #[vR sb, vR b531] [(.ref tb)]) := fun t h => k536 t (st535 t h)
  have k539 : Rch p e below S0 T535 (mkF m 25 #[vR sb, vR b531] [(.ref sb), (.int (0 : Int32)), (.ref b531), (.int (0 : Int32)), (.ref tb)]) := fun t h => k537 t (by
      refine XS.iconst X535.here hx rfl (hb hby d43_21) ?_
      refine XS.aloadN X535.here hx rfl (hb hby d43_22) rfl rfl ?_
      refine XS.iconst X535.here hx rfl (hb hby d43_23) ?_
      refine XS.aloadN X535.here hx rfl (hb hby d43_24) rfl rfl ?_
      exact h)
  obtain ⟨T538, X538, e538, st538⟩ := getF X535 hx hZ hown (host := "") (Or.inl (hw _ (gm 80 rfl))) Via.refl e535 Fn (g := (mkF m 25 #[vR sb, vR b531] [(.ref sb), (.int (0 : Int32)), (.ref b531), (.int (0 : Int32)), (.ref tb)])) rfl rfl (hb hby d43_25)
  have k540 : Rch p e below S0 T538 (mkF m 28 #[vR sb, vR b531] [(.int (Int32.ofNat bs.length)), (.int (0 : Int32)), (.ref b531), (.int (0 : Int32)), (.ref tb)]) := fun t h => k539 t (st538 t h)
  obtain ⟨_, _, ⟨T541, L541, kk541, n541⟩, -, X541, ⟨Lc541, hQ541, l541, y541, z541⟩, st541⟩ := Jvm.LawKit.callS X538 hx (y := y_47) hown (mvT hZ (hw _ (gm 214 rfl))) (mvT hZ (hw _ (gm 215 rfl))) (mvT hZ (hw _ (gm 94 rfl))) (mvT hZ (hw _ (gm 216 rfl))) (by decide) (backOf (W := 0) (rmLI l Z a0 hw []  tb b531 kb kb531 bs fm T531.heap n0 O533 SAs SHi SLo SP hfm ge_b531 ne_tb_b531 Vb V531 hp7 hb16) hZ (hw _ (gm 216 rfl)) (hw _ (gm 94 rfl)) (by decide) (by decide)) (g := (mkF m 28 #[vR sb, vR b531] [(.int (Int32.ofNat bs.length)), (.int (0 : Int32)), (.ref b531), (.int (0 : Int32)), (.ref tb)])) rfl (by rw [hml]; rfl) (argsL := [(.ref tb), (.int (0 : Int32)), (.ref b531), (.int (0 : Int32)), (.int (Int32.ofNat bs.length))]) (rest := []) (lenOf pd_34 rfl) rfl (by show 2 * 0 + _ ≤ _; exact Nat.le_of_eq rfl) (hb hby d43_28) (fun _ _ => ⟨rfl, e538, (by decide : 1 + 0 ≤ _), (by decide : 32 + 0 ≤ _)⟩)
  dsimp only [Pt.U, Pt.locs, Pt.cells, Pt.slots] at X541 l541 y541 z541 st541 hQ541
  subst l541 y541 z541
  obtain ⟨rfl, Nq541, K541, V541⟩ := hQ541
  have N541 := Fr.app N531 Nq541
  have k542 : Rch p e below S0 T541 (mkF m 31 #[vR sb, vR b531] []) := fun t h => k540 t (st541 t h)
  have O543 := O533.keep K541 (allS ge_b531 all0)
  have K544 := K534.trans K541 (allS (Or.inr sz_b531) all0)
  replace E_sb := E_sb.keep K541
  replace Fc := Fc.keep K541 (ninS ne_sb_b531 nin0)
  replace Fv := Fv.keep K541 (ninS ne_sb_b531 nin0)
  replace Fn := Fn.keep K541 (ninS ne_sb_b531 nin0)
  replace Fm := Fm.keep K541 (ninS ne_sb_b531 nin0)
  have k546 : Rch p e below S0 T541 (mkF m 33 #[vR sb, vR b531] [(.ref b531), (.ref sb)]) := fun t h => k542 t (by
      refine XS.aloadN X541.here hx rfl (hb hby d43_31) rfl rfl ?_
      refine XS.aloadN X541.here hx rfl (hb hby d43_32) rfl rfl ?_
      exact h)
  obtain ⟨T545, h545, X545, e545, W545, st545⟩ := putF X541 hx hZ hown (host := "") (Or.inl (hw _ (gm 56 rfl))) Via.refl rfl Fv E_sb (Or.inl (hw _ (gm 57 rfl))) (hw _ (gm 43 rfl)) (ty := (.array .byte)) (by decide) rfl rfl (g := (mkF m 33 #[vR sb, vR b531] [(.ref b531), (.ref sb)])) rfl rfl (hb hby d43_33)
  have k547 : Rch p e below S0 T545 (mkF m 36 #[vR sb, vR b531] []) := fun t h => k546 t (st545 t h)
  have N545 := Fr.snoc X545 N541 ge_sb
  replace Fv := Fv.same W545
  have O548 := O543.wr W545 ge_sb
  have K549 := K544.wr W545 (Or.inl (gm 0 rfl))
  replace E_sb := E_sb.wr W545
  replace Fc := Fc.other W545 (Or.inr (slot_ne (Or.inl (hw _ (gm 59 rfl))) (Or.inl (hw _ (gm 57 rfl))) (by decide) (t := .byte) (t' := (.array .byte)) (by decide) (by decide)))
  replace Fn := Fn.other W545 (Or.inr (slot_ne (Or.inl (hw _ (gm 81 rfl))) (Or.inl (hw _ (gm 57 rfl))) (by decide) (t := .int) (t' := (.array .byte)) (by decide) (by decide)))
  replace Fm := Fm.other W545 (Or.inr (slot_ne (Or.inl (hw _ (gm 233 rfl))) (Or.inl (hw _ (gm 57 rfl))) (by decide) (t := .boolean) (t' := (.array .byte)) (by decide) (by decide)))
  replace V541 := V541.other W545 (Ne.symm ne_sb_b531)
  have k551 : Rch p e below S0 T545 (mkF m 38 #[vR sb, vR b531] [(.int (1 : Int32)), (.ref sb)]) := fun t h => k547 t (by
      refine XS.aloadN X545.here hx rfl (hb hby d43_36) rfl rfl ?_
      refine XS.iconst X545.here hx rfl (hb hby d43_37) ?_
      exact h)
  obtain ⟨T550, h550, X550, e550, W550, st550⟩ := putFN X545 hx hZ hown (hw _ (gm 58 rfl)) Via.refl e545 Fc E_sb (Or.inl (hw _ (gm 59 rfl))) (hw _ (gm 43 rfl)) (ty := .byte) (v' := (.int (1 : Int32))) (by decide) (by decide) (by decide) (g := (mkF m 38 #[vR sb, vR b531] [(.int (1 : Int32)), (.ref sb)])) rfl rfl (hb hby d43_38)
  have k552 : Rch p e below S0 T550 (mkF m 41 #[vR sb, vR b531] []) := fun t h => k551 t (st550 t h)
  have N550 := Fr.snoc X550 N545 ge_sb
  replace Fc := Fc.same W550
  have O553 := O548.wr W550 ge_sb
  have K554 := K549.wr W550 (Or.inl (gm 0 rfl))
  replace E_sb := E_sb.wr W550
  replace Fn := Fn.other W550 (Or.inr (slot_ne (Or.inl (hw _ (gm 81 rfl))) (Or.inl (hw _ (gm 59 rfl))) (by decide) (t := .int) (t' := .byte) (by decide) (by decide)))
  replace Fm := Fm.other W550 (Or.inr (slot_ne (Or.inl (hw _ (gm 233 rfl))) (Or.inl (hw _ (gm 59 rfl))) (by decide) (t := .boolean) (t' := .byte) (by decide) (by decide)))
  replace Fv := Fv.other W550 (Or.inr (slot_ne (Or.inl (hw _ (gm 57 rfl))) (Or.inl (hw _ (gm 59 rfl))) (by decide) (t := (.array .byte)) (t' := .byte) (by decide) (by decide)))
  replace V541 := V541.other W550 (Ne.symm ne_sb_b531)
  obtain ⟨fs, hr, hrun, hended, hW, hsame⟩ := X550.leave (v := none) (fun _ => rfl)
  refine ⟨_, _, ?_, hrun, hended, _, _, rfl, ?_, ⟨_, rfl⟩, hW, hsame.mono (by decide) (by decide)⟩
  · rw [← hS0]
    refine k552 _ ?_
    show Steps p.tables e below (T550.setTop (mkF m 41 #[vR sb, vR b531] [])) _
    exact X550.returnOut hx Bd.returns (hb hby d43_41) hr
  · show Q_rmIF Z sb bs h0 n0 _ T550.heap _
    rw [e550]
    exact ⟨rfl, N550, K554, _, _, sz_b531, ne_sb_b531, Fc, Fv, Fn, Fm, V541⟩
def Q_rmC1 (Z : State)  (h0 : Heap) (n0 : Nat) (v : Option Value) (h : Heap) (L : List Loc) : Prop := v = some (.int (1 : Int32)) ∧ Fr n0 L ∧ h = h0
theorem rmC1 (l : Launch) (Z : State) (a0 : Array Value) (hw : HW Z a0) (ws : List Jvm.Cond) (a1 : Addr) (zC : Int32) (h0 : Heap) (n0 : Nat) (O0 : Old Z n0 h0) (SC : Sta Z Z.heap "java/lang/String" "COMPACT_STRINGS" "Z" (.int zC)) (hzC : ¬ zC = 0) (Sc : Fld Z h0 a1 "java/lang/String" "coder" "B" (.int (1 : Int32))) :
    MF l Z y_10 jdk_42_method_152_code 1 (some .byte) ws ({ frames := 0, cells := 0, slots := 0, locals := 0 } : Room) #[(.ref a1)] h0 (Q_rmC1 Z  h0 n0) := by
  refine MetFree.of_bodySF (plainFor_of_name pn_String) hisR ?_
  intro p e s m args below meth c s₁ Bd hml0 hP hK
  obtain ⟨rfl, hZ, hh⟩ := hP
  have hx := Bd.exec
  have hby := Bd.bytes
  have hml : c.maxLocals = 1 := hml0
  have hown : s.vm.findClass "java/lang/String" = some m.cls := findClass_of_methodNamed Bd.named
  have hnm := (name_of_methodNamed Bd.named Bd.method).1
  have X0 : Stand p l e ({ frames := 0, cells := 0, slots := 0, locals := 0 } : Room) s m #[(.ref a1)] below meth c s₁ [] 0 0 := Stand.of_body Bd
  have e0 : s₁.heap = h0 := by rw [← hh, Bd.state]; rfl
  have N0 := Fr.nil n0
  obtain ⟨S0, hS0⟩ : ∃ z, z = s₁.setTop (entryFrame m #[(.ref a1)] 1) := ⟨_, rfl⟩
  have k0 : Rch p e below S0 s₁ (mkF m 0 #[vR a1] []) := fun t kq => hS0 ▸ castTop (ef_12 m a1) kq
  obtain ⟨T555, X555, e555, st555⟩ := getS2 X0 hx hZ hown (host := "") (Or.inl (hw _ (gm 27 rfl))) Via.refl e0 (SC.ext O0.2) (g := (mkF m 0 #[vR a1] [])) rfl (hb hby d12_0)
  have k556 : Rch p e below S0 T555 (mkF m 3 #[vR a1] [(.int zC)]) := fun t h => k0 t (st555 t h)
  have k558 : Rch p e below S0 T555 (mkF m 7 #[vR a1] [(.ref a1)]) := fun t h => k556 t (by
      refine XS.ifNo X555.here hx rfl (hb hby d12_3) rfl ((if0 _ _).trans (feq (hzC : ¬ (zC = (0 : Int32)))).1) ?_
      refine XS.aloadN X555.here hx rfl (hb hby d12_6) rfl rfl ?_
      exact h)
  obtain ⟨T557, X557, e557, st557⟩ := getF X555 hx hZ hown (host := "") (Or.inl (hw _ (gm 26 rfl))) Via.refl e555 Sc (g := (mkF m 7 #[vR a1] [(.ref a1)])) rfl rfl (hb hby d12_7)
  have k559 : Rch p e below S0 T557 (mkF m 10 #[vR a1] [(.int (1 : Int32))]) := fun t h => k558 t (st557 t h)
  have k560 : Rch p e below S0 T557 (mkF m 14 #[vR a1] [(.int (1 : Int32))]) := fun t h => k559 t (by
      refine XS.goto X557.here hx rfl (pc0 := 10) (pc' := 14) rfl (hb hby d12_10) (by decide) (by decide) ?_
      exact h)
  obtain ⟨fs, hr, hrun, hended, hW, hsame⟩ := X557.leave (v := (some (.int (nar .byte (1 : Int32))))) (fun h => by rw [Bd.returns] at h; cases h)
  refine ⟨_, _, ?_, hrun, hended, _, _, rfl, ?_, ⟨_, rfl⟩, hW, hsame.mono (by decide) (by decide)⟩
  · rw [← hS0]
    refine k560 _ ?_
    show Steps p.tables e below (T557.setTop (mkF m 14 #[vR a1] [(.int (1 : Int32))])) _
    exact retN X557 hx (t := .byte) Bd.returns (by simp) (hb hby d12_14) hr
  · show Q_rmC1 Z  h0 n0 _ T557.heap _
    rw [e557]
    exact ⟨rfl, N0, rfl⟩
def Q_rmINu (Z : State) (sb : Addr) (bs : List Int32) (h0 : Heap) (n0 : Nat) (v : Option Value) (h : Heap) (L : List Loc) : Prop := v = none ∧ Fr n0 L ∧ Keep h0 h [sb] ∧ ∃ t2 k2, h0.size ≤ t2 ∧ sb ≠ t2 ∧ Fld Z h sb "java/lang/AbstractStringBuilder" "coder" "B" (.int (1 : Int32)) ∧ Fld Z h sb "java/lang/AbstractStringBuilder" "value" "[B" (.ref t2) ∧ Fld Z h sb "java/lang/AbstractStringBuilder" "count" "I" (.int (Int32.ofNat bs.length)) ∧ Fld Z h sb "java/lang/AbstractStringBuilder" "maybeLatin1" "Z" (.int (0 : Int32)) ∧ Arv Z h t2 k2 .byte (Int32.ofNat (2 * 16)) ((u16 bs).map Value.int) (.int (0 : Int32))
theorem d21_17 : decode jdk_68_method_71_code 17 = .ok (.aload_n 0, 1) := by decide +kernel
theorem pd_3 : parseMethodDescriptor "()V" = some ⟨[], none⟩ := by decide +kernel
theorem d21_18 : decode jdk_68_method_71_code 18 = .ok (.invokevirtual 195, 3) := by decide +kernel
theorem rmINu (l : Launch) (Z : State) (a0 : Array Value) (hw : HW Z a0) (ws : List Jvm.Cond) (sb : Addr) (a1 : Addr) (tb : Addr) (kb : ClassId) (bs : List Int32) (fm : Value) (zC : Int32) (h0 : Heap) (n0 : Nat) (O0 : Old Z n0 h0) (SC : Sta Z Z.heap "java/lang/String" "COMPACT_STRINGS" "Z" (.int zC)) (hzC : ¬ zC = 0) (SAs : Sta Z Z.heap "java/lang/StringUTF16" "$assertionsDisabled" "Z" (.int (1 : Int32))) (SHi : Sta Z Z.heap "java/lang/StringUTF16" "HI_BYTE_SHIFT" "I" (.int (0 : Int32))) (SLo : Sta Z Z.heap "java/lang/StringUTF16" "LO_BYTE_SHIFT" "I" (.int (8 : Int32))) (SP : Sta Z Z.heap "jdk/internal/util/Preconditions" "SIOOBE_FORMATTER" "Ljava/util/function/BiFunction;" fm) (hfm : fm = .null ∨ ∃ wP, fm = .ref wP) (ge_sb : n0 ≤ sb) (E_sb : Exa Z h0 sb "java/lang/StringBuilder") (Fc : Fld Z h0 sb "java/lang/AbstractStringBuilder" "coder" "B" (.int (0 : Int32))) (Fv : Fld Z h0 sb "java/lang/AbstractStringBuilder" "value" "[B" (.ref tb)) (Fn : Fld Z h0 sb "java/lang/AbstractStringBuilder" "count" "I" (.int (Int32.ofNat bs.length))) (Fm : Fld Z h0 sb "java/lang/AbstractStringBuilder" "maybeLatin1" "Z" (.int (0 : Int32))) (ne_sb_tb : sb ≠ tb) (Vb : Arv Z h0 tb kb .byte (Int32.ofNat 16) (bs.map Value.int) (.int (0 : Int32))) (hp7 : ∀ c ∈ bs, ¬ c < 0 ∧ ¬ (127 : Int32) < c) (hb16 : bs.length ≤ 16) (Ex : Exa Z h0 a1 "java/lang/String") (Sc : Fld Z h0 a1 "java/lang/String" "coder" "B" (.int (1 : Int32))) :
    MF l Z y_12 jdk_68_method_71_code 2 none ws ({ frames := 6, cells := 1, slots := 32, locals := 114 } : Room) #[(.ref sb), (.ref a1)] h0 (Q_rmINu Z sb bs h0 n0) := by
  refine MetFree.of_bodySF (plainFor_of_name pn_AbstractStringBuilder) hisR ?_
  intro p e s m args below meth c s₁ Bd hml0 hP hK
  obtain ⟨rfl, hZ, hh⟩ := hP
  have hx := Bd.exec
  have hby := Bd.bytes
  have hml : c.maxLocals = 2 := hml0
  have hown : s.vm.findClass "java/lang/AbstractStringBuilder" = some m.cls := findClass_of_methodNamed Bd.named
  have hnm := (name_of_methodNamed Bd.named Bd.method).1
  have X0 : Stand p l e ({ frames := 6, cells := 1, slots := 32, locals := 114 } : Room) s m #[(.ref sb), (.ref a1)] below meth c s₁ [] 0 0 := Stand.of_body Bd
  have e0 : s₁.heap = h0 := by rw [← hh, Bd.state]; rfl
  have N0 := Fr.nil n0
  obtain ⟨S0, hS0⟩ : ∃ z, z = s₁.setTop (entryFrame m #[(.ref sb), (.ref a1)] 2) := ⟨_, rfl⟩
  have k0 : Rch p e below S0 s₁ (mkF m 0 #[vR sb, vR a1] []) := fun t kq => hS0 ▸ castTop (ef_21 m sb a1) kq
  have K0 : Keep h0 h0 [sb] := Keep.refl h0 _
  obtain ⟨T561, X561, e561, st561⟩ := getS2 X0 hx hZ hown (host := "") (Or.inl (hw _ (gm 55 rfl))) Via.refl e0 (SC.ext O0.2) (g := (mkF m 0 #[vR sb, vR a1] [])) rfl (hb hby d21_0)
  have k562 : Rch p e below S0 T561 (mkF m 3 #[vR sb, vR a1] [(.int zC)]) := fun t h => k0 t (st561 t h)
  have k564 : Rch p e below S0 T561 (mkF m 7 #[vR sb, vR a1] [(.ref sb)]) := fun t h => k562 t (by
      refine XS.ifNo X561.here hx rfl (hb hby d21_3) rfl ((if0 _ _).trans (feq (hzC : ¬ (zC = (0 : Int32)))).1) ?_
      refine XS.aloadN X561.here hx rfl (hb hby d21_6) rfl rfl ?_
      exact h)
  obtain ⟨T563, X563, e563, st563⟩ := getF X561 hx hZ hown (host := "") (Or.inl (hw _ (gm 58 rfl))) Via.refl e561 Fc (g := (mkF m 7 #[vR sb, vR a1] [(.ref sb)])) rfl rfl (hb hby d21_7)
  have k565 : Rch p e below S0 T563 (mkF m 10 #[vR sb, vR a1] [(.int (0 : Int32))]) := fun t h => k564 t (st563 t h)
  have k566 : Rch p e below S0 T563 (mkF m 11 #[vR sb, vR a1] [(.ref a1), (.int (0 : Int32))]) := fun t h => k565 t (by
      refine XS.aloadN X563.here hx rfl (hb hby d21_10) rfl rfl ?_
      exact h)
  obtain ⟨cq567, kq567, q567a, q567b, q567c⟩ := isOf hZ e563 Ex
  obtain ⟨_, _, ⟨T567, L567, kk567, n567⟩, -, X567, ⟨Lc567, hQ567, l567, y567, z567⟩, st567⟩ := X563.virtualBack hx (y := y_10) (z := y_10) hown (mvT hZ (hw _ (gm 116 rfl))) (mvT hZ (hw _ (gm 66 rfl))) (notFace_of_selects (args := #[]) (mvT hZ (hw _ (gm 68 rfl)))) (mvT hZ (hw _ (gm 68 rfl))) (mvT hZ (hw _ (gm 67 rfl))) (by decide) (backOf (W := 1) (rmC1 l Z a0 hw [] a1 zC h0 n0 O0 SC hzC Sc) hZ (hw _ (gm 69 rfl)) (hw _ (gm 7 rfl)) (by decide) (by decide)) q567a q567c (g := (mkF m 11 #[vR sb, vR a1] [(.ref a1), (.int (0 : Int32))])) rfl (by rw [hml]; rfl) (Steps.refl _) (argsL := []) (rest := [(.int (0 : Int32))]) (lenOf pd_10 rfl) rfl (by show 2 * 0 + _ ≤ _; exact Nat.le_of_eq rfl) (hb hby d21_11) (fun _ _ => ⟨rfl, e563, (by decide : 0 + 0 ≤ _), (by decide : 0 + 0 ≤ _)⟩)
  dsimp only [Pt.U, Pt.locs, Pt.cells, Pt.slots] at X567 l567 y567 z567 st567 hQ567
  subst l567 y567 z567
  obtain ⟨rfl, Nq567, hh567⟩ := hQ567
  have N567 := Fr.app N0 Nq567
  have k568 : Rch p e below S0 T567 (mkF m 14 #[vR sb, vR a1] [(.int (1 : Int32)), (.int (0 : Int32))]) := fun t h => k566 t (st567.trans h)
  have k569 : Rch p e below S0 T567 (mkF m 18 #[vR sb, vR a1] [(.ref sb)]) := fun t h => k568 t (by
      refine XS.icmpNo X567.here hx rfl (hb hby d21_14) rfl (feq (by decide : ¬ ((0 : Int32) = (1 : Int32)))).1 ?_
      refine XS.aloadN X567.here hx rfl (hb hby d21_17) rfl rfl ?_
      exact h)
  obtain ⟨cq570, q570, q570'⟩ := E_sb.cell
  obtain ⟨_, _, ⟨T570, L570, kk570, n570⟩, -, X570, ⟨Lc570, hQ570, l570, y570, z570⟩, st570⟩ := X567.privateBack hx (y := y_48) hown (mvT hZ (hw _ (gm 208 rfl))) (mvT hZ (hw _ (gm 209 rfl))) (mvT hZ (own_selU (hw _ (gm 211 rfl)) (hw _ (gm 209 rfl)) (hw _ (gm 210 rfl)) (by decide))) (Cond.privateMethod_at (mvP hZ (hw _ (gm 210 rfl)) (args := #[]))) (mvT hZ (hw _ (gm 212 rfl))) (by decide) (backOf (W := 0) (rmIF l Z a0 hw [] sb tb kb bs fm zC h0 n0 O0 SC hzC SAs SHi SLo SP hfm ge_sb E_sb Fc Fv Fn Fm ne_sb_tb Vb hp7 hb16) hZ (hw _ (gm 212 rfl)) (hw _ (gm 52 rfl)) (by decide) (by decide)) (g := (mkF m 18 #[vR sb, vR a1] [(.ref sb)])) rfl (by rw [hml]; rfl) (Steps.refl _) (a := sb) (by rw [hh567]; exact q570) q570' (argsL := []) (rest := []) (lenOf pd_3 rfl) rfl (by show 2 * 0 + _ ≤ _; exact Nat.le_of_eq rfl) (hb hby d21_18) (fun _ _ => ⟨rfl, hh567, (by decide : 0 + 1 ≤ _), (by decide : 0 + 32 ≤ _)⟩)
  dsimp only [Pt.U, Pt.locs, Pt.cells, Pt.slots] at X570 l570 y570 z570 st570 hQ570
  subst l570 y570 z570
  obtain ⟨rfl, Nq570, K570, t570, k2570, z570, ne570, Fc570, Fv570, Fn570, Fm570, V570⟩ := hQ570
  have N570 := Fr.app N567 Nq570
  have k571 : Rch p e below S0 T570 (mkF m 21 #[vR sb, vR a1] []) := fun t h => k569 t (st570.trans h)
  have O572 := O0.keep K570 (allS ge_sb all0)
  have K573 := K0.trans K570 (allS (Or.inl (gm 0 rfl)) all0)
  replace E_sb := E_sb.keep K570
  obtain ⟨fs, hr, hrun, hended, hW, hsame⟩ := X570.leave (v := none) (fun _ => rfl)
  refine ⟨_, _, ?_, hrun, hended, _, _, rfl, ?_, ⟨_, rfl⟩, hW, hsame.mono (by decide) (by decide)⟩
  · rw [← hS0]
    refine k571 _ ?_
    show Steps p.tables e below (T570.setTop (mkF m 21 #[vR sb, vR a1] [])) _
    exact X570.returnOut hx Bd.returns (hb hby d21_21) hr
  · show Q_rmINu Z sb bs h0 n0 _ T570.heap _
    exact ⟨rfl, N570, K573, _, _, z570, ne570, Fc570, Fv570, Fn570, Fm570, V570⟩
def Q_rmGBu (Z : State) (t2 : Addr) (cs : List Int32) (k2 : ClassId) (bs : List Int32) (h0 : Heap) (n0 : Nat) (v : Option Value) (h : Heap) (L : List Loc) : Prop := v = none ∧ Fr n0 L ∧ Keep h0 h [t2] ∧ Arv Z h t2 k2 .byte (Int32.ofNat (2 * 16)) ((u16 (bs ++ cs)).map Value.int) (.int (0 : Int32))
theorem rmGBu (l : Launch) (Z : State) (a0 : Array Value) (hw : HW Z a0) (ws : List Jvm.Cond) (a1 : Addr) (t2 : Addr) (tt : Addr) (kt : ClassId) (cs : List Int32) (k2 : ClassId) (bs : List Int32) (zC : Int32) (h0 : Heap) (n0 : Nat) (O0 : Old Z n0 h0) (SC : Sta Z Z.heap "java/lang/String" "COMPACT_STRINGS" "Z" (.int zC)) (hzC : ¬ zC = 0) (Ex : Exa Z h0 a1 "java/lang/String") (Sv : Fld Z h0 a1 "java/lang/String" "value" "[B" (.ref tt)) (Sc : Fld Z h0 a1 "java/lang/String" "coder" "B" (.int (1 : Int32))) (Vt : Arv Z h0 tt kt .byte (Int32.ofNat (u16 cs).length) ((u16 cs).map Value.int) (.int (0 : Int32))) (ge_t2 : n0 ≤ t2) (V2 : Arv Z h0 t2 k2 .byte (Int32.ofNat (2 * 16)) ((u16 bs).map Value.int) (.int (0 : Int32))) (hsum : bs.length + cs.length ≤ 8) :
    MF l Z y_13 jdk_42_method_147_code 4 none ws ({ frames := 1, cells := 0, slots := 0, locals := 34 } : Room) #[(.ref a1), (.ref t2), (.int (Int32.ofNat bs.length)), (.int (1 : Int32))] h0 (Q_rmGBu Z t2 cs k2 bs h0 n0) := by
  refine MetFree.of_bodySF (plainFor_of_name pn_String) hisR ?_
  intro p e s m args below meth c s₁ Bd hml0 hP hK
  obtain ⟨rfl, hZ, hh⟩ := hP
  have hx := Bd.exec
  have hby := Bd.bytes
  have hml : c.maxLocals = 4 := hml0
  have hown : s.vm.findClass "java/lang/String" = some m.cls := findClass_of_methodNamed Bd.named
  have hnm := (name_of_methodNamed Bd.named Bd.method).1
  have X0 : Stand p l e ({ frames := 1, cells := 0, slots := 0, locals := 34 } : Room) s m #[(.ref a1), (.ref t2), (.int (Int32.ofNat bs.length)), (.int (1 : Int32))] below meth c s₁ [] 0 0 := Stand.of_body Bd
  have e0 : s₁.heap = h0 := by rw [← hh, Bd.state]; rfl
  have N0 := Fr.nil n0
  obtain ⟨S0, hS0⟩ : ∃ z, z = s₁.setTop (entryFrame m #[(.ref a1), (.ref t2), (.int (Int32.ofNat bs.length)), (.int (1 : Int32))] 4) := ⟨_, rfl⟩
  have k0 : Rch p e below S0 s₁ (mkF m 0 #[vR a1, vR t2, vI (Int32.ofNat bs.length), vI 1] []) := fun t kq => hS0 ▸ castTop (ef_22 m a1 t2 (Int32.ofNat bs.length) (1 : Int32)) kq
  have K0 : Keep h0 h0 [t2] := Keep.refl h0 _
  have lb := u16_len bs
  have lc := u16_len cs
  have hsh : Int32.ofNat bs.length <<< ((1 : Int32) &&& 31) = Int32.ofNat (u16 bs).length := by rw [lb]; exact own_dbl (by omega)
  have k574 : Rch p e below S0 s₁ (mkF m 1 #[vR a1, vR t2, vI (Int32.ofNat bs.length), vI 1] [(.ref a1)]) := fun t h => k0 t (by
      refine XS.aloadN X0.here hx rfl (hb hby d22_0) rfl rfl ?_
      exact h)
  obtain ⟨cq575, kq575, q575a, q575b, q575c⟩ := isOf hZ e0 Ex
  obtain ⟨_, _, ⟨T575, L575, kk575, n575⟩, -, X575, ⟨Lc575, hQ575, l575, y575, z575⟩, st575⟩ := X0.virtualBack hx (y := y_10) (z := y_10) hown (mvT hZ (hw _ (gm 65 rfl))) (mvT hZ (hw _ (gm 66 rfl))) (notFace_of_selects (args := #[]) (mvT hZ (hw _ (gm 68 rfl)))) (mvT hZ (hw _ (gm 68 rfl))) (mvT hZ (hw _ (gm 67 rfl))) (by decide) (backOf (W := 0) (rmC1 l Z a0 hw [] a1 zC h0 n0 O0 SC hzC Sc) hZ (hw _ (gm 69 rfl)) (hw _ (gm 7 rfl)) (by decide) (by decide)) q575a q575c (g := (mkF m 1 #[vR a1, vR t2, vI (Int32.ofNat bs.length), vI 1] [(.ref a1)])) rfl (by rw [hml]; rfl) (Steps.refl _) (argsL := []) (rest := []) (lenOf pd_10 rfl) rfl (by show 2 * 0 + _ ≤ _; exact Nat.le_of_eq rfl) (hb hby d22_1) (fun _ _ => ⟨rfl, e0, (by decide : 0 + 0 ≤ _), (by decide : 0 + 0 ≤ _)⟩)
  dsimp only [Pt.U, Pt.locs, Pt.cells, Pt.slots] at X575 l575 y575 z575 st575 hQ575
  subst l575 y575 z575
  obtain ⟨rfl, Nq575, hh575⟩ := hQ575
  have N575 := Fr.app N0 Nq575
  have k576 : Rch p e below S0 T575 (mkF m 4 #[vR a1, vR t2, vI (Int32.ofNat bs.length), vI 1] [(.int (1 : Int32))]) := fun t h => k574 t (st575.trans h)
  have k578 : Rch p e below S0 T575 (mkF m 9 #[vR a1, vR t2, vI (Int32.ofNat bs.length), vI 1] [(.ref a1)]) := fun t h => k576 t (by
      refine XS.iloadN X575.here hx rfl (hb hby d22_4) rfl ?_
      refine XS.icmpNo X575.here hx rfl (hb hby d22_5) rfl (teq (by decide : (1 : Int32) = (1 : Int32))).2 ?_
      refine XS.aloadN X575.here hx rfl (hb hby d22_8) rfl rfl ?_
      exact h)
  obtain ⟨T577, X577, e577, st577⟩ := getF X575 hx hZ hown (host := "") (Or.inl (hw _ (gm 25 rfl))) Via.refl hh575 Sv (g := (mkF m 9 #[vR a1, vR t2, vI (Int32.ofNat bs.length), vI 1] [(.ref a1)])) rfl rfl (hb hby d22_9)
  have k579 : Rch p e below S0 T577 (mkF m 12 #[vR a1, vR t2, vI (Int32.ofNat bs.length), vI 1] [(.ref tt)]) := fun t h => k578 t (st577 t h)
  have k581 : Rch p e below S0 T577 (mkF m 18 #[vR a1, vR t2, vI (Int32.ofNat bs.length), vI 1] [(.ref a1), (.int (Int32.ofNat (u16 bs).length)), (.ref t2), (.int (0 : Int32)), (.ref tt)]) := fun t h => k579 t (by
      refine XS.iconst X577.here hx rfl (hb hby d22_12) ?_
      refine XS.aloadN X577.here hx rfl (hb hby d22_13) rfl rfl ?_
      refine XS.iloadN X577.here hx rfl (hb hby d22_14) rfl ?_
      refine XS.iloadN X577.here hx rfl (hb hby d22_15) rfl ?_
      show Steps p.tables e below (T577.setTop (mkF m 16 #[vR a1, vR t2, vI (Int32.ofNat bs.length), vI 1] [(.int (1 : Int32)), (.int (Int32.ofNat bs.length)), (.ref t2), (.int (0 : Int32)), (.ref tt)])) _
      refine XS.ishl X577.here hx rfl (hb hby d22_16) rfl ?_
      rw [hsh]
      refine XS.aloadN X577.here hx rfl (hb hby d22_17) rfl rfl ?_
      exact h)
  obtain ⟨T580, X580, e580, st580⟩ := getF X577 hx hZ hown (host := "") (Or.inl (hw _ (gm 25 rfl))) Via.refl e577 Sv (g := (mkF m 18 #[vR a1, vR t2, vI (Int32.ofNat bs.length), vI 1] [(.ref a1), (.int (Int32.ofNat (u16 bs).length)), (.ref t2), (.int (0 : Int32)), (.ref tt)])) rfl rfl (hb hby d22_18)
  have k582 : Rch p e below S0 T580 (mkF m 21 #[vR a1, vR t2, vI (Int32.ofNat bs.length), vI 1] [(.ref tt), (.int (Int32.ofNat (u16 bs).length)), (.ref t2), (.int (0 : Int32)), (.ref tt)]) := fun t h => k581 t (st580 t h)
  obtain ⟨cl583, Ar583, q583, Sz583, Ng583, Hs583, G583⟩ := id Vt
  have k584 : Rch p e below S0 T580 (mkF m 22 #[vR a1, vR t2, vI (Int32.ofNat bs.length), vI 1] [(.int (Int32.ofNat (u16 cs).length)), (.int (Int32.ofNat (u16 bs).length)), (.ref t2), (.int (0 : Int32)), (.ref tt)]) := fun t h => k582 t (by
      refine X580.arraylength hx (by rw [e580]; exact Ar583.1) (State.isArrayOf_alike hZ.alike Ar583.2.1) (g := (mkF m 21 #[vR a1, vR t2, vI (Int32.ofNat bs.length), vI 1] [(.ref tt), (.int (Int32.ofNat (u16 bs).length)), (.ref t2), (.int (0 : Int32)), (.ref tt)])) rfl rfl (hb hby d22_21) _ ?_
      rw [len_of Sz583 Ng583]
      exact h)
  obtain ⟨T585, h585, L585, X585, e585, N585, K585, V585, st585⟩ := cpA X580 hx hZ hown (hw _ (gm 122 rfl)) (hw _ (gm 125 rfl)) (hw _ (gm 123 rfl)) (hw _ (gm 124 rfl)) e580 Vt (V2.pad (pad_rep ((u16 bs).map Value.int) (.int (0 : Int32)) 32)) (Or.inl ⟨rfl, rfl⟩) (by decide) (own_on0 (by omega)) (own_on0 (by omega)) (by rw [show ((0 : Int32)).toNatClampNeg = 0 from rfl]; omega) (by rw [(own_tn (i := (u16 bs).length) (by omega)).1, (own_tn (i := (u16 cs).length) (by omega)).1, (own_tn (i := 2 * 16) (by omega)).1]; omega) rfl (by rw [(own_tn (i := (u16 bs).length) (by omega)).1, (own_tn (i := (u16 cs).length) (by omega)).1, List.length_append, List.length_map, List.length_replicate]; omega) N575 ge_t2 (g := (mkF m 22 #[vR a1, vR t2, vI (Int32.ofNat bs.length), vI 1] [(.int (Int32.ofNat (u16 cs).length)), (.int (Int32.ofNat (u16 bs).length)), (.ref t2), (.int (0 : Int32)), (.ref tt)])) rfl (by rw [hml]; rfl) rfl (hb hby d22_22) (by decide) (W := 0) (by show 2 * 0 + _ ≤ _; exact Nat.le_of_eq rfl) (by decide)
  have k586 : Rch p e below S0 T585 (mkF m 25 #[vR a1, vR t2, vI (Int32.ofNat bs.length), vI 1] []) := fun t h => k584 t (st585 t h)
  rw [(own_tn (i := (u16 bs).length) (by omega)).1, (own_tn (i := (u16 cs).length) (by omega)).1, show ((0 : Int32)).toNatClampNeg = 0 from rfl] at V585
  replace V585 := own_cp ((u16 bs)) ((u16 cs)) (32) V585
  rw [← u16_app] at V585
  have O587 := O0.keep K585 (allS ge_t2 all0)
  have K588 := K0.trans K585 (allS (Or.inl (gm 0 rfl)) all0)
  have k589 : Rch p e below S0 T585 (mkF m 43 #[vR a1, vR t2, vI (Int32.ofNat bs.length), vI 1] []) := fun t h => k586 t (by
      refine XS.goto X585.here hx rfl (pc0 := 25) (pc' := 43) rfl (hb hby d22_25) (by decide) (by decide) ?_
      exact h)
  obtain ⟨fs, hr, hrun, hended, hW, hsame⟩ := X585.leave (v := none) (fun _ => rfl)
  refine ⟨_, _, ?_, hrun, hended, _, _, rfl, ?_, ⟨_, rfl⟩, hW, hsame.mono (by decide) (by decide)⟩
  · rw [← hS0]
    refine k589 _ ?_
    show Steps p.tables e below (T585.setTop (mkF m 43 #[vR a1, vR t2, vI (Int32.ofNat bs.length), vI 1] [])) _
    exact X585.returnOut hx Bd.returns (hb hby d22_43) hr
  · show Q_rmGBu Z t2 cs k2 bs h0 n0 _ T585.heap _
    rw [e585]
    exact ⟨rfl, N585, K588, V585⟩
def Q_rmPSu (Z : State) (sb : Addr) (cs : List Int32) (bs : List Int32) (h0 : Heap) (n0 : Nat) (v : Option Value) (h : Heap) (L : List Loc) : Prop := v = none ∧ Fr n0 L ∧ Keep h0 h [sb] ∧ ∃ t2 k2, h0.size ≤ t2 ∧ sb ≠ t2 ∧ Fld Z h sb "java/lang/AbstractStringBuilder" "coder" "B" (.int (1 : Int32)) ∧ Fld Z h sb "java/lang/AbstractStringBuilder" "value" "[B" (.ref t2) ∧ Fld Z h sb "java/lang/AbstractStringBuilder" "count" "I" (.int (Int32.ofNat bs.length)) ∧ Fld Z h sb "java/lang/AbstractStringBuilder" "maybeLatin1" "Z" (.int (0 : Int32)) ∧ Arv Z h t2 k2 .byte (Int32.ofNat (2 * 16)) ((u16 (bs ++ cs)).map Value.int) (.int (0 : Int32))
theorem rmPSu (l : Launch) (Z : State) (a0 : Array Value) (hw : HW Z a0) (ws : List Jvm.Cond) (sb : Addr) (a1 : Addr) (tb : Addr) (tt : Addr) (kt : ClassId) (cs : List Int32) (kb : ClassId) (bs : List Int32) (fm : Value) (zC : Int32) (h0 : Heap) (n0 : Nat) (O0 : Old Z n0 h0) (SC : Sta Z Z.heap "java/lang/String" "COMPACT_STRINGS" "Z" (.int zC)) (hzC : ¬ zC = 0) (SAs : Sta Z Z.heap "java/lang/StringUTF16" "$assertionsDisabled" "Z" (.int (1 : Int32))) (SHi : Sta Z Z.heap "java/lang/StringUTF16" "HI_BYTE_SHIFT" "I" (.int (0 : Int32))) (SLo : Sta Z Z.heap "java/lang/StringUTF16" "LO_BYTE_SHIFT" "I" (.int (8 : Int32))) (SP : Sta Z Z.heap "jdk/internal/util/Preconditions" "SIOOBE_FORMATTER" "Ljava/util/function/BiFunction;" fm) (hfm : fm = .null ∨ ∃ wP, fm = .ref wP) (ge_sb : n0 ≤ sb) (E_sb : Exa Z h0 sb "java/lang/StringBuilder") (Fc : Fld Z h0 sb "java/lang/AbstractStringBuilder" "coder" "B" (.int (0 : Int32))) (Fv : Fld Z h0 sb "java/lang/AbstractStringBuilder" "value" "[B" (.ref tb)) (Fn : Fld Z h0 sb "java/lang/AbstractStringBuilder" "count" "I" (.int (Int32.ofNat bs.length))) (Fm : Fld Z h0 sb "java/lang/AbstractStringBuilder" "maybeLatin1" "Z" (.int (0 : Int32))) (ne_sb_tb : sb ≠ tb) (Vb : Arv Z h0 tb kb .byte (Int32.ofNat 16) (bs.map Value.int) (.int (0 : Int32))) (hp7 : ∀ c ∈ bs, ¬ c < 0 ∧ ¬ (127 : Int32) < c) (hb16 : bs.length ≤ 16) (Ex : Exa Z h0 a1 "java/lang/String") (Sv : Fld Z h0 a1 "java/lang/String" "value" "[B" (.ref tt)) (Sc : Fld Z h0 a1 "java/lang/String" "coder" "B" (.int (1 : Int32))) (Vt : Arv Z h0 tt kt .byte (Int32.ofNat (u16 cs).length) ((u16 cs).map Value.int) (.int (0 : Int32))) (ne_a1_sb : a1 ≠ sb) (ne_tt_sb : tt ≠ sb) (hsum : bs.length + cs.length ≤ 8) :
    MF l Z y_14 jdk_68_method_73_code 3 none ws ({ frames := 7, cells := 1, slots := 32, locals := 130 } : Room) #[(.ref sb), (.int (Int32.ofNat bs.length)), (.ref a1)] h0 (Q_rmPSu Z sb cs bs h0 n0) := by
  refine MetFree.of_bodySF (plainFor_of_name pn_AbstractStringBuilder) hisR ?_
  intro p e s m args below meth c s₁ Bd hml0 hP hK
  obtain ⟨rfl, hZ, hh⟩ := hP
  have hx := Bd.exec
  have hby := Bd.bytes
  have hml : c.maxLocals = 3 := hml0
  have hown : s.vm.findClass "java/lang/AbstractStringBuilder" = some m.cls := findClass_of_methodNamed Bd.named
  have hnm := (name_of_methodNamed Bd.named Bd.method).1
  have X0 : Stand p l e ({ frames := 7, cells := 1, slots := 32, locals := 130 } : Room) s m #[(.ref sb), (.int (Int32.ofNat bs.length)), (.ref a1)] below meth c s₁ [] 0 0 := Stand.of_body Bd
  have e0 : s₁.heap = h0 := by rw [← hh, Bd.state]; rfl
  have N0 := Fr.nil n0
  obtain ⟨S0, hS0⟩ : ∃ z, z = s₁.setTop (entryFrame m #[(.ref sb), (.int (Int32.ofNat bs.length)), (.ref a1)] 3) := ⟨_, rfl⟩
  have k0 : Rch p e below S0 s₁ (mkF m 0 #[vR sb, vI (Int32.ofNat bs.length), vR a1] []) := fun t kq => hS0 ▸ castTop (ef_20 m sb (Int32.ofNat bs.length) a1) kq
  have K0 : Keep h0 h0 [sb] := Keep.refl h0 _
  have k590 : Rch p e below S0 s₁ (mkF m 2 #[vR sb, vI (Int32.ofNat bs.length), vR a1] [(.ref a1), (.ref sb)]) := fun t h => k0 t (by
      refine XS.aloadN X0.here hx rfl (hb hby d20_0) rfl rfl ?_
      refine XS.aloadN X0.here hx rfl (hb hby d20_1) rfl rfl ?_
      exact h)
  obtain ⟨cq591, q591, q591'⟩ := E_sb.cell
  obtain ⟨_, _, ⟨T591, L591, kk591, n591⟩, -, X591, ⟨Lc591, hQ591, l591, y591, z591⟩, st591⟩ := X0.privateBack hx (y := y_12) hown (mvT hZ (hw _ (gm 111 rfl))) (mvT hZ (hw _ (gm 112 rfl))) (mvT hZ (own_selU (hw _ (gm 114 rfl)) (hw _ (gm 112 rfl)) (hw _ (gm 113 rfl)) (by decide))) (Cond.privateMethod_at (mvP hZ (hw _ (gm 113 rfl)) (args := #[]))) (mvT hZ (hw _ (gm 115 rfl))) (by decide) (backOf (W := 0) (rmINu l Z a0 hw [] sb a1 tb kb bs fm zC h0 n0 O0 SC hzC SAs SHi SLo SP hfm ge_sb E_sb Fc Fv Fn Fm ne_sb_tb Vb hp7 hb16 Ex Sc) hZ (hw _ (gm 115 rfl)) (hw _ (gm 52 rfl)) (by decide) (by decide)) (g := (mkF m 2 #[vR sb, vI (Int32.ofNat bs.length), vR a1] [(.ref a1), (.ref sb)])) rfl (by rw [hml]; rfl) (Steps.refl _) (a := sb) (by rw [e0]; exact q591) q591' (argsL := [(.ref a1)]) (rest := []) (lenOf pd_18 rfl) rfl (by show 2 * 0 + _ ≤ _; exact Nat.le_of_eq rfl) (hb hby d20_2) (fun _ _ => ⟨rfl, e0, (by decide : 0 + 1 ≤ _), (by decide : 0 + 32 ≤ _)⟩)
  dsimp only [Pt.U, Pt.locs, Pt.cells, Pt.slots] at X591 l591 y591 z591 st591 hQ591
  subst l591 y591 z591
  obtain ⟨rfl, Nq591, K591, t591, k2591, z591, ne591, Fc591, Fv591, Fn591, Fm591, V591⟩ := hQ591
  have N591 := Fr.app N0 Nq591
  have k592 : Rch p e below S0 T591 (mkF m 5 #[vR sb, vI (Int32.ofNat bs.length), vR a1] []) := fun t h => k590 t (st591.trans h)
  have ne_a1_t591 : a1 ≠ t591 := own_ne Ex.lt z591
  have ne_tt_t591 : tt ≠ t591 := own_ne Vt.lt z591
  have ne_sb_t591 : sb ≠ t591 := own_ne E_sb.lt z591
  have ge_t591 : n0 ≤ t591 := own_ge O0 z591
  have sz_t591 : h0.size ≤ t591 := Nat.le_trans K0.1 z591
  have O593 := O0.keep K591 (allS ge_sb all0)
  have K594 := K0.trans K591 (allS (Or.inl (gm 0 rfl)) all0)
  replace Ex := Ex.keep K591
  replace Sv := Sv.keep K591 (ninS ne_a1_sb nin0)
  replace Sc := Sc.keep K591 (ninS ne_a1_sb nin0)
  replace Vt := Vt.keep K591 (ninS ne_tt_sb nin0)
  replace E_sb := E_sb.keep K591
  have k596 : Rch p e below S0 T591 (mkF m 7 #[vR sb, vI (Int32.ofNat bs.length), vR a1] [(.ref sb), (.ref a1)]) := fun t h => k592 t (by
      refine XS.aloadN X591.here hx rfl (hb hby d20_5) rfl rfl ?_
      refine XS.aloadN X591.here hx rfl (hb hby d20_6) rfl rfl ?_
      exact h)
  obtain ⟨T595, X595, e595, st595⟩ := getF X591 hx hZ hown (host := "") (Or.inl (hw _ (gm 56 rfl))) Via.refl rfl Fv591 (g := (mkF m 7 #[vR sb, vI (Int32.ofNat bs.length), vR a1] [(.ref sb), (.ref a1)])) rfl rfl (hb hby d20_7)
  have k597 : Rch p e below S0 T595 (mkF m 10 #[vR sb, vI (Int32.ofNat bs.length), vR a1] [(.ref t591), (.ref a1)]) := fun t h => k596 t (st595 t h)
  have k599 : Rch p e below S0 T595 (mkF m 12 #[vR sb, vI (Int32.ofNat bs.length), vR a1] [(.ref sb), (.int (Int32.ofNat bs.length)), (.ref t591), (.ref a1)]) := fun t h => k597 t (by
      refine XS.iloadN X595.here hx rfl (hb hby d20_10) rfl ?_
      refine XS.aloadN X595.here hx rfl (hb hby d20_11) rfl rfl ?_
      exact h)
  obtain ⟨T598, X598, e598, st598⟩ := getF X595 hx hZ hown (host := "") (Or.inl (hw _ (gm 58 rfl))) Via.refl e595 Fc591 (g := (mkF m 12 #[vR sb, vI (Int32.ofNat bs.length), vR a1] [(.ref sb), (.int (Int32.ofNat bs.length)), (.ref t591), (.ref a1)])) rfl rfl (hb hby d20_12)
  have k600 : Rch p e below S0 T598 (mkF m 15 #[vR sb, vI (Int32.ofNat bs.length), vR a1] [(.int (1 : Int32)), (.int (Int32.ofNat bs.length)), (.ref t591), (.ref a1)]) := fun t h => k599 t (st598 t h)
  obtain ⟨cq601, kq601, q601a, q601b, q601c⟩ := isOf hZ e598 Ex
  obtain ⟨_, _, ⟨T601, L601, kk601, n601⟩, -, X601, ⟨Lc601, hQ601, l601, y601, z601⟩, st601⟩ := X598.virtualBack hx (y := y_13) (z := y_13) hown (mvT hZ (hw _ (gm 117 rfl))) (mvT hZ (hw _ (gm 118 rfl))) (notFace_of_selects (args := #[]) (mvT hZ (hw _ (gm 120 rfl)))) (mvT hZ (hw _ (gm 120 rfl))) (mvT hZ (hw _ (gm 119 rfl))) (by decide) (backOf (W := 0) (rmGBu l Z a0 hw [] a1 t591 tt kt cs k2591 bs zC T591.heap n0 O593 SC hzC Ex Sv Sc Vt ge_t591 V591 hsum) hZ (hw _ (gm 121 rfl)) (hw _ (gm 7 rfl)) (by decide) (by decide)) q601a q601c (g := (mkF m 15 #[vR sb, vI (Int32.ofNat bs.length), vR a1] [(.int (1 : Int32)), (.int (Int32.ofNat bs.length)), (.ref t591), (.ref a1)])) rfl (by rw [hml]; rfl) (Steps.refl _) (argsL := [(.ref t591), (.int (Int32.ofNat bs.length)), (.int (1 : Int32))]) (rest := []) (lenOf pd_19 rfl) rfl (by show 2 * 0 + _ ≤ _; exact Nat.le_of_eq rfl) (hb hby d20_15) (fun _ _ => ⟨rfl, e598, (by decide : 1 + 0 ≤ _), (by decide : 32 + 0 ≤ _)⟩)
  dsimp only [Pt.U, Pt.locs, Pt.cells, Pt.slots] at X601 l601 y601 z601 st601 hQ601
  subst l601 y601 z601
  obtain ⟨rfl, Nq601, K601, V601⟩ := hQ601
  have N601 := Fr.app N591 Nq601
  have k602 : Rch p e below S0 T601 (mkF m 18 #[vR sb, vI (Int32.ofNat bs.length), vR a1] []) := fun t h => k600 t (st601.trans h)
  have O603 := O593.keep K601 (allS ge_t591 all0)
  have K604 := K594.trans K601 (allS (Or.inr sz_t591) all0)
  replace E_sb := E_sb.keep K601
  replace Fc591 := Fc591.keep K601 (ninS ne_sb_t591 nin0)
  replace Fv591 := Fv591.keep K601 (ninS ne_sb_t591 nin0)
  replace Fn591 := Fn591.keep K601 (ninS ne_sb_t591 nin0)
  replace Fm591 := Fm591.keep K601 (ninS ne_sb_t591 nin0)
  obtain ⟨fs, hr, hrun, hended, hW, hsame⟩ := X601.leave (v := none) (fun _ => rfl)
  refine ⟨_, _, ?_, hrun, hended, _, _, rfl, ?_, ⟨_, rfl⟩, hW, hsame.mono (by decide) (by decide)⟩
  · rw [← hS0]
    refine k602 _ ?_
    show Steps p.tables e below (T601.setTop (mkF m 18 #[vR sb, vI (Int32.ofNat bs.length), vR a1] [])) _
    exact X601.returnOut hx Bd.returns (hb hby d20_18) hr
  · show Q_rmPSu Z sb cs bs h0 n0 _ T601.heap _
    exact ⟨rfl, N601, K604, _, _, sz_t591, ne591, Fc591, Fv591, Fn591, Fm591, V601⟩
def Q_rmAAu (Z : State) (sb : Addr) (cs : List Int32) (bs : List Int32) (h0 : Heap) (n0 : Nat) (v : Option Value) (h : Heap) (L : List Loc) : Prop := v = some (.ref sb) ∧ Fr n0 L ∧ Keep h0 h [sb] ∧ ∃ t2 k2, h0.size ≤ t2 ∧ sb ≠ t2 ∧ Fld Z h sb "java/lang/AbstractStringBuilder" "coder" "B" (.int (1 : Int32)) ∧ Fld Z h sb "java/lang/AbstractStringBuilder" "value" "[B" (.ref t2) ∧ Fld Z h sb "java/lang/AbstractStringBuilder" "count" "I" (.int (Int32.ofNat (bs ++ cs).length)) ∧ Fld Z h sb "java/lang/AbstractStringBuilder" "maybeLatin1" "Z" (.int (0 : Int32)) ∧ Arv Z h t2 k2 .byte (Int32.ofNat (2 * 16)) ((u16 (bs ++ cs)).map Value.int) (.int (0 : Int32))
theorem rmAAu (l : Launch) (Z : State) (a0 : Array Value) (hw : HW Z a0) (ws : List Jvm.Cond) (sb : Addr) (a1 : Addr) (tb : Addr) (tt : Addr) (kt : ClassId) (cs : List Int32) (kb : ClassId) (bs : List Int32) (fm : Value) (zC : Int32) (h0 : Heap) (n0 : Nat) (O0 : Old Z n0 h0) (SC : Sta Z Z.heap "java/lang/String" "COMPACT_STRINGS" "Z" (.int zC)) (hzC : ¬ zC = 0) (SAs : Sta Z Z.heap "java/lang/StringUTF16" "$assertionsDisabled" "Z" (.int (1 : Int32))) (SHi : Sta Z Z.heap "java/lang/StringUTF16" "HI_BYTE_SHIFT" "I" (.int (0 : Int32))) (SLo : Sta Z Z.heap "java/lang/StringUTF16" "LO_BYTE_SHIFT" "I" (.int (8 : Int32))) (SP : Sta Z Z.heap "jdk/internal/util/Preconditions" "SIOOBE_FORMATTER" "Ljava/util/function/BiFunction;" fm) (hfm : fm = .null ∨ ∃ wP, fm = .ref wP) (ge_sb : n0 ≤ sb) (E_sb : Exa Z h0 sb "java/lang/StringBuilder") (Fc : Fld Z h0 sb "java/lang/AbstractStringBuilder" "coder" "B" (.int (0 : Int32))) (Fv : Fld Z h0 sb "java/lang/AbstractStringBuilder" "value" "[B" (.ref tb)) (Fn : Fld Z h0 sb "java/lang/AbstractStringBuilder" "count" "I" (.int (Int32.ofNat bs.length))) (Fm : Fld Z h0 sb "java/lang/AbstractStringBuilder" "maybeLatin1" "Z" (.int (0 : Int32))) (ne_sb_tb : sb ≠ tb) (Vb : Arv Z h0 tb kb .byte (Int32.ofNat 16) (bs.map Value.int) (.int (0 : Int32))) (hp7 : ∀ c ∈ bs, ¬ c < 0 ∧ ¬ (127 : Int32) < c) (hb16 : bs.length ≤ 16) (Ex : Exa Z h0 a1 "java/lang/String") (Sv : Fld Z h0 a1 "java/lang/String" "value" "[B" (.ref tt)) (Sc : Fld Z h0 a1 "java/lang/String" "coder" "B" (.int (1 : Int32))) (Vt : Arv Z h0 tt kt .byte (Int32.ofNat (u16 cs).length) ((u16 cs).map Value.int) (.int (0 : Int32))) (ne_a1_sb : a1 ≠ sb) (ne_tt_sb : tt ≠ sb) (hsum : bs.length + cs.length ≤ 8) :
    MF l Z y_16 jdk_68_method_22_code 3 (some (.object "java/lang/AbstractStringBuilder")) ws ({ frames := 8, cells := 1, slots := 32, locals := 148 } : Room) #[(.ref sb), (.ref a1)] h0 (Q_rmAAu Z sb cs bs h0 n0) := by
  refine MetFree.of_bodySF (plainFor_of_name pn_AbstractStringBuilder) hisR ?_
  intro p e s m args below meth c s₁ Bd hml0 hP hK
  obtain ⟨rfl, hZ, hh⟩ := hP
  have hx := Bd.exec
  have hby := Bd.bytes
  have hml : c.maxLocals = 3 := hml0
  have hown : s.vm.findClass "java/lang/AbstractStringBuilder" = some m.cls := findClass_of_methodNamed Bd.named
  have hnm := (name_of_methodNamed Bd.named Bd.method).1
  have X0 : Stand p l e ({ frames := 8, cells := 1, slots := 32, locals := 148 } : Room) s m #[(.ref sb), (.ref a1)] below meth c s₁ [] 0 0 := Stand.of_body Bd
  have e0 : s₁.heap = h0 := by rw [← hh, Bd.state]; rfl
  have N0 := Fr.nil n0
  obtain ⟨S0, hS0⟩ : ∃ z, z = s₁.setTop (entryFrame m #[(.ref sb), (.ref a1)] 3) := ⟨_, rfl⟩
  have k0 : Rch p e below S0 s₁ (mkF m 0 #[vR sb, vR a1, vU] []) := fun t kq => hS0 ▸ castTop (ef_19 m sb a1) kq
  have K0 : Keep h0 h0 [sb] := Keep.refl h0 _
  have k605 : Rch p e below S0 s₁ (mkF m 10 #[vR sb, vR a1, vU] [(.ref a1)]) := fun t h => k0 t (by
      refine XS.aloadN X0.here hx rfl (hb hby d19_0) rfl rfl ?_
      refine XS.ifnonnullYes X0.here hx rfl (pc0 := 1) (pc' := 9) rfl (hb hby d19_1) rfl (by decide) (by decide) ?_
      refine XS.aloadN X0.here hx rfl (hb hby d19_9) rfl rfl ?_
      exact h)
  obtain ⟨cq606, kq606, q606a, q606b, q606c⟩ := isOf hZ e0 Ex
  obtain ⟨_, _, ⟨T606, L606, kk606, n606⟩, -, X606, ⟨Lc606, hQ606, l606, y606, z606⟩, st606⟩ := X0.virtualBack hx (y := y_11) (z := y_11) hown (mvT hZ (hw _ (gm 105 rfl))) (mvT hZ (hw _ (gm 61 rfl))) (notFace_of_selects (args := #[]) (mvT hZ (hw _ (gm 63 rfl)))) (mvT hZ (hw _ (gm 63 rfl))) (mvT hZ (hw _ (gm 62 rfl))) (by decide) (backOf (W := 0) (rmLE l Z a0 hw [] a1 tt kt _ _ (1 : Int32) zC (Int32.ofNat cs.length) h0 n0 O0 SC hzC Ex Sv Sc Vt (by rw [u16_len]; exact own_half (by omega))) hZ (hw _ (gm 64 rfl)) (hw _ (gm 7 rfl)) (by decide) (by decide)) q606a q606c (g := (mkF m 10 #[vR sb, vR a1, vU] [(.ref a1)])) rfl (by rw [hml]; rfl) (Steps.refl _) (argsL := []) (rest := []) (lenOf pd_9 rfl) rfl (by show 2 * 0 + _ ≤ _; exact Nat.le_of_eq rfl) (hb hby d19_10) (fun _ _ => ⟨rfl, e0, (by decide : 0 + 0 ≤ _), (by decide : 0 + 0 ≤ _)⟩)
  dsimp only [Pt.U, Pt.locs, Pt.cells, Pt.slots] at X606 l606 y606 z606 st606 hQ606
  subst l606 y606 z606
  obtain ⟨rfl, Nq606, hh606⟩ := hQ606
  have N606 := Fr.app N0 Nq606
  have k607 : Rch p e below S0 T606 (mkF m 13 #[vR sb, vR a1, vU] [(.int (Int32.ofNat cs.length))]) := fun t h => k605 t (st606.trans h)
  have k609 : Rch p e below S0 T606 (mkF m 16 #[vR sb, vR a1, vI (Int32.ofNat cs.length)] [(.ref sb), (.ref sb)]) := fun t h => k607 t (by
      refine XS.istoreN X606.here hx rfl (hb hby d19_13) rfl (l' := #[vR sb, vR a1, vI (Int32.ofNat cs.length)]) rfl ?_
      refine XS.aloadN X606.here hx rfl (hb hby d19_14) rfl rfl ?_
      refine XS.aloadN X606.here hx rfl (hb hby d19_15) rfl rfl ?_
      exact h)
  obtain ⟨T608, X608, e608, st608⟩ := getF X606 hx hZ hown (host := "") (Or.inl (hw _ (gm 80 rfl))) Via.refl hh606 Fn (g := (mkF m 16 #[vR sb, vR a1, vI (Int32.ofNat cs.length)] [(.ref sb), (.ref sb)])) rfl rfl (hb hby d19_16)
  have k610 : Rch p e below S0 T608 (mkF m 19 #[vR sb, vR a1, vI (Int32.ofNat cs.length)] [(.int (Int32.ofNat bs.length)), (.ref sb)]) := fun t h => k609 t (st608 t h)
  have k611 : Rch p e below S0 T608 (mkF m 21 #[vR sb, vR a1, vI (Int32.ofNat cs.length)] [(.int (Int32.ofNat (bs ++ cs).length)), (.ref sb)]) := fun t h => k610 t (by
      refine XS.iloadN X608.here hx rfl (hb hby d19_19) rfl ?_
      show Steps p.tables e below (T608.setTop (mkF m 20 #[vR sb, vR a1, vI (Int32.ofNat cs.length)] [(.int (Int32.ofNat cs.length)), (.int (Int32.ofNat bs.length)), (.ref sb)])) _
      refine XS.iadd X608.here hx rfl (hb hby d19_20) rfl ?_
      rw [own_addl bs cs (by omega)]
      exact h)
  obtain ⟨cq612, q612, q612'⟩ := E_sb.cell
  obtain ⟨_, _, ⟨T612, L612, kk612, n612⟩, -, X612, ⟨Lc612, hQ612, l612, y612, z612⟩, st612⟩ := X608.privateBack hx (y := y_15) hown (mvT hZ (hw _ (gm 82 rfl))) (mvT hZ (hw _ (gm 83 rfl))) (mvT hZ (own_selU (hw _ (gm 85 rfl)) (hw _ (gm 83 rfl)) (hw _ (gm 84 rfl)) (by decide))) (Cond.privateMethod_at (mvP hZ (hw _ (gm 84 rfl)) (args := #[]))) (mvT hZ (hw _ (gm 86 rfl))) (by decide) (backOf (W := 0) (rmEC l Z a0 hw [] sb (bs ++ cs).length tb kb 16 bs h0 n0 O0 Fc Fv Vb (by rw [List.length_append]; omega) (by decide)) hZ (hw _ (gm 86 rfl)) (hw _ (gm 52 rfl)) (by decide) (by decide)) (g := (mkF m 21 #[vR sb, vR a1, vI (Int32.ofNat cs.length)] [(.int (Int32.ofNat (bs ++ cs).length)), (.ref sb)])) rfl (by rw [hml]; rfl) (Steps.refl _) (a := sb) (by rw [e608]; exact q612) q612' (argsL := [(.int (Int32.ofNat (bs ++ cs).length))]) (rest := []) (lenOf pd_8 rfl) rfl (by show 2 * 0 + _ ≤ _; exact Nat.le_of_eq rfl) (hb hby d19_21) (fun _ _ => ⟨rfl, e608, (by decide : 0 + 0 ≤ _), (by decide : 0 + 0 ≤ _)⟩)
  dsimp only [Pt.U, Pt.locs, Pt.cells, Pt.slots] at X612 l612 y612 z612 st612 hQ612
  subst l612 y612 z612
  obtain ⟨rfl, Nq612, hh612⟩ := hQ612
  have N612 := Fr.app N606 Nq612
  have k613 : Rch p e below S0 T612 (mkF m 24 #[vR sb, vR a1, vI (Int32.ofNat cs.length)] []) := fun t h => k611 t (st612.trans h)
  have k615 : Rch p e below S0 T612 (mkF m 26 #[vR sb, vR a1, vI (Int32.ofNat cs.length)] [(.ref sb), (.ref sb)]) := fun t h => k613 t (by
      refine XS.aloadN X612.here hx rfl (hb hby d19_24) rfl rfl ?_
      refine XS.aloadN X612.here hx rfl (hb hby d19_25) rfl rfl ?_
      exact h)
  obtain ⟨T614, X614, e614, st614⟩ := getF X612 hx hZ hown (host := "") (Or.inl (hw _ (gm 80 rfl))) Via.refl hh612 Fn (g := (mkF m 26 #[vR sb, vR a1, vI (Int32.ofNat cs.length)] [(.ref sb), (.ref sb)])) rfl rfl (hb hby d19_26)
  have k616 : Rch p e below S0 T614 (mkF m 29 #[vR sb, vR a1, vI (Int32.ofNat cs.length)] [(.int (Int32.ofNat bs.length)), (.ref sb)]) := fun t h => k615 t (st614 t h)
  have k617 : Rch p e below S0 T614 (mkF m 30 #[vR sb, vR a1, vI (Int32.ofNat cs.length)] [(.ref a1), (.int (Int32.ofNat bs.length)), (.ref sb)]) := fun t h => k616 t (by
      refine XS.aloadN X614.here hx rfl (hb hby d19_29) rfl rfl ?_
      exact h)
  obtain ⟨cq618, q618, q618'⟩ := E_sb.cell
  obtain ⟨_, _, ⟨T618, L618, kk618, n618⟩, -, X618, ⟨Lc618, hQ618, l618, y618, z618⟩, st618⟩ := X614.privateBack hx (y := y_14) hown (mvT hZ (hw _ (gm 106 rfl))) (mvT hZ (hw _ (gm 107 rfl))) (mvT hZ (own_selU (hw _ (gm 109 rfl)) (hw _ (gm 107 rfl)) (hw _ (gm 108 rfl)) (by decide))) (Cond.privateMethod_at (mvP hZ (hw _ (gm 108 rfl)) (args := #[]))) (mvT hZ (hw _ (gm 110 rfl))) (by decide) (backOf (W := 0) (rmPSu l Z a0 hw [] sb a1 tb tt kt cs kb bs fm zC h0 n0 O0 SC hzC SAs SHi SLo SP hfm ge_sb E_sb Fc Fv Fn Fm ne_sb_tb Vb hp7 hb16 Ex Sv Sc Vt ne_a1_sb ne_tt_sb hsum) hZ (hw _ (gm 110 rfl)) (hw _ (gm 52 rfl)) (by decide) (by decide)) (g := (mkF m 30 #[vR sb, vR a1, vI (Int32.ofNat cs.length)] [(.ref a1), (.int (Int32.ofNat bs.length)), (.ref sb)])) rfl (by rw [hml]; rfl) (Steps.refl _) (a := sb) (by rw [e614]; exact q618) q618' (argsL := [(.int (Int32.ofNat bs.length)), (.ref a1)]) (rest := []) (lenOf pd_17 rfl) rfl (by show 2 * 0 + _ ≤ _; exact Nat.le_of_eq rfl) (hb hby d19_30) (fun _ _ => ⟨rfl, e614, (by decide : 0 + 1 ≤ _), (by decide : 0 + 32 ≤ _)⟩)
  dsimp only [Pt.U, Pt.locs, Pt.cells, Pt.slots] at X618 l618 y618 z618 st618 hQ618
  subst l618 y618 z618
  obtain ⟨rfl, Nq618, K618, t618, k2618, z618, ne618, Fc618, Fv618, Fn618, Fm618, V618⟩ := hQ618
  have N618 := Fr.app N612 Nq618
  have k619 : Rch p e below S0 T618 (mkF m 33 #[vR sb, vR a1, vI (Int32.ofNat cs.length)] []) := fun t h => k617 t (st618.trans h)
  have ne_sb_t618 : sb ≠ t618 := own_ne E_sb.lt z618
  have ge_t618 : n0 ≤ t618 := own_ge O0 z618
  have sz_t618 : h0.size ≤ t618 := Nat.le_trans K0.1 z618
  have O620 := O0.keep K618 (allS ge_sb all0)
  have K621 := K0.trans K618 (allS (Or.inl (gm 0 rfl)) all0)
  replace E_sb := E_sb.keep K618
  have k623 : Rch p e below S0 T618 (mkF m 35 #[vR sb, vR a1, vI (Int32.ofNat cs.length)] [(.ref sb), (.ref sb)]) := fun t h => k619 t (by
      refine XS.aloadN X618.here hx rfl (hb hby d19_33) rfl rfl ?_
      refine XS.dup X618.here hx rfl (hb hby d19_34) rfl rfl ?_
      exact h)
  obtain ⟨T622, X622, e622, st622⟩ := getF X618 hx hZ hown (host := "") (Or.inl (hw _ (gm 80 rfl))) Via.refl rfl Fn618 (g := (mkF m 35 #[vR sb, vR a1, vI (Int32.ofNat cs.length)] [(.ref sb), (.ref sb)])) rfl rfl (hb hby d19_35)
  have k624 : Rch p e below S0 T622 (mkF m 38 #[vR sb, vR a1, vI (Int32.ofNat cs.length)] [(.int (Int32.ofNat bs.length)), (.ref sb)]) := fun t h => k623 t (st622 t h)
  have k626 : Rch p e below S0 T622 (mkF m 40 #[vR sb, vR a1, vI (Int32.ofNat cs.length)] [(.int (Int32.ofNat (bs ++ cs).length)), (.ref sb)]) := fun t h => k624 t (by
      refine XS.iloadN X622.here hx rfl (hb hby d19_38) rfl ?_
      show Steps p.tables e below (T622.setTop (mkF m 39 #[vR sb, vR a1, vI (Int32.ofNat cs.length)] [(.int (Int32.ofNat cs.length)), (.int (Int32.ofNat bs.length)), (.ref sb)])) _
      refine XS.iadd X622.here hx rfl (hb hby d19_39) rfl ?_
      rw [own_addl bs cs (by omega)]
      exact h)
  obtain ⟨T625, h625, X625, e625, W625, st625⟩ := putF X622 hx hZ hown (host := "") (Or.inl (hw _ (gm 80 rfl))) Via.refl e622 Fn618 E_sb (Or.inl (hw _ (gm 81 rfl))) (hw _ (gm 43 rfl)) (ty := .int) (by decide) rfl rfl (g := (mkF m 40 #[vR sb, vR a1, vI (Int32.ofNat cs.length)] [(.int (Int32.ofNat (bs ++ cs).length)), (.ref sb)])) rfl rfl (hb hby d19_40)
  have k627 : Rch p e below S0 T625 (mkF m 43 #[vR sb, vR a1, vI (Int32.ofNat cs.length)] []) := fun t h => k626 t (st625 t h)
  have N625 := Fr.snoc X625 N618 ge_sb
  replace Fn618 := Fn618.same W625
  have O628 := O620.wr W625 ge_sb
  have K629 := K621.wr W625 (Or.inl (gm 0 rfl))
  replace E_sb := E_sb.wr W625
  replace Fc618 := Fc618.other W625 (Or.inr (slot_ne (Or.inl (hw _ (gm 59 rfl))) (Or.inl (hw _ (gm 81 rfl))) (by decide) (t := .byte) (t' := .int) (by decide) (by decide)))
  replace Fv618 := Fv618.other W625 (Or.inr (slot_ne (Or.inl (hw _ (gm 57 rfl))) (Or.inl (hw _ (gm 81 rfl))) (by decide) (t := (.array .byte)) (t' := .int) (by decide) (by decide)))
  replace Fm618 := Fm618.other W625 (Or.inr (slot_ne (Or.inl (hw _ (gm 233 rfl))) (Or.inl (hw _ (gm 81 rfl))) (by decide) (t := .boolean) (t' := .int) (by decide) (by decide)))
  replace V618 := V618.other W625 (Ne.symm ne_sb_t618)
  have k630 : Rch p e below S0 T625 (mkF m 44 #[vR sb, vR a1, vI (Int32.ofNat cs.length)] [(.ref sb)]) := fun t h => k627 t (by
      refine XS.aloadN X625.here hx rfl (hb hby d19_43) rfl rfl ?_
      exact h)
  obtain ⟨fs, hr, hrun, hended, hW, hsame⟩ := X625.leave (v := (some (.ref sb))) (fun h => by rw [Bd.returns] at h; cases h)
  refine ⟨_, _, ?_, hrun, hended, _, _, rfl, ?_, ⟨_, rfl⟩, hW, hsame.mono (by decide) (by decide)⟩
  · rw [← hS0]
    refine k630 _ ?_
    show Steps p.tables e below (T625.setTop (mkF m 44 #[vR sb, vR a1, vI (Int32.ofNat cs.length)] [(.ref sb)])) _
    jvm_step X625.here [X625.here.top, hx, (hb hby d19_44), X625.method', Bd.returns, Value.isRef, FieldType.isReference]
    first | (intro acts; rw [hr _ acts rfl rfl rfl]) | rw [hr _ _ rfl rfl rfl]
    exact Steps.refl _
  · show Q_rmAAu Z sb cs bs h0 n0 _ T625.heap _
    rw [e625]
    exact ⟨rfl, N625, K629, _, _, sz_t618, ne618, Fc618, Fv618, Fn618, Fm618, V618⟩
def Q_rmASu (Z : State) (sb : Addr) (cs : List Int32) (bs : List Int32) (h0 : Heap) (n0 : Nat) (v : Option Value) (h : Heap) (L : List Loc) : Prop := v = some (.ref sb) ∧ Fr n0 L ∧ Keep h0 h [sb] ∧ ∃ t2 k2, h0.size ≤ t2 ∧ sb ≠ t2 ∧ Fld Z h sb "java/lang/AbstractStringBuilder" "coder" "B" (.int (1 : Int32)) ∧ Fld Z h sb "java/lang/AbstractStringBuilder" "value" "[B" (.ref t2) ∧ Fld Z h sb "java/lang/AbstractStringBuilder" "count" "I" (.int (Int32.ofNat (bs ++ cs).length)) ∧ Fld Z h sb "java/lang/AbstractStringBuilder" "maybeLatin1" "Z" (.int (0 : Int32)) ∧ Arv Z h t2 k2 .byte (Int32.ofNat (2 * 16)) ((u16 (bs ++ cs)).map Value.int) (.int (0 : Int32))
theorem rmASu (l : Launch) (Z : State) (a0 : Array Value) (hw : HW Z a0) (ws : List Jvm.Cond) (sb : Addr) (a1 : Addr) (tb : Addr) (tt : Addr) (kt : ClassId) (cs : List Int32) (kb : ClassId) (bs : List Int32) (fm : Value) (zC : Int32) (h0 : Heap) (n0 : Nat) (O0 : Old Z n0 h0) (SC : Sta Z Z.heap "java/lang/String" "COMPACT_STRINGS" "Z" (.int zC)) (hzC : ¬ zC = 0) (SAs : Sta Z Z.heap "java/lang/StringUTF16" "$assertionsDisabled" "Z" (.int (1 : Int32))) (SHi : Sta Z Z.heap "java/lang/StringUTF16" "HI_BYTE_SHIFT" "I" (.int (0 : Int32))) (SLo : Sta Z Z.heap "java/lang/StringUTF16" "LO_BYTE_SHIFT" "I" (.int (8 : Int32))) (SP : Sta Z Z.heap "jdk/internal/util/Preconditions" "SIOOBE_FORMATTER" "Ljava/util/function/BiFunction;" fm) (hfm : fm = .null ∨ ∃ wP, fm = .ref wP) (ge_sb : n0 ≤ sb) (E_sb : Exa Z h0 sb "java/lang/StringBuilder") (Fc : Fld Z h0 sb "java/lang/AbstractStringBuilder" "coder" "B" (.int (0 : Int32))) (Fv : Fld Z h0 sb "java/lang/AbstractStringBuilder" "value" "[B" (.ref tb)) (Fn : Fld Z h0 sb "java/lang/AbstractStringBuilder" "count" "I" (.int (Int32.ofNat bs.length))) (Fm : Fld Z h0 sb "java/lang/AbstractStringBuilder" "maybeLatin1" "Z" (.int (0 : Int32))) (ne_sb_tb : sb ≠ tb) (Vb : Arv Z h0 tb kb .byte (Int32.ofNat 16) (bs.map Value.int) (.int (0 : Int32))) (hp7 : ∀ c ∈ bs, ¬ c < 0 ∧ ¬ (127 : Int32) < c) (hb16 : bs.length ≤ 16) (Ex : Exa Z h0 a1 "java/lang/String") (Sv : Fld Z h0 a1 "java/lang/String" "value" "[B" (.ref tt)) (Sc : Fld Z h0 a1 "java/lang/String" "coder" "B" (.int (1 : Int32))) (Vt : Arv Z h0 tt kt .byte (Int32.ofNat (u16 cs).length) ((u16 cs).map Value.int) (.int (0 : Int32))) (ne_a1_sb : a1 ≠ sb) (ne_tt_sb : tt ≠ sb) (hsum : bs.length + cs.length ≤ 8) :
    MF l Z y_17 jdk_67_method_7_code 2 (some (.object "java/lang/StringBuilder")) ws ({ frames := 9, cells := 1, slots := 32, locals := 166 } : Room) #[(.ref sb), (.ref a1)] h0 (Q_rmASu Z sb cs bs h0 n0) := by
  refine MetFree.of_bodySF (plainFor_of_name pn_StringBuilder) hisR ?_
  intro p e s m args below meth c s₁ Bd hml0 hP hK
  obtain ⟨rfl, hZ, hh⟩ := hP
  have hx := Bd.exec
  have hby := Bd.bytes
  have hml : c.maxLocals = 2 := hml0
  have hown : s.vm.findClass "java/lang/StringBuilder" = some m.cls := findClass_of_methodNamed Bd.named
  have hnm := (name_of_methodNamed Bd.named Bd.method).1
  have X0 : Stand p l e ({ frames := 9, cells := 1, slots := 32, locals := 166 } : Room) s m #[(.ref sb), (.ref a1)] below meth c s₁ [] 0 0 := Stand.of_body Bd
  have e0 : s₁.heap = h0 := by rw [← hh, Bd.state]; rfl
  have N0 := Fr.nil n0
  obtain ⟨S0, hS0⟩ : ∃ z, z = s₁.setTop (entryFrame m #[(.ref sb), (.ref a1)] 2) := ⟨_, rfl⟩
  have k0 : Rch p e below S0 s₁ (mkF m 0 #[vR sb, vR a1] []) := fun t kq => hS0 ▸ castTop (ef_18 m sb a1) kq
  have K0 : Keep h0 h0 [sb] := Keep.refl h0 _
  have k631 : Rch p e below S0 s₁ (mkF m 2 #[vR sb, vR a1] [(.ref a1), (.ref sb)]) := fun t h => k0 t (by
      refine XS.aloadN X0.here hx rfl (hb hby d18_0) rfl rfl ?_
      refine XS.aloadN X0.here hx rfl (hb hby d18_1) rfl rfl ?_
      exact h)
  obtain ⟨_, _, ⟨T632, L632, kk632, n632⟩, -, X632, ⟨Lc632, hQ632, l632, y632, z632⟩, st632⟩ := superBack X0 hx hZ (y := y_16) hown (hw _ (gm 101 rfl)) (own_same (y := y_16) (y' := y_15) rfl (hw _ (gm 85 rfl)) (hw _ (gm 102 rfl)) (by decide)) (hw _ (gm 102 rfl)) (hw _ (gm 77 rfl)) (by decide) (backOf (W := 0) (rmAAu l Z a0 hw [] sb a1 tb tt kt cs kb bs fm zC h0 n0 O0 SC hzC SAs SHi SLo SP hfm ge_sb E_sb Fc Fv Fn Fm ne_sb_tb Vb hp7 hb16 Ex Sv Sc Vt ne_a1_sb ne_tt_sb hsum) hZ (hw _ (gm 104 rfl)) (hw _ (gm 52 rfl)) (by decide) (by decide)) e0 (Ins.self E_sb) (g := (mkF m 2 #[vR sb, vR a1] [(.ref a1), (.ref sb)])) rfl (by rw [hml]; rfl) (hw _ (gm 104 rfl)) (argsL := [(.ref a1)]) (rest := []) (lenOf pd_16 rfl) rfl (by show 2 * 0 + _ ≤ _; exact Nat.le_of_eq rfl) (hb hby d18_2) (fun _ _ => ⟨rfl, e0, (by decide : 0 + 1 ≤ _), (by decide : 0 + 32 ≤ _)⟩)
  dsimp only [Pt.U, Pt.locs, Pt.cells, Pt.slots] at X632 l632 y632 z632 st632 hQ632
  subst l632 y632 z632
  obtain ⟨rfl, Nq632, K632, t632, k2632, z632, ne632, Fc632, Fv632, Fn632, Fm632, V632⟩ := hQ632
  have N632 := Fr.app N0 Nq632
  have k633 : Rch p e below S0 T632 (mkF m 5 #[vR sb, vR a1] [(.ref sb)]) := fun t h => k631 t (st632.trans h)
  have szt632 := Nat.le_trans K0.1 z632
  have O634 := O0.keep K632 (allS ge_sb all0)
  have K635 := K0.trans K632 (allS (Or.inl (gm 0 rfl)) all0)
  replace E_sb := E_sb.keep K632
  have k636 : Rch p e below S0 T632 (mkF m 7 #[vR sb, vR a1] [(.ref sb)]) := fun t h => k633 t (by
      refine XS.pop X632.here hx rfl (hb hby d18_5) rfl rfl ?_
      refine XS.aloadN X632.here hx rfl (hb hby d18_6) rfl rfl ?_
      exact h)
  obtain ⟨fs, hr, hrun, hended, hW, hsame⟩ := X632.leave (v := (some (.ref sb))) (fun h => by rw [Bd.returns] at h; cases h)
  refine ⟨_, _, ?_, hrun, hended, _, _, rfl, ?_, ⟨_, rfl⟩, hW, hsame.mono (by decide) (by decide)⟩
  · rw [← hS0]
    refine k636 _ ?_
    show Steps p.tables e below (T632.setTop (mkF m 7 #[vR sb, vR a1] [(.ref sb)])) _
    jvm_step X632.here [X632.here.top, hx, (hb hby d18_7), X632.method', Bd.returns, Value.isRef, FieldType.isReference]
    first | (intro acts; rw [hr _ acts rfl rfl rfl]) | rw [hr _ _ rfl rfl rfl]
    exact Steps.refl _
  · show Q_rmASu Z sb cs bs h0 n0 _ T632.heap _
    exact ⟨rfl, N632, K635, _, _, szt632, ne632, Fc632, Fv632, Fn632, Fm632, V632⟩
def Q_rmIAu (Z : State)  (h0 : Heap) (n0 : Nat) (v : Option Value) (h : Heap) (L : List Loc) : Prop := v = some (.int (0 : Int32)) ∧ Fr n0 L ∧ h = h0
theorem d16_17 : decode jdk_68_method_68_code 17 = .ok (.iconst 0, 1) := by decide +kernel
theorem rmIAu (l : Launch) (Z : State) (a0 : Array Value) (hw : HW Z a0) (ws : List Jvm.Cond) (sb : Addr) (zC : Int32) (h0 : Heap) (n0 : Nat) (O0 : Old Z n0 h0) (SC : Sta Z Z.heap "java/lang/String" "COMPACT_STRINGS" "Z" (.int zC)) (hzC : ¬ zC = 0) (Fc : Fld Z h0 sb "java/lang/AbstractStringBuilder" "coder" "B" (.int (1 : Int32))) :
    MF l Z y_21 jdk_68_method_68_code 1 (some .boolean) ws ({ frames := 0, cells := 0, slots := 0, locals := 0 } : Room) #[(.ref sb)] h0 (Q_rmIAu Z  h0 n0) := by
  refine MetFree.of_bodySF (plainFor_of_name pn_AbstractStringBuilder) hisR ?_
  intro p e s m args below meth c s₁ Bd hml0 hP hK
  obtain ⟨rfl, hZ, hh⟩ := hP
  have hx := Bd.exec
  have hby := Bd.bytes
  have hml : c.maxLocals = 1 := hml0
  have hown : s.vm.findClass "java/lang/AbstractStringBuilder" = some m.cls := findClass_of_methodNamed Bd.named
  have hnm := (name_of_methodNamed Bd.named Bd.method).1
  have X0 : Stand p l e ({ frames := 0, cells := 0, slots := 0, locals := 0 } : Room) s m #[(.ref sb)] below meth c s₁ [] 0 0 := Stand.of_body Bd
  have e0 : s₁.heap = h0 := by rw [← hh, Bd.state]; rfl
  have N0 := Fr.nil n0
  obtain ⟨S0, hS0⟩ : ∃ z, z = s₁.setTop (entryFrame m #[(.ref sb)] 1) := ⟨_, rfl⟩
  have k0 : Rch p e below S0 s₁ (mkF m 0 #[vR sb] []) := fun t kq => hS0 ▸ castTop (ef_16 m sb) kq
  obtain ⟨T637, X637, e637, st637⟩ := getS2 X0 hx hZ hown (host := "") (Or.inl (hw _ (gm 55 rfl))) Via.refl e0 (SC.ext O0.2) (g := (mkF m 0 #[vR sb] [])) rfl (hb hby d16_0)
  have k638 : Rch p e below S0 T637 (mkF m 3 #[vR sb] [(.int zC)]) := fun t h => k0 t (st637 t h)
  have k640 : Rch p e below S0 T637 (mkF m 7 #[vR sb] [(.ref sb)]) := fun t h => k638 t (by
      refine XS.ifNo X637.here hx rfl (hb hby d16_3) rfl ((if0 _ _).trans (feq (hzC : ¬ (zC = (0 : Int32)))).1) ?_
      refine XS.aloadN X637.here hx rfl (hb hby d16_6) rfl rfl ?_
      exact h)
  obtain ⟨T639, X639, e639, st639⟩ := getF X637 hx hZ hown (host := "") (Or.inl (hw _ (gm 58 rfl))) Via.refl e637 Fc (g := (mkF m 7 #[vR sb] [(.ref sb)])) rfl rfl (hb hby d16_7)
  have k641 : Rch p e below S0 T639 (mkF m 10 #[vR sb] [(.int (1 : Int32))]) := fun t h => k640 t (st639 t h)
  have k642 : Rch p e below S0 T639 (mkF m 18 #[vR sb] [(.int (0 : Int32))]) := fun t h => k641 t (by
      refine XS.ifYes X639.here hx rfl (pc0 := 10) (pc' := 17) rfl (hb hby d16_10) rfl ((if0 _ _).trans (feq (by decide : ¬ ((1 : Int32) = (0 : Int32)))).2) (by decide) (by decide) ?_
      refine XS.iconst X639.here hx rfl (hb hby d16_17) ?_
      exact h)
  obtain ⟨fs, hr, hrun, hended, hW, hsame⟩ := X639.leave (v := (some (.int (0 : Int32)))) (fun h => by rw [Bd.returns] at h; cases h)
  refine ⟨_, _, ?_, hrun, hended, _, _, rfl, ?_, ⟨_, rfl⟩, hW, hsame.mono (by decide) (by decide)⟩
  · rw [← hS0]
    refine k642 _ ?_
    show Steps p.tables e below (T639.setTop (mkF m 18 #[vR sb] [(.int (0 : Int32))])) _
    exact retN X639 hx (t := .boolean) Bd.returns (by simp) (hb hby d16_18) hr
  · show Q_rmIAu Z  h0 n0 _ T639.heap _
    rw [e639]
    exact ⟨rfl, N0, rfl⟩
def Q_rmSVu (Z : State) (b1 : Addr) (bs : List Int32) (h0 : Heap) (n0 : Nat) (v : Option Value) (h : Heap) (L : List Loc) : Prop := v = none ∧ Fr n0 L ∧ Keep h0 h [b1] ∧ ∃ y ky, h0.size ≤ y ∧ Fld Z h b1 "java/lang/String" "value" "[B" (.ref y) ∧ Fld Z h b1 "java/lang/String" "coder" "B" (.int (1 : Int32)) ∧ Arv Z h y ky .byte (Int32.ofNat (u16 bs).length) ((u16 bs).map Value.int) (.int (0 : Int32))
theorem d25_41 : decode jdk_42_method_150_code 41 = .ok (.getstatic 38, 3) := by decide +kernel
theorem d25_44 : decode jdk_42_method_150_code 44 = .ok (.ifCond .eq 35, 3) := by decide +kernel
theorem d25_47 : decode jdk_42_method_150_code 47 = .ok (.aload_n 1, 1) := by decide +kernel
theorem d25_48 : decode jdk_42_method_150_code 48 = .ok (.getfield 1048, 3) := by decide +kernel
theorem d25_51 : decode jdk_42_method_150_code 51 = .ok (.ifCond .eq 28, 3) := by decide +kernel
theorem d25_79 : decode jdk_42_method_150_code 79 = .ok (.aload_n 0, 1) := by decide +kernel
theorem d25_80 : decode jdk_42_method_150_code 80 = .ok (.iconst 1, 1) := by decide +kernel
theorem d25_81 : decode jdk_42_method_150_code 81 = .ok (.putfield 15, 3) := by decide +kernel
theorem d25_84 : decode jdk_42_method_150_code 84 = .ok (.aload_n 0, 1) := by decide +kernel
theorem d25_85 : decode jdk_42_method_150_code 85 = .ok (.aload_n 3, 1) := by decide +kernel
theorem d25_86 : decode jdk_42_method_150_code 86 = .ok (.iconst 0, 1) := by decide +kernel
theorem d25_87 : decode jdk_42_method_150_code 87 = .ok (.iload 4, 2) := by decide +kernel
theorem d25_89 : decode jdk_42_method_150_code 89 = .ok (.iconst 1, 1) := by decide +kernel
theorem d25_90 : decode jdk_42_method_150_code 90 = .ok (.ishl, 1) := by decide +kernel
theorem d25_91 : decode jdk_42_method_150_code 91 = .ok (.invokestatic 54, 3) := by decide +kernel
theorem d25_94 : decode jdk_42_method_150_code 94 = .ok (.putfield 9, 3) := by decide +kernel
theorem rmSVu (l : Launch) (Z : State) (a0 : Array Value) (hw : HW Z a0) (ws : List Jvm.Cond) (b1 : Addr) (sb : Addr) (tb : Addr) (kb : ClassId) (bs : List Int32) (zC : Int32) (h0 : Heap) (n0 : Nat) (O0 : Old Z n0 h0) (SC : Sta Z Z.heap "java/lang/String" "COMPACT_STRINGS" "Z" (.int zC)) (hzC : ¬ zC = 0) (ge_b1 : n0 ≤ b1) (E_b1 : Exa Z h0 b1 "java/lang/String") (F_b1_value : Fld Z h0 b1 "java/lang/String" "value" "[B" .null) (F_b1_coder : Fld Z h0 b1 "java/lang/String" "coder" "B" (.int (0 : Int32))) (ne_tb_b1 : tb ≠ b1) (E_sb : Exa Z h0 sb "java/lang/StringBuilder") (Fc : Fld Z h0 sb "java/lang/AbstractStringBuilder" "coder" "B" (.int (1 : Int32))) (Fv : Fld Z h0 sb "java/lang/AbstractStringBuilder" "value" "[B" (.ref tb)) (Fn : Fld Z h0 sb "java/lang/AbstractStringBuilder" "count" "I" (.int (Int32.ofNat bs.length))) (Fm : Fld Z h0 sb "java/lang/AbstractStringBuilder" "maybeLatin1" "Z" (.int (0 : Int32))) (Vb : Arv Z h0 tb kb .byte (Int32.ofNat (2 * 16)) ((u16 bs).map Value.int) (.int (0 : Int32))) (hb8 : bs.length ≤ 8) :
    MF l Z y_26 jdk_42_method_150_code 5 none ws ({ frames := 3, cells := 1, slots := 32, locals := 70 } : Room) #[(.ref b1), (.ref sb), .null] h0 (Q_rmSVu Z b1 bs h0 n0) := by
  refine MetFree.of_bodySF (plainFor_of_name pn_String) hisR ?_
  intro p e s m args below meth c s₁ Bd hml0 hP hK
  obtain ⟨rfl, hZ, hh⟩ := hP
  have hx := Bd.exec
  have hby := Bd.bytes
  have hml : c.maxLocals = 5 := hml0
  have hown : s.vm.findClass "java/lang/String" = some m.cls := findClass_of_methodNamed Bd.named
  have hnm := (name_of_methodNamed Bd.named Bd.method).1
  have X0 : Stand p l e ({ frames := 3, cells := 1, slots := 32, locals := 70 } : Room) s m #[(.ref b1), (.ref sb), .null] below meth c s₁ [] 0 0 := Stand.of_body Bd
  have e0 : s₁.heap = h0 := by rw [← hh, Bd.state]; rfl
  have N0 := Fr.nil n0
  obtain ⟨S0, hS0⟩ : ∃ z, z = s₁.setTop (entryFrame m #[(.ref b1), (.ref sb), .null] 5) := ⟨_, rfl⟩
  have k0 : Rch p e below S0 s₁ (mkF m 0 #[vR b1, vR sb, .val .null, vU, vU] []) := fun t kq => hS0 ▸ castTop (ef_25n m b1 sb) kq
  have K0 : Keep h0 h0 [b1] := Keep.refl h0 _
  have lb := u16_len bs
  have hsh : Int32.ofNat bs.length <<< ((1 : Int32) &&& 31) = Int32.ofNat (u16 bs).length := by rw [lb]; exact own_dbl (by omega)
  have k644 : Rch p e below S0 s₁ (mkF m 1 #[vR b1, vR sb, .val .null, vU, vU] [(.ref b1)]) := fun t h => k0 t (by
      refine XS.aloadN X0.here hx rfl (hb hby d25_0) rfl rfl ?_
      exact h)
  obtain ⟨T643, X643, e643, st643⟩ := initO X0 hx hZ hown (hw _ (gm 16 rfl)) (hw _ (gm 17 rfl)) (hw _ (gm 18 rfl)) e0 (g := (mkF m 1 #[vR b1, vR sb, .val .null, vU, vU] [(.ref b1)])) rfl (by rw [hml]; rfl) rfl (hb hby d25_1) (by decide) (W := 0) (by show 2 * 0 + _ ≤ _; exact Nat.le_of_eq rfl) (by decide)
  have k645 : Rch p e below S0 T643 (mkF m 4 #[vR b1, vR sb, .val .null, vU, vU] []) := fun t h => k644 t (st643 t h)
  have k646 : Rch p e below S0 T643 (mkF m 5 #[vR b1, vR sb, .val .null, vU, vU] [(.ref sb)]) := fun t h => k645 t (by
      refine XS.aloadN X643.here hx rfl (hb hby d25_4) rfl rfl ?_
      exact h)
  obtain ⟨cq647, kq647, q647a, q647b, q647c⟩ := isOf hZ e643 E_sb
  obtain ⟨_, _, ⟨T647, L647, kk647, n647⟩, -, X647, ⟨Lc647, hQ647, l647, y647, z647⟩, st647⟩ := X643.virtualBack hx (y := y_18) (z := y_18) hown (mvT hZ (hw _ (gm 138 rfl))) (mvT hZ (hw _ (gm 139 rfl))) (notFace_of_selects (args := #[]) (mvT hZ (hw _ (gm 141 rfl)))) (mvT hZ (hw _ (gm 141 rfl))) (mvT hZ (hw _ (gm 140 rfl))) (by decide) (backOf (W := 0) (rmGV l Z a0 hw [] sb tb  h0 n0 O0 Fv) hZ (hw _ (gm 142 rfl)) (hw _ (gm 52 rfl)) (by decide) (by decide)) q647a q647c (g := (mkF m 5 #[vR b1, vR sb, .val .null, vU, vU] [(.ref sb)])) rfl (by rw [hml]; rfl) (Steps.refl _) (argsL := []) (rest := []) (lenOf pd_24 rfl) rfl (by show 2 * 0 + _ ≤ _; exact Nat.le_of_eq rfl) (hb hby d25_5) (fun _ _ => ⟨rfl, e643, (by decide : 0 + 0 ≤ _), (by decide : 0 + 0 ≤ _)⟩)
  dsimp only [Pt.U, Pt.locs, Pt.cells, Pt.slots] at X647 l647 y647 z647 st647 hQ647
  subst l647 y647 z647
  obtain ⟨rfl, Nq647, hh647⟩ := hQ647
  have N647 := Fr.app N0 Nq647
  have k648 : Rch p e below S0 T647 (mkF m 8 #[vR b1, vR sb, .val .null, vU, vU] [(.ref tb)]) := fun t h => k646 t (st647.trans h)
  have k649 : Rch p e below S0 T647 (mkF m 10 #[vR b1, vR sb, .val .null, vR tb, vU] [(.ref sb)]) := fun t h => k648 t (by
      refine XS.astoreN X647.here hx rfl (hb hby d25_8) rfl rfl (l' := #[vR b1, vR sb, .val .null, vR tb, vU]) rfl ?_
      refine XS.aloadN X647.here hx rfl (hb hby d25_9) rfl rfl ?_
      exact h)
  obtain ⟨cq650, kq650, q650a, q650b, q650c⟩ := isOf hZ hh647 E_sb
  obtain ⟨_, _, ⟨T650, L650, kk650, n650⟩, -, X650, ⟨Lc650, hQ650, l650, y650, z650⟩, st650⟩ := X647.virtualBack hx (y := y_19) (z := y_20) hown (mvT hZ (hw _ (gm 143 rfl))) (mvT hZ (hw _ (gm 144 rfl))) (own_nf (args := #[]) (y' := y_15) rfl (mvT hZ (hw _ (gm 85 rfl)))) (mvT hZ (hw _ (gm 146 rfl))) (mvT hZ (hw _ (gm 147 rfl))) (by decide) (backOf (W := 0) (rmLS l Z a0 hw [] sb bs h0 n0 O0 E_sb Fn) hZ (hw _ (gm 148 rfl)) (hw _ (gm 44 rfl)) (by decide) (by decide)) q650a q650c (g := (mkF m 10 #[vR b1, vR sb, .val .null, vR tb, vU] [(.ref sb)])) rfl (by rw [hml]; rfl) (Steps.refl _) (argsL := []) (rest := []) (lenOf pd_9 rfl) rfl (by show 2 * 0 + _ ≤ _; exact Nat.le_of_eq rfl) (hb hby d25_10) (fun _ _ => ⟨rfl, hh647, (by decide : 0 + 0 ≤ _), (by decide : 0 + 0 ≤ _)⟩)
  dsimp only [Pt.U, Pt.locs, Pt.cells, Pt.slots] at X650 l650 y650 z650 st650 hQ650
  subst l650 y650 z650
  obtain ⟨rfl, Nq650, hh650⟩ := hQ650
  have N650 := Fr.app N647 Nq650
  have k651 : Rch p e below S0 T650 (mkF m 13 #[vR b1, vR sb, .val .null, vR tb, vU] [(.int (Int32.ofNat bs.length))]) := fun t h => k649 t (st650.trans h)
  have k652 : Rch p e below S0 T650 (mkF m 16 #[vR b1, vR sb, .val .null, vR tb, vI (Int32.ofNat bs.length)] [(.ref sb)]) := fun t h => k651 t (by
      refine XS.istore X650.here hx rfl (hb hby d25_13) rfl (l' := #[vR b1, vR sb, .val .null, vR tb, vI (Int32.ofNat bs.length)]) rfl ?_
      refine XS.aloadN X650.here hx rfl (hb hby d25_15) rfl rfl ?_
      exact h)
  obtain ⟨cq653, kq653, q653a, q653b, q653c⟩ := isOf hZ hh650 E_sb
  obtain ⟨_, _, ⟨T653, L653, kk653, n653⟩, -, X653, ⟨Lc653, hQ653, l653, y653, z653⟩, st653⟩ := X650.virtualBack hx (y := y_21) (z := y_21) hown (mvT hZ (hw _ (gm 151 rfl))) (mvT hZ (hw _ (gm 88 rfl))) (notFace_of_selects (args := #[]) (mvT hZ (hw _ (gm 90 rfl)))) (mvT hZ (hw _ (gm 90 rfl))) (mvT hZ (hw _ (gm 89 rfl))) (by decide) (backOf (W := 0) (rmIAu l Z a0 hw [] sb zC h0 n0 O0 SC hzC Fc) hZ (hw _ (gm 91 rfl)) (hw _ (gm 52 rfl)) (by decide) (by decide)) q653a q653c (g := (mkF m 16 #[vR b1, vR sb, .val .null, vR tb, vI (Int32.ofNat bs.length)] [(.ref sb)])) rfl (by rw [hml]; rfl) (Steps.refl _) (argsL := []) (rest := []) (lenOf pd_13 rfl) rfl (by show 2 * 0 + _ ≤ _; exact Nat.le_of_eq rfl) (hb hby d25_16) (fun _ _ => ⟨rfl, hh650, (by decide : 0 + 0 ≤ _), (by decide : 0 + 0 ≤ _)⟩)
  dsimp only [Pt.U, Pt.locs, Pt.cells, Pt.slots] at X653 l653 y653 z653 st653 hQ653
  subst l653 y653 z653
  obtain ⟨rfl, Nq653, hh653⟩ := hQ653
  have N653 := Fr.app N650 Nq653
  have k654 : Rch p e below S0 T653 (mkF m 19 #[vR b1, vR sb, .val .null, vR tb, vI (Int32.ofNat bs.length)] [(.int (0 : Int32))]) := fun t h => k652 t (st653.trans h)
  have k656 : Rch p e below S0 T653 (mkF m 41 #[vR b1, vR sb, .val .null, vR tb, vI (Int32.ofNat bs.length)] []) := fun t h => k654 t (by
      refine XS.ifYes X653.here hx rfl (pc0 := 19) (pc' := 41) rfl (hb hby d25_19) rfl ((if0 _ _).trans (teq (by decide : (0 : Int32) = (0 : Int32))).1) (by decide) (by decide) ?_
      exact h)
  obtain ⟨T655, X655, e655, st655⟩ := getS2 X653 hx hZ hown (host := "") (Or.inl (hw _ (gm 27 rfl))) Via.refl hh653 (SC.ext O0.2) (g := (mkF m 41 #[vR b1, vR sb, .val .null, vR tb, vI (Int32.ofNat bs.length)] [])) rfl (hb hby d25_41)
  have k657 : Rch p e below S0 T655 (mkF m 44 #[vR b1, vR sb, .val .null, vR tb, vI (Int32.ofNat bs.length)] [(.int zC)]) := fun t h => k656 t (st655 t h)
  have k659 : Rch p e below S0 T655 (mkF m 48 #[vR b1, vR sb, .val .null, vR tb, vI (Int32.ofNat bs.length)] [(.ref sb)]) := fun t h => k657 t (by
      refine XS.ifNo X655.here hx rfl (hb hby d25_44) rfl ((if0 _ _).trans (feq (hzC : ¬ (zC = (0 : Int32)))).1) ?_
      refine XS.aloadN X655.here hx rfl (hb hby d25_47) rfl rfl ?_
      exact h)
  obtain ⟨T658, X658, e658, st658⟩ := getF X655 hx hZ hown (host := "") (Or.inl (hw _ (gm 232 rfl))) Via.refl e655 Fm (g := (mkF m 48 #[vR b1, vR sb, .val .null, vR tb, vI (Int32.ofNat bs.length)] [(.ref sb)])) rfl rfl (hb hby d25_48)
  have k660 : Rch p e below S0 T658 (mkF m 51 #[vR b1, vR sb, .val .null, vR tb, vI (Int32.ofNat bs.length)] [(.int (0 : Int32))]) := fun t h => k659 t (st658 t h)
  have k662 : Rch p e below S0 T658 (mkF m 81 #[vR b1, vR sb, .val .null, vR tb, vI (Int32.ofNat bs.length)] [(.int (1 : Int32)), (.ref b1)]) := fun t h => k660 t (by
      refine XS.ifYes X658.here hx rfl (pc0 := 51) (pc' := 79) rfl (hb hby d25_51) rfl ((if0 _ _).trans (teq (by decide : (0 : Int32) = (0 : Int32))).1) (by decide) (by decide) ?_
      refine XS.aloadN X658.here hx rfl (hb hby d25_79) rfl rfl ?_
      refine XS.iconst X658.here hx rfl (hb hby d25_80) ?_
      exact h)
  obtain ⟨T661, h661, X661, e661, W661, st661⟩ := putFN X658 hx hZ hown (hw _ (gm 26 rfl)) Via.refl e658 F_b1_coder E_b1 (Or.inr ⟨(hw _ (gm 22 rfl)), rfl, hnm⟩) (hw _ (gm 6 rfl)) (ty := .byte) (v' := (.int (1 : Int32))) (by decide) (by decide) (by decide) (g := (mkF m 81 #[vR b1, vR sb, .val .null, vR tb, vI (Int32.ofNat bs.length)] [(.int (1 : Int32)), (.ref b1)])) rfl rfl (hb hby d25_81)
  have k663 : Rch p e below S0 T661 (mkF m 84 #[vR b1, vR sb, .val .null, vR tb, vI (Int32.ofNat bs.length)] []) := fun t h => k662 t (st661 t h)
  have N661 := Fr.snoc X661 N653 ge_b1
  replace F_b1_coder := F_b1_coder.same W661
  have O664 := O0.wr W661 ge_b1
  have K665 := K0.wr W661 (Or.inl (gm 0 rfl))
  replace Vb := Vb.other W661 ne_tb_b1
  replace E_b1 := E_b1.wr W661
  replace F_b1_value := F_b1_value.other W661 (Or.inr (slot_ne (Or.inr (hw _ (gm 21 rfl))) (Or.inr (hw _ (gm 22 rfl))) (by decide) (t := (.array .byte)) (t' := .byte) (by decide) (by decide)))
  have k666 : Rch p e below S0 T661 (mkF m 91 #[vR b1, vR sb, .val .null, vR tb, vI (Int32.ofNat bs.length)] [(.int (Int32.ofNat (u16 bs).length)), (.int (0 : Int32)), (.ref tb), (.ref b1)]) := fun t h => k663 t (by
      refine XS.aloadN X661.here hx rfl (hb hby d25_84) rfl rfl ?_
      refine XS.aloadN X661.here hx rfl (hb hby d25_85) rfl rfl ?_
      refine XS.iconst X661.here hx rfl (hb hby d25_86) ?_
      refine XS.iload X661.here hx rfl (hb hby d25_87) rfl ?_
      refine XS.iconst X661.here hx rfl (hb hby d25_89) ?_
      show Steps p.tables e below (T661.setTop (mkF m 90 #[vR b1, vR sb, .val .null, vR tb, vI (Int32.ofNat bs.length)] [(.int (1 : Int32)), (.int (Int32.ofNat bs.length)), (.int (0 : Int32)), (.ref tb), (.ref b1)])) _
      refine XS.ishl X661.here hx rfl (hb hby d25_90) rfl ?_
      rw [hsh]
      exact h)
  obtain ⟨_, _, ⟨T667, L667, kk667, n667⟩, -, X667, ⟨Lc667, hQ667, l667, y667, z667⟩, st667⟩ := Jvm.LawKit.callS X661 hx (y := y_25) hown (mvT hZ (hw _ (gm 152 rfl))) (mvT hZ (hw _ (gm 153 rfl))) (mvT hZ (hw _ (gm 154 rfl))) (mvT hZ (hw _ (gm 155 rfl))) (by decide) (backOf (W := 1) (rmCR l Z a0 hw [] tb kb 32 (u16 bs) h661 n0 O664 Vb (by omega) (by decide)) hZ (hw _ (gm 155 rfl)) (hw _ (gm 154 rfl)) (by decide) (by decide)) (g := (mkF m 91 #[vR b1, vR sb, .val .null, vR tb, vI (Int32.ofNat bs.length)] [(.int (Int32.ofNat (u16 bs).length)), (.int (0 : Int32)), (.ref tb), (.ref b1)])) rfl (by rw [hml]; rfl) (argsL := [(.ref tb), (.int (0 : Int32)), (.int (Int32.ofNat (u16 bs).length))]) (rest := [(.ref b1)]) (lenOf pd_25 rfl) rfl (by show 2 * 0 + _ ≤ _; exact Nat.le_of_eq rfl) (hb hby d25_91) (fun _ _ => ⟨rfl, e661, (by decide : 0 + 1 ≤ _), (by decide : 0 + 32 ≤ _)⟩)
  dsimp only [Pt.U, Pt.locs, Pt.cells, Pt.slots] at X667 l667 y667 z667 st667 hQ667
  subst l667 y667 z667
  obtain ⟨y667, ky667, rfl, Nq667, E667, z667, Ey667, V667⟩ := hQ667
  have N667 := Fr.app N661 Nq667
  have k668 : Rch p e below S0 T667 (mkF m 94 #[vR b1, vR sb, .val .null, vR tb, vI (Int32.ofNat bs.length)] [(.ref y667), (.ref b1)]) := fun t h => k666 t (st667 t h)
  have ne_tb_y667 : tb ≠ y667 := own_ne Vb.lt z667
  have ne_b1_y667 : b1 ≠ y667 := own_ne E_b1.lt z667
  have ge_y667 : n0 ≤ y667 := own_ge O664 z667
  have sz_y667 : h0.size ≤ y667 := Nat.le_trans K665.1 z667
  have O669 := O664.ext E667
  have K670 := K665.ext E667
  replace Vb := Vb.ext E667
  replace E_b1 := E_b1.ext E667
  replace F_b1_value := F_b1_value.ext E667
  replace F_b1_coder := F_b1_coder.ext E667
  obtain ⟨T671, h671, X671, e671, W671, st671⟩ := putF X667 hx hZ hown (host := "") (Or.inl (hw _ (gm 25 rfl))) Via.refl rfl F_b1_value E_b1 (Or.inr ⟨(hw _ (gm 21 rfl)), rfl, hnm⟩) (hw _ (gm 6 rfl)) (ty := (.array .byte)) (by decide) rfl rfl (g := (mkF m 94 #[vR b1, vR sb, .val .null, vR tb, vI (Int32.ofNat bs.length)] [(.ref y667), (.ref b1)])) rfl rfl (hb hby d25_94)
  have k672 : Rch p e below S0 T671 (mkF m 97 #[vR b1, vR sb, .val .null, vR tb, vI (Int32.ofNat bs.length)] []) := fun t h => k668 t (st671 t h)
  have N671 := Fr.snoc X671 N667 ge_b1
  replace F_b1_value := F_b1_value.same W671
  have O673 := O669.wr W671 ge_b1
  have K674 := K670.wr W671 (Or.inl (gm 0 rfl))
  replace E_b1 := E_b1.wr W671
  replace F_b1_coder := F_b1_coder.other W671 (Or.inr (slot_ne (Or.inr (hw _ (gm 22 rfl))) (Or.inr (hw _ (gm 21 rfl))) (by decide) (t := .byte) (t' := (.array .byte)) (by decide) (by decide)))
  replace Ey667 := Ey667.wr W671
  replace V667 := V667.other W671 (Ne.symm ne_b1_y667)
  obtain ⟨fs, hr, hrun, hended, hW, hsame⟩ := X671.leave (v := none) (fun _ => rfl)
  refine ⟨_, _, ?_, hrun, hended, _, _, rfl, ?_, ⟨_, rfl⟩, hW, hsame.mono (by decide) (by decide)⟩
  · rw [← hS0]
    refine k672 _ ?_
    show Steps p.tables e below (T671.setTop (mkF m 97 #[vR b1, vR sb, .val .null, vR tb, vI (Int32.ofNat bs.length)] [])) _
    exact X671.returnOut hx Bd.returns (hb hby d25_97) hr
  · show Q_rmSVu Z b1 bs h0 n0 _ T671.heap _
    rw [e671]
    exact ⟨rfl, N671, K674, _, _, sz_y667, F_b1_value, F_b1_coder, V667⟩
def Q_rmSSu (Z : State) (b1 : Addr) (bs : List Int32) (h0 : Heap) (n0 : Nat) (v : Option Value) (h : Heap) (L : List Loc) : Prop := v = none ∧ Fr n0 L ∧ Keep h0 h [b1] ∧ ∃ y ky, h0.size ≤ y ∧ Fld Z h b1 "java/lang/String" "value" "[B" (.ref y) ∧ Fld Z h b1 "java/lang/String" "coder" "B" (.int (1 : Int32)) ∧ Arv Z h y ky .byte (Int32.ofNat (u16 bs).length) ((u16 bs).map Value.int) (.int (0 : Int32))
theorem rmSSu (l : Launch) (Z : State) (a0 : Array Value) (hw : HW Z a0) (ws : List Jvm.Cond) (b1 : Addr) (sb : Addr) (tb : Addr) (kb : ClassId) (bs : List Int32) (zC : Int32) (h0 : Heap) (n0 : Nat) (O0 : Old Z n0 h0) (SC : Sta Z Z.heap "java/lang/String" "COMPACT_STRINGS" "Z" (.int zC)) (hzC : ¬ zC = 0) (ge_b1 : n0 ≤ b1) (E_b1 : Exa Z h0 b1 "java/lang/String") (F_b1_value : Fld Z h0 b1 "java/lang/String" "value" "[B" .null) (F_b1_coder : Fld Z h0 b1 "java/lang/String" "coder" "B" (.int (0 : Int32))) (ne_tb_b1 : tb ≠ b1) (E_sb : Exa Z h0 sb "java/lang/StringBuilder") (Fc : Fld Z h0 sb "java/lang/AbstractStringBuilder" "coder" "B" (.int (1 : Int32))) (Fv : Fld Z h0 sb "java/lang/AbstractStringBuilder" "value" "[B" (.ref tb)) (Fn : Fld Z h0 sb "java/lang/AbstractStringBuilder" "count" "I" (.int (Int32.ofNat bs.length))) (Fm : Fld Z h0 sb "java/lang/AbstractStringBuilder" "maybeLatin1" "Z" (.int (0 : Int32))) (Vb : Arv Z h0 tb kb .byte (Int32.ofNat (2 * 16)) ((u16 bs).map Value.int) (.int (0 : Int32))) (hb8 : bs.length ≤ 8) :
    MF l Z y_27 jdk_42_method_53_code 2 none ws ({ frames := 4, cells := 1, slots := 32, locals := 88 } : Room) #[(.ref b1), (.ref sb)] h0 (Q_rmSSu Z b1 bs h0 n0) := by
  refine MetFree.of_bodySF (plainFor_of_name pn_String) hisR ?_
  intro p e s m args below meth c s₁ Bd hml0 hP hK
  obtain ⟨rfl, hZ, hh⟩ := hP
  have hx := Bd.exec
  have hby := Bd.bytes
  have hml : c.maxLocals = 2 := hml0
  have hown : s.vm.findClass "java/lang/String" = some m.cls := findClass_of_methodNamed Bd.named
  have hnm := (name_of_methodNamed Bd.named Bd.method).1
  have X0 : Stand p l e ({ frames := 4, cells := 1, slots := 32, locals := 88 } : Room) s m #[(.ref b1), (.ref sb)] below meth c s₁ [] 0 0 := Stand.of_body Bd
  have e0 : s₁.heap = h0 := by rw [← hh, Bd.state]; rfl
  have N0 := Fr.nil n0
  obtain ⟨S0, hS0⟩ : ∃ z, z = s₁.setTop (entryFrame m #[(.ref b1), (.ref sb)] 2) := ⟨_, rfl⟩
  have k0 : Rch p e below S0 s₁ (mkF m 0 #[vR b1, vR sb] []) := fun t kq => hS0 ▸ castTop (ef_24 m b1 sb) kq
  have K0 : Keep h0 h0 [b1] := Keep.refl h0 _
  have k675 : Rch p e below S0 s₁ (mkF m 3 #[vR b1, vR sb] [.null, (.ref sb), (.ref b1)]) := fun t h => k0 t (by
      refine XS.aloadN X0.here hx rfl (hb hby d24_0) rfl rfl ?_
      refine XS.aloadN X0.here hx rfl (hb hby d24_1) rfl rfl ?_
      refine XS.aconstNull X0.here hx rfl (hb hby d24_2) ?_
      exact h)
  obtain ⟨_, _, ⟨T676, L676, kk676, n676⟩, -, X676, ⟨Lc676, hQ676, l676, y676, z676⟩, st676⟩ := X0.specialBack hx (y := y_26) rfl hown (mvT hZ (hw _ (gm 135 rfl))) (mvT hZ (hw _ (gm 136 rfl))) (mvT hZ (hw _ (gm 137 rfl))) (by decide) (backOf (W := 0) (rmSVu l Z a0 hw [] b1 sb tb kb bs zC h0 n0 O0 SC hzC ge_b1 E_b1 F_b1_value F_b1_coder ne_tb_b1 E_sb Fc Fv Fn Fm Vb hb8) hZ (hw _ (gm 137 rfl)) (hw _ (gm 7 rfl)) (by decide) (by decide)) (g := (mkF m 3 #[vR b1, vR sb] [.null, (.ref sb), (.ref b1)])) rfl (by rw [hml]; rfl) (Steps.refl _) (a := b1) (argsL := [(.ref sb), .null]) (rest := []) (lenOf pd_23 rfl) rfl (by show 2 * 0 + _ ≤ _; exact Nat.le_of_eq rfl) (hb hby d24_3) (fun _ _ => ⟨rfl, e0, (by decide : 0 + 1 ≤ _), (by decide : 0 + 32 ≤ _)⟩)
  dsimp only [Pt.U, Pt.locs, Pt.cells, Pt.slots] at X676 l676 y676 z676 st676 hQ676
  subst l676 y676 z676
  obtain ⟨rfl, Nq676, K676, y676, ky676, z676, Gv676, Gc676, V676⟩ := hQ676
  have N676 := Fr.app N0 Nq676
  have k677 : Rch p e below S0 T676 (mkF m 6 #[vR b1, vR sb] []) := fun t h => k675 t (st676.trans h)
  have O678 := O0.keep K676 (allS ge_b1 all0)
  have K679 := K0.trans K676 (allS (Or.inl (gm 0 rfl)) all0)
  replace E_b1 := E_b1.keep K676
  obtain ⟨fs, hr, hrun, hended, hW, hsame⟩ := X676.leave (v := none) (fun _ => rfl)
  refine ⟨_, _, ?_, hrun, hended, _, _, rfl, ?_, ⟨_, rfl⟩, hW, hsame.mono (by decide) (by decide)⟩
  · rw [← hS0]
    refine k677 _ ?_
    show Steps p.tables e below (T676.setTop (mkF m 6 #[vR b1, vR sb] [])) _
    exact X676.returnOut hx Bd.returns (hb hby d24_6) hr
  · show Q_rmSSu Z b1 bs h0 n0 _ T676.heap _
    exact ⟨rfl, N676, K679, _, _, z676, Gv676, Gc676, V676⟩
def Q_rmTSu (Z : State) (bs : List Int32) (h0 : Heap) (n0 : Nat) (v : Option Value) (h : Heap) (L : List Loc) : Prop := ∃ b1 y ky, v = some (.ref b1) ∧ Fr n0 L ∧ Ext h0 h ∧ h0.size ≤ b1 ∧ Exa Z h b1 "java/lang/String" ∧ Fld Z h b1 "java/lang/String" "value" "[B" (.ref y) ∧ Fld Z h b1 "java/lang/String" "coder" "B" (.int (1 : Int32)) ∧ Arv Z h y ky .byte (Int32.ofNat (u16 bs).length) ((u16 bs).map Value.int) (.int (0 : Int32))
theorem rmTSu (l : Launch) (Z : State) (a0 : Array Value) (hw : HW Z a0) (ws : List Jvm.Cond) (sb : Addr) (tb : Addr) (kb : ClassId) (bs : List Int32) (zC : Int32) (h0 : Heap) (n0 : Nat) (O0 : Old Z n0 h0) (SC : Sta Z Z.heap "java/lang/String" "COMPACT_STRINGS" "Z" (.int zC)) (hzC : ¬ zC = 0) (E_sb : Exa Z h0 sb "java/lang/StringBuilder") (Fc : Fld Z h0 sb "java/lang/AbstractStringBuilder" "coder" "B" (.int (1 : Int32))) (Fv : Fld Z h0 sb "java/lang/AbstractStringBuilder" "value" "[B" (.ref tb)) (Fn : Fld Z h0 sb "java/lang/AbstractStringBuilder" "count" "I" (.int (Int32.ofNat bs.length))) (Fm : Fld Z h0 sb "java/lang/AbstractStringBuilder" "maybeLatin1" "Z" (.int (0 : Int32))) (Vb : Arv Z h0 tb kb .byte (Int32.ofNat (2 * 16)) ((u16 bs).map Value.int) (.int (0 : Int32))) (hb8 : bs.length ≤ 8) :
    MF l Z y_28 jdk_67_method_42_code 1 (some (.object "java/lang/String")) ws ({ frames := 5, cells := 2, slots := 36, locals := 104 } : Room) #[(.ref sb)] h0 (Q_rmTSu Z bs h0 n0) := by
  refine MetFree.of_bodySF (plainFor_of_name pn_StringBuilder) hisR ?_
  intro p e s m args below meth c s₁ Bd hml0 hP hK
  obtain ⟨rfl, hZ, hh⟩ := hP
  have hx := Bd.exec
  have hby := Bd.bytes
  have hml : c.maxLocals = 1 := hml0
  have hown : s.vm.findClass "java/lang/StringBuilder" = some m.cls := findClass_of_methodNamed Bd.named
  have hnm := (name_of_methodNamed Bd.named Bd.method).1
  have X0 : Stand p l e ({ frames := 5, cells := 2, slots := 36, locals := 104 } : Room) s m #[(.ref sb)] below meth c s₁ [] 0 0 := Stand.of_body Bd
  have e0 : s₁.heap = h0 := by rw [← hh, Bd.state]; rfl
  have N0 := Fr.nil n0
  obtain ⟨S0, hS0⟩ : ∃ z, z = s₁.setTop (entryFrame m #[(.ref sb)] 1) := ⟨_, rfl⟩
  have k0 : Rch p e below S0 s₁ (mkF m 0 #[vR sb] []) := fun t kq => hS0 ▸ castTop (ef_23 m sb) kq
  have K0 : Keep h0 h0 [] := Keep.refl h0 _
  obtain ⟨T680, h680, X680, e680, E680, A680, D680, -, st680⟩ := newO X0 hx hZ hown (hw _ (gm 131 rfl)) (hw _ (gm 6 rfl)) (hw _ (gm 7 rfl)) e0 (g := (mkF m 0 #[vR sb] [])) rfl (hb hby d23_0) (by decide) (by decide)
  obtain ⟨b680, g680⟩ : ∃ z, z = h0.size := ⟨_, rfl⟩
  rw [← g680] at A680 D680 st680
  have k681 : Rch p e below S0 T680 (mkF m 3 #[vR sb] [(.ref b680)]) := fun t h => k0 t (st680 t h)
  have ne_sb_b680 : sb ≠ b680 := own_ne E_sb.lt (Nat.le_of_eq g680.symm)
  have ne_tb_b680 : tb ≠ b680 := own_ne Vb.lt (Nat.le_of_eq g680.symm)
  have ge_b680 : n0 ≤ b680 := own_ge O0 (Nat.le_of_eq g680.symm)
  have sz_b680 : h0.size ≤ b680 := Nat.le_trans K0.1 (Nat.le_of_eq g680.symm)
  have O682 := O0.ext E680
  have K683 := K0.ext E680
  replace E_sb := E_sb.ext E680
  replace Fc := Fc.ext E680
  replace Fv := Fv.ext E680
  replace Fn := Fn.ext E680
  replace Fm := Fm.ext E680
  replace Vb := Vb.ext E680
  have E_b680 := A680
  have F_b680_value : Fld Z h680 b680 "java/lang/String" "value" "[B" .null := D680 (Or.inr (hw _ (gm 21 rfl))) (ty := (.array .byte)) (by decide)
  have F_b680_coder : Fld Z h680 b680 "java/lang/String" "coder" "B" (.int (0 : Int32)) := D680 (Or.inr (hw _ (gm 22 rfl))) (ty := .byte) (by decide)
  have k684 : Rch p e below S0 T680 (mkF m 5 #[vR sb] [(.ref sb), (.ref b680), (.ref b680)]) := fun t h => k681 t (by
      refine XS.dup X680.here hx rfl (hb hby d23_3) rfl rfl ?_
      refine XS.aloadN X680.here hx rfl (hb hby d23_4) rfl rfl ?_
      exact h)
  obtain ⟨_, _, ⟨T685, L685, kk685, n685⟩, -, X685, ⟨Lc685, hQ685, l685, y685, z685⟩, st685⟩ := X680.specialBack hx (y := y_27) rfl hown (mvT hZ (hw _ (gm 132 rfl))) (mvT hZ (hw _ (gm 133 rfl))) (mvT hZ (hw _ (gm 134 rfl))) (by decide) (backOf (W := 1) (rmSSu l Z a0 hw [] b680 sb tb kb bs zC h680 n0 O682 SC hzC ge_b680 E_b680 F_b680_value F_b680_coder ne_tb_b680 E_sb Fc Fv Fn Fm Vb hb8) hZ (hw _ (gm 134 rfl)) (hw _ (gm 7 rfl)) (by decide) (by decide)) (g := (mkF m 5 #[vR sb] [(.ref sb), (.ref b680), (.ref b680)])) rfl (by rw [hml]; rfl) (Steps.refl _) (a := b680) (argsL := [(.ref sb)]) (rest := [(.ref b680)]) (lenOf pd_22 rfl) rfl (by show 2 * 0 + _ ≤ _; exact Nat.le_of_eq rfl) (hb hby d23_5) (fun _ _ => ⟨rfl, e680, (by decide : 1 + 1 ≤ _), (by decide : 4 + 32 ≤ _)⟩)
  dsimp only [Pt.U, Pt.locs, Pt.cells, Pt.slots] at X685 l685 y685 z685 st685 hQ685
  subst l685 y685 z685
  obtain ⟨rfl, Nq685, K685, y685, ky685, z685, Gv685, Gc685, V685⟩ := hQ685
  have N685 := Fr.app N0 Nq685
  have k686 : Rch p e below S0 T685 (mkF m 8 #[vR sb] [(.ref b680)]) := fun t h => k684 t (st685.trans h)
  have O687 := O682.keep K685 (allS ge_b680 all0)
  have K688 := K683.trans K685 (allS (Or.inr sz_b680) all0)
  replace E_b680 := E_b680.keep K685
  obtain ⟨fs, hr, hrun, hended, hW, hsame⟩ := X685.leave (v := (some (.ref b680))) (fun h => by rw [Bd.returns] at h; cases h)
  refine ⟨_, _, ?_, hrun, hended, _, _, rfl, ?_, ⟨_, rfl⟩, hW, hsame.mono (by decide) (by decide)⟩
  · rw [← hS0]
    refine k686 _ ?_
    show Steps p.tables e below (T685.setTop (mkF m 8 #[vR sb] [(.ref b680)])) _
    jvm_step X685.here [X685.here.top, hx, (hb hby d23_8), X685.method', Bd.returns, Value.isRef, FieldType.isReference]
    first | (intro acts; rw [hr _ acts rfl rfl rfl]) | rw [hr _ _ rfl rfl rfl]
    exact Steps.refl _
  · show Q_rmTSu Z bs h0 n0 _ T685.heap _
    exact ⟨_, _, _, rfl, N685, own_ext K688, sz_b680, E_b680, Gv685, Gc685, V685⟩
theorem own_dist {h0 : Heap} {y t : Addr} (l : y < h0.size) (g : h0.size ≤ t) : y ≠ t := Nat.ne_of_lt (Nat.lt_of_lt_of_le l g)
theorem own_fld {Z : State} {h : Heap} {a : Addr} {C n d : String} {v v' : Value} (F : Fld Z h a C n d v) (G : Fld Z h a C n d v') : v = v' := by
  obtain ⟨c1, f1, k1, i1, g1, r1, r2, r3, r4, r5, r6, r7⟩ := F
  obtain ⟨c2, f2, k2, i2, g2, s1, s2, s3, s4, s5, s6, s7⟩ := G
  cases r1.symm.trans s1
  cases r2.symm.trans s2
  rw [r7] at s7
  exact Option.some.inj s7
theorem own_fv {Z : State} {h : Heap} {a : Addr} {C n d : String} {y z : Int32} (F : Fld Z h a C n d (.int y)) (G : Fld Z h a C n d (.int z)) : y = z := Value.int.inj (own_fld F G)
theorem own_fr {Z : State} {h : Heap} {a : Addr} {C n d : String} {y z : Addr} (F : Fld Z h a C n d (.ref y)) (G : Fld Z h a C n d (.ref z)) : y = z := Value.ref.inj (own_fld F G)
def Q_rmM0 (Z : State) (us : List Int32) (h0 : Heap) (n0 : Nat) (v : Option Value) (h : Heap) (L : List Loc) : Prop := ∃ r1, v = some (.ref r1) ∧ Fr n0 L ∧ Ext h0 h ∧ h0.size ≤ r1 ∧ Stg Z h r1 (([] ++ [45]) ++ us)
abbrev y_49 : MethodName := ⟨"com/example/nuthatch/nuthatch/EntryName", "member", "(Ljava/lang/String;Ljava/lang/String;)Ljava/lang/String;"⟩
theorem ef_8n (m : MethodId) (x1 : Addr) : entryFrame m #[.null, (.ref x1)] 6 = mkF m 0 #[.val .null, .val (.ref x1), .unset, .unset, .unset, .unset] [] := by first | (simp [entryFrame, mkF, argsToLocals, Value.category]; done) | rfl
theorem pn_EntryName : plainName "com/example/nuthatch/nuthatch/EntryName" = true := by first | (simp [plainName, overriddenIn]; done) | decide +kernel
theorem d8_0 : decode prog_2_method_3_code 0 = .ok (.new 17, 3) := by decide +kernel
theorem d8_3 : decode prog_2_method_3_code 3 = .ok (.dup, 1) := by decide +kernel
theorem d8_4 : decode prog_2_method_3_code 4 = .ok (.invokespecial 19, 3) := by decide +kernel
theorem d8_7 : decode prog_2_method_3_code 7 = .ok (.astore_n 2, 1) := by decide +kernel
theorem d8_8 : decode prog_2_method_3_code 8 = .ok (.aload_n 0, 1) := by decide +kernel
theorem d8_9 : decode prog_2_method_3_code 9 = .ok (.ifnull 113, 3) := by decide +kernel
theorem d8_122 : decode prog_2_method_3_code 122 = .ok (.aload_n 2, 1) := by decide +kernel
theorem d8_123 : decode prog_2_method_3_code 123 = .ok (.bipush 45, 2) := by decide +kernel
theorem pd_11 : parseMethodDescriptor "(C)Ljava/lang/StringBuilder;" = some ⟨[.char], some (.object "java/lang/StringBuilder")⟩ := by decide +kernel
theorem d8_125 : decode prog_2_method_3_code 125 = .ok (.invokevirtual 32, 3) := by decide +kernel
theorem d8_128 : decode prog_2_method_3_code 128 = .ok (.aload_n 1, 1) := by decide +kernel
theorem pd_15 : parseMethodDescriptor "(Ljava/lang/String;)Ljava/lang/StringBuilder;" = some ⟨[(.object "java/lang/String")], some (.object "java/lang/StringBuilder")⟩ := by decide +kernel
theorem d8_129 : decode prog_2_method_3_code 129 = .ok (.invokevirtual 36, 3) := by decide +kernel
theorem pd_21 : parseMethodDescriptor "()Ljava/lang/String;" = some ⟨[], some (.object "java/lang/String")⟩ := by decide +kernel
theorem d8_132 : decode prog_2_method_3_code 132 = .ok (.invokevirtual 39, 3) := by decide +kernel
theorem d8_135 : decode prog_2_method_3_code 135 = .ok (.areturn, 1) := by decide +kernel
theorem rmM0 (l : Launch) (Z : State) (a0 : Array Value) (hw : HW Z a0) (ws : List Jvm.Cond) (a2 : Addr) (us : List Int32) (fm : Value) (zC : Int32) (h0 : Heap) (n0 : Nat) (O0 : Old Z n0 h0) (SC : Sta Z Z.heap "java/lang/String" "COMPACT_STRINGS" "Z" (.int zC)) (hzC : ¬ zC = 0) (SAs : Sta Z Z.heap "java/lang/StringUTF16" "$assertionsDisabled" "Z" (.int (1 : Int32))) (SHi : Sta Z Z.heap "java/lang/StringUTF16" "HI_BYTE_SHIFT" "I" (.int (0 : Int32))) (SLo : Sta Z Z.heap "java/lang/StringUTF16" "LO_BYTE_SHIFT" "I" (.int (8 : Int32))) (SP : Sta Z Z.heap "jdk/internal/util/Preconditions" "SIOOBE_FORMATTER" "Ljava/util/function/BiFunction;" fm) (hfm : fm = .null ∨ ∃ wP, fm = .ref wP) (S2 : Stg Z h0 a2 us) (hu : us.length ≤ 2) :
    MF l Z y_49 prog_2_method_3_code 6 (some (.object "java/lang/String")) ws ({ frames := 10, cells := 5, slots := 104, locals := 184 } : Room) #[.null, (.ref a2)] h0 (Q_rmM0 Z us h0 n0) := by
  refine MetFree.of_bodySF (plainFor_of_name pn_EntryName) hisR ?_
  intro p e s m args below meth c s₁ Bd hml0 hP hK
  obtain ⟨rfl, hZ, hh⟩ := hP
  have hx := Bd.exec
  have hby := Bd.bytes
  have hml : c.maxLocals = 6 := hml0
  have hown : s.vm.findClass "com/example/nuthatch/nuthatch/EntryName" = some m.cls := findClass_of_methodNamed Bd.named
  have hnm := (name_of_methodNamed Bd.named Bd.method).1
  have X0 : Stand p l e ({ frames := 10, cells := 5, slots := 104, locals := 184 } : Room) s m #[.null, (.ref a2)] below meth c s₁ [] 0 0 := Stand.of_body Bd
  have e0 : s₁.heap = h0 := by rw [← hh, Bd.state]; rfl
  have N0 := Fr.nil n0
  obtain ⟨S0, hS0⟩ : ∃ z, z = s₁.setTop (entryFrame m #[.null, (.ref a2)] 6) := ⟨_, rfl⟩
  have k0 : Rch p e below S0 s₁ (mkF m 0 #[.val .null, vR a2, vU, vU, vU, vU] []) := fun t kq => hS0 ▸ castTop (ef_8n m a2) kq
  have K0 : Keep h0 h0 [] := Keep.refl h0 _
  obtain ⟨T689, h689, X689, e689, E689, A689, D689, -, st689⟩ := newO X0 hx hZ hown (hw _ (gm 42 rfl)) (hw _ (gm 43 rfl)) (hw _ (gm 44 rfl)) e0 (g := (mkF m 0 #[.val .null, vR a2, vU, vU, vU, vU] [])) rfl (hb hby d8_0) (by decide) (by decide)
  obtain ⟨b689, g689⟩ : ∃ z, z = h0.size := ⟨_, rfl⟩
  rw [← g689] at A689 D689 st689
  have k690 : Rch p e below S0 T689 (mkF m 3 #[.val .null, vR a2, vU, vU, vU, vU] [(.ref b689)]) := fun t h => k0 t (st689 t h)
  have ge_b689 : n0 ≤ b689 := own_ge O0 (Nat.le_of_eq g689.symm)
  have sz_b689 : h0.size ≤ b689 := Nat.le_trans K0.1 (Nat.le_of_eq g689.symm)
  have O691 := O0.ext E689
  have K692 := K0.ext E689
  have E_b689 := A689
  have F_b689_value : Fld Z h689 b689 "java/lang/AbstractStringBuilder" "value" "[B" .null := D689 (Or.inl (hw _ (gm 57 rfl))) (ty := (.array .byte)) (by decide)
  have F_b689_coder : Fld Z h689 b689 "java/lang/AbstractStringBuilder" "coder" "B" (.int (0 : Int32)) := D689 (Or.inl (hw _ (gm 59 rfl))) (ty := .byte) (by decide)
  have F_b689_count : Fld Z h689 b689 "java/lang/AbstractStringBuilder" "count" "I" (.int (0 : Int32)) := D689 (Or.inl (hw _ (gm 81 rfl))) (ty := .int) (by decide)
  have F_b689_maybeLatin1 : Fld Z h689 b689 "java/lang/AbstractStringBuilder" "maybeLatin1" "Z" (.int (0 : Int32)) := D689 (Or.inl (hw _ (gm 233 rfl))) (ty := .boolean) (by decide)
  have k693 : Rch p e below S0 T689 (mkF m 4 #[.val .null, vR a2, vU, vU, vU, vU] [(.ref b689), (.ref b689)]) := fun t h => k690 t (by
      refine XS.dup X689.here hx rfl (hb hby d8_3) rfl rfl ?_
      exact h)
  obtain ⟨sb, hsb⟩ : ∃ z, z = b689 := ⟨_, rfl⟩
  obtain ⟨_, _, ⟨T694, L694, kk694, n694⟩, -, X694, ⟨Lc694, hQ694, l694, y694, z694⟩, st694⟩ := X689.specialBack hx (y := y_41) rfl hown (mvT hZ (hw _ (gm 45 rfl))) (mvT hZ (hw _ (gm 46 rfl))) (mvT hZ (hw _ (gm 47 rfl))) (by decide) (backOf (W := 1) (rmSI l Z a0 hw [] b689 zC h689 n0 O691 SC hzC ge_b689 E_b689 F_b689_coder F_b689_value F_b689_count F_b689_maybeLatin1) hZ (hw _ (gm 47 rfl)) (hw _ (gm 44 rfl)) (by decide) (by decide)) (g := (mkF m 4 #[.val .null, vR a2, vU, vU, vU, vU] [(.ref b689), (.ref b689)])) rfl (by rw [hml]; rfl) (Steps.refl _) (a := b689) (argsL := []) (rest := [(.ref b689)]) (lenOf pd_3 rfl) rfl (by show 2 * 0 + _ ≤ _; exact Nat.le_of_eq rfl) (hb hby d8_4) (fun _ _ => ⟨rfl, e689, (by decide : 1 + 1 ≤ _), (by decide : 4 + 16 ≤ _)⟩)
  dsimp only [Pt.U, Pt.locs, Pt.cells, Pt.slots] at X694 l694 y694 z694 st694 hQ694
  subst l694 y694 z694
  obtain ⟨rfl, Nq694, K694, tb, kb, zt694, ne_sb_tb, Fc694, Fv694, Fn694, Fm694, V694⟩ := hQ694
  have N694 := Fr.app N0 Nq694
  have k695 : Rch p e below S0 T694 (mkF m 7 #[.val .null, vR a2, vU, vU, vU, vU] [(.ref b689)]) := fun t h => k693 t (st694.trans h)
  have ne_b689_tb : b689 ≠ tb := own_ne E_b689.lt zt694
  have ge_tb : n0 ≤ tb := own_ge O691 zt694
  have sz_tb : h0.size ≤ tb := Nat.le_trans K692.1 zt694
  have O696 := O691.keep K694 (allS ge_b689 all0)
  have K697 := K692.trans K694 (allS (Or.inr sz_b689) all0)
  replace E_b689 := E_b689.keep K694
  rw [← hsb] at ne_sb_tb Fc694 Fv694 Fn694 Fm694 E_b689 ge_b689 sz_b689 k695
  have E_sb := E_b689
  have ge_sb := ge_b689
  have sz_sb := sz_b689
  have k698 : Rch p e below S0 T694 (mkF m 122 #[.val .null, vR a2, vR sb, vU, vU, vU] []) := fun t h => k695 t (by
      refine XS.astoreN X694.here hx rfl (hb hby d8_7) rfl rfl (l' := #[.val .null, vR a2, vR sb, vU, vU, vU]) rfl ?_
      refine XS.aloadN X694.here hx rfl (hb hby d8_8) rfl rfl ?_
      refine XS.ifnullYes X694.here hx rfl (pc0 := 9) (pc' := 122) rfl (hb hby d8_9) rfl (by decide) (by decide) ?_
      exact h)
  have hp0 : ∀ c ∈ ([] : List Int32), ¬ c < 0 ∧ ¬ (127 : Int32) < c := fun c hc => nomatch hc
  have hl0 : ([] : List Int32).length = 0 := rfl
  have k699 : Rch p e below S0 T694 (mkF m 125 #[.val .null, vR a2, vR sb, vU, vU, vU] [(.int (45 : Int32)), (.ref sb)]) := fun t h => k698 t (by
      refine XS.aloadN X694.here hx rfl (hb hby d8_122) rfl rfl ?_
      refine XS.bipush X694.here hx rfl (hb hby d8_123) ?_
      exact h)
  obtain ⟨cq700, kq700, q700a, q700b, q700c⟩ := isOf hZ rfl E_sb
  obtain ⟨_, _, ⟨T700, L700, kk700, n700⟩, -, X700, ⟨Lc700, hQ700, l700, y700, z700⟩, st700⟩ := X694.virtualBack hx (y := y_44) (z := y_44) hown (mvT hZ (hw _ (gm 70 rfl))) (mvT hZ (hw _ (gm 71 rfl))) (notFace_of_selects (args := #[]) (mvT hZ (hw _ (gm 73 rfl)))) (mvT hZ (hw _ (gm 73 rfl))) (mvT hZ (hw _ (gm 72 rfl))) (by decide) (backOf (W := 0) (rmBC l Z a0 hw [] sb (45 : Int32) tb kb ([] : List Int32) zC T694.heap n0 O696 SC hzC ge_sb ge_tb ne_sb_tb E_sb Fc694 Fv694 Fn694 Fm694 V694 (by decide) (by omega)) hZ (hw _ (gm 74 rfl)) (hw _ (gm 44 rfl)) (by decide) (by decide)) q700a q700c (g := (mkF m 125 #[.val .null, vR a2, vR sb, vU, vU, vU] [(.int (45 : Int32)), (.ref sb)])) rfl (by rw [hml]; rfl) (Steps.refl _) (argsL := [(.int (45 : Int32))]) (rest := []) (lenOf pd_11 rfl) rfl (by show 2 * 0 + _ ≤ _; exact Nat.le_of_eq rfl) (hb hby d8_125) (fun _ _ => ⟨rfl, rfl, (by decide : 2 + 0 ≤ _), (by decide : 20 + 0 ≤ _)⟩)
  dsimp only [Pt.U, Pt.locs, Pt.cells, Pt.slots] at X700 l700 y700 z700 st700 hQ700
  subst l700 y700 z700
  obtain ⟨rfl, Nq700, K700, Fc700, Fv700, Fn700, Fm700, V700⟩ := hQ700
  have N700 := Fr.app N694 Nq700
  have k701 : Rch p e below S0 T700 (mkF m 128 #[.val .null, vR a2, vR sb, vU, vU, vU] [(.ref sb)]) := fun t h => k699 t (st700.trans h)
  have O702 := O696.keep K700 (allS ge_sb (allS ge_tb all0))
  have K703 := K697.trans K700 (allS (Or.inr sz_sb) (allS (Or.inr sz_tb) all0))
  replace E_sb := E_sb.keep K700
  have k704 : Rch p e below S0 T700 (mkF m 129 #[.val .null, vR a2, vR sb, vU, vU, vU] [(.ref a2), (.ref sb)]) := fun t h => k701 t (by
      refine XS.aloadN X700.here hx rfl (hb hby d8_128) rfl rfl ?_
      exact h)
  have hq7 : ∀ c ∈ (([] : List Int32) ++ [45]), ¬ c < 0 ∧ ¬ (127 : Int32) < c := by
    intro c hc
    rcases List.mem_append.mp hc with q | q
    · exact hp0 c q
    · rw [List.mem_singleton.mp q]; decide
  have hl9 : (([] : List Int32) ++ [45]).length ≤ 4 := by rw [List.length_append]; show _ + 1 ≤ 4; omega
  rcases (S2.ext (own_ext K703)) with ⟨tt, kt, q1, q2, q3, q4, q5⟩ | ⟨tt, kt, q1, q2, q3, q4, q5⟩
  · obtain ⟨cq705, kq705, q705a, q705b, q705c⟩ := isOf hZ rfl E_sb
    obtain ⟨_, _, ⟨T705, L705, kk705, n705⟩, -, X705, ⟨Lc705, hQ705, l705, y705, z705⟩, st705⟩ := X700.virtualBack hx (y := y_17) (z := y_17) hown (mvT hZ (hw _ (gm 96 rfl))) (mvT hZ (hw _ (gm 97 rfl))) (notFace_of_selects (args := #[]) (mvT hZ (hw _ (gm 99 rfl)))) (mvT hZ (hw _ (gm 99 rfl))) (mvT hZ (hw _ (gm 98 rfl))) (by decide) (backOf (W := 0) (rmAS l Z a0 hw [] sb a2 tb tt kt (us.map b8) kb 16 (([] : List Int32) ++ [45]) zC T700.heap n0 O702 SC hzC ge_sb ge_tb ne_sb_tb E_sb Fc700 Fv700 Fn700 q1 q2 q3 q4 V700 (by rw [List.length_map]; omega) (by decide)) hZ (hw _ (gm 100 rfl)) (hw _ (gm 44 rfl)) (by decide) (by decide)) q705a q705c (g := (mkF m 129 #[.val .null, vR a2, vR sb, vU, vU, vU] [(.ref a2), (.ref sb)])) rfl (by rw [hml]; rfl) (Steps.refl _) (argsL := [(.ref a2)]) (rest := []) (lenOf pd_15 rfl) rfl (by show 2 * 0 + _ ≤ _; exact Nat.le_of_eq rfl) (hb hby d8_129) (fun _ _ => ⟨rfl, rfl, (by decide : 2 + 0 ≤ _), (by decide : 20 + 0 ≤ _)⟩)
    dsimp only [Pt.U, Pt.locs, Pt.cells, Pt.slots] at X705 l705 y705 z705 st705 hQ705
    subst l705 y705 z705
    obtain ⟨rfl, Nq705, K705, Fc705, Fv705, Fn705, V705⟩ := hQ705
    have N705 := Fr.app N700 Nq705
    have k706 : Rch p e below S0 T705 (mkF m 132 #[.val .null, vR a2, vR sb, vU, vU, vU] [(.ref sb)]) := fun t h => k704 t (st705.trans h)
    have O707 := O702.keep K705 (allS ge_sb (allS ge_tb all0))
    have K708 := K703.trans K705 (allS (Or.inr sz_sb) (allS (Or.inr sz_tb) all0))
    replace E_sb := E_sb.keep K705
    obtain ⟨cq709, kq709, q709a, q709b, q709c⟩ := isOf hZ rfl E_sb
    obtain ⟨_, _, ⟨T709, L709, kk709, n709⟩, -, X709, ⟨Lc709, hQ709, l709, y709, z709⟩, st709⟩ := X705.virtualBack hx (y := y_28) (z := y_28) hown (mvT hZ (hw _ (gm 126 rfl))) (mvT hZ (hw _ (gm 127 rfl))) (notFace_of_selects (args := #[]) (mvT hZ (hw _ (gm 129 rfl)))) (mvT hZ (hw _ (gm 129 rfl))) (mvT hZ (hw _ (gm 128 rfl))) (by decide) (backOf (W := 0) (rmTS l Z a0 hw [] sb tb kb 16 ((([] : List Int32) ++ [45]) ++ us.map b8) zC T705.heap n0 O707 SC hzC E_sb Fc705 Fv705 Fn705 V705 (by rw [List.length_append, List.length_map]; omega) (by decide)) hZ (hw _ (gm 130 rfl)) (hw _ (gm 44 rfl)) (by decide) (by decide)) q709a q709c (g := (mkF m 132 #[.val .null, vR a2, vR sb, vU, vU, vU] [(.ref sb)])) rfl (by rw [hml]; rfl) (Steps.refl _) (argsL := []) (rest := []) (lenOf pd_21 rfl) rfl (by show 2 * 0 + _ ≤ _; exact Nat.le_of_eq rfl) (hb hby d8_132) (fun _ _ => ⟨rfl, rfl, (by decide : 2 + 2 ≤ _), (by decide : 20 + 36 ≤ _)⟩)
    dsimp only [Pt.U, Pt.locs, Pt.cells, Pt.slots] at X709 l709 y709 z709 st709 hQ709
    subst l709 y709 z709
    obtain ⟨r1, y709, ky709, rfl, Nq709, E709, z709, Er709, zy709, Ey709, Gv709, Gc709, V709⟩ := hQ709
    have N709 := Fr.app N705 Nq709
    have k710 : Rch p e below S0 T709 (mkF m 135 #[.val .null, vR a2, vR sb, vU, vU, vU] [(.ref r1)]) := fun t h => k706 t (st709.trans h)
    have ne_sb_r1 : sb ≠ r1 := own_ne E_sb.lt z709
    have ne_tb_r1 : tb ≠ r1 := own_ne V705.lt z709
    have ge_r1 : n0 ≤ r1 := own_ge O707 z709
    have sz_r1 : h0.size ≤ r1 := Nat.le_trans K708.1 z709
    have O711 := O707.ext E709
    have K712 := K708.ext E709
    have eb : (([] : List Int32) ++ [45]) ++ us.map b8 = ((([] : List Int32) ++ [45]) ++ us).map b8 := by rw [List.map_append, own_b8l _ hq7]
    rw [eb] at V709
    obtain ⟨fs, hr, hrun, hended, hW, hsame⟩ := X709.leave (v := (some (.ref r1))) (fun h => by rw [Bd.returns] at h; cases h)
    refine ⟨_, _, ?_, hrun, hended, _, _, rfl, ?_, ⟨_, rfl⟩, hW, hsame.mono (by decide) (by decide)⟩
    · rw [← hS0]
      refine k710 _ ?_
      show Steps p.tables e below (T709.setTop (mkF m 135 #[.val .null, vR a2, vR sb, vU, vU, vU] [(.ref r1)])) _
      jvm_step X709.here [X709.here.top, hx, (hb hby d8_135), X709.method', Bd.returns, Value.isRef, FieldType.isReference]
      first | (intro acts; rw [hr _ acts rfl rfl rfl]) | rw [hr _ _ rfl rfl rfl]
      exact Steps.refl _
    · show Q_rmM0 Z us h0 n0 _ T709.heap _
      exact ⟨_, rfl, N709, own_ext K712, sz_r1, Or.inl ⟨_, _, Er709, Gv709, Gc709, V709, fun c hc => (List.mem_append.mp hc).elim (fun q => own_7f8 c (hq7 c q)) (q5 c)⟩⟩
  · have hts : tt ≠ sb := by
      rcases S2 with ⟨t9, k9, p1, p2, p3, p4, p5⟩ | ⟨t9, k9, p1, p2, p3, p4, p5⟩
      · exact absurd (own_fv (p3.ext (own_ext K703)) q3) (by decide)
      · have e9 := own_fr (p2.ext (own_ext K703)) q2
        rw [← e9]; exact own_dist p4.lt sz_sb
    obtain ⟨cq713, kq713, q713a, q713b, q713c⟩ := isOf hZ rfl E_sb
    obtain ⟨_, _, ⟨T713, L713, kk713, n713⟩, -, X713, ⟨Lc713, hQ713, l713, y713, z713⟩, st713⟩ := X700.virtualBack hx (y := y_17) (z := y_17) hown (mvT hZ (hw _ (gm 96 rfl))) (mvT hZ (hw _ (gm 97 rfl))) (notFace_of_selects (args := #[]) (mvT hZ (hw _ (gm 99 rfl)))) (mvT hZ (hw _ (gm 99 rfl))) (mvT hZ (hw _ (gm 98 rfl))) (by decide) (backOf (W := 0) (rmASu l Z a0 hw [] sb a2 tb tt kt us kb (([] : List Int32) ++ [45]) fm zC T700.heap n0 O702 SC hzC SAs SHi SLo SP hfm ge_sb E_sb Fc700 Fv700 Fn700 Fm700 ne_sb_tb V700 hq7 (by omega) q1 q2 q3 q4 (own_dist S2.lt sz_sb) hts (by omega)) hZ (hw _ (gm 100 rfl)) (hw _ (gm 44 rfl)) (by decide) (by decide)) q713a q713c (g := (mkF m 129 #[.val .null, vR a2, vR sb, vU, vU, vU] [(.ref a2), (.ref sb)])) rfl (by rw [hml]; rfl) (Steps.refl _) (argsL := [(.ref a2)]) (rest := []) (lenOf pd_15 rfl) rfl (by show 2 * 0 + _ ≤ _; exact Nat.le_of_eq rfl) (hb hby d8_129) (fun _ _ => ⟨rfl, rfl, (by decide : 2 + 1 ≤ _), (by decide : 20 + 32 ≤ _)⟩)
    dsimp only [Pt.U, Pt.locs, Pt.cells, Pt.slots] at X713 l713 y713 z713 st713 hQ713
    subst l713 y713 z713
    obtain ⟨rfl, Nq713, K713, t713, k2713, z713, ne713, Fc713, Fv713, Fn713, Fm713, V713⟩ := hQ713
    have N713 := Fr.app N700 Nq713
    have k714 : Rch p e below S0 T713 (mkF m 132 #[.val .null, vR a2, vR sb, vU, vU, vU] [(.ref sb)]) := fun t h => k704 t (st713.trans h)
    have ne_sb_t713 : sb ≠ t713 := own_ne E_sb.lt z713
    have ne_tb_t713 : tb ≠ t713 := own_ne V700.lt z713
    have ge_t713 : n0 ≤ t713 := own_ge O702 z713
    have sz_t713 : h0.size ≤ t713 := Nat.le_trans K703.1 z713
    have O715 := O702.keep K713 (allS ge_sb all0)
    have K716 := K703.trans K713 (allS (Or.inr sz_sb) all0)
    replace E_sb := E_sb.keep K713
    obtain ⟨cq717, kq717, q717a, q717b, q717c⟩ := isOf hZ rfl E_sb
    obtain ⟨_, _, ⟨T717, L717, kk717, n717⟩, -, X717, ⟨Lc717, hQ717, l717, y717, z717⟩, st717⟩ := X713.virtualBack hx (y := y_28) (z := y_28) hown (mvT hZ (hw _ (gm 126 rfl))) (mvT hZ (hw _ (gm 127 rfl))) (notFace_of_selects (args := #[]) (mvT hZ (hw _ (gm 129 rfl)))) (mvT hZ (hw _ (gm 129 rfl))) (mvT hZ (hw _ (gm 128 rfl))) (by decide) (backOf (W := 0) (rmTSu l Z a0 hw [] sb t713 k2713 ((([] : List Int32) ++ [45]) ++ us) zC T713.heap n0 O715 SC hzC E_sb Fc713 Fv713 Fn713 Fm713 V713 (by rw [List.length_append]; omega)) hZ (hw _ (gm 130 rfl)) (hw _ (gm 44 rfl)) (by decide) (by decide)) q717a q717c (g := (mkF m 132 #[.val .null, vR a2, vR sb, vU, vU, vU] [(.ref sb)])) rfl (by rw [hml]; rfl) (Steps.refl _) (argsL := []) (rest := []) (lenOf pd_21 rfl) rfl (by show 2 * 0 + _ ≤ _; exact Nat.le_of_eq rfl) (hb hby d8_132) (fun _ _ => ⟨rfl, rfl, (by decide : 3 + 2 ≤ _), (by decide : 52 + 36 ≤ _)⟩)
    dsimp only [Pt.U, Pt.locs, Pt.cells, Pt.slots] at X717 l717 y717 z717 st717 hQ717
    subst l717 y717 z717
    obtain ⟨r1, y717, ky717, rfl, Nq717, E717, z717, Er717, Gv717, Gc717, V717⟩ := hQ717
    have N717 := Fr.app N713 Nq717
    have k718 : Rch p e below S0 T717 (mkF m 135 #[.val .null, vR a2, vR sb, vU, vU, vU] [(.ref r1)]) := fun t h => k714 t (st717.trans h)
    have ne_sb_r1 : sb ≠ r1 := own_ne E_sb.lt z717
    have ge_r1 : n0 ≤ r1 := own_ge O715 z717
    have sz_r1 : h0.size ≤ r1 := Nat.le_trans K716.1 z717
    have O719 := O715.ext E717
    have K720 := K716.ext E717
    obtain ⟨fs, hr, hrun, hended, hW, hsame⟩ := X717.leave (v := (some (.ref r1))) (fun h => by rw [Bd.returns] at h; cases h)
    refine ⟨_, _, ?_, hrun, hended, _, _, rfl, ?_, ⟨_, rfl⟩, hW, hsame.mono (by decide) (by decide)⟩
    · rw [← hS0]
      refine k718 _ ?_
      show Steps p.tables e below (T717.setTop (mkF m 135 #[.val .null, vR a2, vR sb, vU, vU, vU] [(.ref r1)])) _
      jvm_step X717.here [X717.here.top, hx, (hb hby d8_135), X717.method', Bd.returns, Value.isRef, FieldType.isReference]
      first | (intro acts; rw [hr _ acts rfl rfl rfl]) | rw [hr _ _ rfl rfl rfl]
      exact Steps.refl _
    · show Q_rmM0 Z us h0 n0 _ T717.heap _
      exact ⟨_, rfl, N717, own_ext K720, sz_r1, Or.inr ⟨_, _, Er717, Gv717, Gc717, V717, fun c hc => (List.mem_append.mp hc).elim (fun q => own_8f c (own_7f8 c (hq7 c q))) (q5 c)⟩⟩
def Q_rmM1 (Z : State) (cs : List Int32) (us : List Int32) (h0 : Heap) (n0 : Nat) (v : Option Value) (h : Heap) (L : List Loc) : Prop := ∃ r1, v = some (.ref r1) ∧ Fr n0 L ∧ Ext h0 h ∧ h0.size ≤ r1 ∧ Stg Z h r1 ((cs.map own_nm ++ [45]) ++ us)
theorem ef_8 (m : MethodId) (x0 : Addr) (x1 : Addr) : entryFrame m #[(.ref x0), (.ref x1)] 6 = mkF m 0 #[.val (.ref x0), .val (.ref x1), .unset, .unset, .unset, .unset] [] := by first | (simp [entryFrame, mkF, argsToLocals, Value.category]; done) | rfl
theorem d8_12 : decode prog_2_method_3_code 12 = .ok (.iconst 0, 1) := by decide +kernel
theorem d8_13 : decode prog_2_method_3_code 13 = .ok (.istore_n 3, 1) := by decide +kernel
theorem d8_14 : decode prog_2_method_3_code 14 = .ok (.iload_n 3, 1) := by decide +kernel
theorem d8_15 : decode prog_2_method_3_code 15 = .ok (.aload_n 0, 1) := by decide +kernel
theorem d8_16 : decode prog_2_method_3_code 16 = .ok (.invokevirtual 20, 3) := by decide +kernel
theorem d8_19 : decode prog_2_method_3_code 19 = .ok (.if_icmp .ge 103, 3) := by decide +kernel
theorem d8_22 : decode prog_2_method_3_code 22 = .ok (.aload_n 0, 1) := by decide +kernel
theorem d8_23 : decode prog_2_method_3_code 23 = .ok (.iload_n 3, 1) := by decide +kernel
theorem pd_28 : parseMethodDescriptor "(I)C" = some ⟨[.int], some .char⟩ := by decide +kernel
theorem d8_24 : decode prog_2_method_3_code 24 = .ok (.invokevirtual 26, 3) := by decide +kernel
theorem d8_27 : decode prog_2_method_3_code 27 = .ok (.istore 4, 2) := by decide +kernel
theorem d8_29 : decode prog_2_method_3_code 29 = .ok (.iload 4, 2) := by decide +kernel
theorem d8_31 : decode prog_2_method_3_code 31 = .ok (.bipush 97, 2) := by decide +kernel
theorem d8_33 : decode prog_2_method_3_code 33 = .ok (.if_icmp .lt 10, 3) := by decide +kernel
theorem d8_36 : decode prog_2_method_3_code 36 = .ok (.iload 4, 2) := by decide +kernel
theorem d8_38 : decode prog_2_method_3_code 38 = .ok (.bipush 122, 2) := by decide +kernel
theorem d8_40 : decode prog_2_method_3_code 40 = .ok (.if_icmp .le 52, 3) := by decide +kernel
theorem d8_92 : decode prog_2_method_3_code 92 = .ok (.iconst 1, 1) := by decide +kernel
theorem d8_93 : decode prog_2_method_3_code 93 = .ok (.goto 4, 3) := by decide +kernel
theorem d8_97 : decode prog_2_method_3_code 97 = .ok (.istore 5, 2) := by decide +kernel
theorem d8_43 : decode prog_2_method_3_code 43 = .ok (.iload 4, 2) := by decide +kernel
theorem d8_45 : decode prog_2_method_3_code 45 = .ok (.bipush 65, 2) := by decide +kernel
theorem d8_47 : decode prog_2_method_3_code 47 = .ok (.if_icmp .lt 10, 3) := by decide +kernel
theorem d8_50 : decode prog_2_method_3_code 50 = .ok (.iload 4, 2) := by decide +kernel
theorem d8_52 : decode prog_2_method_3_code 52 = .ok (.bipush 90, 2) := by decide +kernel
theorem d8_54 : decode prog_2_method_3_code 54 = .ok (.if_icmp .le 38, 3) := by decide +kernel
theorem d8_57 : decode prog_2_method_3_code 57 = .ok (.iload 4, 2) := by decide +kernel
theorem d8_59 : decode prog_2_method_3_code 59 = .ok (.bipush 48, 2) := by decide +kernel
theorem d8_61 : decode prog_2_method_3_code 61 = .ok (.if_icmp .lt 10, 3) := by decide +kernel
theorem d8_64 : decode prog_2_method_3_code 64 = .ok (.iload 4, 2) := by decide +kernel
theorem d8_66 : decode prog_2_method_3_code 66 = .ok (.bipush 57, 2) := by decide +kernel
theorem d8_68 : decode prog_2_method_3_code 68 = .ok (.if_icmp .le 24, 3) := by decide +kernel
theorem d8_71 : decode prog_2_method_3_code 71 = .ok (.iload 4, 2) := by decide +kernel
theorem d8_73 : decode prog_2_method_3_code 73 = .ok (.bipush 46, 2) := by decide +kernel
theorem d8_75 : decode prog_2_method_3_code 75 = .ok (.if_icmp .eq 17, 3) := by decide +kernel
theorem d8_78 : decode prog_2_method_3_code 78 = .ok (.iload 4, 2) := by decide +kernel
theorem d8_80 : decode prog_2_method_3_code 80 = .ok (.bipush 45, 2) := by decide +kernel
theorem d8_82 : decode prog_2_method_3_code 82 = .ok (.if_icmp .eq 10, 3) := by decide +kernel
theorem d8_85 : decode prog_2_method_3_code 85 = .ok (.iload 4, 2) := by decide +kernel
theorem d8_87 : decode prog_2_method_3_code 87 = .ok (.bipush 95, 2) := by decide +kernel
theorem d8_89 : decode prog_2_method_3_code 89 = .ok (.if_icmp .ne 7, 3) := by decide +kernel
theorem d8_96 : decode prog_2_method_3_code 96 = .ok (.iconst 0, 1) := by decide +kernel
theorem d8_99 : decode prog_2_method_3_code 99 = .ok (.aload_n 2, 1) := by decide +kernel
theorem d8_100 : decode prog_2_method_3_code 100 = .ok (.iload 5, 2) := by decide +kernel
theorem d8_102 : decode prog_2_method_3_code 102 = .ok (.ifCond .eq 8, 3) := by decide +kernel
theorem d8_105 : decode prog_2_method_3_code 105 = .ok (.iload 4, 2) := by decide +kernel
theorem d8_107 : decode prog_2_method_3_code 107 = .ok (.goto 5, 3) := by decide +kernel
theorem d8_112 : decode prog_2_method_3_code 112 = .ok (.invokevirtual 32, 3) := by decide +kernel
theorem d8_115 : decode prog_2_method_3_code 115 = .ok (.pop, 1) := by decide +kernel
theorem d8_116 : decode prog_2_method_3_code 116 = .ok (.iinc 3 1, 3) := by decide +kernel
theorem d8_119 : decode prog_2_method_3_code 119 = .ok (.goto (-105), 3) := by decide +kernel
theorem d8_110 : decode prog_2_method_3_code 110 = .ok (.bipush 95, 2) := by decide +kernel
theorem rmM1 (l : Launch) (Z : State) (a0 : Array Value) (hw : HW Z a0) (ws : List Jvm.Cond) (a1 : Addr) (a2 : Addr) (cs : List Int32) (us : List Int32) (fm : Value) (zC : Int32) (h0 : Heap) (n0 : Nat) (O0 : Old Z n0 h0) (SC : Sta Z Z.heap "java/lang/String" "COMPACT_STRINGS" "Z" (.int zC)) (hzC : ¬ zC = 0) (SAs : Sta Z Z.heap "java/lang/StringUTF16" "$assertionsDisabled" "Z" (.int (1 : Int32))) (SHi : Sta Z Z.heap "java/lang/StringUTF16" "HI_BYTE_SHIFT" "I" (.int (0 : Int32))) (SLo : Sta Z Z.heap "java/lang/StringUTF16" "LO_BYTE_SHIFT" "I" (.int (8 : Int32))) (SP : Sta Z Z.heap "jdk/internal/util/Preconditions" "SIOOBE_FORMATTER" "Ljava/util/function/BiFunction;" fm) (hfm : fm = .null ∨ ∃ wP, fm = .ref wP) (S1 : Stg Z h0 a1 cs) (hcn : cs.length ≤ 3) (S2 : Stg Z h0 a2 us) (hu : us.length ≤ 2) :
    MF l Z y_49 prog_2_method_3_code 6 (some (.object "java/lang/String")) ws ({ frames := 10, cells := 5, slots := 104, locals := 184 } : Room) #[(.ref a1), (.ref a2)] h0 (Q_rmM1 Z cs us h0 n0) := by
  refine MetFree.of_bodySF (plainFor_of_name pn_EntryName) hisR ?_
  intro p e s m args below meth c s₁ Bd hml0 hP hK
  obtain ⟨rfl, hZ, hh⟩ := hP
  have hx := Bd.exec
  have hby := Bd.bytes
  have hml : c.maxLocals = 6 := hml0
  have hown : s.vm.findClass "com/example/nuthatch/nuthatch/EntryName" = some m.cls := findClass_of_methodNamed Bd.named
  have hnm := (name_of_methodNamed Bd.named Bd.method).1
  have X0 : Stand p l e ({ frames := 10, cells := 5, slots := 104, locals := 184 } : Room) s m #[(.ref a1), (.ref a2)] below meth c s₁ [] 0 0 := Stand.of_body Bd
  have e0 : s₁.heap = h0 := by rw [← hh, Bd.state]; rfl
  have N0 := Fr.nil n0
  obtain ⟨S0, hS0⟩ : ∃ z, z = s₁.setTop (entryFrame m #[(.ref a1), (.ref a2)] 6) := ⟨_, rfl⟩
  have k0 : Rch p e below S0 s₁ (mkF m 0 #[vR a1, vR a2, vU, vU, vU, vU] []) := fun t kq => hS0 ▸ castTop (ef_8 m a1 a2) kq
  have K0 : Keep h0 h0 [] := Keep.refl h0 _
  obtain ⟨T721, h721, X721, e721, E721, A721, D721, -, st721⟩ := newO X0 hx hZ hown (hw _ (gm 42 rfl)) (hw _ (gm 43 rfl)) (hw _ (gm 44 rfl)) e0 (g := (mkF m 0 #[vR a1, vR a2, vU, vU, vU, vU] [])) rfl (hb hby d8_0) (by decide) (by decide)
  obtain ⟨b721, g721⟩ : ∃ z, z = h0.size := ⟨_, rfl⟩
  rw [← g721] at A721 D721 st721
  have k722 : Rch p e below S0 T721 (mkF m 3 #[vR a1, vR a2, vU, vU, vU, vU] [(.ref b721)]) := fun t h => k0 t (st721 t h)
  have ge_b721 : n0 ≤ b721 := own_ge O0 (Nat.le_of_eq g721.symm)
  have sz_b721 : h0.size ≤ b721 := Nat.le_trans K0.1 (Nat.le_of_eq g721.symm)
  have O723 := O0.ext E721
  have K724 := K0.ext E721
  have E_b721 := A721
  have F_b721_value : Fld Z h721 b721 "java/lang/AbstractStringBuilder" "value" "[B" .null := D721 (Or.inl (hw _ (gm 57 rfl))) (ty := (.array .byte)) (by decide)
  have F_b721_coder : Fld Z h721 b721 "java/lang/AbstractStringBuilder" "coder" "B" (.int (0 : Int32)) := D721 (Or.inl (hw _ (gm 59 rfl))) (ty := .byte) (by decide)
  have F_b721_count : Fld Z h721 b721 "java/lang/AbstractStringBuilder" "count" "I" (.int (0 : Int32)) := D721 (Or.inl (hw _ (gm 81 rfl))) (ty := .int) (by decide)
  have F_b721_maybeLatin1 : Fld Z h721 b721 "java/lang/AbstractStringBuilder" "maybeLatin1" "Z" (.int (0 : Int32)) := D721 (Or.inl (hw _ (gm 233 rfl))) (ty := .boolean) (by decide)
  have k725 : Rch p e below S0 T721 (mkF m 4 #[vR a1, vR a2, vU, vU, vU, vU] [(.ref b721), (.ref b721)]) := fun t h => k722 t (by
      refine XS.dup X721.here hx rfl (hb hby d8_3) rfl rfl ?_
      exact h)
  obtain ⟨sb, hsb⟩ : ∃ z, z = b721 := ⟨_, rfl⟩
  obtain ⟨_, _, ⟨T726, L726, kk726, n726⟩, -, X726, ⟨Lc726, hQ726, l726, y726, z726⟩, st726⟩ := X721.specialBack hx (y := y_41) rfl hown (mvT hZ (hw _ (gm 45 rfl))) (mvT hZ (hw _ (gm 46 rfl))) (mvT hZ (hw _ (gm 47 rfl))) (by decide) (backOf (W := 1) (rmSI l Z a0 hw [] b721 zC h721 n0 O723 SC hzC ge_b721 E_b721 F_b721_coder F_b721_value F_b721_count F_b721_maybeLatin1) hZ (hw _ (gm 47 rfl)) (hw _ (gm 44 rfl)) (by decide) (by decide)) (g := (mkF m 4 #[vR a1, vR a2, vU, vU, vU, vU] [(.ref b721), (.ref b721)])) rfl (by rw [hml]; rfl) (Steps.refl _) (a := b721) (argsL := []) (rest := [(.ref b721)]) (lenOf pd_3 rfl) rfl (by show 2 * 0 + _ ≤ _; exact Nat.le_of_eq rfl) (hb hby d8_4) (fun _ _ => ⟨rfl, e721, (by decide : 1 + 1 ≤ _), (by decide : 4 + 16 ≤ _)⟩)
  dsimp only [Pt.U, Pt.locs, Pt.cells, Pt.slots] at X726 l726 y726 z726 st726 hQ726
  subst l726 y726 z726
  obtain ⟨rfl, Nq726, K726, tb, kb, zt726, ne_sb_tb, Fc726, Fv726, Fn726, Fm726, V726⟩ := hQ726
  have N726 := Fr.app N0 Nq726
  have k727 : Rch p e below S0 T726 (mkF m 7 #[vR a1, vR a2, vU, vU, vU, vU] [(.ref b721)]) := fun t h => k725 t (st726.trans h)
  have ne_b721_tb : b721 ≠ tb := own_ne E_b721.lt zt726
  have ge_tb : n0 ≤ tb := own_ge O723 zt726
  have sz_tb : h0.size ≤ tb := Nat.le_trans K724.1 zt726
  have O728 := O723.keep K726 (allS ge_b721 all0)
  have K729 := K724.trans K726 (allS (Or.inr sz_b721) all0)
  replace E_b721 := E_b721.keep K726
  rw [← hsb] at ne_sb_tb Fc726 Fv726 Fn726 Fm726 E_b721 ge_b721 sz_b721 k727
  have E_sb := E_b721
  have ge_sb := ge_b721
  have sz_sb := sz_b721
  have k730 : Rch p e below S0 T726 (mkF m 14 #[vR a1, vR a2, vR sb, vI 0, vU, vU] []) := fun t h => k727 t (by
      refine XS.astoreN X726.here hx rfl (hb hby d8_7) rfl rfl (l' := #[vR a1, vR a2, vR sb, vU, vU, vU]) rfl ?_
      refine XS.aloadN X726.here hx rfl (hb hby d8_8) rfl rfl ?_
      refine XS.ifnullNo X726.here hx rfl (hb hby d8_9) rfl ?_
      refine XS.iconst X726.here hx rfl (hb hby d8_12) ?_
      refine XS.istoreN X726.here hx rfl (hb hby d8_13) rfl (l' := #[vR a1, vR a2, vR sb, vI 0, vU, vU]) rfl ?_
      exact h)
  refine (?_ : ∀ (j i : Nat), i + j = cs.length → ∀ (T : State) (h1 : Heap) (lo : List Loc) (s4 s5 : Slot), Stand p l e ({ frames := 10, cells := 5, slots := 104, locals := 184 } : Room) s m #[(.ref a1), (.ref a2)] below meth c T lo 2 20 → T.heap = h1 → Fr n0 lo → Old Z n0 h1 → Keep h0 h1 [] → One s4 → One s5 → Exa Z h1 sb "java/lang/StringBuilder" → Fld Z h1 sb "java/lang/AbstractStringBuilder" "coder" "B" (.int (0 : Int32)) → Fld Z h1 sb "java/lang/AbstractStringBuilder" "value" "[B" (.ref tb) → Fld Z h1 sb "java/lang/AbstractStringBuilder" "count" "I" (.int (Int32.ofNat ((cs.take i).map own_nm).length)) → Fld Z h1 sb "java/lang/AbstractStringBuilder" "maybeLatin1" "Z" (.int (0 : Int32)) → Arv Z h1 tb kb .byte (Int32.ofNat 16) (((cs.take i).map own_nm).map Value.int) (.int (0 : Int32)) → Rch p e below S0 T (mkF m 14 #[vR a1, vR a2, vR sb, vI (Int32.ofNat i), s4, s5] []) → _) cs.length 0 (by omega) _ _ _ _ _ X726 rfl N726 O728 K729 One.u One.u E_sb Fc726 Fv726 Fn726 Fm726 V726 k730
  clear E_sb Fc726 Fv726 Fn726 Fm726 V726
  intro j
  induction j with
  | zero =>
    intro i hi T h1 lo s4 s5 X eT NN OO KK hs4 hs5 E_sb Fc Fv Fn Fm Vb kk
    obtain rfl : i = cs.length := by omega
    rw [List.take_length] at Fn Vb
    have Ea1 := S1.exa.ext (own_ext KK)
    have ne_a1_sb := own_dist S1.lt sz_sb
    have ne_a1_tb := own_dist S1.lt sz_tb
    have k731 : Rch p e below S0 T (mkF m 16 #[vR a1, vR a2, vR sb, vI (Int32.ofNat cs.length), s4, s5] [(.ref a1), (.int (Int32.ofNat cs.length))]) := fun t h => kk t (by
        refine XS.iloadN X.here hx rfl (hb hby d8_14) rfl ?_
        refine XS.aloadN X.here hx rfl (hb hby d8_15) rfl rfl ?_
        exact h)
    obtain ⟨cq732, kq732, q732a, q732b, q732c⟩ := isOf hZ eT Ea1
    obtain ⟨_, _, ⟨T732, L732, kk732, n732⟩, -, X732, ⟨Lc732, hQ732, l732, y732, z732⟩, st732⟩ := X.virtualBack hx (y := y_11) (z := y_11) hown (mvT hZ (hw _ (gm 60 rfl))) (mvT hZ (hw _ (gm 61 rfl))) (notFace_of_selects (args := #[]) (mvT hZ (hw _ (gm 63 rfl)))) (mvT hZ (hw _ (gm 63 rfl))) (mvT hZ (hw _ (gm 62 rfl))) (by decide) (backOf (W := 1) (rmLEs l Z a0 hw [] a1 cs zC h1 n0 OO SC hzC (S1.ext (own_ext KK)) (by omega)) hZ (hw _ (gm 64 rfl)) (hw _ (gm 7 rfl)) (by decide) (by decide)) q732a q732c (g := (mkF m 16 #[vR a1, vR a2, vR sb, vI (Int32.ofNat cs.length), s4, s5] [(.ref a1), (.int (Int32.ofNat cs.length))])) rfl (by rw [hml]; rfl) (Steps.refl _) (argsL := []) (rest := [(.int (Int32.ofNat cs.length))]) (lenOf pd_9 rfl) rfl (by show 2 * 0 + _ ≤ _; exact Nat.le_of_eq rfl) (hb hby d8_16) (fun _ _ => ⟨rfl, eT, (by decide : 2 + 0 ≤ _), (by decide : 20 + 0 ≤ _)⟩)
    dsimp only [Pt.U, Pt.locs, Pt.cells, Pt.slots] at X732 l732 y732 z732 st732 hQ732
    subst l732 y732 z732
    obtain ⟨rfl, Nq732, hh732⟩ := hQ732
    have N732 := Fr.app NN Nq732
    have k733 : Rch p e below S0 T732 (mkF m 19 #[vR a1, vR a2, vR sb, vI (Int32.ofNat cs.length), s4, s5] [(.int (Int32.ofNat cs.length)), (.int (Int32.ofNat cs.length))]) := fun t h => k731 t (st732.trans h)
    have k734 : Rch p e below S0 T732 (mkF m 122 #[vR a1, vR a2, vR sb, vI (Int32.ofNat cs.length), s4, s5] []) := fun t h => k733 t (by
        refine XS.icmpYes X732.here hx rfl (pc0 := 19) (pc' := 122) rfl (hb hby d8_19) rfl (flt ((fun q => Nat.lt_irrefl _ ((own_olt (by omega) (by omega)).mp q)) : ¬ ((Int32.ofNat cs.length) < (Int32.ofNat cs.length)))).2.1 (by decide) (by decide) ?_
        exact h)
    have hp0 : ∀ c ∈ cs.map own_nm, ¬ c < 0 ∧ ¬ (127 : Int32) < c := fun c hc => by
      obtain ⟨y, -, rfl⟩ := List.mem_map.mp hc
      exact own_nm7 y
    have hl0 : (cs.map own_nm).length = cs.length := List.length_map ..
    have k735 : Rch p e below S0 T732 (mkF m 125 #[vR a1, vR a2, vR sb, vI (Int32.ofNat cs.length), s4, s5] [(.int (45 : Int32)), (.ref sb)]) := fun t h => k734 t (by
        refine XS.aloadN X732.here hx rfl (hb hby d8_122) rfl rfl ?_
        refine XS.bipush X732.here hx rfl (hb hby d8_123) ?_
        exact h)
    obtain ⟨cq736, kq736, q736a, q736b, q736c⟩ := isOf hZ hh732 E_sb
    obtain ⟨_, _, ⟨T736, L736, kk736, n736⟩, -, X736, ⟨Lc736, hQ736, l736, y736, z736⟩, st736⟩ := X732.virtualBack hx (y := y_44) (z := y_44) hown (mvT hZ (hw _ (gm 70 rfl))) (mvT hZ (hw _ (gm 71 rfl))) (notFace_of_selects (args := #[]) (mvT hZ (hw _ (gm 73 rfl)))) (mvT hZ (hw _ (gm 73 rfl))) (mvT hZ (hw _ (gm 72 rfl))) (by decide) (backOf (W := 0) (rmBC l Z a0 hw [] sb (45 : Int32) tb kb (cs.map own_nm) zC h1 n0 OO SC hzC ge_sb ge_tb ne_sb_tb E_sb Fc Fv Fn Fm Vb (by decide) (by omega)) hZ (hw _ (gm 74 rfl)) (hw _ (gm 44 rfl)) (by decide) (by decide)) q736a q736c (g := (mkF m 125 #[vR a1, vR a2, vR sb, vI (Int32.ofNat cs.length), s4, s5] [(.int (45 : Int32)), (.ref sb)])) rfl (by rw [hml]; rfl) (Steps.refl _) (argsL := [(.int (45 : Int32))]) (rest := []) (lenOf pd_11 rfl) rfl (by show 2 * 0 + _ ≤ _; exact Nat.le_of_eq rfl) (hb hby d8_125) (fun _ _ => ⟨rfl, hh732, (by decide : 2 + 0 ≤ _), (by decide : 20 + 0 ≤ _)⟩)
    dsimp only [Pt.U, Pt.locs, Pt.cells, Pt.slots] at X736 l736 y736 z736 st736 hQ736
    subst l736 y736 z736
    obtain ⟨rfl, Nq736, K736, Fc736, Fv736, Fn736, Fm736, V736⟩ := hQ736
    have N736 := Fr.app N732 Nq736
    have k737 : Rch p e below S0 T736 (mkF m 128 #[vR a1, vR a2, vR sb, vI (Int32.ofNat cs.length), s4, s5] [(.ref sb)]) := fun t h => k735 t (st736.trans h)
    have O738 := OO.keep K736 (allS ge_sb (allS ge_tb all0))
    have K739 := KK.trans K736 (allS (Or.inr sz_sb) (allS (Or.inr sz_tb) all0))
    replace E_sb := E_sb.keep K736
    have k740 : Rch p e below S0 T736 (mkF m 129 #[vR a1, vR a2, vR sb, vI (Int32.ofNat cs.length), s4, s5] [(.ref a2), (.ref sb)]) := fun t h => k737 t (by
        refine XS.aloadN X736.here hx rfl (hb hby d8_128) rfl rfl ?_
        exact h)
    have hq7 : ∀ c ∈ ((cs.map own_nm) ++ [45]), ¬ c < 0 ∧ ¬ (127 : Int32) < c := by
      intro c hc
      rcases List.mem_append.mp hc with q | q
      · exact hp0 c q
      · rw [List.mem_singleton.mp q]; decide
    have hl9 : ((cs.map own_nm) ++ [45]).length ≤ 4 := by rw [List.length_append]; show _ + 1 ≤ 4; omega
    rcases (S2.ext (own_ext K739)) with ⟨tt, kt, q1, q2, q3, q4, q5⟩ | ⟨tt, kt, q1, q2, q3, q4, q5⟩
    · obtain ⟨cq741, kq741, q741a, q741b, q741c⟩ := isOf hZ rfl E_sb
      obtain ⟨_, _, ⟨T741, L741, kk741, n741⟩, -, X741, ⟨Lc741, hQ741, l741, y741, z741⟩, st741⟩ := X736.virtualBack hx (y := y_17) (z := y_17) hown (mvT hZ (hw _ (gm 96 rfl))) (mvT hZ (hw _ (gm 97 rfl))) (notFace_of_selects (args := #[]) (mvT hZ (hw _ (gm 99 rfl)))) (mvT hZ (hw _ (gm 99 rfl))) (mvT hZ (hw _ (gm 98 rfl))) (by decide) (backOf (W := 0) (rmAS l Z a0 hw [] sb a2 tb tt kt (us.map b8) kb 16 ((cs.map own_nm) ++ [45]) zC T736.heap n0 O738 SC hzC ge_sb ge_tb ne_sb_tb E_sb Fc736 Fv736 Fn736 q1 q2 q3 q4 V736 (by rw [List.length_map]; omega) (by decide)) hZ (hw _ (gm 100 rfl)) (hw _ (gm 44 rfl)) (by decide) (by decide)) q741a q741c (g := (mkF m 129 #[vR a1, vR a2, vR sb, vI (Int32.ofNat cs.length), s4, s5] [(.ref a2), (.ref sb)])) rfl (by rw [hml]; rfl) (Steps.refl _) (argsL := [(.ref a2)]) (rest := []) (lenOf pd_15 rfl) rfl (by show 2 * 0 + _ ≤ _; exact Nat.le_of_eq rfl) (hb hby d8_129) (fun _ _ => ⟨rfl, rfl, (by decide : 2 + 0 ≤ _), (by decide : 20 + 0 ≤ _)⟩)
      dsimp only [Pt.U, Pt.locs, Pt.cells, Pt.slots] at X741 l741 y741 z741 st741 hQ741
      subst l741 y741 z741
      obtain ⟨rfl, Nq741, K741, Fc741, Fv741, Fn741, V741⟩ := hQ741
      have N741 := Fr.app N736 Nq741
      have k742 : Rch p e below S0 T741 (mkF m 132 #[vR a1, vR a2, vR sb, vI (Int32.ofNat cs.length), s4, s5] [(.ref sb)]) := fun t h => k740 t (st741.trans h)
      have O743 := O738.keep K741 (allS ge_sb (allS ge_tb all0))
      have K744 := K739.trans K741 (allS (Or.inr sz_sb) (allS (Or.inr sz_tb) all0))
      replace E_sb := E_sb.keep K741
      obtain ⟨cq745, kq745, q745a, q745b, q745c⟩ := isOf hZ rfl E_sb
      obtain ⟨_, _, ⟨T745, L745, kk745, n745⟩, -, X745, ⟨Lc745, hQ745, l745, y745, z745⟩, st745⟩ := X741.virtualBack hx (y := y_28) (z := y_28) hown (mvT hZ (hw _ (gm 126 rfl))) (mvT hZ (hw _ (gm 127 rfl))) (notFace_of_selects (args := #[]) (mvT hZ (hw _ (gm 129 rfl)))) (mvT hZ (hw _ (gm 129 rfl))) (mvT hZ (hw _ (gm 128 rfl))) (by decide) (backOf (W := 0) (rmTS l Z a0 hw [] sb tb kb 16 (((cs.map own_nm) ++ [45]) ++ us.map b8) zC T741.heap n0 O743 SC hzC E_sb Fc741 Fv741 Fn741 V741 (by rw [List.length_append, List.length_map]; omega) (by decide)) hZ (hw _ (gm 130 rfl)) (hw _ (gm 44 rfl)) (by decide) (by decide)) q745a q745c (g := (mkF m 132 #[vR a1, vR a2, vR sb, vI (Int32.ofNat cs.length), s4, s5] [(.ref sb)])) rfl (by rw [hml]; rfl) (Steps.refl _) (argsL := []) (rest := []) (lenOf pd_21 rfl) rfl (by show 2 * 0 + _ ≤ _; exact Nat.le_of_eq rfl) (hb hby d8_132) (fun _ _ => ⟨rfl, rfl, (by decide : 2 + 2 ≤ _), (by decide : 20 + 36 ≤ _)⟩)
      dsimp only [Pt.U, Pt.locs, Pt.cells, Pt.slots] at X745 l745 y745 z745 st745 hQ745
      subst l745 y745 z745
      obtain ⟨r1, y745, ky745, rfl, Nq745, E745, z745, Er745, zy745, Ey745, Gv745, Gc745, V745⟩ := hQ745
      have N745 := Fr.app N741 Nq745
      have k746 : Rch p e below S0 T745 (mkF m 135 #[vR a1, vR a2, vR sb, vI (Int32.ofNat cs.length), s4, s5] [(.ref r1)]) := fun t h => k742 t (st745.trans h)
      have ne_sb_r1 : sb ≠ r1 := own_ne E_sb.lt z745
      have ne_tb_r1 : tb ≠ r1 := own_ne V741.lt z745
      have ge_r1 : n0 ≤ r1 := own_ge O743 z745
      have sz_r1 : h0.size ≤ r1 := Nat.le_trans K744.1 z745
      have O747 := O743.ext E745
      have K748 := K744.ext E745
      have eb : ((cs.map own_nm) ++ [45]) ++ us.map b8 = (((cs.map own_nm) ++ [45]) ++ us).map b8 := by rw [List.map_append, own_b8l _ hq7]
      rw [eb] at V745
      obtain ⟨fs, hr, hrun, hended, hW, hsame⟩ := X745.leave (v := (some (.ref r1))) (fun h => by rw [Bd.returns] at h; cases h)
      refine ⟨_, _, ?_, hrun, hended, _, _, rfl, ?_, ⟨_, rfl⟩, hW, hsame.mono (by decide) (by decide)⟩
      · rw [← hS0]
        refine k746 _ ?_
        show Steps p.tables e below (T745.setTop (mkF m 135 #[vR a1, vR a2, vR sb, vI (Int32.ofNat cs.length), s4, s5] [(.ref r1)])) _
        jvm_step X745.here [X745.here.top, hx, (hb hby d8_135), X745.method', Bd.returns, Value.isRef, FieldType.isReference]
        first | (intro acts; rw [hr _ acts rfl rfl rfl]) | rw [hr _ _ rfl rfl rfl]
        exact Steps.refl _
      · show Q_rmM1 Z cs us h0 n0 _ T745.heap _
        exact ⟨_, rfl, N745, own_ext K748, sz_r1, Or.inl ⟨_, _, Er745, Gv745, Gc745, V745, fun c hc => (List.mem_append.mp hc).elim (fun q => own_7f8 c (hq7 c q)) (q5 c)⟩⟩
    · have hts : tt ≠ sb := by
        rcases S2 with ⟨t9, k9, p1, p2, p3, p4, p5⟩ | ⟨t9, k9, p1, p2, p3, p4, p5⟩
        · exact absurd (own_fv (p3.ext (own_ext K739)) q3) (by decide)
        · have e9 := own_fr (p2.ext (own_ext K739)) q2
          rw [← e9]; exact own_dist p4.lt sz_sb
      obtain ⟨cq749, kq749, q749a, q749b, q749c⟩ := isOf hZ rfl E_sb
      obtain ⟨_, _, ⟨T749, L749, kk749, n749⟩, -, X749, ⟨Lc749, hQ749, l749, y749, z749⟩, st749⟩ := X736.virtualBack hx (y := y_17) (z := y_17) hown (mvT hZ (hw _ (gm 96 rfl))) (mvT hZ (hw _ (gm 97 rfl))) (notFace_of_selects (args := #[]) (mvT hZ (hw _ (gm 99 rfl)))) (mvT hZ (hw _ (gm 99 rfl))) (mvT hZ (hw _ (gm 98 rfl))) (by decide) (backOf (W := 0) (rmASu l Z a0 hw [] sb a2 tb tt kt us kb ((cs.map own_nm) ++ [45]) fm zC T736.heap n0 O738 SC hzC SAs SHi SLo SP hfm ge_sb E_sb Fc736 Fv736 Fn736 Fm736 ne_sb_tb V736 hq7 (by omega) q1 q2 q3 q4 (own_dist S2.lt sz_sb) hts (by omega)) hZ (hw _ (gm 100 rfl)) (hw _ (gm 44 rfl)) (by decide) (by decide)) q749a q749c (g := (mkF m 129 #[vR a1, vR a2, vR sb, vI (Int32.ofNat cs.length), s4, s5] [(.ref a2), (.ref sb)])) rfl (by rw [hml]; rfl) (Steps.refl _) (argsL := [(.ref a2)]) (rest := []) (lenOf pd_15 rfl) rfl (by show 2 * 0 + _ ≤ _; exact Nat.le_of_eq rfl) (hb hby d8_129) (fun _ _ => ⟨rfl, rfl, (by decide : 2 + 1 ≤ _), (by decide : 20 + 32 ≤ _)⟩)
      dsimp only [Pt.U, Pt.locs, Pt.cells, Pt.slots] at X749 l749 y749 z749 st749 hQ749
      subst l749 y749 z749
      obtain ⟨rfl, Nq749, K749, t749, k2749, z749, ne749, Fc749, Fv749, Fn749, Fm749, V749⟩ := hQ749
      have N749 := Fr.app N736 Nq749
      have k750 : Rch p e below S0 T749 (mkF m 132 #[vR a1, vR a2, vR sb, vI (Int32.ofNat cs.length), s4, s5] [(.ref sb)]) := fun t h => k740 t (st749.trans h)
      have ne_sb_t749 : sb ≠ t749 := own_ne E_sb.lt z749
      have ne_tb_t749 : tb ≠ t749 := own_ne V736.lt z749
      have ge_t749 : n0 ≤ t749 := own_ge O738 z749
      have sz_t749 : h0.size ≤ t749 := Nat.le_trans K739.1 z749
      have O751 := O738.keep K749 (allS ge_sb all0)
      have K752 := K739.trans K749 (allS (Or.inr sz_sb) all0)
      replace E_sb := E_sb.keep K749
      obtain ⟨cq753, kq753, q753a, q753b, q753c⟩ := isOf hZ rfl E_sb
      obtain ⟨_, _, ⟨T753, L753, kk753, n753⟩, -, X753, ⟨Lc753, hQ753, l753, y753, z753⟩, st753⟩ := X749.virtualBack hx (y := y_28) (z := y_28) hown (mvT hZ (hw _ (gm 126 rfl))) (mvT hZ (hw _ (gm 127 rfl))) (notFace_of_selects (args := #[]) (mvT hZ (hw _ (gm 129 rfl)))) (mvT hZ (hw _ (gm 129 rfl))) (mvT hZ (hw _ (gm 128 rfl))) (by decide) (backOf (W := 0) (rmTSu l Z a0 hw [] sb t749 k2749 (((cs.map own_nm) ++ [45]) ++ us) zC T749.heap n0 O751 SC hzC E_sb Fc749 Fv749 Fn749 Fm749 V749 (by rw [List.length_append]; omega)) hZ (hw _ (gm 130 rfl)) (hw _ (gm 44 rfl)) (by decide) (by decide)) q753a q753c (g := (mkF m 132 #[vR a1, vR a2, vR sb, vI (Int32.ofNat cs.length), s4, s5] [(.ref sb)])) rfl (by rw [hml]; rfl) (Steps.refl _) (argsL := []) (rest := []) (lenOf pd_21 rfl) rfl (by show 2 * 0 + _ ≤ _; exact Nat.le_of_eq rfl) (hb hby d8_132) (fun _ _ => ⟨rfl, rfl, (by decide : 3 + 2 ≤ _), (by decide : 52 + 36 ≤ _)⟩)
      dsimp only [Pt.U, Pt.locs, Pt.cells, Pt.slots] at X753 l753 y753 z753 st753 hQ753
      subst l753 y753 z753
      obtain ⟨r1, y753, ky753, rfl, Nq753, E753, z753, Er753, Gv753, Gc753, V753⟩ := hQ753
      have N753 := Fr.app N749 Nq753
      have k754 : Rch p e below S0 T753 (mkF m 135 #[vR a1, vR a2, vR sb, vI (Int32.ofNat cs.length), s4, s5] [(.ref r1)]) := fun t h => k750 t (st753.trans h)
      have ne_sb_r1 : sb ≠ r1 := own_ne E_sb.lt z753
      have ge_r1 : n0 ≤ r1 := own_ge O751 z753
      have sz_r1 : h0.size ≤ r1 := Nat.le_trans K752.1 z753
      have O755 := O751.ext E753
      have K756 := K752.ext E753
      obtain ⟨fs, hr, hrun, hended, hW, hsame⟩ := X753.leave (v := (some (.ref r1))) (fun h => by rw [Bd.returns] at h; cases h)
      refine ⟨_, _, ?_, hrun, hended, _, _, rfl, ?_, ⟨_, rfl⟩, hW, hsame.mono (by decide) (by decide)⟩
      · rw [← hS0]
        refine k754 _ ?_
        show Steps p.tables e below (T753.setTop (mkF m 135 #[vR a1, vR a2, vR sb, vI (Int32.ofNat cs.length), s4, s5] [(.ref r1)])) _
        jvm_step X753.here [X753.here.top, hx, (hb hby d8_135), X753.method', Bd.returns, Value.isRef, FieldType.isReference]
        first | (intro acts; rw [hr _ acts rfl rfl rfl]) | rw [hr _ _ rfl rfl rfl]
        exact Steps.refl _
      · show Q_rmM1 Z cs us h0 n0 _ T753.heap _
        exact ⟨_, rfl, N753, own_ext K756, sz_r1, Or.inr ⟨_, _, Er753, Gv753, Gc753, V753, fun c hc => (List.mem_append.mp hc).elim (fun q => own_8f c (own_7f8 c (hq7 c q))) (q5 c)⟩⟩
  | succ j ih =>
    intro i hi T h1 lo s4 s5 X eT NN OO KK hs4 hs5 E_sb Fc Fv Fn Fm Vb kk
    obtain ⟨ch, hch⟩ : ∃ z, cs.getD i 0 = z := ⟨_, rfl⟩
    have hlb : ((cs.take i).map own_nm).length = i := by rw [List.length_map, List.length_take]; omega
    have hnl := nm_list cs i (by omega)
    rw [hch] at hnl
    have Ea1 := S1.exa.ext (own_ext KK)
    have ne_a1_sb := own_dist S1.lt sz_sb
    have ne_a1_tb := own_dist S1.lt sz_tb
    have k757 : Rch p e below S0 T (mkF m 16 #[vR a1, vR a2, vR sb, vI (Int32.ofNat i), s4, s5] [(.ref a1), (.int (Int32.ofNat i))]) := fun t h => kk t (by
        refine XS.iloadN X.here hx rfl (hb hby d8_14) rfl ?_
        refine XS.aloadN X.here hx rfl (hb hby d8_15) rfl rfl ?_
        exact h)
    obtain ⟨cq758, kq758, q758a, q758b, q758c⟩ := isOf hZ eT Ea1
    obtain ⟨_, _, ⟨T758, L758, kk758, n758⟩, -, X758, ⟨Lc758, hQ758, l758, y758, z758⟩, st758⟩ := X.virtualBack hx (y := y_11) (z := y_11) hown (mvT hZ (hw _ (gm 60 rfl))) (mvT hZ (hw _ (gm 61 rfl))) (notFace_of_selects (args := #[]) (mvT hZ (hw _ (gm 63 rfl)))) (mvT hZ (hw _ (gm 63 rfl))) (mvT hZ (hw _ (gm 62 rfl))) (by decide) (backOf (W := 1) (rmLEs l Z a0 hw [] a1 cs zC h1 n0 OO SC hzC (S1.ext (own_ext KK)) (by omega)) hZ (hw _ (gm 64 rfl)) (hw _ (gm 7 rfl)) (by decide) (by decide)) q758a q758c (g := (mkF m 16 #[vR a1, vR a2, vR sb, vI (Int32.ofNat i), s4, s5] [(.ref a1), (.int (Int32.ofNat i))])) rfl (by rw [hml]; rfl) (Steps.refl _) (argsL := []) (rest := [(.int (Int32.ofNat i))]) (lenOf pd_9 rfl) rfl (by show 2 * 0 + _ ≤ _; exact Nat.le_of_eq rfl) (hb hby d8_16) (fun _ _ => ⟨rfl, eT, (by decide : 2 + 0 ≤ _), (by decide : 20 + 0 ≤ _)⟩)
    dsimp only [Pt.U, Pt.locs, Pt.cells, Pt.slots] at X758 l758 y758 z758 st758 hQ758
    subst l758 y758 z758
    obtain ⟨rfl, Nq758, hh758⟩ := hQ758
    have N758 := Fr.app NN Nq758
    have k759 : Rch p e below S0 T758 (mkF m 19 #[vR a1, vR a2, vR sb, vI (Int32.ofNat i), s4, s5] [(.int (Int32.ofNat cs.length)), (.int (Int32.ofNat i))]) := fun t h => k757 t (st758.trans h)
    have k760 : Rch p e below S0 T758 (mkF m 24 #[vR a1, vR a2, vR sb, vI (Int32.ofNat i), s4, s5] [(.int (Int32.ofNat i)), (.ref a1)]) := fun t h => k759 t (by
        refine XS.icmpNo X758.here hx rfl (hb hby d8_19) rfl (tlt (((own_olt (by omega) (by omega)).mpr (by omega)) : (Int32.ofNat i) < (Int32.ofNat cs.length))).2.1 ?_
        refine XS.aloadN X758.here hx rfl (hb hby d8_22) rfl rfl ?_
        refine XS.iloadN X758.here hx rfl (hb hby d8_23) rfl ?_
        exact h)
    obtain ⟨cq761, kq761, q761a, q761b, q761c⟩ := isOf hZ hh758 Ea1
    obtain ⟨_, _, ⟨T761, L761, kk761, n761⟩, -, X761, ⟨Lc761, hQ761, l761, y761, z761⟩, st761⟩ := X758.virtualBack hx (y := y_38) (z := y_38) hown (mvT hZ (hw _ (gm 241 rfl))) (mvT hZ (hw _ (gm 169 rfl))) (notFace_of_selects (args := #[]) (mvT hZ (hw _ (gm 171 rfl)))) (mvT hZ (hw _ (gm 171 rfl))) (mvT hZ (hw _ (gm 170 rfl))) (by decide) (backOf (W := 0) (rmCAs l Z a0 hw [] a1 i cs fm zC h1 n0 OO SC hzC SAs SHi SLo SP hfm (S1.ext (own_ext KK)) (by omega) (by omega)) hZ (hw _ (gm 172 rfl)) (hw _ (gm 7 rfl)) (by decide) (by decide)) q761a q761c (g := (mkF m 24 #[vR a1, vR a2, vR sb, vI (Int32.ofNat i), s4, s5] [(.int (Int32.ofNat i)), (.ref a1)])) rfl (by rw [hml]; rfl) (Steps.refl _) (argsL := [(.int (Int32.ofNat i))]) (rest := []) (lenOf pd_28 rfl) rfl (by show 2 * 0 + _ ≤ _; exact Nat.le_of_eq rfl) (hb hby d8_24) (fun _ _ => ⟨rfl, hh758, (by decide : 2 + 0 ≤ _), (by decide : 20 + 0 ≤ _)⟩)
    dsimp only [Pt.U, Pt.locs, Pt.cells, Pt.slots] at X761 l761 y761 z761 st761 hQ761
    subst l761 y761 z761
    obtain ⟨rfl, Nq761, hh761⟩ := hQ761
    have N761 := Fr.app N758 Nq761
    have k762 : Rch p e below S0 T761 (mkF m 27 #[vR a1, vR a2, vR sb, vI (Int32.ofNat i), s4, s5] [(.int ch)]) := fun t h => k760 t (st761.trans (by rw [hch]; exact h))
    have k763 : Rch p e below S0 T761 (mkF m 29 #[vR a1, vR a2, vR sb, vI (Int32.ofNat i), vI ch, s5] []) := fun t h => k762 t (by
        refine XS.istoreS X761.here hx rfl (hb hby d8_27) rfl rfl hs4 ?_
        exact h)
    obtain ⟨T774, okb, X774, e774, k774, hok⟩ : ∃ (T' : State) (okb : Int32), Like X761 T' ∧ T'.heap = h1 ∧ Rch p e below S0 T' (mkF m 99 #[vR a1, vR a2, vR sb, vI (Int32.ofNat i), vI ch, vI okb] []) ∧ ((¬ okb = 0 ∧ own_nm ch = ch) ∨ (okb = 0 ∧ own_nm ch = 95)) := by
      rcases own_ten ch with ⟨c1, c2, cr⟩ | ⟨c1, c2, c3, cr⟩ | ⟨c1, c2, c3, c4, c5, c6, c7, c8, cr⟩ | ⟨c1, c2, c3, c4, c5, c6, c7, c8, cr⟩ | ⟨c1, c2, c3, c4, cr⟩ | ⟨c1, c2, c3, c4, c5, c6, c7, cr⟩ | ⟨c1, c2, c3, c4, cr⟩ | ⟨c1, c2, c3, c4, c5, cr⟩ | ⟨c1, c2, c3, c4, c5, c6, cr⟩ | ⟨c1, c2, c3, c4, c5, c6, c7, c8, c9, cr⟩
      · have k764 : Rch p e below S0 T761 (mkF m 99 #[vR a1, vR a2, vR sb, vI (Int32.ofNat i), vI ch, vI 1] []) := fun t h => k763 t (by
            refine XS.iload X761.here hx rfl (hb hby d8_29) rfl ?_
            refine XS.bipush X761.here hx rfl (hb hby d8_31) ?_
            refine XS.icmpNo X761.here hx rfl (hb hby d8_33) rfl (flt (c1 : ¬ (ch < (97 : Int32)))).1 ?_
            refine XS.iload X761.here hx rfl (hb hby d8_36) rfl ?_
            refine XS.bipush X761.here hx rfl (hb hby d8_38) ?_
            refine XS.icmpYes X761.here hx rfl (pc0 := 40) (pc' := 92) rfl (hb hby d8_40) rfl (flt (c2 : ¬ ((122 : Int32) < ch))).2.2.2 (by decide) (by decide) ?_
            refine XS.iconst X761.here hx rfl (hb hby d8_92) ?_
            refine XS.goto X761.here hx rfl (pc0 := 93) (pc' := 97) rfl (hb hby d8_93) (by decide) (by decide) ?_
            refine XS.istoreS X761.here hx rfl (hb hby d8_97) rfl rfl hs5 ?_
            exact h)
        exact ⟨_, (1 : Int32), X761, hh761, k764, Or.inl ⟨by decide, cr⟩⟩
      · have k765 : Rch p e below S0 T761 (mkF m 99 #[vR a1, vR a2, vR sb, vI (Int32.ofNat i), vI ch, vI 1] []) := fun t h => k763 t (by
            refine XS.iload X761.here hx rfl (hb hby d8_29) rfl ?_
            refine XS.bipush X761.here hx rfl (hb hby d8_31) ?_
            refine XS.icmpYes X761.here hx rfl (pc0 := 33) (pc' := 43) rfl (hb hby d8_33) rfl (tlt (c1 : ch < (97 : Int32))).1 (by decide) (by decide) ?_
            refine XS.iload X761.here hx rfl (hb hby d8_43) rfl ?_
            refine XS.bipush X761.here hx rfl (hb hby d8_45) ?_
            refine XS.icmpNo X761.here hx rfl (hb hby d8_47) rfl (flt (c2 : ¬ (ch < (65 : Int32)))).1 ?_
            refine XS.iload X761.here hx rfl (hb hby d8_50) rfl ?_
            refine XS.bipush X761.here hx rfl (hb hby d8_52) ?_
            refine XS.icmpYes X761.here hx rfl (pc0 := 54) (pc' := 92) rfl (hb hby d8_54) rfl (flt (c3 : ¬ ((90 : Int32) < ch))).2.2.2 (by decide) (by decide) ?_
            refine XS.iconst X761.here hx rfl (hb hby d8_92) ?_
            refine XS.goto X761.here hx rfl (pc0 := 93) (pc' := 97) rfl (hb hby d8_93) (by decide) (by decide) ?_
            refine XS.istoreS X761.here hx rfl (hb hby d8_97) rfl rfl hs5 ?_
            exact h)
        exact ⟨_, (1 : Int32), X761, hh761, k765, Or.inl ⟨by decide, cr⟩⟩
      · have k766 : Rch p e below S0 T761 (mkF m 99 #[vR a1, vR a2, vR sb, vI (Int32.ofNat i), vI ch, vI 1] []) := fun t h => k763 t (by
            refine XS.iload X761.here hx rfl (hb hby d8_29) rfl ?_
            refine XS.bipush X761.here hx rfl (hb hby d8_31) ?_
            refine XS.icmpYes X761.here hx rfl (pc0 := 33) (pc' := 43) rfl (hb hby d8_33) rfl (tlt (c1 : ch < (97 : Int32))).1 (by decide) (by decide) ?_
            refine XS.iload X761.here hx rfl (hb hby d8_43) rfl ?_
            refine XS.bipush X761.here hx rfl (hb hby d8_45) ?_
            refine XS.icmpNo X761.here hx rfl (hb hby d8_47) rfl (flt (c2 : ¬ (ch < (65 : Int32)))).1 ?_
            refine XS.iload X761.here hx rfl (hb hby d8_50) rfl ?_
            refine XS.bipush X761.here hx rfl (hb hby d8_52) ?_
            refine XS.icmpNo X761.here hx rfl (hb hby d8_54) rfl (tlt (c3 : (90 : Int32) < ch)).2.2.2 ?_
            refine XS.iload X761.here hx rfl (hb hby d8_57) rfl ?_
            refine XS.bipush X761.here hx rfl (hb hby d8_59) ?_
            refine XS.icmpNo X761.here hx rfl (hb hby d8_61) rfl (flt (c4 : ¬ (ch < (48 : Int32)))).1 ?_
            refine XS.iload X761.here hx rfl (hb hby d8_64) rfl ?_
            refine XS.bipush X761.here hx rfl (hb hby d8_66) ?_
            refine XS.icmpNo X761.here hx rfl (hb hby d8_68) rfl (tlt (c5 : (57 : Int32) < ch)).2.2.2 ?_
            refine XS.iload X761.here hx rfl (hb hby d8_71) rfl ?_
            refine XS.bipush X761.here hx rfl (hb hby d8_73) ?_
            refine XS.icmpNo X761.here hx rfl (hb hby d8_75) rfl (feq (c6 : ¬ (ch = (46 : Int32)))).1 ?_
            refine XS.iload X761.here hx rfl (hb hby d8_78) rfl ?_
            refine XS.bipush X761.here hx rfl (hb hby d8_80) ?_
            refine XS.icmpNo X761.here hx rfl (hb hby d8_82) rfl (feq (c7 : ¬ (ch = (45 : Int32)))).1 ?_
            refine XS.iload X761.here hx rfl (hb hby d8_85) rfl ?_
            refine XS.bipush X761.here hx rfl (hb hby d8_87) ?_
            refine XS.icmpNo X761.here hx rfl (hb hby d8_89) rfl (teq (c8 : ch = (95 : Int32))).2 ?_
            refine XS.iconst X761.here hx rfl (hb hby d8_92) ?_
            refine XS.goto X761.here hx rfl (pc0 := 93) (pc' := 97) rfl (hb hby d8_93) (by decide) (by decide) ?_
            refine XS.istoreS X761.here hx rfl (hb hby d8_97) rfl rfl hs5 ?_
            exact h)
        exact ⟨_, (1 : Int32), X761, hh761, k766, Or.inl ⟨by decide, cr⟩⟩
      · have k767 : Rch p e below S0 T761 (mkF m 99 #[vR a1, vR a2, vR sb, vI (Int32.ofNat i), vI ch, vI 0] []) := fun t h => k763 t (by
            refine XS.iload X761.here hx rfl (hb hby d8_29) rfl ?_
            refine XS.bipush X761.here hx rfl (hb hby d8_31) ?_
            refine XS.icmpYes X761.here hx rfl (pc0 := 33) (pc' := 43) rfl (hb hby d8_33) rfl (tlt (c1 : ch < (97 : Int32))).1 (by decide) (by decide) ?_
            refine XS.iload X761.here hx rfl (hb hby d8_43) rfl ?_
            refine XS.bipush X761.here hx rfl (hb hby d8_45) ?_
            refine XS.icmpNo X761.here hx rfl (hb hby d8_47) rfl (flt (c2 : ¬ (ch < (65 : Int32)))).1 ?_
            refine XS.iload X761.here hx rfl (hb hby d8_50) rfl ?_
            refine XS.bipush X761.here hx rfl (hb hby d8_52) ?_
            refine XS.icmpNo X761.here hx rfl (hb hby d8_54) rfl (tlt (c3 : (90 : Int32) < ch)).2.2.2 ?_
            refine XS.iload X761.here hx rfl (hb hby d8_57) rfl ?_
            refine XS.bipush X761.here hx rfl (hb hby d8_59) ?_
            refine XS.icmpNo X761.here hx rfl (hb hby d8_61) rfl (flt (c4 : ¬ (ch < (48 : Int32)))).1 ?_
            refine XS.iload X761.here hx rfl (hb hby d8_64) rfl ?_
            refine XS.bipush X761.here hx rfl (hb hby d8_66) ?_
            refine XS.icmpNo X761.here hx rfl (hb hby d8_68) rfl (tlt (c5 : (57 : Int32) < ch)).2.2.2 ?_
            refine XS.iload X761.here hx rfl (hb hby d8_71) rfl ?_
            refine XS.bipush X761.here hx rfl (hb hby d8_73) ?_
            refine XS.icmpNo X761.here hx rfl (hb hby d8_75) rfl (feq (c6 : ¬ (ch = (46 : Int32)))).1 ?_
            refine XS.iload X761.here hx rfl (hb hby d8_78) rfl ?_
            refine XS.bipush X761.here hx rfl (hb hby d8_80) ?_
            refine XS.icmpNo X761.here hx rfl (hb hby d8_82) rfl (feq (c7 : ¬ (ch = (45 : Int32)))).1 ?_
            refine XS.iload X761.here hx rfl (hb hby d8_85) rfl ?_
            refine XS.bipush X761.here hx rfl (hb hby d8_87) ?_
            refine XS.icmpYes X761.here hx rfl (pc0 := 89) (pc' := 96) rfl (hb hby d8_89) rfl (feq (c8 : ¬ (ch = (95 : Int32)))).2 (by decide) (by decide) ?_
            refine XS.iconst X761.here hx rfl (hb hby d8_96) ?_
            refine XS.istoreS X761.here hx rfl (hb hby d8_97) rfl rfl hs5 ?_
            exact h)
        exact ⟨_, (0 : Int32), X761, hh761, k767, Or.inr ⟨rfl, cr⟩⟩
      · have k768 : Rch p e below S0 T761 (mkF m 99 #[vR a1, vR a2, vR sb, vI (Int32.ofNat i), vI ch, vI 1] []) := fun t h => k763 t (by
            refine XS.iload X761.here hx rfl (hb hby d8_29) rfl ?_
            refine XS.bipush X761.here hx rfl (hb hby d8_31) ?_
            refine XS.icmpYes X761.here hx rfl (pc0 := 33) (pc' := 43) rfl (hb hby d8_33) rfl (tlt (c1 : ch < (97 : Int32))).1 (by decide) (by decide) ?_
            refine XS.iload X761.here hx rfl (hb hby d8_43) rfl ?_
            refine XS.bipush X761.here hx rfl (hb hby d8_45) ?_
            refine XS.icmpYes X761.here hx rfl (pc0 := 47) (pc' := 57) rfl (hb hby d8_47) rfl (tlt (c2 : ch < (65 : Int32))).1 (by decide) (by decide) ?_
            refine XS.iload X761.here hx rfl (hb hby d8_57) rfl ?_
            refine XS.bipush X761.here hx rfl (hb hby d8_59) ?_
            refine XS.icmpNo X761.here hx rfl (hb hby d8_61) rfl (flt (c3 : ¬ (ch < (48 : Int32)))).1 ?_
            refine XS.iload X761.here hx rfl (hb hby d8_64) rfl ?_
            refine XS.bipush X761.here hx rfl (hb hby d8_66) ?_
            refine XS.icmpYes X761.here hx rfl (pc0 := 68) (pc' := 92) rfl (hb hby d8_68) rfl (flt (c4 : ¬ ((57 : Int32) < ch))).2.2.2 (by decide) (by decide) ?_
            refine XS.iconst X761.here hx rfl (hb hby d8_92) ?_
            refine XS.goto X761.here hx rfl (pc0 := 93) (pc' := 97) rfl (hb hby d8_93) (by decide) (by decide) ?_
            refine XS.istoreS X761.here hx rfl (hb hby d8_97) rfl rfl hs5 ?_
            exact h)
        exact ⟨_, (1 : Int32), X761, hh761, k768, Or.inl ⟨by decide, cr⟩⟩
      · have k769 : Rch p e below S0 T761 (mkF m 99 #[vR a1, vR a2, vR sb, vI (Int32.ofNat i), vI ch, vI 0] []) := fun t h => k763 t (by
            refine XS.iload X761.here hx rfl (hb hby d8_29) rfl ?_
            refine XS.bipush X761.here hx rfl (hb hby d8_31) ?_
            refine XS.icmpYes X761.here hx rfl (pc0 := 33) (pc' := 43) rfl (hb hby d8_33) rfl (tlt (c1 : ch < (97 : Int32))).1 (by decide) (by decide) ?_
            refine XS.iload X761.here hx rfl (hb hby d8_43) rfl ?_
            refine XS.bipush X761.here hx rfl (hb hby d8_45) ?_
            refine XS.icmpYes X761.here hx rfl (pc0 := 47) (pc' := 57) rfl (hb hby d8_47) rfl (tlt (c2 : ch < (65 : Int32))).1 (by decide) (by decide) ?_
            refine XS.iload X761.here hx rfl (hb hby d8_57) rfl ?_
            refine XS.bipush X761.here hx rfl (hb hby d8_59) ?_
            refine XS.icmpNo X761.here hx rfl (hb hby d8_61) rfl (flt (c3 : ¬ (ch < (48 : Int32)))).1 ?_
            refine XS.iload X761.here hx rfl (hb hby d8_64) rfl ?_
            refine XS.bipush X761.here hx rfl (hb hby d8_66) ?_
            refine XS.icmpNo X761.here hx rfl (hb hby d8_68) rfl (tlt (c4 : (57 : Int32) < ch)).2.2.2 ?_
            refine XS.iload X761.here hx rfl (hb hby d8_71) rfl ?_
            refine XS.bipush X761.here hx rfl (hb hby d8_73) ?_
            refine XS.icmpNo X761.here hx rfl (hb hby d8_75) rfl (feq (c5 : ¬ (ch = (46 : Int32)))).1 ?_
            refine XS.iload X761.here hx rfl (hb hby d8_78) rfl ?_
            refine XS.bipush X761.here hx rfl (hb hby d8_80) ?_
            refine XS.icmpNo X761.here hx rfl (hb hby d8_82) rfl (feq (c6 : ¬ (ch = (45 : Int32)))).1 ?_
            refine XS.iload X761.here hx rfl (hb hby d8_85) rfl ?_
            refine XS.bipush X761.here hx rfl (hb hby d8_87) ?_
            refine XS.icmpYes X761.here hx rfl (pc0 := 89) (pc' := 96) rfl (hb hby d8_89) rfl (feq (c7 : ¬ (ch = (95 : Int32)))).2 (by decide) (by decide) ?_
            refine XS.iconst X761.here hx rfl (hb hby d8_96) ?_
            refine XS.istoreS X761.here hx rfl (hb hby d8_97) rfl rfl hs5 ?_
            exact h)
        exact ⟨_, (0 : Int32), X761, hh761, k769, Or.inr ⟨rfl, cr⟩⟩
      · have k770 : Rch p e below S0 T761 (mkF m 99 #[vR a1, vR a2, vR sb, vI (Int32.ofNat i), vI ch, vI 1] []) := fun t h => k763 t (by
            refine XS.iload X761.here hx rfl (hb hby d8_29) rfl ?_
            refine XS.bipush X761.here hx rfl (hb hby d8_31) ?_
            refine XS.icmpYes X761.here hx rfl (pc0 := 33) (pc' := 43) rfl (hb hby d8_33) rfl (tlt (c1 : ch < (97 : Int32))).1 (by decide) (by decide) ?_
            refine XS.iload X761.here hx rfl (hb hby d8_43) rfl ?_
            refine XS.bipush X761.here hx rfl (hb hby d8_45) ?_
            refine XS.icmpYes X761.here hx rfl (pc0 := 47) (pc' := 57) rfl (hb hby d8_47) rfl (tlt (c2 : ch < (65 : Int32))).1 (by decide) (by decide) ?_
            refine XS.iload X761.here hx rfl (hb hby d8_57) rfl ?_
            refine XS.bipush X761.here hx rfl (hb hby d8_59) ?_
            refine XS.icmpYes X761.here hx rfl (pc0 := 61) (pc' := 71) rfl (hb hby d8_61) rfl (tlt (c3 : ch < (48 : Int32))).1 (by decide) (by decide) ?_
            refine XS.iload X761.here hx rfl (hb hby d8_71) rfl ?_
            refine XS.bipush X761.here hx rfl (hb hby d8_73) ?_
            refine XS.icmpYes X761.here hx rfl (pc0 := 75) (pc' := 92) rfl (hb hby d8_75) rfl (teq (c4 : ch = (46 : Int32))).1 (by decide) (by decide) ?_
            refine XS.iconst X761.here hx rfl (hb hby d8_92) ?_
            refine XS.goto X761.here hx rfl (pc0 := 93) (pc' := 97) rfl (hb hby d8_93) (by decide) (by decide) ?_
            refine XS.istoreS X761.here hx rfl (hb hby d8_97) rfl rfl hs5 ?_
            exact h)
        exact ⟨_, (1 : Int32), X761, hh761, k770, Or.inl ⟨by decide, cr⟩⟩
      · have k771 : Rch p e below S0 T761 (mkF m 99 #[vR a1, vR a2, vR sb, vI (Int32.ofNat i), vI ch, vI 1] []) := fun t h => k763 t (by
            refine XS.iload X761.here hx rfl (hb hby d8_29) rfl ?_
            refine XS.bipush X761.here hx rfl (hb hby d8_31) ?_
            refine XS.icmpYes X761.here hx rfl (pc0 := 33) (pc' := 43) rfl (hb hby d8_33) rfl (tlt (c1 : ch < (97 : Int32))).1 (by decide) (by decide) ?_
            refine XS.iload X761.here hx rfl (hb hby d8_43) rfl ?_
            refine XS.bipush X761.here hx rfl (hb hby d8_45) ?_
            refine XS.icmpYes X761.here hx rfl (pc0 := 47) (pc' := 57) rfl (hb hby d8_47) rfl (tlt (c2 : ch < (65 : Int32))).1 (by decide) (by decide) ?_
            refine XS.iload X761.here hx rfl (hb hby d8_57) rfl ?_
            refine XS.bipush X761.here hx rfl (hb hby d8_59) ?_
            refine XS.icmpYes X761.here hx rfl (pc0 := 61) (pc' := 71) rfl (hb hby d8_61) rfl (tlt (c3 : ch < (48 : Int32))).1 (by decide) (by decide) ?_
            refine XS.iload X761.here hx rfl (hb hby d8_71) rfl ?_
            refine XS.bipush X761.here hx rfl (hb hby d8_73) ?_
            refine XS.icmpNo X761.here hx rfl (hb hby d8_75) rfl (feq (c4 : ¬ (ch = (46 : Int32)))).1 ?_
            refine XS.iload X761.here hx rfl (hb hby d8_78) rfl ?_
            refine XS.bipush X761.here hx rfl (hb hby d8_80) ?_
            refine XS.icmpYes X761.here hx rfl (pc0 := 82) (pc' := 92) rfl (hb hby d8_82) rfl (teq (c5 : ch = (45 : Int32))).1 (by decide) (by decide) ?_
            refine XS.iconst X761.here hx rfl (hb hby d8_92) ?_
            refine XS.goto X761.here hx rfl (pc0 := 93) (pc' := 97) rfl (hb hby d8_93) (by decide) (by decide) ?_
            refine XS.istoreS X761.here hx rfl (hb hby d8_97) rfl rfl hs5 ?_
            exact h)
        exact ⟨_, (1 : Int32), X761, hh761, k771, Or.inl ⟨by decide, cr⟩⟩
      · have k772 : Rch p e below S0 T761 (mkF m 99 #[vR a1, vR a2, vR sb, vI (Int32.ofNat i), vI ch, vI 0] []) := fun t h => k763 t (by
            refine XS.iload X761.here hx rfl (hb hby d8_29) rfl ?_
            refine XS.bipush X761.here hx rfl (hb hby d8_31) ?_
            refine XS.icmpYes X761.here hx rfl (pc0 := 33) (pc' := 43) rfl (hb hby d8_33) rfl (tlt (c1 : ch < (97 : Int32))).1 (by decide) (by decide) ?_
            refine XS.iload X761.here hx rfl (hb hby d8_43) rfl ?_
            refine XS.bipush X761.here hx rfl (hb hby d8_45) ?_
            refine XS.icmpYes X761.here hx rfl (pc0 := 47) (pc' := 57) rfl (hb hby d8_47) rfl (tlt (c2 : ch < (65 : Int32))).1 (by decide) (by decide) ?_
            refine XS.iload X761.here hx rfl (hb hby d8_57) rfl ?_
            refine XS.bipush X761.here hx rfl (hb hby d8_59) ?_
            refine XS.icmpYes X761.here hx rfl (pc0 := 61) (pc' := 71) rfl (hb hby d8_61) rfl (tlt (c3 : ch < (48 : Int32))).1 (by decide) (by decide) ?_
            refine XS.iload X761.here hx rfl (hb hby d8_71) rfl ?_
            refine XS.bipush X761.here hx rfl (hb hby d8_73) ?_
            refine XS.icmpNo X761.here hx rfl (hb hby d8_75) rfl (feq (c4 : ¬ (ch = (46 : Int32)))).1 ?_
            refine XS.iload X761.here hx rfl (hb hby d8_78) rfl ?_
            refine XS.bipush X761.here hx rfl (hb hby d8_80) ?_
            refine XS.icmpNo X761.here hx rfl (hb hby d8_82) rfl (feq (c5 : ¬ (ch = (45 : Int32)))).1 ?_
            refine XS.iload X761.here hx rfl (hb hby d8_85) rfl ?_
            refine XS.bipush X761.here hx rfl (hb hby d8_87) ?_
            refine XS.icmpYes X761.here hx rfl (pc0 := 89) (pc' := 96) rfl (hb hby d8_89) rfl (feq (c6 : ¬ (ch = (95 : Int32)))).2 (by decide) (by decide) ?_
            refine XS.iconst X761.here hx rfl (hb hby d8_96) ?_
            refine XS.istoreS X761.here hx rfl (hb hby d8_97) rfl rfl hs5 ?_
            exact h)
        exact ⟨_, (0 : Int32), X761, hh761, k772, Or.inr ⟨rfl, cr⟩⟩
      · have k773 : Rch p e below S0 T761 (mkF m 99 #[vR a1, vR a2, vR sb, vI (Int32.ofNat i), vI ch, vI 0] []) := fun t h => k763 t (by
            refine XS.iload X761.here hx rfl (hb hby d8_29) rfl ?_
            refine XS.bipush X761.here hx rfl (hb hby d8_31) ?_
            refine XS.icmpNo X761.here hx rfl (hb hby d8_33) rfl (flt (c1 : ¬ (ch < (97 : Int32)))).1 ?_
            refine XS.iload X761.here hx rfl (hb hby d8_36) rfl ?_
            refine XS.bipush X761.here hx rfl (hb hby d8_38) ?_
            refine XS.icmpNo X761.here hx rfl (hb hby d8_40) rfl (tlt (c2 : (122 : Int32) < ch)).2.2.2 ?_
            refine XS.iload X761.here hx rfl (hb hby d8_43) rfl ?_
            refine XS.bipush X761.here hx rfl (hb hby d8_45) ?_
            refine XS.icmpNo X761.here hx rfl (hb hby d8_47) rfl (flt (c3 : ¬ (ch < (65 : Int32)))).1 ?_
            refine XS.iload X761.here hx rfl (hb hby d8_50) rfl ?_
            refine XS.bipush X761.here hx rfl (hb hby d8_52) ?_
            refine XS.icmpNo X761.here hx rfl (hb hby d8_54) rfl (tlt (c4 : (90 : Int32) < ch)).2.2.2 ?_
            refine XS.iload X761.here hx rfl (hb hby d8_57) rfl ?_
            refine XS.bipush X761.here hx rfl (hb hby d8_59) ?_
            refine XS.icmpNo X761.here hx rfl (hb hby d8_61) rfl (flt (c5 : ¬ (ch < (48 : Int32)))).1 ?_
            refine XS.iload X761.here hx rfl (hb hby d8_64) rfl ?_
            refine XS.bipush X761.here hx rfl (hb hby d8_66) ?_
            refine XS.icmpNo X761.here hx rfl (hb hby d8_68) rfl (tlt (c6 : (57 : Int32) < ch)).2.2.2 ?_
            refine XS.iload X761.here hx rfl (hb hby d8_71) rfl ?_
            refine XS.bipush X761.here hx rfl (hb hby d8_73) ?_
            refine XS.icmpNo X761.here hx rfl (hb hby d8_75) rfl (feq (c7 : ¬ (ch = (46 : Int32)))).1 ?_
            refine XS.iload X761.here hx rfl (hb hby d8_78) rfl ?_
            refine XS.bipush X761.here hx rfl (hb hby d8_80) ?_
            refine XS.icmpNo X761.here hx rfl (hb hby d8_82) rfl (feq (c8 : ¬ (ch = (45 : Int32)))).1 ?_
            refine XS.iload X761.here hx rfl (hb hby d8_85) rfl ?_
            refine XS.bipush X761.here hx rfl (hb hby d8_87) ?_
            refine XS.icmpYes X761.here hx rfl (pc0 := 89) (pc' := 96) rfl (hb hby d8_89) rfl (feq (c9 : ¬ (ch = (95 : Int32)))).2 (by decide) (by decide) ?_
            refine XS.iconst X761.here hx rfl (hb hby d8_96) ?_
            refine XS.istoreS X761.here hx rfl (hb hby d8_97) rfl rfl hs5 ?_
            exact h)
        exact ⟨_, (0 : Int32), X761, hh761, k773, Or.inr ⟨rfl, cr⟩⟩
    replace X774 := X774.out
    have h7 := own_nm7 ch
    rcases hok with ⟨g1, g2⟩ | ⟨g1, g2⟩
    · have k775 : Rch p e below S0 T774 (mkF m 112 #[vR a1, vR a2, vR sb, vI (Int32.ofNat i), vI ch, vI okb] [(.int ch), (.ref sb)]) := fun t h => k774 t (by
          refine XS.aloadN X774.here hx rfl (hb hby d8_99) rfl rfl ?_
          refine XS.iload X774.here hx rfl (hb hby d8_100) rfl ?_
          refine XS.ifNo X774.here hx rfl (hb hby d8_102) rfl ((if0 _ _).trans (feq (g1 : ¬ (okb = (0 : Int32)))).1) ?_
          refine XS.iload X774.here hx rfl (hb hby d8_105) rfl ?_
          refine XS.goto X774.here hx rfl (pc0 := 107) (pc' := 112) rfl (hb hby d8_107) (by decide) (by decide) ?_
          exact h)
      rw [g2] at h7
      obtain ⟨cq776, kq776, q776a, q776b, q776c⟩ := isOf hZ e774 E_sb
      obtain ⟨_, _, ⟨T776, L776, kk776, n776⟩, -, X776, ⟨Lc776, hQ776, l776, y776, z776⟩, st776⟩ := X774.virtualBack hx (y := y_44) (z := y_44) hown (mvT hZ (hw _ (gm 70 rfl))) (mvT hZ (hw _ (gm 71 rfl))) (notFace_of_selects (args := #[]) (mvT hZ (hw _ (gm 73 rfl)))) (mvT hZ (hw _ (gm 73 rfl))) (mvT hZ (hw _ (gm 72 rfl))) (by decide) (backOf (W := 0) (rmBC l Z a0 hw [] sb ch tb kb ((cs.take i).map own_nm) zC h1 n0 OO SC hzC ge_sb ge_tb ne_sb_tb E_sb Fc Fv Fn Fm Vb h7 (by omega)) hZ (hw _ (gm 74 rfl)) (hw _ (gm 44 rfl)) (by decide) (by decide)) q776a q776c (g := (mkF m 112 #[vR a1, vR a2, vR sb, vI (Int32.ofNat i), vI ch, vI okb] [(.int ch), (.ref sb)])) rfl (by rw [hml]; rfl) (Steps.refl _) (argsL := [(.int ch)]) (rest := []) (lenOf pd_11 rfl) rfl (by show 2 * 0 + _ ≤ _; exact Nat.le_of_eq rfl) (hb hby d8_112) (fun _ _ => ⟨rfl, e774, (by decide : 2 + 0 ≤ _), (by decide : 20 + 0 ≤ _)⟩)
      dsimp only [Pt.U, Pt.locs, Pt.cells, Pt.slots] at X776 l776 y776 z776 st776 hQ776
      subst l776 y776 z776
      obtain ⟨rfl, Nq776, K776, Fc776, Fv776, Fn776, Fm776, V776⟩ := hQ776
      have N776 := Fr.app N761 Nq776
      have k777 : Rch p e below S0 T776 (mkF m 115 #[vR a1, vR a2, vR sb, vI (Int32.ofNat i), vI ch, vI okb] [(.ref sb)]) := fun t h => k775 t (st776.trans h)
      have O778 := OO.keep K776 (allS ge_sb (allS ge_tb all0))
      have K779 := KK.trans K776 (allS (Or.inr sz_sb) (allS (Or.inr sz_tb) all0))
      replace E_sb := E_sb.keep K776
      replace Ea1 := Ea1.keep K776
      have k780 : Rch p e below S0 T776 (mkF m 14 #[vR a1, vR a2, vR sb, vI (Int32.ofNat (i + 1)), vI ch, vI okb] []) := fun t h => k777 t (by
          refine XS.pop X776.here hx rfl (hb hby d8_115) rfl rfl ?_
          show Steps p.tables e below (T776.setTop (mkF m 116 #[vR a1, vR a2, vR sb, vI (Int32.ofNat i), vI ch, vI okb] [])) _
          refine XS.iinc X776.here hx rfl (hb hby d8_116) rfl (l' := #[vR a1, vR a2, vR sb, vI ((Int32.ofNat i) + (1 : Int32)), vI ch, vI okb]) rfl ?_
          rw [own_inc (i := i) (by omega)]
          refine XS.goto X776.here hx rfl (pc0 := 119) (pc' := 14) rfl (hb hby d8_119) (by decide) (by decide) ?_
          exact h)
      rw [g2] at hnl
      rw [← hnl] at Fn776 V776
      exact ih (i + 1) (by omega) _ _ _ _ _ X776 rfl N776 O778 K779 (One.val rfl) (One.val rfl) E_sb Fc776 Fv776 Fn776 Fm776 V776 k780
    · have k781 : Rch p e below S0 T774 (mkF m 112 #[vR a1, vR a2, vR sb, vI (Int32.ofNat i), vI ch, vI okb] [(.int (95 : Int32)), (.ref sb)]) := fun t h => k774 t (by
          refine XS.aloadN X774.here hx rfl (hb hby d8_99) rfl rfl ?_
          refine XS.iload X774.here hx rfl (hb hby d8_100) rfl ?_
          refine XS.ifYes X774.here hx rfl (pc0 := 102) (pc' := 110) rfl (hb hby d8_102) rfl ((if0 _ _).trans (teq (g1 : okb = (0 : Int32))).1) (by decide) (by decide) ?_
          refine XS.bipush X774.here hx rfl (hb hby d8_110) ?_
          exact h)
      rw [g2] at h7
      obtain ⟨cq782, kq782, q782a, q782b, q782c⟩ := isOf hZ e774 E_sb
      obtain ⟨_, _, ⟨T782, L782, kk782, n782⟩, -, X782, ⟨Lc782, hQ782, l782, y782, z782⟩, st782⟩ := X774.virtualBack hx (y := y_44) (z := y_44) hown (mvT hZ (hw _ (gm 70 rfl))) (mvT hZ (hw _ (gm 71 rfl))) (notFace_of_selects (args := #[]) (mvT hZ (hw _ (gm 73 rfl)))) (mvT hZ (hw _ (gm 73 rfl))) (mvT hZ (hw _ (gm 72 rfl))) (by decide) (backOf (W := 0) (rmBC l Z a0 hw [] sb (95 : Int32) tb kb ((cs.take i).map own_nm) zC h1 n0 OO SC hzC ge_sb ge_tb ne_sb_tb E_sb Fc Fv Fn Fm Vb h7 (by omega)) hZ (hw _ (gm 74 rfl)) (hw _ (gm 44 rfl)) (by decide) (by decide)) q782a q782c (g := (mkF m 112 #[vR a1, vR a2, vR sb, vI (Int32.ofNat i), vI ch, vI okb] [(.int (95 : Int32)), (.ref sb)])) rfl (by rw [hml]; rfl) (Steps.refl _) (argsL := [(.int (95 : Int32))]) (rest := []) (lenOf pd_11 rfl) rfl (by show 2 * 0 + _ ≤ _; exact Nat.le_of_eq rfl) (hb hby d8_112) (fun _ _ => ⟨rfl, e774, (by decide : 2 + 0 ≤ _), (by decide : 20 + 0 ≤ _)⟩)
      dsimp only [Pt.U, Pt.locs, Pt.cells, Pt.slots] at X782 l782 y782 z782 st782 hQ782
      subst l782 y782 z782
      obtain ⟨rfl, Nq782, K782, Fc782, Fv782, Fn782, Fm782, V782⟩ := hQ782
      have N782 := Fr.app N761 Nq782
      have k783 : Rch p e below S0 T782 (mkF m 115 #[vR a1, vR a2, vR sb, vI (Int32.ofNat i), vI ch, vI okb] [(.ref sb)]) := fun t h => k781 t (st782.trans h)
      have O784 := OO.keep K782 (allS ge_sb (allS ge_tb all0))
      have K785 := KK.trans K782 (allS (Or.inr sz_sb) (allS (Or.inr sz_tb) all0))
      replace E_sb := E_sb.keep K782
      replace Ea1 := Ea1.keep K782
      have k786 : Rch p e below S0 T782 (mkF m 14 #[vR a1, vR a2, vR sb, vI (Int32.ofNat (i + 1)), vI ch, vI okb] []) := fun t h => k783 t (by
          refine XS.pop X782.here hx rfl (hb hby d8_115) rfl rfl ?_
          show Steps p.tables e below (T782.setTop (mkF m 116 #[vR a1, vR a2, vR sb, vI (Int32.ofNat i), vI ch, vI okb] [])) _
          refine XS.iinc X782.here hx rfl (hb hby d8_116) rfl (l' := #[vR a1, vR a2, vR sb, vI ((Int32.ofNat i) + (1 : Int32)), vI ch, vI okb]) rfl ?_
          rw [own_inc (i := i) (by omega)]
          refine XS.goto X782.here hx rfl (pc0 := 119) (pc' := 14) rfl (hb hby d8_119) (by decide) (by decide) ?_
          exact h)
      rw [g2] at hnl
      rw [← hnl] at Fn782 V782
      exact ih (i + 1) (by omega) _ _ _ _ _ X782 rfl N782 O784 K785 (One.val rfl) (One.val rfl) E_sb Fc782 Fv782 Fn782 Fm782 V782 k786
def Q_rmT0 (Z : State) (ca : Int32) (cb : Int32) (cd : Int32) (h0 : Heap) (n0 : Nat) (v : Option Value) (h : Heap) (L : List Loc) : Prop := ∃ r1, v = some (.ref r1) ∧ Fr n0 L ∧ Ext h0 h ∧ h0.size ≤ r1 ∧ Stg Z h r1 ([] : List Int32)
abbrev y_50 : MethodName := ⟨"com/example/nuthatch/nuthatch/EntryNameMemberPinLaw", "text", "(ICCC)Ljava/lang/String;"⟩
theorem ef_1 (m : MethodId) (x0 : Int32) (x1 : Int32) (x2 : Int32) (x3 : Int32) : entryFrame m #[(.int x0), (.int x1), (.int x2), (.int x3)] 4 = mkF m 0 #[.val (.int x0), .val (.int x1), .val (.int x2), .val (.int x3)] [] := by first | (simp [entryFrame, mkF, argsToLocals, Value.category]; done) | rfl
theorem d1_0 : decode method_2_code 0 = .ok (.iload_n 0, 1) := by decide +kernel
theorem d1_1 : decode method_2_code 1 = .ok (.ifCond .ne 14, 3) := by decide +kernel
theorem d1_4 : decode method_2_code 4 = .ok (.new 7, 3) := by decide +kernel
theorem d1_7 : decode method_2_code 7 = .ok (.dup, 1) := by decide +kernel
theorem d1_8 : decode method_2_code 8 = .ok (.iconst 0, 1) := by decide +kernel
theorem d1_9 : decode method_2_code 9 = .ok (.newarray .char, 2) := by decide +kernel
theorem pd_1 : parseMethodDescriptor "([C)V" = some ⟨[(.array .char)], none⟩ := by decide +kernel
theorem d1_11 : decode method_2_code 11 = .ok (.invokespecial 9, 3) := by decide +kernel
theorem d1_14 : decode method_2_code 14 = .ok (.areturn, 1) := by decide +kernel
theorem rmT0 (l : Launch) (Z : State) (a0 : Array Value) (hw : HW Z a0) (ws : List Jvm.Cond) (ca : Int32) (cb : Int32) (cd : Int32) (zC : Int32) (h0 : Heap) (n0 : Nat) (O0 : Old Z n0 h0) (SC : Sta Z Z.heap "java/lang/String" "COMPACT_STRINGS" "Z" (.int zC)) (hzC : ¬ zC = 0) (SAs : Sta Z Z.heap "java/lang/StringUTF16" "$assertionsDisabled" "Z" (.int (1 : Int32))) (SHi : Sta Z Z.heap "java/lang/StringUTF16" "HI_BYTE_SHIFT" "I" (.int (0 : Int32))) (SLo : Sta Z Z.heap "java/lang/StringUTF16" "LO_BYTE_SHIFT" "I" (.int (8 : Int32))) (hca : ¬ ca < 0 ∧ ¬ (65535 : Int32) < ca) (hcb : ¬ cb < 0 ∧ ¬ (65535 : Int32) < cb) (hcd : ¬ cd < 0 ∧ ¬ (65535 : Int32) < cd) :
    MFC l Z y_50 method_2_code 4 (some (.object "java/lang/String")) ws ({ frames := 6, cells := 6, slots := 80, locals := 190 } : Room) #[(.int (0 : Int32)), (.int ca), (.int cb), (.int cd)] h0 (Q_rmT0 Z ca cb cd h0 n0) := by
  refine MetFree.of_bodySF (plainFor_of_name pn_EntryNameMemberPinLaw) hisR ?_
  intro p e s m args below meth c s₁ Bd hml0 hP hK
  obtain ⟨rfl, hZ, hh, hC0⟩ := hP
  have hx := Bd.exec
  have hby := Bd.bytes
  have hml : c.maxLocals = 4 := hml0
  have hown : s.vm.findClass "com/example/nuthatch/nuthatch/EntryNameMemberPinLaw" = some m.cls := findClass_of_methodNamed Bd.named
  have hnm := (name_of_methodNamed Bd.named Bd.method).1
  have X0 : Stand p l e ({ frames := 6, cells := 6, slots := 80, locals := 190 } : Room) (s.setVm s.vm) m #[(.int (0 : Int32)), (.int ca), (.int cb), (.int cd)] below meth c s₁ [] 0 0 := Stand.of_body Bd
  have e0 : s₁.heap = h0 := by rw [← hh, Bd.state]; rfl
  have N0 := Fr.nil n0
  obtain ⟨S0, hS0⟩ : ∃ z, z = s₁.setTop (entryFrame m #[(.int (0 : Int32)), (.int ca), (.int cb), (.int cd)] 4) := ⟨_, rfl⟩
  have k0 : Rch p e below S0 s₁ (mkF m 0 #[vI 0, vI ca, vI cb, vI cd] []) := fun t kq => hS0 ▸ castTop (ef_1 m (0 : Int32) ca cb cd) kq
  have K0 : Keep h0 h0 [] := Keep.refl h0 _
  have hS : s.Since s.vm s.heap.size := (State.WarmedH.refl s).since _
  have hk : s.heap.size ≤ h0.size := by rw [← hh]; exact Nat.le_refl _
  have hwS : ∀ d ∈ Bundle.stringAtoms, d.before a0 Z = true := fun d hd => hw d ((by decide +kernel : ∀ d ∈ Bundle.stringAtoms, d ∈ tables_1) d hd)
  have rC0 : CHr Z consts_1 s.vm h0 s.vm h0 := CHr.refl hC0
  have hEL : EW Z a0 consts_1 := (EW.cons (hw _ (gm 19 rfl)) (by decide +kernel) EW.nil)
  have k788 : Rch p e below S0 s₁ (mkF m 4 #[vI 0, vI ca, vI cb, vI cd] []) := fun t h => k0 t (by
      refine XS.iloadN X0.here hx rfl (hb hby d1_0) rfl ?_
      refine XS.ifNo X0.here hx rfl (hb hby d1_1) rfl ((if0 _ _).trans (teq (by decide : (0 : Int32) = (0 : Int32))).2) ?_
      exact h)
  obtain ⟨T787, h787, X787, e787, E787, A787, D787, -, st787⟩ := newO X0 hx hZ hown (hw _ (gm 5 rfl)) (hw _ (gm 6 rfl)) (hw _ (gm 7 rfl)) e0 (g := (mkF m 4 #[vI 0, vI ca, vI cb, vI cd] [])) rfl (hb hby d1_4) (by decide) (by decide)
  obtain ⟨b787, g787⟩ : ∃ z, z = h0.size := ⟨_, rfl⟩
  rw [← g787] at A787 D787 st787
  have k789 : Rch p e below S0 T787 (mkF m 7 #[vI 0, vI ca, vI cb, vI cd] [(.ref b787)]) := fun t h => k788 t (st787 t h)
  have ge_b787 : n0 ≤ b787 := own_ge O0 (Nat.le_of_eq g787.symm)
  have sf_b787 : Safe Z consts_1 s.vm h0 b787 := Safe.new (Nat.le_of_eq g787.symm)
  have sz_b787 : h0.size ≤ b787 := Nat.le_trans K0.1 (Nat.le_of_eq g787.symm)
  replace sf_b787 := Safe.ext E787 hC0 sf_b787
  have hC790 := hC0.ext E787
  have rC790 := rC0.trans (CHr.ext E787 hC0)
  have O791 := O0.ext E787
  have K792 := K0.ext E787
  have hkk793 := Nat.le_trans hk E787.1
  have E_b787 := A787
  have F_b787_value : Fld Z h787 b787 "java/lang/String" "value" "[B" .null := D787 (Or.inr (hw _ (gm 21 rfl))) (ty := (.array .byte)) (by decide)
  have F_b787_coder : Fld Z h787 b787 "java/lang/String" "coder" "B" (.int (0 : Int32)) := D787 (Or.inr (hw _ (gm 22 rfl))) (ty := .byte) (by decide)
  have k795 : Rch p e below S0 T787 (mkF m 9 #[vI 0, vI ca, vI cb, vI cd] [(.int (0 : Int32)), (.ref b787), (.ref b787)]) := fun t h => k789 t (by
      refine XS.dup X787.here hx rfl (hb hby d1_7) rfl rfl ?_
      refine XS.iconst X787.here hx rfl (hb hby d1_8) ?_
      exact h)
  obtain ⟨T794, h794, k794, X794, e794, E794, A794, st794⟩ := newP X787 hx hZ (hw _ (gm 8 rfl)) e787 (g := (mkF m 9 #[vI 0, vI ca, vI cb, vI cd] [(.int (0 : Int32)), (.ref b787), (.ref b787)])) rfl (hb hby d1_9) rfl (by decide) (cap := 0) (by decide) (by decide) (by decide) (by decide)
  obtain ⟨b794, g794⟩ : ∃ z, z = h787.size := ⟨_, rfl⟩
  rw [← g794] at A794 st794
  have k796 : Rch p e below S0 T794 (mkF m 11 #[vI 0, vI ca, vI cb, vI cd] [(.ref b794), (.ref b787), (.ref b787)]) := fun t h => k795 t (st794 t h)
  have ne_b787_b794 : b787 ≠ b794 := own_ne E_b787.lt (Nat.le_of_eq g794.symm)
  have ge_b794 : n0 ≤ b794 := own_ge O791 (Nat.le_of_eq g794.symm)
  have sf_b794 : Safe Z consts_1 s.vm h787 b794 := Safe.new (Nat.le_of_eq g794.symm)
  have sz_b794 : h0.size ≤ b794 := Nat.le_trans K792.1 (Nat.le_of_eq g794.symm)
  replace sf_b787 := Safe.ext E794 hC790 sf_b787
  replace sf_b794 := Safe.ext E794 hC790 sf_b794
  have hC797 := hC790.ext E794
  have rC797 := rC790.trans (CHr.ext E794 hC790)
  have O798 := O791.ext E794
  have K799 := K792.ext E794
  replace E_b787 := E_b787.ext E794
  replace F_b787_value := F_b787_value.ext E794
  replace F_b787_coder := F_b787_coder.ext E794
  have hkk800 := Nat.le_trans hkk793 E794.1
  have V_b794 : Arv Z h794 b794 k794 .char (0 : Int32) [] (.int (0 : Int32)) := (Arv.new A794 (by decide)).pad (pad_rep [] (.int (0 : Int32)) 0)
  obtain ⟨_, _, ⟨T801, L801, kk801, n801⟩, -, X801, hS801, gr801, ⟨Lc801, hQ801, l801, y801, z801, hR801⟩, st801⟩ := X794.specialBackS hx (y := y_9) rfl hown (mvT hZ (hw _ (gm 9 rfl))) (mvT hZ (hw _ (gm 10 rfl))) (mvT hZ (hw _ (gm 11 rfl))) (by decide) (backOfSH (W := 1) (rmS0 l Z a0 hw [] b787 b794 k794 h794 n0 O798 ge_b787 E_b787 F_b787_value F_b787_coder V_b794) hZ (hw _ (gm 11 rfl)) (hw _ (gm 7 rfl)) (by decide) (by decide) hEL hC797) (g := (mkF m 11 #[vI 0, vI ca, vI cb, vI cd] [(.ref b794), (.ref b787), (.ref b787)])) rfl (by rw [hml]; rfl) (Steps.refl _) (a := b787) (argsL := [(.ref b794)]) (rest := [(.ref b787)]) (lenOf pd_1 rfl) rfl (by show 2 * 0 + _ ≤ _; exact Nat.le_of_eq rfl) (hb hby d1_11) (fun _ _ => ⟨rfl, e794, (by decide : 2 + 4 ≤ _), (by decide : 4 + 8 ≤ _)⟩)
  dsimp only [Pt.U, Pt.locs, Pt.cells, Pt.slots] at X801 l801 y801 z801 st801 hQ801 hS801 gr801 hR801
  subst l801 y801 z801
  have hZ801 : Z.Warmed39 (s.setVm T801.vm).vm := State.Warmed39.trans (t := (s.setVm s.vm)) hZ hS801.1
  have hown801 : (s.setVm T801.vm).vm.findClass "com/example/nuthatch/nuthatch/EntryNameMemberPinLaw" = some m.cls := by rw [show (s.setVm T801.vm).vm = T801.vm from rfl, hS801.1.alike.findClass]; exact hown
  replace hS801 := foldS hS (by rw [e794]; exact hkk800) hS801 gr801
  have hk801 := Nat.le_refl T801.heap.size
  replace X801 : Stand p l e ({ frames := 6, cells := 6, slots := 80, locals := 190 } : Room) (s.setVm T801.vm) m #[(.int (0 : Int32)), (.int ca), (.int cb), (.int cd)] below meth c T801 _ _ _ := X801
  obtain ⟨rfl, Nq801, K801, t801, kt801, Fv801, Fc801, At801⟩ := hQ801
  have N801 := Fr.app N0 Nq801
  have k802 : Rch p e below S0 T801 (mkF m 14 #[vI 0, vI ca, vI cb, vI cd] [(.ref b787)]) := fun t h => k796 t (st801.trans h)
  replace sf_b787 := hR801.safe E_b787.lt sf_b787
  replace sf_b794 := hR801.safe V_b794.lt sf_b794
  have hC803 := hR801.1
  have rC803 := rC797.trans hR801
  have O804 := O798.keep K801 (allS ge_b787 all0)
  have K805 := K799.trans K801 (allS (Or.inr sz_b787) all0)
  replace E_b787 := E_b787.keep K801
  replace V_b794 := V_b794.keep K801 (ninS (Ne.symm ne_b787_b794) nin0)
  obtain ⟨fs, hr, hrun, hended, hfin⟩ := X801.leaveW hS801 (by exact hk801) (v := (some (.ref b787))) (fun h => by rw [Bd.returns] at h; cases h)
  refine ⟨_, _, ?_, hrun, hended, _, _, rfl, ?_, (by rw [hh]; have q := own_chr rC803 (CHv.at X801 hZ801 hEL hC803) rfl; exact q), hfin.1, hfin.2.1, hfin.2.2.1, hfin.2.2.2.mono (by decide) (by decide)⟩
  · rw [← hS0]
    refine k802 _ ?_
    show Steps p.tables e below (T801.setTop (mkF m 14 #[vI 0, vI ca, vI cb, vI cd] [(.ref b787)])) _
    jvm_step X801.here [X801.here.top, hx, (hb hby d1_14), X801.method', Bd.returns, Value.isRef, FieldType.isReference]
    first | (intro acts; rw [hr _ acts rfl rfl rfl]) | rw [hr _ _ rfl rfl rfl]
    exact Steps.refl _
  · show Q_rmT0 Z ca cb cd h0 n0 _ T801.heap _
    exact ⟨_, rfl, N801, own_ext K805, sz_b787, Or.inl ⟨_, _, E_b787, Fv801, Fc801, At801, fun c hc => nomatch hc⟩⟩
def Q_rmT1 (Z : State) (ca : Int32) (cb : Int32) (cd : Int32) (h0 : Heap) (n0 : Nat) (v : Option Value) (h : Heap) (L : List Loc) : Prop := ∃ r1, v = some (.ref r1) ∧ Fr n0 L ∧ Ext h0 h ∧ h0.size ≤ r1 ∧ Stg Z h r1 [ca]
theorem d1_15 : decode method_2_code 15 = .ok (.iload_n 0, 1) := by decide +kernel
theorem d1_16 : decode method_2_code 16 = .ok (.iconst 1, 1) := by decide +kernel
theorem d1_17 : decode method_2_code 17 = .ok (.if_icmp .ne 18, 3) := by decide +kernel
theorem d1_20 : decode method_2_code 20 = .ok (.new 7, 3) := by decide +kernel
theorem d1_23 : decode method_2_code 23 = .ok (.dup, 1) := by decide +kernel
theorem d1_24 : decode method_2_code 24 = .ok (.iconst 1, 1) := by decide +kernel
theorem d1_25 : decode method_2_code 25 = .ok (.newarray .char, 2) := by decide +kernel
theorem d1_27 : decode method_2_code 27 = .ok (.dup, 1) := by decide +kernel
theorem d1_28 : decode method_2_code 28 = .ok (.iconst 0, 1) := by decide +kernel
theorem d1_29 : decode method_2_code 29 = .ok (.iload_n 1, 1) := by decide +kernel
theorem d1_30 : decode method_2_code 30 = .ok (.castore, 1) := by decide +kernel
theorem d1_31 : decode method_2_code 31 = .ok (.invokespecial 9, 3) := by decide +kernel
theorem d1_34 : decode method_2_code 34 = .ok (.areturn, 1) := by decide +kernel
theorem rmT1 (l : Launch) (Z : State) (a0 : Array Value) (hw : HW Z a0) (ws : List Jvm.Cond) (ca : Int32) (cb : Int32) (cd : Int32) (zC : Int32) (h0 : Heap) (n0 : Nat) (O0 : Old Z n0 h0) (SC : Sta Z Z.heap "java/lang/String" "COMPACT_STRINGS" "Z" (.int zC)) (hzC : ¬ zC = 0) (SAs : Sta Z Z.heap "java/lang/StringUTF16" "$assertionsDisabled" "Z" (.int (1 : Int32))) (SHi : Sta Z Z.heap "java/lang/StringUTF16" "HI_BYTE_SHIFT" "I" (.int (0 : Int32))) (SLo : Sta Z Z.heap "java/lang/StringUTF16" "LO_BYTE_SHIFT" "I" (.int (8 : Int32))) (hca : ¬ ca < 0 ∧ ¬ (65535 : Int32) < ca) (hcb : ¬ cb < 0 ∧ ¬ (65535 : Int32) < cb) (hcd : ¬ cd < 0 ∧ ¬ (65535 : Int32) < cd) :
    MFC l Z y_50 method_2_code 4 (some (.object "java/lang/String")) ws ({ frames := 6, cells := 6, slots := 80, locals := 190 } : Room) #[(.int (1 : Int32)), (.int ca), (.int cb), (.int cd)] h0 (Q_rmT1 Z ca cb cd h0 n0) := by
  refine MetFree.of_bodySF (plainFor_of_name pn_EntryNameMemberPinLaw) hisR ?_
  intro p e s m args below meth c s₁ Bd hml0 hP hK
  obtain ⟨rfl, hZ, hh, hC0⟩ := hP
  have hx := Bd.exec
  have hby := Bd.bytes
  have hml : c.maxLocals = 4 := hml0
  have hown : s.vm.findClass "com/example/nuthatch/nuthatch/EntryNameMemberPinLaw" = some m.cls := findClass_of_methodNamed Bd.named
  have hnm := (name_of_methodNamed Bd.named Bd.method).1
  have X0 : Stand p l e ({ frames := 6, cells := 6, slots := 80, locals := 190 } : Room) (s.setVm s.vm) m #[(.int (1 : Int32)), (.int ca), (.int cb), (.int cd)] below meth c s₁ [] 0 0 := Stand.of_body Bd
  have e0 : s₁.heap = h0 := by rw [← hh, Bd.state]; rfl
  have N0 := Fr.nil n0
  obtain ⟨S0, hS0⟩ : ∃ z, z = s₁.setTop (entryFrame m #[(.int (1 : Int32)), (.int ca), (.int cb), (.int cd)] 4) := ⟨_, rfl⟩
  have k0 : Rch p e below S0 s₁ (mkF m 0 #[vI 1, vI ca, vI cb, vI cd] []) := fun t kq => hS0 ▸ castTop (ef_1 m (1 : Int32) ca cb cd) kq
  have K0 : Keep h0 h0 [] := Keep.refl h0 _
  have hS : s.Since s.vm s.heap.size := (State.WarmedH.refl s).since _
  have hk : s.heap.size ≤ h0.size := by rw [← hh]; exact Nat.le_refl _
  have hwS : ∀ d ∈ Bundle.stringAtoms, d.before a0 Z = true := fun d hd => hw d ((by decide +kernel : ∀ d ∈ Bundle.stringAtoms, d ∈ tables_1) d hd)
  have rC0 : CHr Z consts_1 s.vm h0 s.vm h0 := CHr.refl hC0
  have hEL : EW Z a0 consts_1 := (EW.cons (hw _ (gm 19 rfl)) (by decide +kernel) EW.nil)
  have k807 : Rch p e below S0 s₁ (mkF m 20 #[vI 1, vI ca, vI cb, vI cd] []) := fun t h => k0 t (by
      refine XS.iloadN X0.here hx rfl (hb hby d1_0) rfl ?_
      refine XS.ifYes X0.here hx rfl (pc0 := 1) (pc' := 15) rfl (hb hby d1_1) rfl ((if0 _ _).trans (feq (by decide : ¬ ((1 : Int32) = (0 : Int32)))).2) (by decide) (by decide) ?_
      refine XS.iloadN X0.here hx rfl (hb hby d1_15) rfl ?_
      refine XS.iconst X0.here hx rfl (hb hby d1_16) ?_
      refine XS.icmpNo X0.here hx rfl (hb hby d1_17) rfl (teq (by decide : (1 : Int32) = (1 : Int32))).2 ?_
      exact h)
  obtain ⟨T806, h806, X806, e806, E806, A806, D806, -, st806⟩ := newO X0 hx hZ hown (hw _ (gm 5 rfl)) (hw _ (gm 6 rfl)) (hw _ (gm 7 rfl)) e0 (g := (mkF m 20 #[vI 1, vI ca, vI cb, vI cd] [])) rfl (hb hby d1_20) (by decide) (by decide)
  obtain ⟨b806, g806⟩ : ∃ z, z = h0.size := ⟨_, rfl⟩
  rw [← g806] at A806 D806 st806
  have k808 : Rch p e below S0 T806 (mkF m 23 #[vI 1, vI ca, vI cb, vI cd] [(.ref b806)]) := fun t h => k807 t (st806 t h)
  have ge_b806 : n0 ≤ b806 := own_ge O0 (Nat.le_of_eq g806.symm)
  have sf_b806 : Safe Z consts_1 s.vm h0 b806 := Safe.new (Nat.le_of_eq g806.symm)
  have sz_b806 : h0.size ≤ b806 := Nat.le_trans K0.1 (Nat.le_of_eq g806.symm)
  replace sf_b806 := Safe.ext E806 hC0 sf_b806
  have hC809 := hC0.ext E806
  have rC809 := rC0.trans (CHr.ext E806 hC0)
  have O810 := O0.ext E806
  have K811 := K0.ext E806
  have hkk812 := Nat.le_trans hk E806.1
  have E_b806 := A806
  have F_b806_value : Fld Z h806 b806 "java/lang/String" "value" "[B" .null := D806 (Or.inr (hw _ (gm 21 rfl))) (ty := (.array .byte)) (by decide)
  have F_b806_coder : Fld Z h806 b806 "java/lang/String" "coder" "B" (.int (0 : Int32)) := D806 (Or.inr (hw _ (gm 22 rfl))) (ty := .byte) (by decide)
  have k814 : Rch p e below S0 T806 (mkF m 25 #[vI 1, vI ca, vI cb, vI cd] [(.int (1 : Int32)), (.ref b806), (.ref b806)]) := fun t h => k808 t (by
      refine XS.dup X806.here hx rfl (hb hby d1_23) rfl rfl ?_
      refine XS.iconst X806.here hx rfl (hb hby d1_24) ?_
      exact h)
  obtain ⟨T813, h813, k813, X813, e813, E813, A813, st813⟩ := newP X806 hx hZ (hw _ (gm 8 rfl)) e806 (g := (mkF m 25 #[vI 1, vI ca, vI cb, vI cd] [(.int (1 : Int32)), (.ref b806), (.ref b806)])) rfl (hb hby d1_25) rfl (by decide) (cap := 1) (by decide) (by decide) (by decide) (by decide)
  obtain ⟨b813, g813⟩ : ∃ z, z = h806.size := ⟨_, rfl⟩
  rw [← g813] at A813 st813
  have k815 : Rch p e below S0 T813 (mkF m 27 #[vI 1, vI ca, vI cb, vI cd] [(.ref b813), (.ref b806), (.ref b806)]) := fun t h => k814 t (st813 t h)
  have ne_b806_b813 : b806 ≠ b813 := own_ne E_b806.lt (Nat.le_of_eq g813.symm)
  have ge_b813 : n0 ≤ b813 := own_ge O810 (Nat.le_of_eq g813.symm)
  have sf_b813 : Safe Z consts_1 s.vm h806 b813 := Safe.new (Nat.le_of_eq g813.symm)
  have sz_b813 : h0.size ≤ b813 := Nat.le_trans K811.1 (Nat.le_of_eq g813.symm)
  replace sf_b806 := Safe.ext E813 hC809 sf_b806
  replace sf_b813 := Safe.ext E813 hC809 sf_b813
  have hC816 := hC809.ext E813
  have rC816 := rC809.trans (CHr.ext E813 hC809)
  have O817 := O810.ext E813
  have K818 := K811.ext E813
  replace E_b806 := E_b806.ext E813
  replace F_b806_value := F_b806_value.ext E813
  replace F_b806_coder := F_b806_coder.ext E813
  have hkk819 := Nat.le_trans hkk812 E813.1
  have V_b813 : Arv Z h813 b813 k813 .char (1 : Int32) [(.int (0 : Int32))] (.int (0 : Int32)) := (Arv.new A813 (by decide)).pad (pad_rep [] (.int (0 : Int32)) 1)
  have k821 : Rch p e below S0 T813 (mkF m 30 #[vI 1, vI ca, vI cb, vI cd] [(.int ca), (.int (0 : Int32)), (.ref b813), (.ref b813), (.ref b806), (.ref b806)]) := fun t h => k815 t (by
      refine XS.dup X813.here hx rfl (hb hby d1_27) rfl rfl ?_
      refine XS.iconst X813.here hx rfl (hb hby d1_28) ?_
      refine XS.iloadN X813.here hx rfl (hb hby d1_29) rfl ?_
      exact h)
  obtain ⟨cl820, Ar820, q820, Sz820, Ng820, Hs820, G820⟩ := id V_b813
  have hin820 : ¬ ((0 : Int32) < 0 ∨ cl820.slots.size ≤ ((0 : Int32)).toNatClampNeg) := inb_of Sz820 ⟨by decide, by decide⟩
  obtain ⟨T820, h820, X820, e820, W820, st820⟩ := stC X813 hx hZ e813 Ar820 (j := (0 : Int32)) hin820 (g := (mkF m 30 #[vI 1, vI ca, vI cb, vI cd] [(.int ca), (.int (0 : Int32)), (.ref b813), (.ref b813), (.ref b806), (.ref b806)])) rfl rfl (hb hby d1_30)
  have k822 : Rch p e below S0 T820 (mkF m 31 #[vI 1, vI ca, vI cb, vI cd] [(.ref b813), (.ref b806), (.ref b806)]) := fun t h => k821 t (st820 t h)
  have N820 := Fr.snoc X820 N0 ge_b813
  have V_b813' := Arv.set Ar820 q820 Sz820 Ng820 Hs820 G820 (fits_nar_char _) W820 0 rfl (Nat.le_of_ble_eq_true rfl)
  replace V_b813 : Arv Z h820 b813 k813 .char (1 : Int32) [(.int ca)] (.int (0 : Int32)) := (by have q := V_b813'; rw [(own_narc ca hca).1] at q; exact q)
  have hC823 := hC816.wr W820 sf_b813
  have rC823 := rC816.trans (CHr.wr W820 sf_b813 hC816)
  replace sf_b806 := Safe.wr W820 sf_b813 hC816 sf_b806
  replace sf_b813 := Safe.wr W820 sf_b813 hC816 sf_b813
  have O824 := O817.wr W820 ge_b813
  have K825 := K818.wr W820 (Or.inr sz_b813)
  replace E_b806 := E_b806.wr W820
  replace F_b806_value := F_b806_value.other W820 (Or.inl ne_b806_b813)
  replace F_b806_coder := F_b806_coder.other W820 (Or.inl ne_b806_b813)
  have hkk826 := Nat.le_trans hkk819 (Keep.of_wr W820).1
  have hp6 : ∀ c ∈ ([ca] : List Int32), ¬ c < 0 ∧ ¬ (65535 : Int32) < c := by
    intro c hc
    simp only [List.mem_cons, List.not_mem_nil, or_false] at hc
    rcases hc with rfl
    · exact hca
  by_cases hlat : ∀ c ∈ ([ca] : List Int32), ¬ (255 : Int32) < c
  · have hws : ∀ d ∈ StrChars.Road.words, d.before a0 Z = true := fun d hd => hw d ((by decide +kernel : ∀ d ∈ StrChars.Road.words, d ∈ tables_1) d hd)
    have hp : ∀ c ∈ ([ca] : List Int32), ¬ c < 0 ∧ ¬ (255 : Int32) < c := fun c hc => ⟨(hp6 c hc).1, hlat c hc⟩
    obtain ⟨_, _, ⟨T827, L827, kk827, n827⟩, -, X827, ⟨Lc827, hQ827, l827, y827, z827⟩, st827⟩ := X820.specialBack hx (y := y_9) rfl hown (mvT hZ (hw _ (gm 9 rfl))) (mvT hZ (hw _ (gm 10 rfl))) (mvT hZ (hw _ (gm 11 rfl))) (by decide) (StrChars.Road.backV (W := 1) hZ hws (kI := 4) (hw _ (gm 6 rfl)) (cs := [ca]) (bs := [ca].map (fun c => c.toInt8.toInt32)) (n := 1) ge_b806 (own_le O824) E_b806 F_b806_value F_b806_coder V_b813 (SC.ext O824.2) hzC rfl rfl (by decide) (by decide) hp rfl (by decide) (by decide)) (g := (mkF m 31 #[vI 1, vI ca, vI cb, vI cd] [(.ref b813), (.ref b806), (.ref b806)])) rfl (by rw [hml]; rfl) (Steps.refl _) (a := b806) (argsL := [(.ref b813)]) (rest := [(.ref b806)]) (lenOf pd_1 rfl) rfl (by show 2 * 0 + _ ≤ _; exact Nat.le_of_eq rfl) (hb hby d1_31) (fun _ _ => ⟨rfl, e820, (by decide : 2 + 1 ≤ _), (by decide : 5 + 1 ≤ _)⟩)
    dsimp only [Pt.U, Pt.locs, Pt.cells, Pt.slots] at X827 l827 y827 z827 st827 hQ827
    subst l827 y827 z827
    obtain ⟨rfl, Nq827, K827, Eb827, Cb827, t827, kb827, u827, v827, ww827, Vb827, Ab827⟩ := hQ827
    have N827 := Fr.app N820 Nq827
    have k828 : Rch p e below S0 T827 (mkF m 34 #[vI 1, vI ca, vI cb, vI cd] [(.ref b806)]) := fun t h => k822 t (st827.trans h)
    have hC829 := hC823.keep K827 (sfS sf_b806 sf0)
    have rC829 := rC823.trans (CHr.keep K827 (sfS sf_b806 sf0) hC823)
    have sfx830 := (sfS sf_b806 sf0)
    replace sf_b806 := Safe.keep K827 sfx830 hC823 sf_b806
    replace sf_b813 := Safe.keep K827 sfx830 hC823 sf_b813
    have O831 := O824.keep K827 (allS ge_b806 all0)
    have K832 := K825.trans K827 (allS (Or.inr sz_b806) all0)
    replace E_b806 := E_b806.keep K827
    replace V_b813 := V_b813.keep K827 (ninS (Ne.symm ne_b806_b813) nin0)
    have hkk833 := Nat.le_trans hkk826 K827.1
    obtain ⟨fs, hr, hrun, hended, hfin⟩ := X827.leaveW hS (by exact hkk833) (v := (some (.ref b806))) (fun h => by rw [Bd.returns] at h; cases h)
    refine ⟨_, _, ?_, hrun, hended, _, _, rfl, ?_, (by rw [hh]; have q := own_chr rC829 (CHv.at X827 hZ hEL hC829) rfl; exact q), hfin.1, hfin.2.1, hfin.2.2.1, hfin.2.2.2.mono (by decide) (by decide)⟩
    · rw [← hS0]
      refine k828 _ ?_
      show Steps p.tables e below (T827.setTop (mkF m 34 #[vI 1, vI ca, vI cb, vI cd] [(.ref b806)])) _
      jvm_step X827.here [X827.here.top, hx, (hb hby d1_34), X827.method', Bd.returns, Value.isRef, FieldType.isReference]
      first | (intro acts; rw [hr _ acts rfl rfl rfl]) | rw [hr _ _ rfl rfl rfl]
      exact Steps.refl _
    · show Q_rmT1 Z ca cb cd h0 n0 _ T827.heap _
      exact ⟨_, rfl, N827, own_ext K832, sz_b806, Or.inl ⟨_, _, E_b806, Vb827, Cb827, Ab827, hp⟩⟩
  · obtain ⟨kF, hk1, hk2, hk3⟩ := own_first [ca] (by
      apply Classical.byContradiction
      intro q
      exact hlat fun c hc w => q ⟨c, hc, w⟩)
    obtain ⟨_, _, ⟨T834, L834, kk834, n834⟩, -, X834, ⟨Lc834, hQ834, l834, y834, z834⟩, st834⟩ := X820.specialBack hx (y := y_9) rfl hown (mvT hZ (hw _ (gm 9 rfl))) (mvT hZ (hw _ (gm 10 rfl))) (mvT hZ (hw _ (gm 11 rfl))) (by decide) (backOf (W := 1) (rmU1 l Z a0 hw [] b806 b813 k813 1 ([ca]) kF zC h820 n0 O824 SAs SHi SLo SC hzC (by decide) rfl hk1 hk2 hk3 hp6 ge_b806 E_b806 F_b806_value F_b806_coder (Ne.symm ne_b806_b813) V_b813) hZ (hw _ (gm 11 rfl)) (hw _ (gm 7 rfl)) (by decide) (by decide)) (g := (mkF m 31 #[vI 1, vI ca, vI cb, vI cd] [(.ref b813), (.ref b806), (.ref b806)])) rfl (by rw [hml]; rfl) (Steps.refl _) (a := b806) (argsL := [(.ref b813)]) (rest := [(.ref b806)]) (lenOf pd_1 rfl) rfl (by show 2 * 0 + _ ≤ _; exact Nat.le_of_eq rfl) (hb hby d1_31) (fun _ _ => ⟨rfl, e820, (by decide : 2 + 2 ≤ _), (by decide : 5 + 48 ≤ _)⟩)
    dsimp only [Pt.U, Pt.locs, Pt.cells, Pt.slots] at X834 l834 y834 z834 st834 hQ834
    subst l834 y834 z834
    obtain ⟨rfl, Nq834, K834, t834, kt834, vs834, Fv834, Fc834, hl834, hv834, At834⟩ := hQ834
    have N834 := Fr.app N820 Nq834
    have k835 : Rch p e below S0 T834 (mkF m 34 #[vI 1, vI ca, vI cb, vI cd] [(.ref b806)]) := fun t h => k822 t (st834.trans h)
    have hC836 := hC823.keep K834 (sfS sf_b806 sf0)
    have rC836 := rC823.trans (CHr.keep K834 (sfS sf_b806 sf0) hC823)
    have sfx837 := (sfS sf_b806 sf0)
    replace sf_b806 := Safe.keep K834 sfx837 hC823 sf_b806
    replace sf_b813 := Safe.keep K834 sfx837 hC823 sf_b813
    have O838 := O824.keep K834 (allS ge_b806 all0)
    have K839 := K825.trans K834 (allS (Or.inr sz_b806) all0)
    replace E_b806 := E_b806.keep K834
    replace V_b813 := V_b813.keep K834 (ninS (Ne.symm ne_b806_b813) nin0)
    have hkk840 := Nat.le_trans hkk826 K834.1
    obtain ⟨fs, hr, hrun, hended, hfin⟩ := X834.leaveW hS (by exact hkk840) (v := (some (.ref b806))) (fun h => by rw [Bd.returns] at h; cases h)
    refine ⟨_, _, ?_, hrun, hended, _, _, rfl, ?_, (by rw [hh]; have q := own_chr rC836 (CHv.at X834 hZ hEL hC836) rfl; exact q), hfin.1, hfin.2.1, hfin.2.2.1, hfin.2.2.2.mono (by decide) (by decide)⟩
    · rw [← hS0]
      refine k835 _ ?_
      show Steps p.tables e below (T834.setTop (mkF m 34 #[vI 1, vI ca, vI cb, vI cd] [(.ref b806)])) _
      jvm_step X834.here [X834.here.top, hx, (hb hby d1_34), X834.method', Bd.returns, Value.isRef, FieldType.isReference]
      first | (intro acts; rw [hr _ acts rfl rfl rfl]) | rw [hr _ _ rfl rfl rfl]
      exact Steps.refl _
    · show Q_rmT1 Z ca cb cd h0 n0 _ T834.heap _
      exact ⟨_, rfl, N834, own_ext K839, sz_b806, Or.inr ⟨_, _, E_b806, Fv834, Fc834, (by rw [u16_len]; exact At834.pad (u16_of [ca] _ 1 rfl hl834 hv834)), hp6⟩⟩
def Q_rmT2 (Z : State) (ca : Int32) (cb : Int32) (cd : Int32) (h0 : Heap) (n0 : Nat) (v : Option Value) (h : Heap) (L : List Loc) : Prop := ∃ r1, v = some (.ref r1) ∧ Fr n0 L ∧ Ext h0 h ∧ h0.size ≤ r1 ∧ Stg Z h r1 [ca, cb]
theorem d1_35 : decode method_2_code 35 = .ok (.iload_n 0, 1) := by decide +kernel
theorem d1_36 : decode method_2_code 36 = .ok (.iconst 2, 1) := by decide +kernel
theorem d1_37 : decode method_2_code 37 = .ok (.if_icmp .ne 22, 3) := by decide +kernel
theorem d1_40 : decode method_2_code 40 = .ok (.new 7, 3) := by decide +kernel
theorem d1_43 : decode method_2_code 43 = .ok (.dup, 1) := by decide +kernel
theorem d1_44 : decode method_2_code 44 = .ok (.iconst 2, 1) := by decide +kernel
theorem d1_45 : decode method_2_code 45 = .ok (.newarray .char, 2) := by decide +kernel
theorem d1_47 : decode method_2_code 47 = .ok (.dup, 1) := by decide +kernel
theorem d1_48 : decode method_2_code 48 = .ok (.iconst 0, 1) := by decide +kernel
theorem d1_49 : decode method_2_code 49 = .ok (.iload_n 1, 1) := by decide +kernel
theorem d1_50 : decode method_2_code 50 = .ok (.castore, 1) := by decide +kernel
theorem d1_51 : decode method_2_code 51 = .ok (.dup, 1) := by decide +kernel
theorem d1_52 : decode method_2_code 52 = .ok (.iconst 1, 1) := by decide +kernel
theorem d1_53 : decode method_2_code 53 = .ok (.iload_n 2, 1) := by decide +kernel
theorem d1_54 : decode method_2_code 54 = .ok (.castore, 1) := by decide +kernel
theorem d1_55 : decode method_2_code 55 = .ok (.invokespecial 9, 3) := by decide +kernel
theorem d1_58 : decode method_2_code 58 = .ok (.areturn, 1) := by decide +kernel
theorem rmT2 (l : Launch) (Z : State) (a0 : Array Value) (hw : HW Z a0) (ws : List Jvm.Cond) (ca : Int32) (cb : Int32) (cd : Int32) (zC : Int32) (h0 : Heap) (n0 : Nat) (O0 : Old Z n0 h0) (SC : Sta Z Z.heap "java/lang/String" "COMPACT_STRINGS" "Z" (.int zC)) (hzC : ¬ zC = 0) (SAs : Sta Z Z.heap "java/lang/StringUTF16" "$assertionsDisabled" "Z" (.int (1 : Int32))) (SHi : Sta Z Z.heap "java/lang/StringUTF16" "HI_BYTE_SHIFT" "I" (.int (0 : Int32))) (SLo : Sta Z Z.heap "java/lang/StringUTF16" "LO_BYTE_SHIFT" "I" (.int (8 : Int32))) (hca : ¬ ca < 0 ∧ ¬ (65535 : Int32) < ca) (hcb : ¬ cb < 0 ∧ ¬ (65535 : Int32) < cb) (hcd : ¬ cd < 0 ∧ ¬ (65535 : Int32) < cd) :
    MFC l Z y_50 method_2_code 4 (some (.object "java/lang/String")) ws ({ frames := 6, cells := 6, slots := 80, locals := 190 } : Room) #[(.int (2 : Int32)), (.int ca), (.int cb), (.int cd)] h0 (Q_rmT2 Z ca cb cd h0 n0) := by
  refine MetFree.of_bodySF (plainFor_of_name pn_EntryNameMemberPinLaw) hisR ?_
  intro p e s m args below meth c s₁ Bd hml0 hP hK
  obtain ⟨rfl, hZ, hh, hC0⟩ := hP
  have hx := Bd.exec
  have hby := Bd.bytes
  have hml : c.maxLocals = 4 := hml0
  have hown : s.vm.findClass "com/example/nuthatch/nuthatch/EntryNameMemberPinLaw" = some m.cls := findClass_of_methodNamed Bd.named
  have hnm := (name_of_methodNamed Bd.named Bd.method).1
  have X0 : Stand p l e ({ frames := 6, cells := 6, slots := 80, locals := 190 } : Room) (s.setVm s.vm) m #[(.int (2 : Int32)), (.int ca), (.int cb), (.int cd)] below meth c s₁ [] 0 0 := Stand.of_body Bd
  have e0 : s₁.heap = h0 := by rw [← hh, Bd.state]; rfl
  have N0 := Fr.nil n0
  obtain ⟨S0, hS0⟩ : ∃ z, z = s₁.setTop (entryFrame m #[(.int (2 : Int32)), (.int ca), (.int cb), (.int cd)] 4) := ⟨_, rfl⟩
  have k0 : Rch p e below S0 s₁ (mkF m 0 #[vI 2, vI ca, vI cb, vI cd] []) := fun t kq => hS0 ▸ castTop (ef_1 m (2 : Int32) ca cb cd) kq
  have K0 : Keep h0 h0 [] := Keep.refl h0 _
  have hS : s.Since s.vm s.heap.size := (State.WarmedH.refl s).since _
  have hk : s.heap.size ≤ h0.size := by rw [← hh]; exact Nat.le_refl _
  have hwS : ∀ d ∈ Bundle.stringAtoms, d.before a0 Z = true := fun d hd => hw d ((by decide +kernel : ∀ d ∈ Bundle.stringAtoms, d ∈ tables_1) d hd)
  have rC0 : CHr Z consts_1 s.vm h0 s.vm h0 := CHr.refl hC0
  have hEL : EW Z a0 consts_1 := (EW.cons (hw _ (gm 19 rfl)) (by decide +kernel) EW.nil)
  have k842 : Rch p e below S0 s₁ (mkF m 40 #[vI 2, vI ca, vI cb, vI cd] []) := fun t h => k0 t (by
      refine XS.iloadN X0.here hx rfl (hb hby d1_0) rfl ?_
      refine XS.ifYes X0.here hx rfl (pc0 := 1) (pc' := 15) rfl (hb hby d1_1) rfl ((if0 _ _).trans (feq (by decide : ¬ ((2 : Int32) = (0 : Int32)))).2) (by decide) (by decide) ?_
      refine XS.iloadN X0.here hx rfl (hb hby d1_15) rfl ?_
      refine XS.iconst X0.here hx rfl (hb hby d1_16) ?_
      refine XS.icmpYes X0.here hx rfl (pc0 := 17) (pc' := 35) rfl (hb hby d1_17) rfl (feq (by decide : ¬ ((2 : Int32) = (1 : Int32)))).2 (by decide) (by decide) ?_
      refine XS.iloadN X0.here hx rfl (hb hby d1_35) rfl ?_
      refine XS.iconst X0.here hx rfl (hb hby d1_36) ?_
      refine XS.icmpNo X0.here hx rfl (hb hby d1_37) rfl (teq (by decide : (2 : Int32) = (2 : Int32))).2 ?_
      exact h)
  obtain ⟨T841, h841, X841, e841, E841, A841, D841, -, st841⟩ := newO X0 hx hZ hown (hw _ (gm 5 rfl)) (hw _ (gm 6 rfl)) (hw _ (gm 7 rfl)) e0 (g := (mkF m 40 #[vI 2, vI ca, vI cb, vI cd] [])) rfl (hb hby d1_40) (by decide) (by decide)
  obtain ⟨b841, g841⟩ : ∃ z, z = h0.size := ⟨_, rfl⟩
  rw [← g841] at A841 D841 st841
  have k843 : Rch p e below S0 T841 (mkF m 43 #[vI 2, vI ca, vI cb, vI cd] [(.ref b841)]) := fun t h => k842 t (st841 t h)
  have ge_b841 : n0 ≤ b841 := own_ge O0 (Nat.le_of_eq g841.symm)
  have sf_b841 : Safe Z consts_1 s.vm h0 b841 := Safe.new (Nat.le_of_eq g841.symm)
  have sz_b841 : h0.size ≤ b841 := Nat.le_trans K0.1 (Nat.le_of_eq g841.symm)
  replace sf_b841 := Safe.ext E841 hC0 sf_b841
  have hC844 := hC0.ext E841
  have rC844 := rC0.trans (CHr.ext E841 hC0)
  have O845 := O0.ext E841
  have K846 := K0.ext E841
  have hkk847 := Nat.le_trans hk E841.1
  have E_b841 := A841
  have F_b841_value : Fld Z h841 b841 "java/lang/String" "value" "[B" .null := D841 (Or.inr (hw _ (gm 21 rfl))) (ty := (.array .byte)) (by decide)
  have F_b841_coder : Fld Z h841 b841 "java/lang/String" "coder" "B" (.int (0 : Int32)) := D841 (Or.inr (hw _ (gm 22 rfl))) (ty := .byte) (by decide)
  have k849 : Rch p e below S0 T841 (mkF m 45 #[vI 2, vI ca, vI cb, vI cd] [(.int (2 : Int32)), (.ref b841), (.ref b841)]) := fun t h => k843 t (by
      refine XS.dup X841.here hx rfl (hb hby d1_43) rfl rfl ?_
      refine XS.iconst X841.here hx rfl (hb hby d1_44) ?_
      exact h)
  obtain ⟨T848, h848, k848, X848, e848, E848, A848, st848⟩ := newP X841 hx hZ (hw _ (gm 8 rfl)) e841 (g := (mkF m 45 #[vI 2, vI ca, vI cb, vI cd] [(.int (2 : Int32)), (.ref b841), (.ref b841)])) rfl (hb hby d1_45) rfl (by decide) (cap := 2) (by decide) (by decide) (by decide) (by decide)
  obtain ⟨b848, g848⟩ : ∃ z, z = h841.size := ⟨_, rfl⟩
  rw [← g848] at A848 st848
  have k850 : Rch p e below S0 T848 (mkF m 47 #[vI 2, vI ca, vI cb, vI cd] [(.ref b848), (.ref b841), (.ref b841)]) := fun t h => k849 t (st848 t h)
  have ne_b841_b848 : b841 ≠ b848 := own_ne E_b841.lt (Nat.le_of_eq g848.symm)
  have ge_b848 : n0 ≤ b848 := own_ge O845 (Nat.le_of_eq g848.symm)
  have sf_b848 : Safe Z consts_1 s.vm h841 b848 := Safe.new (Nat.le_of_eq g848.symm)
  have sz_b848 : h0.size ≤ b848 := Nat.le_trans K846.1 (Nat.le_of_eq g848.symm)
  replace sf_b841 := Safe.ext E848 hC844 sf_b841
  replace sf_b848 := Safe.ext E848 hC844 sf_b848
  have hC851 := hC844.ext E848
  have rC851 := rC844.trans (CHr.ext E848 hC844)
  have O852 := O845.ext E848
  have K853 := K846.ext E848
  replace E_b841 := E_b841.ext E848
  replace F_b841_value := F_b841_value.ext E848
  replace F_b841_coder := F_b841_coder.ext E848
  have hkk854 := Nat.le_trans hkk847 E848.1
  have V_b848 : Arv Z h848 b848 k848 .char (2 : Int32) [(.int (0 : Int32)), (.int (0 : Int32))] (.int (0 : Int32)) := (Arv.new A848 (by decide)).pad (pad_rep [] (.int (0 : Int32)) 2)
  have k856 : Rch p e below S0 T848 (mkF m 50 #[vI 2, vI ca, vI cb, vI cd] [(.int ca), (.int (0 : Int32)), (.ref b848), (.ref b848), (.ref b841), (.ref b841)]) := fun t h => k850 t (by
      refine XS.dup X848.here hx rfl (hb hby d1_47) rfl rfl ?_
      refine XS.iconst X848.here hx rfl (hb hby d1_48) ?_
      refine XS.iloadN X848.here hx rfl (hb hby d1_49) rfl ?_
      exact h)
  obtain ⟨cl855, Ar855, q855, Sz855, Ng855, Hs855, G855⟩ := id V_b848
  have hin855 : ¬ ((0 : Int32) < 0 ∨ cl855.slots.size ≤ ((0 : Int32)).toNatClampNeg) := inb_of Sz855 ⟨by decide, by decide⟩
  obtain ⟨T855, h855, X855, e855, W855, st855⟩ := stC X848 hx hZ e848 Ar855 (j := (0 : Int32)) hin855 (g := (mkF m 50 #[vI 2, vI ca, vI cb, vI cd] [(.int ca), (.int (0 : Int32)), (.ref b848), (.ref b848), (.ref b841), (.ref b841)])) rfl rfl (hb hby d1_50)
  have k857 : Rch p e below S0 T855 (mkF m 51 #[vI 2, vI ca, vI cb, vI cd] [(.ref b848), (.ref b841), (.ref b841)]) := fun t h => k856 t (st855 t h)
  have N855 := Fr.snoc X855 N0 ge_b848
  have V_b848' := Arv.set Ar855 q855 Sz855 Ng855 Hs855 G855 (fits_nar_char _) W855 0 rfl (Nat.le_of_ble_eq_true rfl)
  replace V_b848 : Arv Z h855 b848 k848 .char (2 : Int32) [(.int ca), (.int (0 : Int32))] (.int (0 : Int32)) := (by have q := V_b848'; rw [(own_narc ca hca).1] at q; exact q)
  have hC858 := hC851.wr W855 sf_b848
  have rC858 := rC851.trans (CHr.wr W855 sf_b848 hC851)
  replace sf_b841 := Safe.wr W855 sf_b848 hC851 sf_b841
  replace sf_b848 := Safe.wr W855 sf_b848 hC851 sf_b848
  have O859 := O852.wr W855 ge_b848
  have K860 := K853.wr W855 (Or.inr sz_b848)
  replace E_b841 := E_b841.wr W855
  replace F_b841_value := F_b841_value.other W855 (Or.inl ne_b841_b848)
  replace F_b841_coder := F_b841_coder.other W855 (Or.inl ne_b841_b848)
  have hkk861 := Nat.le_trans hkk854 (Keep.of_wr W855).1
  have k863 : Rch p e below S0 T855 (mkF m 54 #[vI 2, vI ca, vI cb, vI cd] [(.int cb), (.int (1 : Int32)), (.ref b848), (.ref b848), (.ref b841), (.ref b841)]) := fun t h => k857 t (by
      refine XS.dup X855.here hx rfl (hb hby d1_51) rfl rfl ?_
      refine XS.iconst X855.here hx rfl (hb hby d1_52) ?_
      refine XS.iloadN X855.here hx rfl (hb hby d1_53) rfl ?_
      exact h)
  obtain ⟨cl862, Ar862, q862, Sz862, Ng862, Hs862, G862⟩ := id V_b848
  have hin862 : ¬ ((1 : Int32) < 0 ∨ cl862.slots.size ≤ ((1 : Int32)).toNatClampNeg) := inb_of Sz862 ⟨by decide, by decide⟩
  obtain ⟨T862, h862, X862, e862, W862, st862⟩ := stC X855 hx hZ e855 Ar862 (j := (1 : Int32)) hin862 (g := (mkF m 54 #[vI 2, vI ca, vI cb, vI cd] [(.int cb), (.int (1 : Int32)), (.ref b848), (.ref b848), (.ref b841), (.ref b841)])) rfl rfl (hb hby d1_54)
  have k864 : Rch p e below S0 T862 (mkF m 55 #[vI 2, vI ca, vI cb, vI cd] [(.ref b848), (.ref b841), (.ref b841)]) := fun t h => k863 t (st862 t h)
  have N862 := Fr.snoc X862 N855 ge_b848
  have V_b848' := Arv.set Ar862 q862 Sz862 Ng862 Hs862 G862 (fits_nar_char _) W862 1 rfl (Nat.le_of_ble_eq_true rfl)
  replace V_b848 : Arv Z h862 b848 k848 .char (2 : Int32) [(.int ca), (.int cb)] (.int (0 : Int32)) := (by have q := V_b848'; rw [(own_narc cb hcb).1] at q; exact q)
  have hC865 := hC858.wr W862 sf_b848
  have rC865 := rC858.trans (CHr.wr W862 sf_b848 hC858)
  replace sf_b841 := Safe.wr W862 sf_b848 hC858 sf_b841
  replace sf_b848 := Safe.wr W862 sf_b848 hC858 sf_b848
  have O866 := O859.wr W862 ge_b848
  have K867 := K860.wr W862 (Or.inr sz_b848)
  replace E_b841 := E_b841.wr W862
  replace F_b841_value := F_b841_value.other W862 (Or.inl ne_b841_b848)
  replace F_b841_coder := F_b841_coder.other W862 (Or.inl ne_b841_b848)
  have hkk868 := Nat.le_trans hkk861 (Keep.of_wr W862).1
  have hp6 : ∀ c ∈ ([ca, cb] : List Int32), ¬ c < 0 ∧ ¬ (65535 : Int32) < c := by
    intro c hc
    simp only [List.mem_cons, List.not_mem_nil, or_false] at hc
    rcases hc with rfl | rfl
    · exact hca
    · exact hcb
  by_cases hlat : ∀ c ∈ ([ca, cb] : List Int32), ¬ (255 : Int32) < c
  · have hws : ∀ d ∈ StrChars.Road.words, d.before a0 Z = true := fun d hd => hw d ((by decide +kernel : ∀ d ∈ StrChars.Road.words, d ∈ tables_1) d hd)
    have hp : ∀ c ∈ ([ca, cb] : List Int32), ¬ c < 0 ∧ ¬ (255 : Int32) < c := fun c hc => ⟨(hp6 c hc).1, hlat c hc⟩
    obtain ⟨_, _, ⟨T869, L869, kk869, n869⟩, -, X869, ⟨Lc869, hQ869, l869, y869, z869⟩, st869⟩ := X862.specialBack hx (y := y_9) rfl hown (mvT hZ (hw _ (gm 9 rfl))) (mvT hZ (hw _ (gm 10 rfl))) (mvT hZ (hw _ (gm 11 rfl))) (by decide) (StrChars.Road.backV (W := 1) hZ hws (kI := 4) (hw _ (gm 6 rfl)) (cs := [ca, cb]) (bs := [ca, cb].map (fun c => c.toInt8.toInt32)) (n := 2) ge_b841 (own_le O866) E_b841 F_b841_value F_b841_coder V_b848 (SC.ext O866.2) hzC rfl rfl (by decide) (by decide) hp rfl (by decide) (by decide)) (g := (mkF m 55 #[vI 2, vI ca, vI cb, vI cd] [(.ref b848), (.ref b841), (.ref b841)])) rfl (by rw [hml]; rfl) (Steps.refl _) (a := b841) (argsL := [(.ref b848)]) (rest := [(.ref b841)]) (lenOf pd_1 rfl) rfl (by show 2 * 0 + _ ≤ _; exact Nat.le_of_eq rfl) (hb hby d1_55) (fun _ _ => ⟨rfl, e862, (by decide : 2 + 1 ≤ _), (by decide : 6 + 2 ≤ _)⟩)
    dsimp only [Pt.U, Pt.locs, Pt.cells, Pt.slots] at X869 l869 y869 z869 st869 hQ869
    subst l869 y869 z869
    obtain ⟨rfl, Nq869, K869, Eb869, Cb869, t869, kb869, u869, v869, ww869, Vb869, Ab869⟩ := hQ869
    have N869 := Fr.app N862 Nq869
    have k870 : Rch p e below S0 T869 (mkF m 58 #[vI 2, vI ca, vI cb, vI cd] [(.ref b841)]) := fun t h => k864 t (st869.trans h)
    have hC871 := hC865.keep K869 (sfS sf_b841 sf0)
    have rC871 := rC865.trans (CHr.keep K869 (sfS sf_b841 sf0) hC865)
    have sfx872 := (sfS sf_b841 sf0)
    replace sf_b841 := Safe.keep K869 sfx872 hC865 sf_b841
    replace sf_b848 := Safe.keep K869 sfx872 hC865 sf_b848
    have O873 := O866.keep K869 (allS ge_b841 all0)
    have K874 := K867.trans K869 (allS (Or.inr sz_b841) all0)
    replace E_b841 := E_b841.keep K869
    replace V_b848 := V_b848.keep K869 (ninS (Ne.symm ne_b841_b848) nin0)
    have hkk875 := Nat.le_trans hkk868 K869.1
    obtain ⟨fs, hr, hrun, hended, hfin⟩ := X869.leaveW hS (by exact hkk875) (v := (some (.ref b841))) (fun h => by rw [Bd.returns] at h; cases h)
    refine ⟨_, _, ?_, hrun, hended, _, _, rfl, ?_, (by rw [hh]; have q := own_chr rC871 (CHv.at X869 hZ hEL hC871) rfl; exact q), hfin.1, hfin.2.1, hfin.2.2.1, hfin.2.2.2.mono (by decide) (by decide)⟩
    · rw [← hS0]
      refine k870 _ ?_
      show Steps p.tables e below (T869.setTop (mkF m 58 #[vI 2, vI ca, vI cb, vI cd] [(.ref b841)])) _
      jvm_step X869.here [X869.here.top, hx, (hb hby d1_58), X869.method', Bd.returns, Value.isRef, FieldType.isReference]
      first | (intro acts; rw [hr _ acts rfl rfl rfl]) | rw [hr _ _ rfl rfl rfl]
      exact Steps.refl _
    · show Q_rmT2 Z ca cb cd h0 n0 _ T869.heap _
      exact ⟨_, rfl, N869, own_ext K874, sz_b841, Or.inl ⟨_, _, E_b841, Vb869, Cb869, Ab869, hp⟩⟩
  · obtain ⟨kF, hk1, hk2, hk3⟩ := own_first [ca, cb] (by
      apply Classical.byContradiction
      intro q
      exact hlat fun c hc w => q ⟨c, hc, w⟩)
    obtain ⟨_, _, ⟨T876, L876, kk876, n876⟩, -, X876, ⟨Lc876, hQ876, l876, y876, z876⟩, st876⟩ := X862.specialBack hx (y := y_9) rfl hown (mvT hZ (hw _ (gm 9 rfl))) (mvT hZ (hw _ (gm 10 rfl))) (mvT hZ (hw _ (gm 11 rfl))) (by decide) (backOf (W := 1) (rmU1 l Z a0 hw [] b841 b848 k848 2 ([ca, cb]) kF zC h862 n0 O866 SAs SHi SLo SC hzC (by decide) rfl hk1 hk2 hk3 hp6 ge_b841 E_b841 F_b841_value F_b841_coder (Ne.symm ne_b841_b848) V_b848) hZ (hw _ (gm 11 rfl)) (hw _ (gm 7 rfl)) (by decide) (by decide)) (g := (mkF m 55 #[vI 2, vI ca, vI cb, vI cd] [(.ref b848), (.ref b841), (.ref b841)])) rfl (by rw [hml]; rfl) (Steps.refl _) (a := b841) (argsL := [(.ref b848)]) (rest := [(.ref b841)]) (lenOf pd_1 rfl) rfl (by show 2 * 0 + _ ≤ _; exact Nat.le_of_eq rfl) (hb hby d1_55) (fun _ _ => ⟨rfl, e862, (by decide : 2 + 2 ≤ _), (by decide : 6 + 48 ≤ _)⟩)
    dsimp only [Pt.U, Pt.locs, Pt.cells, Pt.slots] at X876 l876 y876 z876 st876 hQ876
    subst l876 y876 z876
    obtain ⟨rfl, Nq876, K876, t876, kt876, vs876, Fv876, Fc876, hl876, hv876, At876⟩ := hQ876
    have N876 := Fr.app N862 Nq876
    have k877 : Rch p e below S0 T876 (mkF m 58 #[vI 2, vI ca, vI cb, vI cd] [(.ref b841)]) := fun t h => k864 t (st876.trans h)
    have hC878 := hC865.keep K876 (sfS sf_b841 sf0)
    have rC878 := rC865.trans (CHr.keep K876 (sfS sf_b841 sf0) hC865)
    have sfx879 := (sfS sf_b841 sf0)
    replace sf_b841 := Safe.keep K876 sfx879 hC865 sf_b841
    replace sf_b848 := Safe.keep K876 sfx879 hC865 sf_b848
    have O880 := O866.keep K876 (allS ge_b841 all0)
    have K881 := K867.trans K876 (allS (Or.inr sz_b841) all0)
    replace E_b841 := E_b841.keep K876
    replace V_b848 := V_b848.keep K876 (ninS (Ne.symm ne_b841_b848) nin0)
    have hkk882 := Nat.le_trans hkk868 K876.1
    obtain ⟨fs, hr, hrun, hended, hfin⟩ := X876.leaveW hS (by exact hkk882) (v := (some (.ref b841))) (fun h => by rw [Bd.returns] at h; cases h)
    refine ⟨_, _, ?_, hrun, hended, _, _, rfl, ?_, (by rw [hh]; have q := own_chr rC878 (CHv.at X876 hZ hEL hC878) rfl; exact q), hfin.1, hfin.2.1, hfin.2.2.1, hfin.2.2.2.mono (by decide) (by decide)⟩
    · rw [← hS0]
      refine k877 _ ?_
      show Steps p.tables e below (T876.setTop (mkF m 58 #[vI 2, vI ca, vI cb, vI cd] [(.ref b841)])) _
      jvm_step X876.here [X876.here.top, hx, (hb hby d1_58), X876.method', Bd.returns, Value.isRef, FieldType.isReference]
      first | (intro acts; rw [hr _ acts rfl rfl rfl]) | rw [hr _ _ rfl rfl rfl]
      exact Steps.refl _
    · show Q_rmT2 Z ca cb cd h0 n0 _ T876.heap _
      exact ⟨_, rfl, N876, own_ext K881, sz_b841, Or.inr ⟨_, _, E_b841, Fv876, Fc876, (by rw [u16_len]; exact At876.pad (u16_of [ca, cb] _ 2 rfl hl876 hv876)), hp6⟩⟩
def Q_rmT3 (Z : State) (ca : Int32) (cb : Int32) (cd : Int32) (h0 : Heap) (n0 : Nat) (v : Option Value) (h : Heap) (L : List Loc) : Prop := ∃ r1, v = some (.ref r1) ∧ Fr n0 L ∧ Ext h0 h ∧ h0.size ≤ r1 ∧ Stg Z h r1 [ca, cb, cd]
theorem d1_59 : decode method_2_code 59 = .ok (.new 7, 3) := by decide +kernel
theorem d1_62 : decode method_2_code 62 = .ok (.dup, 1) := by decide +kernel
theorem d1_63 : decode method_2_code 63 = .ok (.iconst 3, 1) := by decide +kernel
theorem d1_64 : decode method_2_code 64 = .ok (.newarray .char, 2) := by decide +kernel
theorem d1_66 : decode method_2_code 66 = .ok (.dup, 1) := by decide +kernel
theorem d1_67 : decode method_2_code 67 = .ok (.iconst 0, 1) := by decide +kernel
theorem d1_68 : decode method_2_code 68 = .ok (.iload_n 1, 1) := by decide +kernel
theorem d1_69 : decode method_2_code 69 = .ok (.castore, 1) := by decide +kernel
theorem d1_70 : decode method_2_code 70 = .ok (.dup, 1) := by decide +kernel
theorem d1_71 : decode method_2_code 71 = .ok (.iconst 1, 1) := by decide +kernel
theorem d1_72 : decode method_2_code 72 = .ok (.iload_n 2, 1) := by decide +kernel
theorem d1_73 : decode method_2_code 73 = .ok (.castore, 1) := by decide +kernel
theorem d1_74 : decode method_2_code 74 = .ok (.dup, 1) := by decide +kernel
theorem d1_75 : decode method_2_code 75 = .ok (.iconst 2, 1) := by decide +kernel
theorem d1_76 : decode method_2_code 76 = .ok (.iload_n 3, 1) := by decide +kernel
theorem d1_77 : decode method_2_code 77 = .ok (.castore, 1) := by decide +kernel
theorem d1_78 : decode method_2_code 78 = .ok (.invokespecial 9, 3) := by decide +kernel
theorem d1_81 : decode method_2_code 81 = .ok (.areturn, 1) := by decide +kernel
theorem rmT3 (l : Launch) (Z : State) (a0 : Array Value) (hw : HW Z a0) (ws : List Jvm.Cond) (ca : Int32) (cb : Int32) (cd : Int32) (zC : Int32) (h0 : Heap) (n0 : Nat) (O0 : Old Z n0 h0) (SC : Sta Z Z.heap "java/lang/String" "COMPACT_STRINGS" "Z" (.int zC)) (hzC : ¬ zC = 0) (SAs : Sta Z Z.heap "java/lang/StringUTF16" "$assertionsDisabled" "Z" (.int (1 : Int32))) (SHi : Sta Z Z.heap "java/lang/StringUTF16" "HI_BYTE_SHIFT" "I" (.int (0 : Int32))) (SLo : Sta Z Z.heap "java/lang/StringUTF16" "LO_BYTE_SHIFT" "I" (.int (8 : Int32))) (hca : ¬ ca < 0 ∧ ¬ (65535 : Int32) < ca) (hcb : ¬ cb < 0 ∧ ¬ (65535 : Int32) < cb) (hcd : ¬ cd < 0 ∧ ¬ (65535 : Int32) < cd) :
    MFC l Z y_50 method_2_code 4 (some (.object "java/lang/String")) ws ({ frames := 6, cells := 6, slots := 80, locals := 190 } : Room) #[(.int (3 : Int32)), (.int ca), (.int cb), (.int cd)] h0 (Q_rmT3 Z ca cb cd h0 n0) := by
  refine MetFree.of_bodySF (plainFor_of_name pn_EntryNameMemberPinLaw) hisR ?_
  intro p e s m args below meth c s₁ Bd hml0 hP hK
  obtain ⟨rfl, hZ, hh, hC0⟩ := hP
  have hx := Bd.exec
  have hby := Bd.bytes
  have hml : c.maxLocals = 4 := hml0
  have hown : s.vm.findClass "com/example/nuthatch/nuthatch/EntryNameMemberPinLaw" = some m.cls := findClass_of_methodNamed Bd.named
  have hnm := (name_of_methodNamed Bd.named Bd.method).1
  have X0 : Stand p l e ({ frames := 6, cells := 6, slots := 80, locals := 190 } : Room) (s.setVm s.vm) m #[(.int (3 : Int32)), (.int ca), (.int cb), (.int cd)] below meth c s₁ [] 0 0 := Stand.of_body Bd
  have e0 : s₁.heap = h0 := by rw [← hh, Bd.state]; rfl
  have N0 := Fr.nil n0
  obtain ⟨S0, hS0⟩ : ∃ z, z = s₁.setTop (entryFrame m #[(.int (3 : Int32)), (.int ca), (.int cb), (.int cd)] 4) := ⟨_, rfl⟩
  have k0 : Rch p e below S0 s₁ (mkF m 0 #[vI 3, vI ca, vI cb, vI cd] []) := fun t kq => hS0 ▸ castTop (ef_1 m (3 : Int32) ca cb cd) kq
  have K0 : Keep h0 h0 [] := Keep.refl h0 _
  have hS : s.Since s.vm s.heap.size := (State.WarmedH.refl s).since _
  have hk : s.heap.size ≤ h0.size := by rw [← hh]; exact Nat.le_refl _
  have hwS : ∀ d ∈ Bundle.stringAtoms, d.before a0 Z = true := fun d hd => hw d ((by decide +kernel : ∀ d ∈ Bundle.stringAtoms, d ∈ tables_1) d hd)
  have rC0 : CHr Z consts_1 s.vm h0 s.vm h0 := CHr.refl hC0
  have hEL : EW Z a0 consts_1 := (EW.cons (hw _ (gm 19 rfl)) (by decide +kernel) EW.nil)
  have k884 : Rch p e below S0 s₁ (mkF m 59 #[vI 3, vI ca, vI cb, vI cd] []) := fun t h => k0 t (by
      refine XS.iloadN X0.here hx rfl (hb hby d1_0) rfl ?_
      refine XS.ifYes X0.here hx rfl (pc0 := 1) (pc' := 15) rfl (hb hby d1_1) rfl ((if0 _ _).trans (feq (by decide : ¬ ((3 : Int32) = (0 : Int32)))).2) (by decide) (by decide) ?_
      refine XS.iloadN X0.here hx rfl (hb hby d1_15) rfl ?_
      refine XS.iconst X0.here hx rfl (hb hby d1_16) ?_
      refine XS.icmpYes X0.here hx rfl (pc0 := 17) (pc' := 35) rfl (hb hby d1_17) rfl (feq (by decide : ¬ ((3 : Int32) = (1 : Int32)))).2 (by decide) (by decide) ?_
      refine XS.iloadN X0.here hx rfl (hb hby d1_35) rfl ?_
      refine XS.iconst X0.here hx rfl (hb hby d1_36) ?_
      refine XS.icmpYes X0.here hx rfl (pc0 := 37) (pc' := 59) rfl (hb hby d1_37) rfl (feq (by decide : ¬ ((3 : Int32) = (2 : Int32)))).2 (by decide) (by decide) ?_
      exact h)
  obtain ⟨T883, h883, X883, e883, E883, A883, D883, -, st883⟩ := newO X0 hx hZ hown (hw _ (gm 5 rfl)) (hw _ (gm 6 rfl)) (hw _ (gm 7 rfl)) e0 (g := (mkF m 59 #[vI 3, vI ca, vI cb, vI cd] [])) rfl (hb hby d1_59) (by decide) (by decide)
  obtain ⟨b883, g883⟩ : ∃ z, z = h0.size := ⟨_, rfl⟩
  rw [← g883] at A883 D883 st883
  have k885 : Rch p e below S0 T883 (mkF m 62 #[vI 3, vI ca, vI cb, vI cd] [(.ref b883)]) := fun t h => k884 t (st883 t h)
  have ge_b883 : n0 ≤ b883 := own_ge O0 (Nat.le_of_eq g883.symm)
  have sf_b883 : Safe Z consts_1 s.vm h0 b883 := Safe.new (Nat.le_of_eq g883.symm)
  have sz_b883 : h0.size ≤ b883 := Nat.le_trans K0.1 (Nat.le_of_eq g883.symm)
  replace sf_b883 := Safe.ext E883 hC0 sf_b883
  have hC886 := hC0.ext E883
  have rC886 := rC0.trans (CHr.ext E883 hC0)
  have O887 := O0.ext E883
  have K888 := K0.ext E883
  have hkk889 := Nat.le_trans hk E883.1
  have E_b883 := A883
  have F_b883_value : Fld Z h883 b883 "java/lang/String" "value" "[B" .null := D883 (Or.inr (hw _ (gm 21 rfl))) (ty := (.array .byte)) (by decide)
  have F_b883_coder : Fld Z h883 b883 "java/lang/String" "coder" "B" (.int (0 : Int32)) := D883 (Or.inr (hw _ (gm 22 rfl))) (ty := .byte) (by decide)
  have k891 : Rch p e below S0 T883 (mkF m 64 #[vI 3, vI ca, vI cb, vI cd] [(.int (3 : Int32)), (.ref b883), (.ref b883)]) := fun t h => k885 t (by
      refine XS.dup X883.here hx rfl (hb hby d1_62) rfl rfl ?_
      refine XS.iconst X883.here hx rfl (hb hby d1_63) ?_
      exact h)
  obtain ⟨T890, h890, k890, X890, e890, E890, A890, st890⟩ := newP X883 hx hZ (hw _ (gm 8 rfl)) e883 (g := (mkF m 64 #[vI 3, vI ca, vI cb, vI cd] [(.int (3 : Int32)), (.ref b883), (.ref b883)])) rfl (hb hby d1_64) rfl (by decide) (cap := 3) (by decide) (by decide) (by decide) (by decide)
  obtain ⟨b890, g890⟩ : ∃ z, z = h883.size := ⟨_, rfl⟩
  rw [← g890] at A890 st890
  have k892 : Rch p e below S0 T890 (mkF m 66 #[vI 3, vI ca, vI cb, vI cd] [(.ref b890), (.ref b883), (.ref b883)]) := fun t h => k891 t (st890 t h)
  have ne_b883_b890 : b883 ≠ b890 := own_ne E_b883.lt (Nat.le_of_eq g890.symm)
  have ge_b890 : n0 ≤ b890 := own_ge O887 (Nat.le_of_eq g890.symm)
  have sf_b890 : Safe Z consts_1 s.vm h883 b890 := Safe.new (Nat.le_of_eq g890.symm)
  have sz_b890 : h0.size ≤ b890 := Nat.le_trans K888.1 (Nat.le_of_eq g890.symm)
  replace sf_b883 := Safe.ext E890 hC886 sf_b883
  replace sf_b890 := Safe.ext E890 hC886 sf_b890
  have hC893 := hC886.ext E890
  have rC893 := rC886.trans (CHr.ext E890 hC886)
  have O894 := O887.ext E890
  have K895 := K888.ext E890
  replace E_b883 := E_b883.ext E890
  replace F_b883_value := F_b883_value.ext E890
  replace F_b883_coder := F_b883_coder.ext E890
  have hkk896 := Nat.le_trans hkk889 E890.1
  have V_b890 : Arv Z h890 b890 k890 .char (3 : Int32) [(.int (0 : Int32)), (.int (0 : Int32)), (.int (0 : Int32))] (.int (0 : Int32)) := (Arv.new A890 (by decide)).pad (pad_rep [] (.int (0 : Int32)) 3)
  have k898 : Rch p e below S0 T890 (mkF m 69 #[vI 3, vI ca, vI cb, vI cd] [(.int ca), (.int (0 : Int32)), (.ref b890), (.ref b890), (.ref b883), (.ref b883)]) := fun t h => k892 t (by
      refine XS.dup X890.here hx rfl (hb hby d1_66) rfl rfl ?_
      refine XS.iconst X890.here hx rfl (hb hby d1_67) ?_
      refine XS.iloadN X890.here hx rfl (hb hby d1_68) rfl ?_
      exact h)
  obtain ⟨cl897, Ar897, q897, Sz897, Ng897, Hs897, G897⟩ := id V_b890
  have hin897 : ¬ ((0 : Int32) < 0 ∨ cl897.slots.size ≤ ((0 : Int32)).toNatClampNeg) := inb_of Sz897 ⟨by decide, by decide⟩
  obtain ⟨T897, h897, X897, e897, W897, st897⟩ := stC X890 hx hZ e890 Ar897 (j := (0 : Int32)) hin897 (g := (mkF m 69 #[vI 3, vI ca, vI cb, vI cd] [(.int ca), (.int (0 : Int32)), (.ref b890), (.ref b890), (.ref b883), (.ref b883)])) rfl rfl (hb hby d1_69)
  have k899 : Rch p e below S0 T897 (mkF m 70 #[vI 3, vI ca, vI cb, vI cd] [(.ref b890), (.ref b883), (.ref b883)]) := fun t h => k898 t (st897 t h)
  have N897 := Fr.snoc X897 N0 ge_b890
  have V_b890' := Arv.set Ar897 q897 Sz897 Ng897 Hs897 G897 (fits_nar_char _) W897 0 rfl (Nat.le_of_ble_eq_true rfl)
  replace V_b890 : Arv Z h897 b890 k890 .char (3 : Int32) [(.int ca), (.int (0 : Int32)), (.int (0 : Int32))] (.int (0 : Int32)) := (by have q := V_b890'; rw [(own_narc ca hca).1] at q; exact q)
  have hC900 := hC893.wr W897 sf_b890
  have rC900 := rC893.trans (CHr.wr W897 sf_b890 hC893)
  replace sf_b883 := Safe.wr W897 sf_b890 hC893 sf_b883
  replace sf_b890 := Safe.wr W897 sf_b890 hC893 sf_b890
  have O901 := O894.wr W897 ge_b890
  have K902 := K895.wr W897 (Or.inr sz_b890)
  replace E_b883 := E_b883.wr W897
  replace F_b883_value := F_b883_value.other W897 (Or.inl ne_b883_b890)
  replace F_b883_coder := F_b883_coder.other W897 (Or.inl ne_b883_b890)
  have hkk903 := Nat.le_trans hkk896 (Keep.of_wr W897).1
  have k905 : Rch p e below S0 T897 (mkF m 73 #[vI 3, vI ca, vI cb, vI cd] [(.int cb), (.int (1 : Int32)), (.ref b890), (.ref b890), (.ref b883), (.ref b883)]) := fun t h => k899 t (by
      refine XS.dup X897.here hx rfl (hb hby d1_70) rfl rfl ?_
      refine XS.iconst X897.here hx rfl (hb hby d1_71) ?_
      refine XS.iloadN X897.here hx rfl (hb hby d1_72) rfl ?_
      exact h)
  obtain ⟨cl904, Ar904, q904, Sz904, Ng904, Hs904, G904⟩ := id V_b890
  have hin904 : ¬ ((1 : Int32) < 0 ∨ cl904.slots.size ≤ ((1 : Int32)).toNatClampNeg) := inb_of Sz904 ⟨by decide, by decide⟩
  obtain ⟨T904, h904, X904, e904, W904, st904⟩ := stC X897 hx hZ e897 Ar904 (j := (1 : Int32)) hin904 (g := (mkF m 73 #[vI 3, vI ca, vI cb, vI cd] [(.int cb), (.int (1 : Int32)), (.ref b890), (.ref b890), (.ref b883), (.ref b883)])) rfl rfl (hb hby d1_73)
  have k906 : Rch p e below S0 T904 (mkF m 74 #[vI 3, vI ca, vI cb, vI cd] [(.ref b890), (.ref b883), (.ref b883)]) := fun t h => k905 t (st904 t h)
  have N904 := Fr.snoc X904 N897 ge_b890
  have V_b890' := Arv.set Ar904 q904 Sz904 Ng904 Hs904 G904 (fits_nar_char _) W904 1 rfl (Nat.le_of_ble_eq_true rfl)
  replace V_b890 : Arv Z h904 b890 k890 .char (3 : Int32) [(.int ca), (.int cb), (.int (0 : Int32))] (.int (0 : Int32)) := (by have q := V_b890'; rw [(own_narc cb hcb).1] at q; exact q)
  have hC907 := hC900.wr W904 sf_b890
  have rC907 := rC900.trans (CHr.wr W904 sf_b890 hC900)
  replace sf_b883 := Safe.wr W904 sf_b890 hC900 sf_b883
  replace sf_b890 := Safe.wr W904 sf_b890 hC900 sf_b890
  have O908 := O901.wr W904 ge_b890
  have K909 := K902.wr W904 (Or.inr sz_b890)
  replace E_b883 := E_b883.wr W904
  replace F_b883_value := F_b883_value.other W904 (Or.inl ne_b883_b890)
  replace F_b883_coder := F_b883_coder.other W904 (Or.inl ne_b883_b890)
  have hkk910 := Nat.le_trans hkk903 (Keep.of_wr W904).1
  have k912 : Rch p e below S0 T904 (mkF m 77 #[vI 3, vI ca, vI cb, vI cd] [(.int cd), (.int (2 : Int32)), (.ref b890), (.ref b890), (.ref b883), (.ref b883)]) := fun t h => k906 t (by
      refine XS.dup X904.here hx rfl (hb hby d1_74) rfl rfl ?_
      refine XS.iconst X904.here hx rfl (hb hby d1_75) ?_
      refine XS.iloadN X904.here hx rfl (hb hby d1_76) rfl ?_
      exact h)
  obtain ⟨cl911, Ar911, q911, Sz911, Ng911, Hs911, G911⟩ := id V_b890
  have hin911 : ¬ ((2 : Int32) < 0 ∨ cl911.slots.size ≤ ((2 : Int32)).toNatClampNeg) := inb_of Sz911 ⟨by decide, by decide⟩
  obtain ⟨T911, h911, X911, e911, W911, st911⟩ := stC X904 hx hZ e904 Ar911 (j := (2 : Int32)) hin911 (g := (mkF m 77 #[vI 3, vI ca, vI cb, vI cd] [(.int cd), (.int (2 : Int32)), (.ref b890), (.ref b890), (.ref b883), (.ref b883)])) rfl rfl (hb hby d1_77)
  have k913 : Rch p e below S0 T911 (mkF m 78 #[vI 3, vI ca, vI cb, vI cd] [(.ref b890), (.ref b883), (.ref b883)]) := fun t h => k912 t (st911 t h)
  have N911 := Fr.snoc X911 N904 ge_b890
  have V_b890' := Arv.set Ar911 q911 Sz911 Ng911 Hs911 G911 (fits_nar_char _) W911 2 rfl (Nat.le_of_ble_eq_true rfl)
  replace V_b890 : Arv Z h911 b890 k890 .char (3 : Int32) [(.int ca), (.int cb), (.int cd)] (.int (0 : Int32)) := (by have q := V_b890'; rw [(own_narc cd hcd).1] at q; exact q)
  have hC914 := hC907.wr W911 sf_b890
  have rC914 := rC907.trans (CHr.wr W911 sf_b890 hC907)
  replace sf_b883 := Safe.wr W911 sf_b890 hC907 sf_b883
  replace sf_b890 := Safe.wr W911 sf_b890 hC907 sf_b890
  have O915 := O908.wr W911 ge_b890
  have K916 := K909.wr W911 (Or.inr sz_b890)
  replace E_b883 := E_b883.wr W911
  replace F_b883_value := F_b883_value.other W911 (Or.inl ne_b883_b890)
  replace F_b883_coder := F_b883_coder.other W911 (Or.inl ne_b883_b890)
  have hkk917 := Nat.le_trans hkk910 (Keep.of_wr W911).1
  have hp6 : ∀ c ∈ ([ca, cb, cd] : List Int32), ¬ c < 0 ∧ ¬ (65535 : Int32) < c := by
    intro c hc
    simp only [List.mem_cons, List.not_mem_nil, or_false] at hc
    rcases hc with rfl | rfl | rfl
    · exact hca
    · exact hcb
    · exact hcd
  by_cases hlat : ∀ c ∈ ([ca, cb, cd] : List Int32), ¬ (255 : Int32) < c
  · have hws : ∀ d ∈ StrChars.Road.words, d.before a0 Z = true := fun d hd => hw d ((by decide +kernel : ∀ d ∈ StrChars.Road.words, d ∈ tables_1) d hd)
    have hp : ∀ c ∈ ([ca, cb, cd] : List Int32), ¬ c < 0 ∧ ¬ (255 : Int32) < c := fun c hc => ⟨(hp6 c hc).1, hlat c hc⟩
    obtain ⟨_, _, ⟨T918, L918, kk918, n918⟩, -, X918, ⟨Lc918, hQ918, l918, y918, z918⟩, st918⟩ := X911.specialBack hx (y := y_9) rfl hown (mvT hZ (hw _ (gm 9 rfl))) (mvT hZ (hw _ (gm 10 rfl))) (mvT hZ (hw _ (gm 11 rfl))) (by decide) (StrChars.Road.backV (W := 1) hZ hws (kI := 4) (hw _ (gm 6 rfl)) (cs := [ca, cb, cd]) (bs := [ca, cb, cd].map (fun c => c.toInt8.toInt32)) (n := 3) ge_b883 (own_le O915) E_b883 F_b883_value F_b883_coder V_b890 (SC.ext O915.2) hzC rfl rfl (by decide) (by decide) hp rfl (by decide) (by decide)) (g := (mkF m 78 #[vI 3, vI ca, vI cb, vI cd] [(.ref b890), (.ref b883), (.ref b883)])) rfl (by rw [hml]; rfl) (Steps.refl _) (a := b883) (argsL := [(.ref b890)]) (rest := [(.ref b883)]) (lenOf pd_1 rfl) rfl (by show 2 * 0 + _ ≤ _; exact Nat.le_of_eq rfl) (hb hby d1_78) (fun _ _ => ⟨rfl, e911, (by decide : 2 + 1 ≤ _), (by decide : 7 + 3 ≤ _)⟩)
    dsimp only [Pt.U, Pt.locs, Pt.cells, Pt.slots] at X918 l918 y918 z918 st918 hQ918
    subst l918 y918 z918
    obtain ⟨rfl, Nq918, K918, Eb918, Cb918, t918, kb918, u918, v918, ww918, Vb918, Ab918⟩ := hQ918
    have N918 := Fr.app N911 Nq918
    have k919 : Rch p e below S0 T918 (mkF m 81 #[vI 3, vI ca, vI cb, vI cd] [(.ref b883)]) := fun t h => k913 t (st918.trans h)
    have hC920 := hC914.keep K918 (sfS sf_b883 sf0)
    have rC920 := rC914.trans (CHr.keep K918 (sfS sf_b883 sf0) hC914)
    have sfx921 := (sfS sf_b883 sf0)
    replace sf_b883 := Safe.keep K918 sfx921 hC914 sf_b883
    replace sf_b890 := Safe.keep K918 sfx921 hC914 sf_b890
    have O922 := O915.keep K918 (allS ge_b883 all0)
    have K923 := K916.trans K918 (allS (Or.inr sz_b883) all0)
    replace E_b883 := E_b883.keep K918
    replace V_b890 := V_b890.keep K918 (ninS (Ne.symm ne_b883_b890) nin0)
    have hkk924 := Nat.le_trans hkk917 K918.1
    obtain ⟨fs, hr, hrun, hended, hfin⟩ := X918.leaveW hS (by exact hkk924) (v := (some (.ref b883))) (fun h => by rw [Bd.returns] at h; cases h)
    refine ⟨_, _, ?_, hrun, hended, _, _, rfl, ?_, (by rw [hh]; have q := own_chr rC920 (CHv.at X918 hZ hEL hC920) rfl; exact q), hfin.1, hfin.2.1, hfin.2.2.1, hfin.2.2.2.mono (by decide) (by decide)⟩
    · rw [← hS0]
      refine k919 _ ?_
      show Steps p.tables e below (T918.setTop (mkF m 81 #[vI 3, vI ca, vI cb, vI cd] [(.ref b883)])) _
      jvm_step X918.here [X918.here.top, hx, (hb hby d1_81), X918.method', Bd.returns, Value.isRef, FieldType.isReference]
      first | (intro acts; rw [hr _ acts rfl rfl rfl]) | rw [hr _ _ rfl rfl rfl]
      exact Steps.refl _
    · show Q_rmT3 Z ca cb cd h0 n0 _ T918.heap _
      exact ⟨_, rfl, N918, own_ext K923, sz_b883, Or.inl ⟨_, _, E_b883, Vb918, Cb918, Ab918, hp⟩⟩
  · obtain ⟨kF, hk1, hk2, hk3⟩ := own_first [ca, cb, cd] (by
      apply Classical.byContradiction
      intro q
      exact hlat fun c hc w => q ⟨c, hc, w⟩)
    obtain ⟨_, _, ⟨T925, L925, kk925, n925⟩, -, X925, ⟨Lc925, hQ925, l925, y925, z925⟩, st925⟩ := X911.specialBack hx (y := y_9) rfl hown (mvT hZ (hw _ (gm 9 rfl))) (mvT hZ (hw _ (gm 10 rfl))) (mvT hZ (hw _ (gm 11 rfl))) (by decide) (backOf (W := 1) (rmU1 l Z a0 hw [] b883 b890 k890 3 ([ca, cb, cd]) kF zC h911 n0 O915 SAs SHi SLo SC hzC (by decide) rfl hk1 hk2 hk3 hp6 ge_b883 E_b883 F_b883_value F_b883_coder (Ne.symm ne_b883_b890) V_b890) hZ (hw _ (gm 11 rfl)) (hw _ (gm 7 rfl)) (by decide) (by decide)) (g := (mkF m 78 #[vI 3, vI ca, vI cb, vI cd] [(.ref b890), (.ref b883), (.ref b883)])) rfl (by rw [hml]; rfl) (Steps.refl _) (a := b883) (argsL := [(.ref b890)]) (rest := [(.ref b883)]) (lenOf pd_1 rfl) rfl (by show 2 * 0 + _ ≤ _; exact Nat.le_of_eq rfl) (hb hby d1_78) (fun _ _ => ⟨rfl, e911, (by decide : 2 + 2 ≤ _), (by decide : 7 + 48 ≤ _)⟩)
    dsimp only [Pt.U, Pt.locs, Pt.cells, Pt.slots] at X925 l925 y925 z925 st925 hQ925
    subst l925 y925 z925
    obtain ⟨rfl, Nq925, K925, t925, kt925, vs925, Fv925, Fc925, hl925, hv925, At925⟩ := hQ925
    have N925 := Fr.app N911 Nq925
    have k926 : Rch p e below S0 T925 (mkF m 81 #[vI 3, vI ca, vI cb, vI cd] [(.ref b883)]) := fun t h => k913 t (st925.trans h)
    have hC927 := hC914.keep K925 (sfS sf_b883 sf0)
    have rC927 := rC914.trans (CHr.keep K925 (sfS sf_b883 sf0) hC914)
    have sfx928 := (sfS sf_b883 sf0)
    replace sf_b883 := Safe.keep K925 sfx928 hC914 sf_b883
    replace sf_b890 := Safe.keep K925 sfx928 hC914 sf_b890
    have O929 := O915.keep K925 (allS ge_b883 all0)
    have K930 := K916.trans K925 (allS (Or.inr sz_b883) all0)
    replace E_b883 := E_b883.keep K925
    replace V_b890 := V_b890.keep K925 (ninS (Ne.symm ne_b883_b890) nin0)
    have hkk931 := Nat.le_trans hkk917 K925.1
    obtain ⟨fs, hr, hrun, hended, hfin⟩ := X925.leaveW hS (by exact hkk931) (v := (some (.ref b883))) (fun h => by rw [Bd.returns] at h; cases h)
    refine ⟨_, _, ?_, hrun, hended, _, _, rfl, ?_, (by rw [hh]; have q := own_chr rC927 (CHv.at X925 hZ hEL hC927) rfl; exact q), hfin.1, hfin.2.1, hfin.2.2.1, hfin.2.2.2.mono (by decide) (by decide)⟩
    · rw [← hS0]
      refine k926 _ ?_
      show Steps p.tables e below (T925.setTop (mkF m 81 #[vI 3, vI ca, vI cb, vI cd] [(.ref b883)])) _
      jvm_step X925.here [X925.here.top, hx, (hb hby d1_81), X925.method', Bd.returns, Value.isRef, FieldType.isReference]
      first | (intro acts; rw [hr _ acts rfl rfl rfl]) | rw [hr _ _ rfl rfl rfl]
      exact Steps.refl _
    · show Q_rmT3 Z ca cb cd h0 n0 _ T925.heap _
      exact ⟨_, rfl, N925, own_ext K930, sz_b883, Or.inr ⟨_, _, E_b883, Fv925, Fc925, (by rw [u16_len]; exact At925.pad (u16_of [ca, cb, cd] _ 3 rfl hl925 hv925)), hp6⟩⟩
def Q_rnT (Z : State) (n : Nat) (ca cb cd : Int32) (h0 : Heap) (n0 : Nat) (v : Option Value) (h : Heap) (L : List Loc) : Prop := ∃ r1, v = some (.ref r1) ∧ Fr n0 L ∧ Ext h0 h ∧ h0.size ≤ r1 ∧ Stg Z h r1 ([ca, cb, cd].take n)
theorem rmT (l : Launch) (Z : State) (a0 : Array Value) (hw : ∀ d ∈ tables_1, d.before a0 Z = true) (ws : List Jvm.Cond) (n : Nat) (ca : Int32) (cb : Int32) (cd : Int32) (zC : Int32) (h0 : Heap) (n0 : Nat) (O0 : Old Z n0 h0) (SC : Sta Z Z.heap "java/lang/String" "COMPACT_STRINGS" "Z" (.int zC)) (hzC : ¬ zC = 0) (SAs : Sta Z Z.heap "java/lang/StringUTF16" "$assertionsDisabled" "Z" (.int (1 : Int32))) (SHi : Sta Z Z.heap "java/lang/StringUTF16" "HI_BYTE_SHIFT" "I" (.int (0 : Int32))) (SLo : Sta Z Z.heap "java/lang/StringUTF16" "LO_BYTE_SHIFT" "I" (.int (8 : Int32))) (hca : ¬ ca < 0 ∧ ¬ (65535 : Int32) < ca) (hcb : ¬ cb < 0 ∧ ¬ (65535 : Int32) < cb) (hcd : ¬ cd < 0 ∧ ¬ (65535 : Int32) < cd) (hn : n < 4) :
    MetFree l y_50 (head1 (Jvm.Cond.code y_50 method_2_code 4 (some (.object "java/lang/String")) :: ws) ({ frames := 6, cells := 6, slots := 80, locals := 190 } : Room)) (fun a U => a = #[(.int (Int32.ofNat n)), (.int ca), (.int cb), (.int cd)] ∧ Z.Warmed39 U.vm ∧ U.heap = h0 ∧ CHv Z consts_1 U.vm h0) (fun _ _ _ _ _ => True) (fun _ U o U' => ∃ v L, o = .returned v ∧ Q_rnT Z n ca cb cd h0 n0 v U'.heap L ∧ CHr Z consts_1 U.vm U.heap U'.vm U'.heap ∧ ReturnedEndW U o U' L ({ frames := 6, cells := 6, slots := 80, locals := 190 } : Room).cells ({ frames := 6, cells := 6, slots := 80, locals := 190 } : Room).slots) := by
  match n, hn with
  | 0, _ => exact rmT0 l Z a0 hw ws ca cb cd zC h0 n0 O0 SC hzC SAs SHi SLo hca hcb hcd
  | 1, _ => exact rmT1 l Z a0 hw ws ca cb cd zC h0 n0 O0 SC hzC SAs SHi SLo hca hcb hcd
  | 2, _ => exact rmT2 l Z a0 hw ws ca cb cd zC h0 n0 O0 SC hzC SAs SHi SLo hca hcb hcd
  | 3, _ => exact rmT3 l Z a0 hw ws ca cb cd zC h0 n0 O0 SC hzC SAs SHi SLo hca hcb hcd
def own_rs (n m : Nat) (c0 c1 c2 u0 u1 : Int32) : List Int32 := ((([c0, c1, c2].take n).map own_nm ++ [45]) ++ [u0, u1, u0].take m)
theorem own_rsl (n m : Nat) (c0 c1 c2 u0 u1 : Int32) (hn : n < 4) (hm : m < 3) : (own_rs n m c0 c1 c2 u0 u1).length = n + 1 + m ∧ ([c0, c1, c2].take n).length = n ∧ ([u0, u1, u0].take m).length = m := by
  simp only [own_rs, List.length_append, List.length_map, List.length_take, List.length_cons, List.length_nil]
  omega
theorem own_rsg (n m : Nat) (c0 c1 c2 u0 u1 : Int32) (hn : n < 4) (hm : m < 3) : (0 < n → (own_rs n m c0 c1 c2 u0 u1).getD 0 0 = own_nm c0) ∧ (1 < n → (own_rs n m c0 c1 c2 u0 u1).getD 1 0 = own_nm c1) ∧ (2 < n → (own_rs n m c0 c1 c2 u0 u1).getD 2 0 = own_nm c2) ∧ (own_rs n m c0 c1 c2 u0 u1).getD n 0 = 45 ∧ (0 < m → (own_rs n m c0 c1 c2 u0 u1).getD (n + 1) 0 = u0) ∧ (1 < m → (own_rs n m c0 c1 c2 u0 u1).getD (n + 2) 0 = u1) := by
  match n, hn, m, hm with
  | 0, _, 0, _ => exact ⟨fun q => absurd q (by decide), fun q => absurd q (by decide), fun q => absurd q (by decide), rfl, fun q => absurd q (by decide), fun q => absurd q (by decide)⟩
  | 0, _, 1, _ => exact ⟨fun q => absurd q (by decide), fun q => absurd q (by decide), fun q => absurd q (by decide), rfl, fun _ => rfl, fun q => absurd q (by decide)⟩
  | 0, _, 2, _ => exact ⟨fun q => absurd q (by decide), fun q => absurd q (by decide), fun q => absurd q (by decide), rfl, fun _ => rfl, fun _ => rfl⟩
  | 1, _, 0, _ => exact ⟨fun _ => rfl, fun q => absurd q (by decide), fun q => absurd q (by decide), rfl, fun q => absurd q (by decide), fun q => absurd q (by decide)⟩
  | 1, _, 1, _ => exact ⟨fun _ => rfl, fun q => absurd q (by decide), fun q => absurd q (by decide), rfl, fun _ => rfl, fun q => absurd q (by decide)⟩
  | 1, _, 2, _ => exact ⟨fun _ => rfl, fun q => absurd q (by decide), fun q => absurd q (by decide), rfl, fun _ => rfl, fun _ => rfl⟩
  | 2, _, 0, _ => exact ⟨fun _ => rfl, fun _ => rfl, fun q => absurd q (by decide), rfl, fun q => absurd q (by decide), fun q => absurd q (by decide)⟩
  | 2, _, 1, _ => exact ⟨fun _ => rfl, fun _ => rfl, fun q => absurd q (by decide), rfl, fun _ => rfl, fun q => absurd q (by decide)⟩
  | 2, _, 2, _ => exact ⟨fun _ => rfl, fun _ => rfl, fun q => absurd q (by decide), rfl, fun _ => rfl, fun _ => rfl⟩
  | 3, _, 0, _ => exact ⟨fun _ => rfl, fun _ => rfl, fun _ => rfl, rfl, fun q => absurd q (by decide), fun q => absurd q (by decide)⟩
  | 3, _, 1, _ => exact ⟨fun _ => rfl, fun _ => rfl, fun _ => rfl, rfl, fun _ => rfl, fun q => absurd q (by decide)⟩
  | 3, _, 2, _ => exact ⟨fun _ => rfl, fun _ => rfl, fun _ => rfl, rfl, fun _ => rfl, fun _ => rfl⟩
def Q_rm0_z (Z : State)  (h0 : Heap) (n0 : Nat) (v : Option Value) (h : Heap) (L : List Loc) : Prop := v = some (.int (1 : Int32)) ∧ Fr n0 L
theorem ef_0 (m : MethodId) (x0 : Int32) (x1 : Int32) (x2 : Int32) (x3 : Int32) : entryFrame m #[(.int x0), (.int x1), (.int x2), (.int x3)] maxLocals = mkF m 0 #[.val (.int x0), .val (.int x1), .val (.int x2), .val (.int x3), .unset, .unset, .unset, .unset, .unset, .unset, .unset, .unset, .unset, .unset, .unset, .unset, .unset] [] := by first | (simp [entryFrame, mkF, argsToLocals, Value.category, maxLocals]; done) | rfl
theorem pd_0 : parseMethodDescriptor "(ICCC)Ljava/lang/String;" = some ⟨[.int, .char, .char, .char], some (.object "java/lang/String")⟩ := by decide +kernel
theorem pd_7 : parseMethodDescriptor "(Ljava/lang/String;Ljava/lang/String;)Ljava/lang/String;" = some ⟨[(.object "java/lang/String"), (.object "java/lang/String")], some (.object "java/lang/String")⟩ := by decide +kernel
theorem rm0_z (l : Launch) (Z : State) (a0 : Array Value) (hw : HW Z a0) (ws : List Jvm.Cond) (p1 : Int32) (p2 : Int32) (p3 : Int32) (p4 : Int32) (zC : Int32) (fm : Value) (mm : Nat) (h0 : Heap) (n0 : Nat) (O0 : Old Z n0 h0) (SC : Sta Z Z.heap "java/lang/String" "COMPACT_STRINGS" "Z" (.int zC)) (hzC : ¬ zC = 0) (SAs : Sta Z Z.heap "java/lang/StringUTF16" "$assertionsDisabled" "Z" (.int (1 : Int32))) (SHi : Sta Z Z.heap "java/lang/StringUTF16" "HI_BYTE_SHIFT" "I" (.int (0 : Int32))) (SLo : Sta Z Z.heap "java/lang/StringUTF16" "LO_BYTE_SHIFT" "I" (.int (8 : Int32))) (SP : Sta Z Z.heap "jdk/internal/util/Preconditions" "SIOOBE_FORMATTER" "Ljava/util/function/BiFunction;" fm) (hfm : fm = .null ∨ ∃ wP, fm = .ref wP) (hz : ¬ (((p2.toUInt32 >>> ((18 : Int32) &&& 31).toUInt32).toInt32) &&& (1 : Int32)) = 0) (hm : ((p4 &&& (2147483647 : Int32)) % (3 : Int32)) = (Int32.ofNat mm)) (hm3 : mm < 3) :
    MFC l Z x code maxLocals ret ws room_1 #[(.int p1), (.int p2), (.int p3), (.int p4)] h0 (Q_rm0_z Z  h0 n0) := by
  refine MetFree.of_bodySF (plainFor_of_name pn_EntryNameMemberPinLaw) hisR ?_
  intro p e s m args below meth c s₁ Bd hml0 hP hK
  obtain ⟨rfl, hZ, hh, hC0⟩ := hP
  have hx := Bd.exec
  have hby := Bd.bytes
  have hml : c.maxLocals = 17 := hml0
  have hown : s.vm.findClass "com/example/nuthatch/nuthatch/EntryNameMemberPinLaw" = some m.cls := findClass_of_methodNamed Bd.named
  have hnm := (name_of_methodNamed Bd.named Bd.method).1
  have X0 : Stand p l e room_1 (s.setVm s.vm) m #[(.int p1), (.int p2), (.int p3), (.int p4)] below meth c s₁ [] 0 0 := Stand.of_body Bd
  have e0 : s₁.heap = h0 := by rw [← hh, Bd.state]; rfl
  have N0 := Fr.nil n0
  obtain ⟨S0, hS0⟩ : ∃ z, z = s₁.setTop (entryFrame m #[(.int p1), (.int p2), (.int p3), (.int p4)] maxLocals) := ⟨_, rfl⟩
  have k0 : Rch p e below S0 s₁ (mkF m 0 #[vI p1, vI p2, vI p3, vI p4, vU, vU, vU, vU, vU, vU, vU, vU, vU, vU, vU, vU, vU] []) := fun t kq => hS0 ▸ castTop (ef_0 m p1 p2 p3 p4) kq
  have hS : s.Since s.vm s.heap.size := (State.WarmedH.refl s).since _
  have hk : s.heap.size ≤ h0.size := by rw [← hh]; exact Nat.le_refl _
  have hwS : ∀ d ∈ Bundle.stringAtoms, d.before a0 Z = true := fun d hd => hw d ((by decide +kernel : ∀ d ∈ Bundle.stringAtoms, d ∈ tables_1) d hd)
  have rC0 : CHr Z consts_1 s.vm h0 s.vm h0 := CHr.refl hC0
  have hEL : EW Z a0 consts_1 := (EW.cons (hw _ (gm 19 rfl)) (by decide +kernel) EW.nil)
  obtain ⟨c0, ec0⟩ : ∃ z : Int32, (p1.toUInt32.toUInt16.toUInt32.toInt32) = z := ⟨_, rfl⟩
  have hc0 : ¬ c0 < 0 ∧ ¬ (65535 : Int32) < c0 := ec0 ▸ own_c16 _
  obtain ⟨c1, ec1⟩ : ∃ z : Int32, (((p1.toUInt32 >>> ((16 : Int32) &&& 31).toUInt32).toInt32).toUInt32.toUInt16.toUInt32.toInt32) = z := ⟨_, rfl⟩
  have hc1 : ¬ c1 < 0 ∧ ¬ (65535 : Int32) < c1 := ec1 ▸ own_c16 _
  obtain ⟨c2, ec2⟩ : ∃ z : Int32, (p2.toUInt32.toUInt16.toUInt32.toInt32) = z := ⟨_, rfl⟩
  have hc2 : ¬ c2 < 0 ∧ ¬ (65535 : Int32) < c2 := ec2 ▸ own_c16 _
  obtain ⟨u0, eu0⟩ : ∃ z : Int32, (p3.toUInt32.toUInt16.toUInt32.toInt32) = z := ⟨_, rfl⟩
  have hu0 : ¬ u0 < 0 ∧ ¬ (65535 : Int32) < u0 := eu0 ▸ own_c16 _
  obtain ⟨u1, eu1⟩ : ∃ z : Int32, (((p3.toUInt32 >>> ((16 : Int32) &&& 31).toUInt32).toInt32).toUInt32.toUInt16.toUInt32.toInt32) = z := ⟨_, rfl⟩
  have hu1 : ¬ u1 < 0 ∧ ¬ (65535 : Int32) < u1 := eu1 ▸ own_c16 _
  obtain ⟨nq, enq⟩ : ∃ z : Int32, (((p2.toUInt32 >>> ((16 : Int32) &&& 31).toUInt32).toInt32) &&& (3 : Int32)) = z := ⟨_, rfl⟩
  obtain ⟨lr, lh, lu⟩ := own_rsl 0 mm c0 c1 c2 u0 u1 (by decide) hm3
  obtain ⟨g0, g1, g2, g3, g4, g5⟩ := own_rsg 0 mm c0 c1 c2 u0 u1 (by decide) hm3
  have k932 : Rch p e below S0 s₁ (mkF m 88 #[vI p1, vI p2, vI p3, vI p4, vI c0, vI c1, vI c2, vI nq, vI 1, vI u0, vI u1, vI (Int32.ofNat mm), .val .null, vU, vU, vU, vU] [(.int u0), (.int u1), (.int u0), (.int (Int32.ofNat mm))]) := fun t h => k0 t (by
      refine XS.iloadN X0.here hx rfl (hb hby at_0) rfl ?_
      show Steps p.tables e below (s₁.setTop (mkF m 1 #[vI p1, vI p2, vI p3, vI p4, vU, vU, vU, vU, vU, vU, vU, vU, vU, vU, vU, vU, vU] [(.int p1)])) _
      refine XS.i2c X0.here hx rfl (hb hby at_1) rfl ?_
      rw [ec0]
      refine XS.istore X0.here hx rfl (hb hby at_2) rfl (l' := #[vI p1, vI p2, vI p3, vI p4, vI c0, vU, vU, vU, vU, vU, vU, vU, vU, vU, vU, vU, vU]) rfl ?_
      refine XS.iloadN X0.here hx rfl (hb hby at_4) rfl ?_
      refine XS.bipush X0.here hx rfl (hb hby at_5) ?_
      refine XS.iushr X0.here hx rfl (hb hby at_7) rfl ?_
      show Steps p.tables e below (s₁.setTop (mkF m 8 #[vI p1, vI p2, vI p3, vI p4, vI c0, vU, vU, vU, vU, vU, vU, vU, vU, vU, vU, vU, vU] [(.int ((p1.toUInt32 >>> ((16 : Int32) &&& 31).toUInt32).toInt32))])) _
      refine XS.i2c X0.here hx rfl (hb hby at_8) rfl ?_
      rw [ec1]
      refine XS.istore X0.here hx rfl (hb hby at_9) rfl (l' := #[vI p1, vI p2, vI p3, vI p4, vI c0, vI c1, vU, vU, vU, vU, vU, vU, vU, vU, vU, vU, vU]) rfl ?_
      refine XS.iloadN X0.here hx rfl (hb hby at_11) rfl ?_
      show Steps p.tables e below (s₁.setTop (mkF m 12 #[vI p1, vI p2, vI p3, vI p4, vI c0, vI c1, vU, vU, vU, vU, vU, vU, vU, vU, vU, vU, vU] [(.int p2)])) _
      refine XS.i2c X0.here hx rfl (hb hby at_12) rfl ?_
      rw [ec2]
      refine XS.istore X0.here hx rfl (hb hby at_13) rfl (l' := #[vI p1, vI p2, vI p3, vI p4, vI c0, vI c1, vI c2, vU, vU, vU, vU, vU, vU, vU, vU, vU, vU]) rfl ?_
      refine XS.iloadN X0.here hx rfl (hb hby at_15) rfl ?_
      refine XS.bipush X0.here hx rfl (hb hby at_16) ?_
      refine XS.iushr X0.here hx rfl (hb hby at_18) rfl ?_
      refine XS.iconst X0.here hx rfl (hb hby at_19) ?_
      show Steps p.tables e below (s₁.setTop (mkF m 20 #[vI p1, vI p2, vI p3, vI p4, vI c0, vI c1, vI c2, vU, vU, vU, vU, vU, vU, vU, vU, vU, vU] [(.int (3 : Int32)), (.int ((p2.toUInt32 >>> ((16 : Int32) &&& 31).toUInt32).toInt32))])) _
      refine XS.iand X0.here hx rfl (hb hby at_20) rfl ?_
      rw [enq]
      refine XS.istore X0.here hx rfl (hb hby at_21) rfl (l' := #[vI p1, vI p2, vI p3, vI p4, vI c0, vI c1, vI c2, vI nq, vU, vU, vU, vU, vU, vU, vU, vU, vU]) rfl ?_
      refine XS.iloadN X0.here hx rfl (hb hby at_23) rfl ?_
      refine XS.bipush X0.here hx rfl (hb hby at_24) ?_
      refine XS.iushr X0.here hx rfl (hb hby at_26) rfl ?_
      refine XS.iconst X0.here hx rfl (hb hby at_27) ?_
      refine XS.iand X0.here hx rfl (hb hby at_28) rfl ?_
      refine XS.ifNo X0.here hx rfl (hb hby at_29) rfl ((if0 _ _).trans (feq (hz : ¬ ((((p2.toUInt32 >>> ((18 : Int32) &&& 31).toUInt32).toInt32) &&& (1 : Int32)) = (0 : Int32)))).1) ?_
      refine XS.iconst X0.here hx rfl (hb hby at_32) ?_
      refine XS.goto X0.here hx rfl (pc0 := 33) (pc' := 37) rfl (hb hby at_33) (by decide) (by decide) ?_
      refine XS.istore X0.here hx rfl (hb hby at_37) rfl (l' := #[vI p1, vI p2, vI p3, vI p4, vI c0, vI c1, vI c2, vI nq, vI 1, vU, vU, vU, vU, vU, vU, vU, vU]) rfl ?_
      refine XS.iloadN X0.here hx rfl (hb hby at_39) rfl ?_
      show Steps p.tables e below (s₁.setTop (mkF m 40 #[vI p1, vI p2, vI p3, vI p4, vI c0, vI c1, vI c2, vI nq, vI 1, vU, vU, vU, vU, vU, vU, vU, vU] [(.int p3)])) _
      refine XS.i2c X0.here hx rfl (hb hby at_40) rfl ?_
      rw [eu0]
      refine XS.istore X0.here hx rfl (hb hby at_41) rfl (l' := #[vI p1, vI p2, vI p3, vI p4, vI c0, vI c1, vI c2, vI nq, vI 1, vI u0, vU, vU, vU, vU, vU, vU, vU]) rfl ?_
      refine XS.iloadN X0.here hx rfl (hb hby at_43) rfl ?_
      refine XS.bipush X0.here hx rfl (hb hby at_44) ?_
      refine XS.iushr X0.here hx rfl (hb hby at_46) rfl ?_
      show Steps p.tables e below (s₁.setTop (mkF m 47 #[vI p1, vI p2, vI p3, vI p4, vI c0, vI c1, vI c2, vI nq, vI 1, vI u0, vU, vU, vU, vU, vU, vU, vU] [(.int ((p3.toUInt32 >>> ((16 : Int32) &&& 31).toUInt32).toInt32))])) _
      refine XS.i2c X0.here hx rfl (hb hby at_47) rfl ?_
      rw [eu1]
      refine XS.istore X0.here hx rfl (hb hby at_48) rfl (l' := #[vI p1, vI p2, vI p3, vI p4, vI c0, vI c1, vI c2, vI nq, vI 1, vI u0, vI u1, vU, vU, vU, vU, vU, vU]) rfl ?_
      refine XS.iloadN X0.here hx rfl (hb hby at_50) rfl ?_
      refine X0.ldcInt hx hown (mvT hZ (hw _ (gm 0 rfl))) (g := (mkF m 51 #[vI p1, vI p2, vI p3, vI p4, vI c0, vI c1, vI c2, vI nq, vI 1, vI u0, vI u1, vU, vU, vU, vU, vU, vU] [(.int p4)])) rfl (hb hby at_51) _ ?_
      refine XS.iand X0.here hx rfl (hb hby at_53) rfl ?_
      refine XS.iconst X0.here hx rfl (hb hby at_54) ?_
      show Steps p.tables e below (s₁.setTop (mkF m 55 #[vI p1, vI p2, vI p3, vI p4, vI c0, vI c1, vI c2, vI nq, vI 1, vI u0, vI u1, vU, vU, vU, vU, vU, vU] [(.int (3 : Int32)), (.int (p4 &&& (2147483647 : Int32)))])) _
      refine iremM X0 hx rfl (hb hby at_55) rfl (by decide) ?_
      rw [hm]
      refine XS.istore X0.here hx rfl (hb hby at_56) rfl (l' := #[vI p1, vI p2, vI p3, vI p4, vI c0, vI c1, vI c2, vI nq, vI 1, vI u0, vI u1, vI (Int32.ofNat mm), vU, vU, vU, vU, vU]) rfl ?_
      refine XS.iload X0.here hx rfl (hb hby at_58) rfl ?_
      refine XS.ifNo X0.here hx rfl (hb hby at_60) rfl ((if0 _ _).trans (feq (by decide : ¬ ((1 : Int32) = (0 : Int32)))).1) ?_
      refine XS.aconstNull X0.here hx rfl (hb hby at_63) ?_
      refine XS.goto X0.here hx rfl (pc0 := 64) (pc' := 78) rfl (hb hby at_64) (by decide) (by decide) ?_
      refine XS.astore X0.here hx rfl (hb hby at_78) rfl rfl (l' := #[vI p1, vI p2, vI p3, vI p4, vI c0, vI c1, vI c2, vI nq, vI 1, vI u0, vI u1, vI (Int32.ofNat mm), .val .null, vU, vU, vU, vU]) rfl ?_
      refine XS.iload X0.here hx rfl (hb hby at_80) rfl ?_
      refine XS.iload X0.here hx rfl (hb hby at_82) rfl ?_
      refine XS.iload X0.here hx rfl (hb hby at_84) rfl ?_
      refine XS.iload X0.here hx rfl (hb hby at_86) rfl ?_
      exact h)
  obtain ⟨_, _, ⟨T933, L933, kk933, n933⟩, -, X933, hS933, gr933, ⟨Lc933, hQ933, l933, y933, z933, hR933⟩, st933⟩ := callSS X0 hx (y := y_50) hown (mvT hZ (hw _ (gm 1 rfl))) (mvT hZ (hw _ (gm 2 rfl))) (mvT hZ (hw _ (gm 3 rfl))) (mvT hZ (hw _ (gm 4 rfl))) (by decide) (backOfSH (W := 0) (rmT l Z a0 hw [] mm u0 u1 u0 zC h0 n0 O0 SC hzC SAs SHi SLo hu0 hu1 hu0 (by omega)) hZ (hw _ (gm 4 rfl)) (hw _ (gm 3 rfl)) (by decide) (by decide) hEL hC0) (g := (mkF m 88 #[vI p1, vI p2, vI p3, vI p4, vI c0, vI c1, vI c2, vI nq, vI 1, vI u0, vI u1, vI (Int32.ofNat mm), .val .null, vU, vU, vU, vU] [(.int u0), (.int u1), (.int u0), (.int (Int32.ofNat mm))])) rfl (by rw [hml]; rfl) (argsL := [(.int (Int32.ofNat mm)), (.int u0), (.int u1), (.int u0)]) (rest := []) (lenOf pd_0 rfl) rfl (by show 2 * 0 + _ ≤ _; exact Nat.le_of_eq rfl) (hb hby at_88) (fun _ _ => ⟨rfl, e0, (by decide : 0 + 6 ≤ _), (by decide : 0 + 80 ≤ _)⟩)
  dsimp only [Pt.U, Pt.locs, Pt.cells, Pt.slots] at X933 l933 y933 z933 st933 hQ933 hS933 gr933 hR933
  subst l933 y933 z933
  have hZ933 : Z.Warmed39 (s.setVm T933.vm).vm := State.Warmed39.trans (t := (s.setVm s.vm)) hZ hS933.1
  have hown933 : (s.setVm T933.vm).vm.findClass "com/example/nuthatch/nuthatch/EntryNameMemberPinLaw" = some m.cls := by rw [show (s.setVm T933.vm).vm = T933.vm from rfl, hS933.1.alike.findClass]; exact hown
  replace hS933 := foldS hS (by rw [e0]; exact hk) hS933 gr933
  have hk933 := Nat.le_refl T933.heap.size
  replace X933 : Stand p l e room_1 (s.setVm T933.vm) m #[(.int p1), (.int p2), (.int p3), (.int p4)] below meth c T933 _ _ _ := X933
  obtain ⟨su, rfl, Nq933, E933, z933, Ssu⟩ := hQ933
  have N933 := Fr.app N0 Nq933
  have k934 : Rch p e below S0 T933 (mkF m 91 #[vI p1, vI p2, vI p3, vI p4, vI c0, vI c1, vI c2, vI nq, vI 1, vI u0, vI u1, vI (Int32.ofNat mm), .val .null, vU, vU, vU, vU] [(.ref su)]) := fun t h => k932 t (st933.trans h)
  have hC935 := hR933.1
  have rC935 := rC0.trans hR933
  have O936 := O0.ext E933
  have k937 : Rch p e below S0 T933 (mkF m 97 #[vI p1, vI p2, vI p3, vI p4, vI c0, vI c1, vI c2, vI nq, vI 1, vI u0, vI u1, vI (Int32.ofNat mm), .val .null, vR su, vU, vU, vU] [(.ref su), .null]) := fun t h => k934 t (by
      refine XS.astore X933.here hx rfl (hb hby at_91) rfl rfl (l' := #[vI p1, vI p2, vI p3, vI p4, vI c0, vI c1, vI c2, vI nq, vI 1, vI u0, vI u1, vI (Int32.ofNat mm), .val .null, vR su, vU, vU, vU]) rfl ?_
      refine XS.aload X933.here hx rfl (hb hby at_93) rfl rfl ?_
      refine XS.aload X933.here hx rfl (hb hby at_95) rfl rfl ?_
      exact h)
  obtain ⟨_, _, ⟨T938, L938, kk938, n938⟩, -, X938, ⟨Lc938, hQ938, l938, y938, z938⟩, st938⟩ := Jvm.LawKit.callS X933 hx (y := y_49) hown933 (mvT hZ933 (hw _ (gm 38 rfl))) (mvT hZ933 (hw _ (gm 39 rfl))) (mvT hZ933 (hw _ (gm 40 rfl))) (mvT hZ933 (hw _ (gm 41 rfl))) (by decide) (backOf (W := 0) (rmM0 l Z a0 hw [] su ([u0, u1, u0].take mm) fm zC T933.heap n0 O936 SC hzC SAs SHi SLo SP hfm Ssu (by omega)) hZ933 (hw _ (gm 41 rfl)) (hw _ (gm 40 rfl)) (by decide) (by decide)) (g := (mkF m 97 #[vI p1, vI p2, vI p3, vI p4, vI c0, vI c1, vI c2, vI nq, vI 1, vI u0, vI u1, vI (Int32.ofNat mm), .val .null, vR su, vU, vU, vU] [(.ref su), .null])) rfl (by rw [hml]; rfl) (argsL := [.null, (.ref su)]) (rest := []) (lenOf pd_7 rfl) rfl (by show 2 * 0 + _ ≤ _; exact Nat.le_of_eq rfl) (hb hby at_97) (fun _ _ => ⟨rfl, rfl, (by decide : 6 + 5 ≤ _), (by decide : 80 + 104 ≤ _)⟩)
  dsimp only [Pt.U, Pt.locs, Pt.cells, Pt.slots] at X938 l938 y938 z938 st938 hQ938
  subst l938 y938 z938
  obtain ⟨rr, rfl, Nq938, E938, z938, Sr⟩ := hQ938
  have N938 := Fr.app N933 Nq938
  have k939 : Rch p e below S0 T938 (mkF m 100 #[vI p1, vI p2, vI p3, vI p4, vI c0, vI c1, vI c2, vI nq, vI 1, vI u0, vI u1, vI (Int32.ofNat mm), .val .null, vR su, vU, vU, vU] [(.ref rr)]) := fun t h => k937 t (st938 t h)
  have hC940 := hC935.ext E938
  have rC940 := rC935.trans (CHr.ext E938 hC935)
  have O941 := O936.ext E938
  have hkk942 := Nat.le_trans hk933 E938.1
  have Er := Sr.exa
  replace Sr : Stg Z T938.heap rr (own_rs 0 mm c0 c1 c2 u0 u1) := Sr
  have k943 : Rch p e below S0 T938 (mkF m 122 #[vI p1, vI p2, vI p3, vI p4, vI c0, vI c1, vI c2, vI nq, vI 1, vI u0, vI u1, vI (Int32.ofNat mm), .val .null, vR su, vR rr, vI 0, vU] [(.ref rr)]) := fun t h => k939 t (by
      refine XS.astore X938.here hx rfl (hb hby at_100) rfl rfl (l' := #[vI p1, vI p2, vI p3, vI p4, vI c0, vI c1, vI c2, vI nq, vI 1, vI u0, vI u1, vI (Int32.ofNat mm), .val .null, vR su, vR rr, vU, vU]) rfl ?_
      refine XS.iload X938.here hx rfl (hb hby at_102) rfl ?_
      refine XS.ifNo X938.here hx rfl (hb hby at_104) rfl ((if0 _ _).trans (feq (by decide : ¬ ((1 : Int32) = (0 : Int32)))).1) ?_
      refine XS.iconst X938.here hx rfl (hb hby at_107) ?_
      refine XS.goto X938.here hx rfl (pc0 := 108) (pc' := 113) rfl (hb hby at_108) (by decide) (by decide) ?_
      refine XS.istore X938.here hx rfl (hb hby at_113) rfl (l' := #[vI p1, vI p2, vI p3, vI p4, vI c0, vI c1, vI c2, vI nq, vI 1, vI u0, vI u1, vI (Int32.ofNat mm), .val .null, vR su, vR rr, vI 0, vU]) rfl ?_
      refine XS.aload X938.here hx rfl (hb hby at_115) rfl rfl ?_
      refine XS.ifnullNo X938.here hx rfl (hb hby at_117) rfl ?_
      show Steps p.tables e below (T938.setTop (mkF m 120 #[vI p1, vI p2, vI p3, vI p4, vI c0, vI c1, vI c2, vI nq, vI 1, vI u0, vI u1, vI (Int32.ofNat mm), .val .null, vR su, vR rr, vI 0, vU] [])) _
      refine XS.aload X938.here hx rfl (hb hby at_120) rfl rfl ?_
      exact h)
  obtain ⟨cq944, kq944, q944a, q944b, q944c⟩ := isOf hZ933 rfl Er
  obtain ⟨_, _, ⟨T944, L944, kk944, n944⟩, -, X944, ⟨Lc944, hQ944, l944, y944, z944⟩, st944⟩ := X938.virtualBack hx (y := y_11) (z := y_11) hown933 (mvT hZ933 (hw _ (gm 167 rfl))) (mvT hZ933 (hw _ (gm 61 rfl))) (notFace_of_selects (args := #[]) (mvT hZ933 (hw _ (gm 63 rfl)))) (mvT hZ933 (hw _ (gm 63 rfl))) (mvT hZ933 (hw _ (gm 62 rfl))) (by decide) (backOf (W := 0) (rmLEs l Z a0 hw [] rr (own_rs 0 mm c0 c1 c2 u0 u1) zC T938.heap n0 O941 SC hzC Sr (by omega)) hZ933 (hw _ (gm 64 rfl)) (hw _ (gm 7 rfl)) (by decide) (by decide)) q944a q944c (g := (mkF m 122 #[vI p1, vI p2, vI p3, vI p4, vI c0, vI c1, vI c2, vI nq, vI 1, vI u0, vI u1, vI (Int32.ofNat mm), .val .null, vR su, vR rr, vI 0, vU] [(.ref rr)])) rfl (by rw [hml]; rfl) (Steps.refl _) (argsL := []) (rest := []) (lenOf pd_9 rfl) rfl (by show 2 * 0 + _ ≤ _; exact Nat.le_of_eq rfl) (hb hby at_122) (fun _ _ => ⟨rfl, rfl, (by decide : 11 + 0 ≤ _), (by decide : 184 + 0 ≤ _)⟩)
  dsimp only [Pt.U, Pt.locs, Pt.cells, Pt.slots] at X944 l944 y944 z944 st944 hQ944
  subst l944 y944 z944
  obtain ⟨rfl, Nq944, hh944⟩ := hQ944
  have N944 := Fr.app N938 Nq944
  have k945 : Rch p e below S0 T944 (mkF m 125 #[vI p1, vI p2, vI p3, vI p4, vI c0, vI c1, vI c2, vI nq, vI 1, vI u0, vI u1, vI (Int32.ofNat mm), .val .null, vR su, vR rr, vI 0, vU] [(.int (Int32.ofNat (own_rs 0 mm c0 c1 c2 u0 u1).length))]) := fun t h => k943 t (st944.trans h)
  obtain ⟨lo944, Y944, M944⟩ : ∃ lo, Stand p l e room_1 (s.setVm T933.vm) m #[(.int p1), (.int p2), (.int p3), (.int p4)] below meth c T944 lo 11 184 ∧ Fr n0 lo := ⟨_, X944, N944⟩
  clear X944 N944
  have k946 : Rch p e below S0 T944 (mkF m 140 #[vI p1, vI p2, vI p3, vI p4, vI c0, vI c1, vI c2, vI nq, vI 1, vI u0, vI u1, vI (Int32.ofNat mm), .val .null, vR su, vR rr, vI 0, vI 1] []) := fun t h => k945 t (by
      refine XS.iload Y944.here hx rfl (hb hby at_125) rfl ?_
      refine XS.iconst Y944.here hx rfl (hb hby at_127) ?_
      show Steps p.tables e below (T944.setTop (mkF m 128 #[vI p1, vI p2, vI p3, vI p4, vI c0, vI c1, vI c2, vI nq, vI 1, vI u0, vI u1, vI (Int32.ofNat mm), .val .null, vR su, vR rr, vI 0, vU] [(.int (1 : Int32)), (.int (0 : Int32)), (.int (Int32.ofNat (own_rs 0 mm c0 c1 c2 u0 u1).length))])) _
      refine XS.iadd Y944.here hx rfl (hb hby at_128) rfl ?_
      rw [(by decide : ((0 : Int32) + (1 : Int32)) = (1 : Int32))]
      refine XS.iload Y944.here hx rfl (hb hby at_129) rfl ?_
      show Steps p.tables e below (T944.setTop (mkF m 131 #[vI p1, vI p2, vI p3, vI p4, vI c0, vI c1, vI c2, vI nq, vI 1, vI u0, vI u1, vI (Int32.ofNat mm), .val .null, vR su, vR rr, vI 0, vU] [(.int (Int32.ofNat mm)), (.int (1 : Int32)), (.int (Int32.ofNat (own_rs 0 mm c0 c1 c2 u0 u1).length))])) _
      refine XS.iadd Y944.here hx rfl (hb hby at_131) rfl ?_
      rw [(by rw [lr]; exact own_addn (i := 0 + 1) (by omega) : (1 : Int32) + Int32.ofNat mm = (Int32.ofNat (own_rs 0 mm c0 c1 c2 u0 u1).length))]
      refine XS.icmpYes Y944.here hx rfl (pc0 := 132) (pc' := 137) rfl (hb hby at_132) rfl (teq (rfl : (Int32.ofNat (own_rs 0 mm c0 c1 c2 u0 u1).length) = (Int32.ofNat (own_rs 0 mm c0 c1 c2 u0 u1).length))).1 (by decide) (by decide) ?_
      refine XS.iconst Y944.here hx rfl (hb hby at_137) ?_
      refine XS.istore Y944.here hx rfl (hb hby at_138) rfl (l' := #[vI p1, vI p2, vI p3, vI p4, vI c0, vI c1, vI c2, vI nq, vI 1, vI u0, vI u1, vI (Int32.ofNat mm), .val .null, vR su, vR rr, vI 0, vI 1]) rfl ?_
      exact h)
  have k947 : Rch p e below S0 T944 (mkF m 235 #[vI p1, vI p2, vI p3, vI p4, vI c0, vI c1, vI c2, vI nq, vI 1, vI u0, vI u1, vI (Int32.ofNat mm), .val .null, vR su, vR rr, vI 0, vI 1] []) := fun t h => k946 t (by
      refine XS.iload Y944.here hx rfl (hb hby at_140) rfl ?_
      refine XS.ifYes Y944.here hx rfl (pc0 := 142) (pc' := 171) rfl (hb hby at_142) rfl ((if0 _ _).trans (flt (by decide : ¬ ((0 : Int32) < (0 : Int32)))).2.2.2) (by decide) (by decide) ?_
      refine XS.iload Y944.here hx rfl (hb hby at_171) rfl ?_
      refine XS.iconst Y944.here hx rfl (hb hby at_173) ?_
      refine XS.icmpYes Y944.here hx rfl (pc0 := 174) (pc' := 203) rfl (hb hby at_174) rfl (flt (by decide : ¬ ((1 : Int32) < (0 : Int32)))).2.2.2 (by decide) (by decide) ?_
      refine XS.iload Y944.here hx rfl (hb hby at_203) rfl ?_
      refine XS.iconst Y944.here hx rfl (hb hby at_205) ?_
      refine XS.icmpYes Y944.here hx rfl (pc0 := 206) (pc' := 235) rfl (hb hby at_206) rfl (flt (by decide : ¬ ((2 : Int32) < (0 : Int32)))).2.2.2 (by decide) (by decide) ?_
      exact h)
  have k948 : Rch p e below S0 T944 (mkF m 244 #[vI p1, vI p2, vI p3, vI p4, vI c0, vI c1, vI c2, vI nq, vI 1, vI u0, vI u1, vI (Int32.ofNat mm), .val .null, vR su, vR rr, vI 0, vI 1] [(.int (0 : Int32)), (.ref rr)]) := fun t h => k947 t (by
      refine XS.iload Y944.here hx rfl (hb hby at_235) rfl ?_
      refine XS.ifNo Y944.here hx rfl (hb hby at_237) rfl ((if0 _ _).trans (feq (by decide : ¬ ((1 : Int32) = (0 : Int32)))).1) ?_
      refine XS.aload Y944.here hx rfl (hb hby at_240) rfl rfl ?_
      refine XS.iload Y944.here hx rfl (hb hby at_242) rfl ?_
      exact h)
  obtain ⟨cq949, kq949, q949a, q949b, q949c⟩ := isOf hZ933 hh944 Er
  obtain ⟨_, _, ⟨T949, L949, kk949, n949⟩, -, X949, ⟨Lc949, hQ949, l949, y949, z949⟩, st949⟩ := Y944.virtualBack hx (y := y_38) (z := y_38) hown933 (mvT hZ933 (hw _ (gm 168 rfl))) (mvT hZ933 (hw _ (gm 169 rfl))) (notFace_of_selects (args := #[]) (mvT hZ933 (hw _ (gm 171 rfl)))) (mvT hZ933 (hw _ (gm 171 rfl))) (mvT hZ933 (hw _ (gm 170 rfl))) (by decide) (backOf (W := 0) (rmCAs l Z a0 hw [] rr 0 (own_rs 0 mm c0 c1 c2 u0 u1) fm zC T938.heap n0 O941 SC hzC SAs SHi SLo SP hfm Sr (by omega) (by omega)) hZ933 (hw _ (gm 172 rfl)) (hw _ (gm 7 rfl)) (by decide) (by decide)) q949a q949c (g := (mkF m 244 #[vI p1, vI p2, vI p3, vI p4, vI c0, vI c1, vI c2, vI nq, vI 1, vI u0, vI u1, vI (Int32.ofNat mm), .val .null, vR su, vR rr, vI 0, vI 1] [(.int (0 : Int32)), (.ref rr)])) rfl (by rw [hml]; rfl) (Steps.refl _) (argsL := [(.int (0 : Int32))]) (rest := []) (lenOf pd_28 rfl) rfl (by show 2 * 0 + _ ≤ _; exact Nat.le_of_eq rfl) (hb hby at_244) (fun _ _ => ⟨rfl, hh944, (by decide : 11 + 0 ≤ _), (by decide : 184 + 0 ≤ _)⟩)
  dsimp only [Pt.U, Pt.locs, Pt.cells, Pt.slots] at X949 l949 y949 z949 st949 hQ949
  subst l949 y949 z949
  obtain ⟨rfl, Nq949, hh949⟩ := hQ949
  have N949 := Fr.app M944 Nq949
  have k950 : Rch p e below S0 T949 (mkF m 247 #[vI p1, vI p2, vI p3, vI p4, vI c0, vI c1, vI c2, vI nq, vI 1, vI u0, vI u1, vI (Int32.ofNat mm), .val .null, vR su, vR rr, vI 0, vI 1] [(.int (45 : Int32))]) := fun t h => k948 t (st949.trans (by rw [g3]; exact h))
  obtain ⟨lo949, Y949, M949⟩ : ∃ lo, Stand p l e room_1 (s.setVm T933.vm) m #[(.int p1), (.int p2), (.int p3), (.int p4)] below meth c T949 lo 11 184 ∧ Fr n0 lo := ⟨_, X949, N949⟩
  clear X949 N949
  have k951 : Rch p e below S0 T949 (mkF m 259 #[vI p1, vI p2, vI p3, vI p4, vI c0, vI c1, vI c2, vI nq, vI 1, vI u0, vI u1, vI (Int32.ofNat mm), .val .null, vR su, vR rr, vI 0, vI 1] []) := fun t h => k950 t (by
      refine XS.bipush Y949.here hx rfl (hb hby at_247) ?_
      refine XS.icmpNo Y949.here hx rfl (hb hby at_249) rfl (teq (by decide : (45 : Int32) = (45 : Int32))).2 ?_
      refine XS.iconst Y949.here hx rfl (hb hby at_252) ?_
      refine XS.goto Y949.here hx rfl (pc0 := 253) (pc' := 257) rfl (hb hby at_253) (by decide) (by decide) ?_
      refine XS.istore Y949.here hx rfl (hb hby at_257) rfl (l' := #[vI p1, vI p2, vI p3, vI p4, vI c0, vI c1, vI c2, vI nq, vI 1, vI u0, vI u1, vI (Int32.ofNat mm), .val .null, vR su, vR rr, vI 0, vI 1]) rfl ?_
      exact h)
  obtain ⟨T957, L957, X957, N957, e957, k957⟩ : ∃ (T' : State) (L' : List Loc), LikeL Y949 T' L' ∧ Fr n0 L' ∧ T'.heap = T938.heap ∧ Rch p e below S0 T' (mkF m 290 #[vI p1, vI p2, vI p3, vI p4, vI c0, vI c1, vI c2, vI nq, vI 1, vI u0, vI u1, vI (Int32.ofNat mm), .val .null, vR su, vR rr, vI 0, vI 1] []) := by
    by_cases hbn : 0 < mm
    · have k952 : Rch p e below S0 T949 (mkF m 275 #[vI p1, vI p2, vI p3, vI p4, vI c0, vI c1, vI c2, vI nq, vI 1, vI u0, vI u1, vI (Int32.ofNat mm), .val .null, vR su, vR rr, vI 0, vI 1] [(.int (1 : Int32)), (.ref rr)]) := fun t h => k951 t (by
          refine XS.iload Y949.here hx rfl (hb hby at_259) rfl ?_
          refine XS.ifNo Y949.here hx rfl (hb hby at_261) rfl ((if0 _ _).trans (tlt ((by rw [Int32.lt_iff_toInt_lt, show (0 : Int32).toInt = 0 from by decide, (own_tn (by omega)).2]; omega) : (0 : Int32) < (Int32.ofNat mm))).2.2.2) ?_
          refine XS.iload Y949.here hx rfl (hb hby at_264) rfl ?_
          refine XS.ifNo Y949.here hx rfl (hb hby at_266) rfl ((if0 _ _).trans (feq (by decide : ¬ ((1 : Int32) = (0 : Int32)))).1) ?_
          refine XS.aload Y949.here hx rfl (hb hby at_269) rfl rfl ?_
          refine XS.iload Y949.here hx rfl (hb hby at_271) rfl ?_
          refine XS.iconst Y949.here hx rfl (hb hby at_273) ?_
          show Steps p.tables e below (T949.setTop (mkF m 274 #[vI p1, vI p2, vI p3, vI p4, vI c0, vI c1, vI c2, vI nq, vI 1, vI u0, vI u1, vI (Int32.ofNat mm), .val .null, vR su, vR rr, vI 0, vI 1] [(.int (1 : Int32)), (.int (0 : Int32)), (.ref rr)])) _
          refine XS.iadd Y949.here hx rfl (hb hby at_274) rfl ?_
          rw [(by decide : ((0 : Int32) + (1 : Int32)) = (1 : Int32))]
          exact h)
      obtain ⟨cq953, kq953, q953a, q953b, q953c⟩ := isOf hZ933 hh949 Er
      obtain ⟨_, _, ⟨T953, L953, kk953, n953⟩, -, X953, ⟨Lc953, hQ953, l953, y953, z953⟩, st953⟩ := Y949.virtualBack hx (y := y_38) (z := y_38) hown933 (mvT hZ933 (hw _ (gm 168 rfl))) (mvT hZ933 (hw _ (gm 169 rfl))) (notFace_of_selects (args := #[]) (mvT hZ933 (hw _ (gm 171 rfl)))) (mvT hZ933 (hw _ (gm 171 rfl))) (mvT hZ933 (hw _ (gm 170 rfl))) (by decide) (backOf (W := 0) (rmCAs l Z a0 hw [] rr 1 (own_rs 0 mm c0 c1 c2 u0 u1) fm zC T938.heap n0 O941 SC hzC SAs SHi SLo SP hfm Sr (by omega) (by omega)) hZ933 (hw _ (gm 172 rfl)) (hw _ (gm 7 rfl)) (by decide) (by decide)) q953a q953c (g := (mkF m 275 #[vI p1, vI p2, vI p3, vI p4, vI c0, vI c1, vI c2, vI nq, vI 1, vI u0, vI u1, vI (Int32.ofNat mm), .val .null, vR su, vR rr, vI 0, vI 1] [(.int (1 : Int32)), (.ref rr)])) rfl (by rw [hml]; rfl) (Steps.refl _) (argsL := [(.int (1 : Int32))]) (rest := []) (lenOf pd_28 rfl) rfl (by show 2 * 0 + _ ≤ _; exact Nat.le_of_eq rfl) (hb hby at_275) (fun _ _ => ⟨rfl, hh949, (by decide : 11 + 0 ≤ _), (by decide : 184 + 0 ≤ _)⟩)
      dsimp only [Pt.U, Pt.locs, Pt.cells, Pt.slots] at X953 l953 y953 z953 st953 hQ953
      subst l953 y953 z953
      obtain ⟨rfl, Nq953, hh953⟩ := hQ953
      have N953 := Fr.app M949 Nq953
      have k954 : Rch p e below S0 T953 (mkF m 278 #[vI p1, vI p2, vI p3, vI p4, vI c0, vI c1, vI c2, vI nq, vI 1, vI u0, vI u1, vI (Int32.ofNat mm), .val .null, vR su, vR rr, vI 0, vI 1] [(.int u0)]) := fun t h => k952 t (st953.trans (by rw [g4 hbn]; exact h))
      obtain ⟨lo953, Y953, M953⟩ : ∃ lo, Stand p l e room_1 (s.setVm T933.vm) m #[(.int p1), (.int p2), (.int p3), (.int p4)] below meth c T953 lo 11 184 ∧ Fr n0 lo := ⟨_, X953, N953⟩
      clear X953 N953
      have k955 : Rch p e below S0 T953 (mkF m 290 #[vI p1, vI p2, vI p3, vI p4, vI c0, vI c1, vI c2, vI nq, vI 1, vI u0, vI u1, vI (Int32.ofNat mm), .val .null, vR su, vR rr, vI 0, vI 1] []) := fun t h => k954 t (by
          refine XS.iload Y953.here hx rfl (hb hby at_278) rfl ?_
          refine XS.icmpNo Y953.here hx rfl (hb hby at_280) rfl (teq (rfl : u0 = u0)).2 ?_
          refine XS.iconst Y953.here hx rfl (hb hby at_283) ?_
          refine XS.goto Y953.here hx rfl (pc0 := 284) (pc' := 288) rfl (hb hby at_284) (by decide) (by decide) ?_
          refine XS.istore Y953.here hx rfl (hb hby at_288) rfl (l' := #[vI p1, vI p2, vI p3, vI p4, vI c0, vI c1, vI c2, vI nq, vI 1, vI u0, vI u1, vI (Int32.ofNat mm), .val .null, vR su, vR rr, vI 0, vI 1]) rfl ?_
          exact h)
      exact ⟨_, _, Y953, M953, hh953, k955⟩
    · have k956 : Rch p e below S0 T949 (mkF m 290 #[vI p1, vI p2, vI p3, vI p4, vI c0, vI c1, vI c2, vI nq, vI 1, vI u0, vI u1, vI (Int32.ofNat mm), .val .null, vR su, vR rr, vI 0, vI 1] []) := fun t h => k951 t (by
          refine XS.iload Y949.here hx rfl (hb hby at_259) rfl ?_
          refine XS.ifYes Y949.here hx rfl (pc0 := 261) (pc' := 290) rfl (hb hby at_261) rfl ((if0 _ _).trans (flt ((by rw [Int32.lt_iff_toInt_lt, show (0 : Int32).toInt = 0 from by decide, (own_tn (by omega)).2]; omega) : ¬ ((0 : Int32) < (Int32.ofNat mm)))).2.2.2) (by decide) (by decide) ?_
          exact h)
      exact ⟨_, _, Y949, M949, hh949, k956⟩
  replace X957 := X957.out
  obtain ⟨T963, L963, X963, N963, e963, k963⟩ : ∃ (T' : State) (L' : List Loc), LikeL X957 T' L' ∧ Fr n0 L' ∧ T'.heap = T938.heap ∧ Rch p e below S0 T' (mkF m 322 #[vI p1, vI p2, vI p3, vI p4, vI c0, vI c1, vI c2, vI nq, vI 1, vI u0, vI u1, vI (Int32.ofNat mm), .val .null, vR su, vR rr, vI 0, vI 1] []) := by
    by_cases hbn : 1 < mm
    · have k958 : Rch p e below S0 T957 (mkF m 307 #[vI p1, vI p2, vI p3, vI p4, vI c0, vI c1, vI c2, vI nq, vI 1, vI u0, vI u1, vI (Int32.ofNat mm), .val .null, vR su, vR rr, vI 0, vI 1] [(.int (2 : Int32)), (.ref rr)]) := fun t h => k957 t (by
          refine XS.iload X957.here hx rfl (hb hby at_290) rfl ?_
          refine XS.iconst X957.here hx rfl (hb hby at_292) ?_
          refine XS.icmpNo X957.here hx rfl (hb hby at_293) rfl (tlt ((by rw [Int32.lt_iff_toInt_lt, show (1 : Int32).toInt = 1 from by decide, (own_tn (by omega)).2]; omega) : (1 : Int32) < (Int32.ofNat mm))).2.2.2 ?_
          refine XS.iload X957.here hx rfl (hb hby at_296) rfl ?_
          refine XS.ifNo X957.here hx rfl (hb hby at_298) rfl ((if0 _ _).trans (feq (by decide : ¬ ((1 : Int32) = (0 : Int32)))).1) ?_
          refine XS.aload X957.here hx rfl (hb hby at_301) rfl rfl ?_
          refine XS.iload X957.here hx rfl (hb hby at_303) rfl ?_
          refine XS.iconst X957.here hx rfl (hb hby at_305) ?_
          show Steps p.tables e below (T957.setTop (mkF m 306 #[vI p1, vI p2, vI p3, vI p4, vI c0, vI c1, vI c2, vI nq, vI 1, vI u0, vI u1, vI (Int32.ofNat mm), .val .null, vR su, vR rr, vI 0, vI 1] [(.int (2 : Int32)), (.int (0 : Int32)), (.ref rr)])) _
          refine XS.iadd X957.here hx rfl (hb hby at_306) rfl ?_
          rw [(by decide : ((0 : Int32) + (2 : Int32)) = (2 : Int32))]
          exact h)
      obtain ⟨cq959, kq959, q959a, q959b, q959c⟩ := isOf hZ933 e957 Er
      obtain ⟨_, _, ⟨T959, L959, kk959, n959⟩, -, X959, ⟨Lc959, hQ959, l959, y959, z959⟩, st959⟩ := X957.virtualBack hx (y := y_38) (z := y_38) hown933 (mvT hZ933 (hw _ (gm 168 rfl))) (mvT hZ933 (hw _ (gm 169 rfl))) (notFace_of_selects (args := #[]) (mvT hZ933 (hw _ (gm 171 rfl)))) (mvT hZ933 (hw _ (gm 171 rfl))) (mvT hZ933 (hw _ (gm 170 rfl))) (by decide) (backOf (W := 0) (rmCAs l Z a0 hw [] rr 2 (own_rs 0 mm c0 c1 c2 u0 u1) fm zC T938.heap n0 O941 SC hzC SAs SHi SLo SP hfm Sr (by omega) (by omega)) hZ933 (hw _ (gm 172 rfl)) (hw _ (gm 7 rfl)) (by decide) (by decide)) q959a q959c (g := (mkF m 307 #[vI p1, vI p2, vI p3, vI p4, vI c0, vI c1, vI c2, vI nq, vI 1, vI u0, vI u1, vI (Int32.ofNat mm), .val .null, vR su, vR rr, vI 0, vI 1] [(.int (2 : Int32)), (.ref rr)])) rfl (by rw [hml]; rfl) (Steps.refl _) (argsL := [(.int (2 : Int32))]) (rest := []) (lenOf pd_28 rfl) rfl (by show 2 * 0 + _ ≤ _; exact Nat.le_of_eq rfl) (hb hby at_307) (fun _ _ => ⟨rfl, e957, (by decide : 11 + 0 ≤ _), (by decide : 184 + 0 ≤ _)⟩)
      dsimp only [Pt.U, Pt.locs, Pt.cells, Pt.slots] at X959 l959 y959 z959 st959 hQ959
      subst l959 y959 z959
      obtain ⟨rfl, Nq959, hh959⟩ := hQ959
      have N959 := Fr.app N957 Nq959
      have k960 : Rch p e below S0 T959 (mkF m 310 #[vI p1, vI p2, vI p3, vI p4, vI c0, vI c1, vI c2, vI nq, vI 1, vI u0, vI u1, vI (Int32.ofNat mm), .val .null, vR su, vR rr, vI 0, vI 1] [(.int u1)]) := fun t h => k958 t (st959.trans (by rw [g5 hbn]; exact h))
      obtain ⟨lo959, Y959, M959⟩ : ∃ lo, Stand p l e room_1 (s.setVm T933.vm) m #[(.int p1), (.int p2), (.int p3), (.int p4)] below meth c T959 lo 11 184 ∧ Fr n0 lo := ⟨_, X959, N959⟩
      clear X959 N959
      have k961 : Rch p e below S0 T959 (mkF m 322 #[vI p1, vI p2, vI p3, vI p4, vI c0, vI c1, vI c2, vI nq, vI 1, vI u0, vI u1, vI (Int32.ofNat mm), .val .null, vR su, vR rr, vI 0, vI 1] []) := fun t h => k960 t (by
          refine XS.iload Y959.here hx rfl (hb hby at_310) rfl ?_
          refine XS.icmpNo Y959.here hx rfl (hb hby at_312) rfl (teq (rfl : u1 = u1)).2 ?_
          refine XS.iconst Y959.here hx rfl (hb hby at_315) ?_
          refine XS.goto Y959.here hx rfl (pc0 := 316) (pc' := 320) rfl (hb hby at_316) (by decide) (by decide) ?_
          refine XS.istore Y959.here hx rfl (hb hby at_320) rfl (l' := #[vI p1, vI p2, vI p3, vI p4, vI c0, vI c1, vI c2, vI nq, vI 1, vI u0, vI u1, vI (Int32.ofNat mm), .val .null, vR su, vR rr, vI 0, vI 1]) rfl ?_
          exact h)
      exact ⟨_, _, Y959, M959, hh959, k961⟩
    · have k962 : Rch p e below S0 T957 (mkF m 322 #[vI p1, vI p2, vI p3, vI p4, vI c0, vI c1, vI c2, vI nq, vI 1, vI u0, vI u1, vI (Int32.ofNat mm), .val .null, vR su, vR rr, vI 0, vI 1] []) := fun t h => k957 t (by
          refine XS.iload X957.here hx rfl (hb hby at_290) rfl ?_
          refine XS.iconst X957.here hx rfl (hb hby at_292) ?_
          refine XS.icmpYes X957.here hx rfl (pc0 := 293) (pc' := 322) rfl (hb hby at_293) rfl (flt ((by rw [Int32.lt_iff_toInt_lt, show (1 : Int32).toInt = 1 from by decide, (own_tn (by omega)).2]; omega) : ¬ ((1 : Int32) < (Int32.ofNat mm)))).2.2.2 (by decide) (by decide) ?_
          exact h)
      exact ⟨_, _, X957, N957, e957, k962⟩
  replace X963 := X963.out
  clear lr lh lu g0 g1 g2 g3 g4 g5
  have k964 : Rch p e below S0 T963 (mkF m 324 #[vI p1, vI p2, vI p3, vI p4, vI c0, vI c1, vI c2, vI nq, vI 1, vI u0, vI u1, vI (Int32.ofNat mm), .val .null, vR su, vR rr, vI 0, vI 1] [(.int (1 : Int32))]) := fun t h => k963 t (by
      refine XS.iload X963.here hx rfl (hb hby at_322) rfl ?_
      exact h)
  obtain ⟨fs, hr, hrun, hended, hfin⟩ := X963.leaveW hS933 (by rw [e963]; exact hkk942) (v := (some (.int (1 : Int32)))) (fun h => by rw [Bd.returns] at h; cases h)
  refine ⟨_, _, ?_, hrun, hended, _, _, rfl, ?_, (by rw [hh]; have q := own_chr rC940 (CHv.at X963 hZ933 hEL hC940) e963; exact q), hfin.1, hfin.2.1, hfin.2.2.1, hfin.2.2.2.mono (by decide) (by decide)⟩
  · rw [← hS0]
    refine k964 _ ?_
    show Steps p.tables e below (T963.setTop (mkF m 324 #[vI p1, vI p2, vI p3, vI p4, vI c0, vI c1, vI c2, vI nq, vI 1, vI u0, vI u1, vI (Int32.ofNat mm), .val .null, vR su, vR rr, vI 0, vI 1] [(.int (1 : Int32))])) _
    exact retN X963 hx (t := .boolean) Bd.returns (by simp) (hb hby at_324) hr
  · show Q_rm0_z Z  h0 n0 _ T963.heap _
    rw [e963]
    exact ⟨rfl, N963⟩
def Q_rm0_n (Z : State)  (h0 : Heap) (n0 : Nat) (v : Option Value) (h : Heap) (L : List Loc) : Prop := v = some (.int (1 : Int32)) ∧ Fr n0 L
theorem pd_40 : parseMethodDescriptor "(C)C" = some ⟨[.char], some .char⟩ := by decide +kernel
theorem rm0_n (l : Launch) (Z : State) (a0 : Array Value) (hw : HW Z a0) (ws : List Jvm.Cond) (p1 : Int32) (p2 : Int32) (p3 : Int32) (p4 : Int32) (zC : Int32) (fm : Value) (n : Nat) (mm : Nat) (h0 : Heap) (n0 : Nat) (O0 : Old Z n0 h0) (SC : Sta Z Z.heap "java/lang/String" "COMPACT_STRINGS" "Z" (.int zC)) (hzC : ¬ zC = 0) (SAs : Sta Z Z.heap "java/lang/StringUTF16" "$assertionsDisabled" "Z" (.int (1 : Int32))) (SHi : Sta Z Z.heap "java/lang/StringUTF16" "HI_BYTE_SHIFT" "I" (.int (0 : Int32))) (SLo : Sta Z Z.heap "java/lang/StringUTF16" "LO_BYTE_SHIFT" "I" (.int (8 : Int32))) (SP : Sta Z Z.heap "jdk/internal/util/Preconditions" "SIOOBE_FORMATTER" "Ljava/util/function/BiFunction;" fm) (hfm : fm = .null ∨ ∃ wP, fm = .ref wP) (hz : (((p2.toUInt32 >>> ((18 : Int32) &&& 31).toUInt32).toInt32) &&& (1 : Int32)) = 0) (hnn : (((p2.toUInt32 >>> ((16 : Int32) &&& 31).toUInt32).toInt32) &&& (3 : Int32)) = (Int32.ofNat n)) (hn4 : n < 4) (hm : ((p4 &&& (2147483647 : Int32)) % (3 : Int32)) = (Int32.ofNat mm)) (hm3 : mm < 3) :
    MFC l Z x code maxLocals ret ws room_1 #[(.int p1), (.int p2), (.int p3), (.int p4)] h0 (Q_rm0_n Z  h0 n0) := by
  refine MetFree.of_bodySF (plainFor_of_name pn_EntryNameMemberPinLaw) hisR ?_
  intro p e s m args below meth c s₁ Bd hml0 hP hK
  obtain ⟨rfl, hZ, hh, hC0⟩ := hP
  have hx := Bd.exec
  have hby := Bd.bytes
  have hml : c.maxLocals = 17 := hml0
  have hown : s.vm.findClass "com/example/nuthatch/nuthatch/EntryNameMemberPinLaw" = some m.cls := findClass_of_methodNamed Bd.named
  have hnm := (name_of_methodNamed Bd.named Bd.method).1
  have X0 : Stand p l e room_1 (s.setVm s.vm) m #[(.int p1), (.int p2), (.int p3), (.int p4)] below meth c s₁ [] 0 0 := Stand.of_body Bd
  have e0 : s₁.heap = h0 := by rw [← hh, Bd.state]; rfl
  have N0 := Fr.nil n0
  obtain ⟨S0, hS0⟩ : ∃ z, z = s₁.setTop (entryFrame m #[(.int p1), (.int p2), (.int p3), (.int p4)] maxLocals) := ⟨_, rfl⟩
  have k0 : Rch p e below S0 s₁ (mkF m 0 #[vI p1, vI p2, vI p3, vI p4, vU, vU, vU, vU, vU, vU, vU, vU, vU, vU, vU, vU, vU] []) := fun t kq => hS0 ▸ castTop (ef_0 m p1 p2 p3 p4) kq
  have hS : s.Since s.vm s.heap.size := (State.WarmedH.refl s).since _
  have hk : s.heap.size ≤ h0.size := by rw [← hh]; exact Nat.le_refl _
  have hwS : ∀ d ∈ Bundle.stringAtoms, d.before a0 Z = true := fun d hd => hw d ((by decide +kernel : ∀ d ∈ Bundle.stringAtoms, d ∈ tables_1) d hd)
  have rC0 : CHr Z consts_1 s.vm h0 s.vm h0 := CHr.refl hC0
  have hEL : EW Z a0 consts_1 := (EW.cons (hw _ (gm 19 rfl)) (by decide +kernel) EW.nil)
  obtain ⟨c0, ec0⟩ : ∃ z : Int32, (p1.toUInt32.toUInt16.toUInt32.toInt32) = z := ⟨_, rfl⟩
  have hc0 : ¬ c0 < 0 ∧ ¬ (65535 : Int32) < c0 := ec0 ▸ own_c16 _
  obtain ⟨c1, ec1⟩ : ∃ z : Int32, (((p1.toUInt32 >>> ((16 : Int32) &&& 31).toUInt32).toInt32).toUInt32.toUInt16.toUInt32.toInt32) = z := ⟨_, rfl⟩
  have hc1 : ¬ c1 < 0 ∧ ¬ (65535 : Int32) < c1 := ec1 ▸ own_c16 _
  obtain ⟨c2, ec2⟩ : ∃ z : Int32, (p2.toUInt32.toUInt16.toUInt32.toInt32) = z := ⟨_, rfl⟩
  have hc2 : ¬ c2 < 0 ∧ ¬ (65535 : Int32) < c2 := ec2 ▸ own_c16 _
  obtain ⟨u0, eu0⟩ : ∃ z : Int32, (p3.toUInt32.toUInt16.toUInt32.toInt32) = z := ⟨_, rfl⟩
  have hu0 : ¬ u0 < 0 ∧ ¬ (65535 : Int32) < u0 := eu0 ▸ own_c16 _
  obtain ⟨u1, eu1⟩ : ∃ z : Int32, (((p3.toUInt32 >>> ((16 : Int32) &&& 31).toUInt32).toInt32).toUInt32.toUInt16.toUInt32.toInt32) = z := ⟨_, rfl⟩
  have hu1 : ¬ u1 < 0 ∧ ¬ (65535 : Int32) < u1 := eu1 ▸ own_c16 _
  obtain ⟨lr, lh, lu⟩ := own_rsl n mm c0 c1 c2 u0 u1 hn4 hm3
  obtain ⟨g0, g1, g2, g3, g4, g5⟩ := own_rsg n mm c0 c1 c2 u0 u1 hn4 hm3
  have k965 : Rch p e below S0 s₁ (mkF m 75 #[vI p1, vI p2, vI p3, vI p4, vI c0, vI c1, vI c2, vI (Int32.ofNat n), vI 0, vI u0, vI u1, vI (Int32.ofNat mm), vU, vU, vU, vU, vU] [(.int c2), (.int c1), (.int c0), (.int (Int32.ofNat n))]) := fun t h => k0 t (by
      refine XS.iloadN X0.here hx rfl (hb hby at_0) rfl ?_
      show Steps p.tables e below (s₁.setTop (mkF m 1 #[vI p1, vI p2, vI p3, vI p4, vU, vU, vU, vU, vU, vU, vU, vU, vU, vU, vU, vU, vU] [(.int p1)])) _
      refine XS.i2c X0.here hx rfl (hb hby at_1) rfl ?_
      rw [ec0]
      refine XS.istore X0.here hx rfl (hb hby at_2) rfl (l' := #[vI p1, vI p2, vI p3, vI p4, vI c0, vU, vU, vU, vU, vU, vU, vU, vU, vU, vU, vU, vU]) rfl ?_
      refine XS.iloadN X0.here hx rfl (hb hby at_4) rfl ?_
      refine XS.bipush X0.here hx rfl (hb hby at_5) ?_
      refine XS.iushr X0.here hx rfl (hb hby at_7) rfl ?_
      show Steps p.tables e below (s₁.setTop (mkF m 8 #[vI p1, vI p2, vI p3, vI p4, vI c0, vU, vU, vU, vU, vU, vU, vU, vU, vU, vU, vU, vU] [(.int ((p1.toUInt32 >>> ((16 : Int32) &&& 31).toUInt32).toInt32))])) _
      refine XS.i2c X0.here hx rfl (hb hby at_8) rfl ?_
      rw [ec1]
      refine XS.istore X0.here hx rfl (hb hby at_9) rfl (l' := #[vI p1, vI p2, vI p3, vI p4, vI c0, vI c1, vU, vU, vU, vU, vU, vU, vU, vU, vU, vU, vU]) rfl ?_
      refine XS.iloadN X0.here hx rfl (hb hby at_11) rfl ?_
      show Steps p.tables e below (s₁.setTop (mkF m 12 #[vI p1, vI p2, vI p3, vI p4, vI c0, vI c1, vU, vU, vU, vU, vU, vU, vU, vU, vU, vU, vU] [(.int p2)])) _
      refine XS.i2c X0.here hx rfl (hb hby at_12) rfl ?_
      rw [ec2]
      refine XS.istore X0.here hx rfl (hb hby at_13) rfl (l' := #[vI p1, vI p2, vI p3, vI p4, vI c0, vI c1, vI c2, vU, vU, vU, vU, vU, vU, vU, vU, vU, vU]) rfl ?_
      refine XS.iloadN X0.here hx rfl (hb hby at_15) rfl ?_
      refine XS.bipush X0.here hx rfl (hb hby at_16) ?_
      refine XS.iushr X0.here hx rfl (hb hby at_18) rfl ?_
      refine XS.iconst X0.here hx rfl (hb hby at_19) ?_
      show Steps p.tables e below (s₁.setTop (mkF m 20 #[vI p1, vI p2, vI p3, vI p4, vI c0, vI c1, vI c2, vU, vU, vU, vU, vU, vU, vU, vU, vU, vU] [(.int (3 : Int32)), (.int ((p2.toUInt32 >>> ((16 : Int32) &&& 31).toUInt32).toInt32))])) _
      refine XS.iand X0.here hx rfl (hb hby at_20) rfl ?_
      rw [hnn]
      refine XS.istore X0.here hx rfl (hb hby at_21) rfl (l' := #[vI p1, vI p2, vI p3, vI p4, vI c0, vI c1, vI c2, vI (Int32.ofNat n), vU, vU, vU, vU, vU, vU, vU, vU, vU]) rfl ?_
      refine XS.iloadN X0.here hx rfl (hb hby at_23) rfl ?_
      refine XS.bipush X0.here hx rfl (hb hby at_24) ?_
      refine XS.iushr X0.here hx rfl (hb hby at_26) rfl ?_
      refine XS.iconst X0.here hx rfl (hb hby at_27) ?_
      show Steps p.tables e below (s₁.setTop (mkF m 28 #[vI p1, vI p2, vI p3, vI p4, vI c0, vI c1, vI c2, vI (Int32.ofNat n), vU, vU, vU, vU, vU, vU, vU, vU, vU] [(.int (1 : Int32)), (.int ((p2.toUInt32 >>> ((18 : Int32) &&& 31).toUInt32).toInt32))])) _
      refine XS.iand X0.here hx rfl (hb hby at_28) rfl ?_
      rw [hz]
      refine XS.ifYes X0.here hx rfl (pc0 := 29) (pc' := 36) rfl (hb hby at_29) rfl ((if0 _ _).trans (teq (by decide : (0 : Int32) = (0 : Int32))).1) (by decide) (by decide) ?_
      refine XS.iconst X0.here hx rfl (hb hby at_36) ?_
      refine XS.istore X0.here hx rfl (hb hby at_37) rfl (l' := #[vI p1, vI p2, vI p3, vI p4, vI c0, vI c1, vI c2, vI (Int32.ofNat n), vI 0, vU, vU, vU, vU, vU, vU, vU, vU]) rfl ?_
      refine XS.iloadN X0.here hx rfl (hb hby at_39) rfl ?_
      show Steps p.tables e below (s₁.setTop (mkF m 40 #[vI p1, vI p2, vI p3, vI p4, vI c0, vI c1, vI c2, vI (Int32.ofNat n), vI 0, vU, vU, vU, vU, vU, vU, vU, vU] [(.int p3)])) _
      refine XS.i2c X0.here hx rfl (hb hby at_40) rfl ?_
      rw [eu0]
      refine XS.istore X0.here hx rfl (hb hby at_41) rfl (l' := #[vI p1, vI p2, vI p3, vI p4, vI c0, vI c1, vI c2, vI (Int32.ofNat n), vI 0, vI u0, vU, vU, vU, vU, vU, vU, vU]) rfl ?_
      refine XS.iloadN X0.here hx rfl (hb hby at_43) rfl ?_
      refine XS.bipush X0.here hx rfl (hb hby at_44) ?_
      refine XS.iushr X0.here hx rfl (hb hby at_46) rfl ?_
      show Steps p.tables e below (s₁.setTop (mkF m 47 #[vI p1, vI p2, vI p3, vI p4, vI c0, vI c1, vI c2, vI (Int32.ofNat n), vI 0, vI u0, vU, vU, vU, vU, vU, vU, vU] [(.int ((p3.toUInt32 >>> ((16 : Int32) &&& 31).toUInt32).toInt32))])) _
      refine XS.i2c X0.here hx rfl (hb hby at_47) rfl ?_
      rw [eu1]
      refine XS.istore X0.here hx rfl (hb hby at_48) rfl (l' := #[vI p1, vI p2, vI p3, vI p4, vI c0, vI c1, vI c2, vI (Int32.ofNat n), vI 0, vI u0, vI u1, vU, vU, vU, vU, vU, vU]) rfl ?_
      refine XS.iloadN X0.here hx rfl (hb hby at_50) rfl ?_
      refine X0.ldcInt hx hown (mvT hZ (hw _ (gm 0 rfl))) (g := (mkF m 51 #[vI p1, vI p2, vI p3, vI p4, vI c0, vI c1, vI c2, vI (Int32.ofNat n), vI 0, vI u0, vI u1, vU, vU, vU, vU, vU, vU] [(.int p4)])) rfl (hb hby at_51) _ ?_
      refine XS.iand X0.here hx rfl (hb hby at_53) rfl ?_
      refine XS.iconst X0.here hx rfl (hb hby at_54) ?_
      show Steps p.tables e below (s₁.setTop (mkF m 55 #[vI p1, vI p2, vI p3, vI p4, vI c0, vI c1, vI c2, vI (Int32.ofNat n), vI 0, vI u0, vI u1, vU, vU, vU, vU, vU, vU] [(.int (3 : Int32)), (.int (p4 &&& (2147483647 : Int32)))])) _
      refine iremM X0 hx rfl (hb hby at_55) rfl (by decide) ?_
      rw [hm]
      refine XS.istore X0.here hx rfl (hb hby at_56) rfl (l' := #[vI p1, vI p2, vI p3, vI p4, vI c0, vI c1, vI c2, vI (Int32.ofNat n), vI 0, vI u0, vI u1, vI (Int32.ofNat mm), vU, vU, vU, vU, vU]) rfl ?_
      refine XS.iload X0.here hx rfl (hb hby at_58) rfl ?_
      refine XS.ifYes X0.here hx rfl (pc0 := 60) (pc' := 67) rfl (hb hby at_60) rfl ((if0 _ _).trans (teq (by decide : (0 : Int32) = (0 : Int32))).1) (by decide) (by decide) ?_
      refine XS.iload X0.here hx rfl (hb hby at_67) rfl ?_
      refine XS.iload X0.here hx rfl (hb hby at_69) rfl ?_
      refine XS.iload X0.here hx rfl (hb hby at_71) rfl ?_
      refine XS.iload X0.here hx rfl (hb hby at_73) rfl ?_
      exact h)
  obtain ⟨_, _, ⟨T966, L966, kk966, n966⟩, -, X966, hS966, gr966, ⟨Lc966, hQ966, l966, y966, z966, hR966⟩, st966⟩ := callSS X0 hx (y := y_50) hown (mvT hZ (hw _ (gm 1 rfl))) (mvT hZ (hw _ (gm 2 rfl))) (mvT hZ (hw _ (gm 3 rfl))) (mvT hZ (hw _ (gm 4 rfl))) (by decide) (backOfSH (W := 0) (rmT l Z a0 hw [] n c0 c1 c2 zC h0 n0 O0 SC hzC SAs SHi SLo hc0 hc1 hc2 hn4) hZ (hw _ (gm 4 rfl)) (hw _ (gm 3 rfl)) (by decide) (by decide) hEL hC0) (g := (mkF m 75 #[vI p1, vI p2, vI p3, vI p4, vI c0, vI c1, vI c2, vI (Int32.ofNat n), vI 0, vI u0, vI u1, vI (Int32.ofNat mm), vU, vU, vU, vU, vU] [(.int c2), (.int c1), (.int c0), (.int (Int32.ofNat n))])) rfl (by rw [hml]; rfl) (argsL := [(.int (Int32.ofNat n)), (.int c0), (.int c1), (.int c2)]) (rest := []) (lenOf pd_0 rfl) rfl (by show 2 * 0 + _ ≤ _; exact Nat.le_of_eq rfl) (hb hby at_75) (fun _ _ => ⟨rfl, e0, (by decide : 0 + 6 ≤ _), (by decide : 0 + 80 ≤ _)⟩)
  dsimp only [Pt.U, Pt.locs, Pt.cells, Pt.slots] at X966 l966 y966 z966 st966 hQ966 hS966 gr966 hR966
  subst l966 y966 z966
  have hZ966 : Z.Warmed39 (s.setVm T966.vm).vm := State.Warmed39.trans (t := (s.setVm s.vm)) hZ hS966.1
  have hown966 : (s.setVm T966.vm).vm.findClass "com/example/nuthatch/nuthatch/EntryNameMemberPinLaw" = some m.cls := by rw [show (s.setVm T966.vm).vm = T966.vm from rfl, hS966.1.alike.findClass]; exact hown
  replace hS966 := foldS hS (by rw [e0]; exact hk) hS966 gr966
  have hk966 := Nat.le_refl T966.heap.size
  replace X966 : Stand p l e room_1 (s.setVm T966.vm) m #[(.int p1), (.int p2), (.int p3), (.int p4)] below meth c T966 _ _ _ := X966
  obtain ⟨sh, rfl, Nq966, E966, z966, Ssh⟩ := hQ966
  have N966 := Fr.app N0 Nq966
  have k967 : Rch p e below S0 T966 (mkF m 78 #[vI p1, vI p2, vI p3, vI p4, vI c0, vI c1, vI c2, vI (Int32.ofNat n), vI 0, vI u0, vI u1, vI (Int32.ofNat mm), vU, vU, vU, vU, vU] [(.ref sh)]) := fun t h => k965 t (st966.trans h)
  have hC968 := hR966.1
  have rC968 := rC0.trans hR966
  have O969 := O0.ext E966
  have k970 : Rch p e below S0 T966 (mkF m 88 #[vI p1, vI p2, vI p3, vI p4, vI c0, vI c1, vI c2, vI (Int32.ofNat n), vI 0, vI u0, vI u1, vI (Int32.ofNat mm), vR sh, vU, vU, vU, vU] [(.int u0), (.int u1), (.int u0), (.int (Int32.ofNat mm))]) := fun t h => k967 t (by
      refine XS.astore X966.here hx rfl (hb hby at_78) rfl rfl (l' := #[vI p1, vI p2, vI p3, vI p4, vI c0, vI c1, vI c2, vI (Int32.ofNat n), vI 0, vI u0, vI u1, vI (Int32.ofNat mm), vR sh, vU, vU, vU, vU]) rfl ?_
      refine XS.iload X966.here hx rfl (hb hby at_80) rfl ?_
      refine XS.iload X966.here hx rfl (hb hby at_82) rfl ?_
      refine XS.iload X966.here hx rfl (hb hby at_84) rfl ?_
      refine XS.iload X966.here hx rfl (hb hby at_86) rfl ?_
      exact h)
  obtain ⟨_, _, ⟨T971, L971, kk971, n971⟩, -, X971, hS971, gr971, ⟨Lc971, hQ971, l971, y971, z971, hR971⟩, st971⟩ := callSS X966 hx (y := y_50) hown966 (mvT hZ966 (hw _ (gm 1 rfl))) (mvT hZ966 (hw _ (gm 2 rfl))) (mvT hZ966 (hw _ (gm 3 rfl))) (mvT hZ966 (hw _ (gm 4 rfl))) (by decide) (backOfSH (W := 0) (rmT l Z a0 hw [] mm u0 u1 u0 zC T966.heap n0 O969 SC hzC SAs SHi SLo hu0 hu1 hu0 (by omega)) hZ966 (hw _ (gm 4 rfl)) (hw _ (gm 3 rfl)) (by decide) (by decide) hEL hC968) (g := (mkF m 88 #[vI p1, vI p2, vI p3, vI p4, vI c0, vI c1, vI c2, vI (Int32.ofNat n), vI 0, vI u0, vI u1, vI (Int32.ofNat mm), vR sh, vU, vU, vU, vU] [(.int u0), (.int u1), (.int u0), (.int (Int32.ofNat mm))])) rfl (by rw [hml]; rfl) (argsL := [(.int (Int32.ofNat mm)), (.int u0), (.int u1), (.int u0)]) (rest := []) (lenOf pd_0 rfl) rfl (by show 2 * 0 + _ ≤ _; exact Nat.le_of_eq rfl) (hb hby at_88) (fun _ _ => ⟨rfl, rfl, (by decide : 6 + 6 ≤ _), (by decide : 80 + 80 ≤ _)⟩)
  dsimp only [Pt.U, Pt.locs, Pt.cells, Pt.slots] at X971 l971 y971 z971 st971 hQ971 hS971 gr971 hR971
  subst l971 y971 z971
  have hZ971 : Z.Warmed39 (s.setVm T971.vm).vm := State.Warmed39.trans (t := (s.setVm T966.vm)) hZ966 hS971.1
  have hown971 : (s.setVm T971.vm).vm.findClass "com/example/nuthatch/nuthatch/EntryNameMemberPinLaw" = some m.cls := by rw [show (s.setVm T971.vm).vm = T971.vm from rfl, hS971.1.alike.findClass]; exact hown966
  replace hS971 := foldS hS966 (by exact hk966) hS971 gr971
  have hk971 := Nat.le_refl T971.heap.size
  replace X971 : Stand p l e room_1 (s.setVm T971.vm) m #[(.int p1), (.int p2), (.int p3), (.int p4)] below meth c T971 _ _ _ := X971
  obtain ⟨su, rfl, Nq971, E971, z971, Ssu⟩ := hQ971
  have N971 := Fr.app N966 Nq971
  have k972 : Rch p e below S0 T971 (mkF m 91 #[vI p1, vI p2, vI p3, vI p4, vI c0, vI c1, vI c2, vI (Int32.ofNat n), vI 0, vI u0, vI u1, vI (Int32.ofNat mm), vR sh, vU, vU, vU, vU] [(.ref su)]) := fun t h => k970 t (st971.trans h)
  have hC973 := hR971.1
  have rC973 := rC968.trans hR971
  have O974 := O969.ext E971
  replace Ssh := Ssh.ext E971
  have k975 : Rch p e below S0 T971 (mkF m 97 #[vI p1, vI p2, vI p3, vI p4, vI c0, vI c1, vI c2, vI (Int32.ofNat n), vI 0, vI u0, vI u1, vI (Int32.ofNat mm), vR sh, vR su, vU, vU, vU] [(.ref su), (.ref sh)]) := fun t h => k972 t (by
      refine XS.astore X971.here hx rfl (hb hby at_91) rfl rfl (l' := #[vI p1, vI p2, vI p3, vI p4, vI c0, vI c1, vI c2, vI (Int32.ofNat n), vI 0, vI u0, vI u1, vI (Int32.ofNat mm), vR sh, vR su, vU, vU, vU]) rfl ?_
      refine XS.aload X971.here hx rfl (hb hby at_93) rfl rfl ?_
      refine XS.aload X971.here hx rfl (hb hby at_95) rfl rfl ?_
      exact h)
  obtain ⟨_, _, ⟨T976, L976, kk976, n976⟩, -, X976, ⟨Lc976, hQ976, l976, y976, z976⟩, st976⟩ := Jvm.LawKit.callS X971 hx (y := y_49) hown971 (mvT hZ971 (hw _ (gm 38 rfl))) (mvT hZ971 (hw _ (gm 39 rfl))) (mvT hZ971 (hw _ (gm 40 rfl))) (mvT hZ971 (hw _ (gm 41 rfl))) (by decide) (backOf (W := 0) (rmM1 l Z a0 hw [] sh su ([c0, c1, c2].take n) ([u0, u1, u0].take mm) fm zC T971.heap n0 O974 SC hzC SAs SHi SLo SP hfm Ssh (by omega) Ssu (by omega)) hZ971 (hw _ (gm 41 rfl)) (hw _ (gm 40 rfl)) (by decide) (by decide)) (g := (mkF m 97 #[vI p1, vI p2, vI p3, vI p4, vI c0, vI c1, vI c2, vI (Int32.ofNat n), vI 0, vI u0, vI u1, vI (Int32.ofNat mm), vR sh, vR su, vU, vU, vU] [(.ref su), (.ref sh)])) rfl (by rw [hml]; rfl) (argsL := [(.ref sh), (.ref su)]) (rest := []) (lenOf pd_7 rfl) rfl (by show 2 * 0 + _ ≤ _; exact Nat.le_of_eq rfl) (hb hby at_97) (fun _ _ => ⟨rfl, rfl, (by decide : 12 + 5 ≤ _), (by decide : 160 + 104 ≤ _)⟩)
  dsimp only [Pt.U, Pt.locs, Pt.cells, Pt.slots] at X976 l976 y976 z976 st976 hQ976
  subst l976 y976 z976
  obtain ⟨rr, rfl, Nq976, E976, z976, Sr⟩ := hQ976
  have N976 := Fr.app N971 Nq976
  have k977 : Rch p e below S0 T976 (mkF m 100 #[vI p1, vI p2, vI p3, vI p4, vI c0, vI c1, vI c2, vI (Int32.ofNat n), vI 0, vI u0, vI u1, vI (Int32.ofNat mm), vR sh, vR su, vU, vU, vU] [(.ref rr)]) := fun t h => k975 t (st976 t h)
  have hC978 := hC973.ext E976
  have rC978 := rC973.trans (CHr.ext E976 hC973)
  have O979 := O974.ext E976
  have hkk980 := Nat.le_trans hk971 E976.1
  have Er := Sr.exa
  replace Sr : Stg Z T976.heap rr (own_rs n mm c0 c1 c2 u0 u1) := Sr
  have k981 : Rch p e below S0 T976 (mkF m 122 #[vI p1, vI p2, vI p3, vI p4, vI c0, vI c1, vI c2, vI (Int32.ofNat n), vI 0, vI u0, vI u1, vI (Int32.ofNat mm), vR sh, vR su, vR rr, vI (Int32.ofNat n), vU] [(.ref rr)]) := fun t h => k977 t (by
      refine XS.astore X976.here hx rfl (hb hby at_100) rfl rfl (l' := #[vI p1, vI p2, vI p3, vI p4, vI c0, vI c1, vI c2, vI (Int32.ofNat n), vI 0, vI u0, vI u1, vI (Int32.ofNat mm), vR sh, vR su, vR rr, vU, vU]) rfl ?_
      refine XS.iload X976.here hx rfl (hb hby at_102) rfl ?_
      refine XS.ifYes X976.here hx rfl (pc0 := 104) (pc' := 111) rfl (hb hby at_104) rfl ((if0 _ _).trans (teq (by decide : (0 : Int32) = (0 : Int32))).1) (by decide) (by decide) ?_
      refine XS.iload X976.here hx rfl (hb hby at_111) rfl ?_
      refine XS.istore X976.here hx rfl (hb hby at_113) rfl (l' := #[vI p1, vI p2, vI p3, vI p4, vI c0, vI c1, vI c2, vI (Int32.ofNat n), vI 0, vI u0, vI u1, vI (Int32.ofNat mm), vR sh, vR su, vR rr, vI (Int32.ofNat n), vU]) rfl ?_
      refine XS.aload X976.here hx rfl (hb hby at_115) rfl rfl ?_
      refine XS.ifnullNo X976.here hx rfl (hb hby at_117) rfl ?_
      show Steps p.tables e below (T976.setTop (mkF m 120 #[vI p1, vI p2, vI p3, vI p4, vI c0, vI c1, vI c2, vI (Int32.ofNat n), vI 0, vI u0, vI u1, vI (Int32.ofNat mm), vR sh, vR su, vR rr, vI (Int32.ofNat n), vU] [])) _
      refine XS.aload X976.here hx rfl (hb hby at_120) rfl rfl ?_
      exact h)
  obtain ⟨cq982, kq982, q982a, q982b, q982c⟩ := isOf hZ971 rfl Er
  obtain ⟨_, _, ⟨T982, L982, kk982, n982⟩, -, X982, ⟨Lc982, hQ982, l982, y982, z982⟩, st982⟩ := X976.virtualBack hx (y := y_11) (z := y_11) hown971 (mvT hZ971 (hw _ (gm 167 rfl))) (mvT hZ971 (hw _ (gm 61 rfl))) (notFace_of_selects (args := #[]) (mvT hZ971 (hw _ (gm 63 rfl)))) (mvT hZ971 (hw _ (gm 63 rfl))) (mvT hZ971 (hw _ (gm 62 rfl))) (by decide) (backOf (W := 0) (rmLEs l Z a0 hw [] rr (own_rs n mm c0 c1 c2 u0 u1) zC T976.heap n0 O979 SC hzC Sr (by omega)) hZ971 (hw _ (gm 64 rfl)) (hw _ (gm 7 rfl)) (by decide) (by decide)) q982a q982c (g := (mkF m 122 #[vI p1, vI p2, vI p3, vI p4, vI c0, vI c1, vI c2, vI (Int32.ofNat n), vI 0, vI u0, vI u1, vI (Int32.ofNat mm), vR sh, vR su, vR rr, vI (Int32.ofNat n), vU] [(.ref rr)])) rfl (by rw [hml]; rfl) (Steps.refl _) (argsL := []) (rest := []) (lenOf pd_9 rfl) rfl (by show 2 * 0 + _ ≤ _; exact Nat.le_of_eq rfl) (hb hby at_122) (fun _ _ => ⟨rfl, rfl, (by decide : 17 + 0 ≤ _), (by decide : 264 + 0 ≤ _)⟩)
  dsimp only [Pt.U, Pt.locs, Pt.cells, Pt.slots] at X982 l982 y982 z982 st982 hQ982
  subst l982 y982 z982
  obtain ⟨rfl, Nq982, hh982⟩ := hQ982
  have N982 := Fr.app N976 Nq982
  have k983 : Rch p e below S0 T982 (mkF m 125 #[vI p1, vI p2, vI p3, vI p4, vI c0, vI c1, vI c2, vI (Int32.ofNat n), vI 0, vI u0, vI u1, vI (Int32.ofNat mm), vR sh, vR su, vR rr, vI (Int32.ofNat n), vU] [(.int (Int32.ofNat (own_rs n mm c0 c1 c2 u0 u1).length))]) := fun t h => k981 t (st982.trans h)
  obtain ⟨lo982, Y982, M982⟩ : ∃ lo, Stand p l e room_1 (s.setVm T971.vm) m #[(.int p1), (.int p2), (.int p3), (.int p4)] below meth c T982 lo 17 264 ∧ Fr n0 lo := ⟨_, X982, N982⟩
  clear X982 N982
  have k984 : Rch p e below S0 T982 (mkF m 140 #[vI p1, vI p2, vI p3, vI p4, vI c0, vI c1, vI c2, vI (Int32.ofNat n), vI 0, vI u0, vI u1, vI (Int32.ofNat mm), vR sh, vR su, vR rr, vI (Int32.ofNat n), vI 1] []) := fun t h => k983 t (by
      refine XS.iload Y982.here hx rfl (hb hby at_125) rfl ?_
      refine XS.iconst Y982.here hx rfl (hb hby at_127) ?_
      show Steps p.tables e below (T982.setTop (mkF m 128 #[vI p1, vI p2, vI p3, vI p4, vI c0, vI c1, vI c2, vI (Int32.ofNat n), vI 0, vI u0, vI u1, vI (Int32.ofNat mm), vR sh, vR su, vR rr, vI (Int32.ofNat n), vU] [(.int (1 : Int32)), (.int (Int32.ofNat n)), (.int (Int32.ofNat (own_rs n mm c0 c1 c2 u0 u1).length))])) _
      refine XS.iadd Y982.here hx rfl (hb hby at_128) rfl ?_
      rw [(show Int32.ofNat n + (1 : Int32) = Int32.ofNat (n + 1) from own_addn (j := 1) (by omega))]
      refine XS.iload Y982.here hx rfl (hb hby at_129) rfl ?_
      show Steps p.tables e below (T982.setTop (mkF m 131 #[vI p1, vI p2, vI p3, vI p4, vI c0, vI c1, vI c2, vI (Int32.ofNat n), vI 0, vI u0, vI u1, vI (Int32.ofNat mm), vR sh, vR su, vR rr, vI (Int32.ofNat n), vU] [(.int (Int32.ofNat mm)), (.int (Int32.ofNat (n + 1))), (.int (Int32.ofNat (own_rs n mm c0 c1 c2 u0 u1).length))])) _
      refine XS.iadd Y982.here hx rfl (hb hby at_131) rfl ?_
      rw [(by rw [lr]; exact own_addn (by omega) : Int32.ofNat (n + 1) + Int32.ofNat mm = (Int32.ofNat (own_rs n mm c0 c1 c2 u0 u1).length))]
      refine XS.icmpYes Y982.here hx rfl (pc0 := 132) (pc' := 137) rfl (hb hby at_132) rfl (teq (rfl : (Int32.ofNat (own_rs n mm c0 c1 c2 u0 u1).length) = (Int32.ofNat (own_rs n mm c0 c1 c2 u0 u1).length))).1 (by decide) (by decide) ?_
      refine XS.iconst Y982.here hx rfl (hb hby at_137) ?_
      refine XS.istore Y982.here hx rfl (hb hby at_138) rfl (l' := #[vI p1, vI p2, vI p3, vI p4, vI c0, vI c1, vI c2, vI (Int32.ofNat n), vI 0, vI u0, vI u1, vI (Int32.ofNat mm), vR sh, vR su, vR rr, vI (Int32.ofNat n), vI 1]) rfl ?_
      exact h)
  obtain ⟨T993, L993, X993, N993, e993, k993⟩ : ∃ (T' : State) (L' : List Loc), LikeL Y982 T' L' ∧ Fr n0 L' ∧ T'.heap = T976.heap ∧ Rch p e below S0 T' (mkF m 171 #[vI p1, vI p2, vI p3, vI p4, vI c0, vI c1, vI c2, vI (Int32.ofNat n), vI 0, vI u0, vI u1, vI (Int32.ofNat mm), vR sh, vR su, vR rr, vI (Int32.ofNat n), vI 1] []) := by
    by_cases hbn : 0 < n
    · have k985 : Rch p e below S0 T982 (mkF m 153 #[vI p1, vI p2, vI p3, vI p4, vI c0, vI c1, vI c2, vI (Int32.ofNat n), vI 0, vI u0, vI u1, vI (Int32.ofNat mm), vR sh, vR su, vR rr, vI (Int32.ofNat n), vI 1] [(.int (0 : Int32)), (.ref rr)]) := fun t h => k984 t (by
          refine XS.iload Y982.here hx rfl (hb hby at_140) rfl ?_
          refine XS.ifNo Y982.here hx rfl (hb hby at_142) rfl ((if0 _ _).trans (tlt ((by rw [Int32.lt_iff_toInt_lt, show (0 : Int32).toInt = 0 from by decide, (own_tn (by omega)).2]; omega) : (0 : Int32) < (Int32.ofNat n))).2.2.2) ?_
          refine XS.iload Y982.here hx rfl (hb hby at_145) rfl ?_
          refine XS.ifNo Y982.here hx rfl (hb hby at_147) rfl ((if0 _ _).trans (feq (by decide : ¬ ((1 : Int32) = (0 : Int32)))).1) ?_
          refine XS.aload Y982.here hx rfl (hb hby at_150) rfl rfl ?_
          refine XS.iconst Y982.here hx rfl (hb hby at_152) ?_
          exact h)
      obtain ⟨cq986, kq986, q986a, q986b, q986c⟩ := isOf hZ971 hh982 Er
      obtain ⟨_, _, ⟨T986, L986, kk986, n986⟩, -, X986, ⟨Lc986, hQ986, l986, y986, z986⟩, st986⟩ := Y982.virtualBack hx (y := y_38) (z := y_38) hown971 (mvT hZ971 (hw _ (gm 168 rfl))) (mvT hZ971 (hw _ (gm 169 rfl))) (notFace_of_selects (args := #[]) (mvT hZ971 (hw _ (gm 171 rfl)))) (mvT hZ971 (hw _ (gm 171 rfl))) (mvT hZ971 (hw _ (gm 170 rfl))) (by decide) (backOf (W := 0) (rmCAs l Z a0 hw [] rr 0 (own_rs n mm c0 c1 c2 u0 u1) fm zC T976.heap n0 O979 SC hzC SAs SHi SLo SP hfm Sr (by omega) (by omega)) hZ971 (hw _ (gm 172 rfl)) (hw _ (gm 7 rfl)) (by decide) (by decide)) q986a q986c (g := (mkF m 153 #[vI p1, vI p2, vI p3, vI p4, vI c0, vI c1, vI c2, vI (Int32.ofNat n), vI 0, vI u0, vI u1, vI (Int32.ofNat mm), vR sh, vR su, vR rr, vI (Int32.ofNat n), vI 1] [(.int (0 : Int32)), (.ref rr)])) rfl (by rw [hml]; rfl) (Steps.refl _) (argsL := [(.int (0 : Int32))]) (rest := []) (lenOf pd_28 rfl) rfl (by show 2 * 0 + _ ≤ _; exact Nat.le_of_eq rfl) (hb hby at_153) (fun _ _ => ⟨rfl, hh982, (by decide : 17 + 0 ≤ _), (by decide : 264 + 0 ≤ _)⟩)
      dsimp only [Pt.U, Pt.locs, Pt.cells, Pt.slots] at X986 l986 y986 z986 st986 hQ986
      subst l986 y986 z986
      obtain ⟨rfl, Nq986, hh986⟩ := hQ986
      have N986 := Fr.app M982 Nq986
      have k987 : Rch p e below S0 T986 (mkF m 156 #[vI p1, vI p2, vI p3, vI p4, vI c0, vI c1, vI c2, vI (Int32.ofNat n), vI 0, vI u0, vI u1, vI (Int32.ofNat mm), vR sh, vR su, vR rr, vI (Int32.ofNat n), vI 1] [(.int (own_nm c0))]) := fun t h => k985 t (st986.trans (by rw [g0 hbn]; exact h))
      obtain ⟨lo986, Y986, M986⟩ : ∃ lo, Stand p l e room_1 (s.setVm T971.vm) m #[(.int p1), (.int p2), (.int p3), (.int p4)] below meth c T986 lo 17 264 ∧ Fr n0 lo := ⟨_, X986, N986⟩
      clear X986 N986
      have k988 : Rch p e below S0 T986 (mkF m 158 #[vI p1, vI p2, vI p3, vI p4, vI c0, vI c1, vI c2, vI (Int32.ofNat n), vI 0, vI u0, vI u1, vI (Int32.ofNat mm), vR sh, vR su, vR rr, vI (Int32.ofNat n), vI 1] [(.int c0), (.int (own_nm c0))]) := fun t h => k987 t (by
          refine XS.iload Y986.here hx rfl (hb hby at_156) rfl ?_
          exact h)
      obtain ⟨_, _, ⟨T989, L989, kk989, n989⟩, -, X989, ⟨Lc989, hQ989, l989, y989, z989⟩, st989⟩ := Jvm.LawKit.callS Y986 hx (y := y_39) hown971 (mvT hZ971 (hw _ (gm 242 rfl))) (mvT hZ971 (hw _ (gm 243 rfl))) (mvT hZ971 (hw _ (gm 3 rfl))) (mvT hZ971 (hw _ (gm 244 rfl))) (by decide) (backOf (W := 1) (rmNM l Z a0 hw [] c0  T976.heap n0 O979 hc0) hZ971 (hw _ (gm 244 rfl)) (hw _ (gm 3 rfl)) (by decide) (by decide)) (g := (mkF m 158 #[vI p1, vI p2, vI p3, vI p4, vI c0, vI c1, vI c2, vI (Int32.ofNat n), vI 0, vI u0, vI u1, vI (Int32.ofNat mm), vR sh, vR su, vR rr, vI (Int32.ofNat n), vI 1] [(.int c0), (.int (own_nm c0))])) rfl (by rw [hml]; rfl) (argsL := [(.int c0)]) (rest := [(.int (own_nm c0))]) (lenOf pd_40 rfl) rfl (by show 2 * 0 + _ ≤ _; exact Nat.le_of_eq rfl) (hb hby at_158) (fun _ _ => ⟨rfl, hh986, (by decide : 17 + 0 ≤ _), (by decide : 264 + 0 ≤ _)⟩)
      dsimp only [Pt.U, Pt.locs, Pt.cells, Pt.slots] at X989 l989 y989 z989 st989 hQ989
      subst l989 y989 z989
      obtain ⟨rfl, Nq989, hh989⟩ := hQ989
      have N989 := Fr.app M986 Nq989
      have k990 : Rch p e below S0 T989 (mkF m 161 #[vI p1, vI p2, vI p3, vI p4, vI c0, vI c1, vI c2, vI (Int32.ofNat n), vI 0, vI u0, vI u1, vI (Int32.ofNat mm), vR sh, vR su, vR rr, vI (Int32.ofNat n), vI 1] [(.int (own_nm c0)), (.int (own_nm c0))]) := fun t h => k988 t (st989 t h)
      obtain ⟨lo989, Y989, M989⟩ : ∃ lo, Stand p l e room_1 (s.setVm T971.vm) m #[(.int p1), (.int p2), (.int p3), (.int p4)] below meth c T989 lo 17 264 ∧ Fr n0 lo := ⟨_, X989, N989⟩
      clear X989 N989
      have k991 : Rch p e below S0 T989 (mkF m 171 #[vI p1, vI p2, vI p3, vI p4, vI c0, vI c1, vI c2, vI (Int32.ofNat n), vI 0, vI u0, vI u1, vI (Int32.ofNat mm), vR sh, vR su, vR rr, vI (Int32.ofNat n), vI 1] []) := fun t h => k990 t (by
          refine XS.icmpNo Y989.here hx rfl (hb hby at_161) rfl (teq (rfl : (own_nm c0) = (own_nm c0))).2 ?_
          refine XS.iconst Y989.here hx rfl (hb hby at_164) ?_
          refine XS.goto Y989.here hx rfl (pc0 := 165) (pc' := 169) rfl (hb hby at_165) (by decide) (by decide) ?_
          refine XS.istore Y989.here hx rfl (hb hby at_169) rfl (l' := #[vI p1, vI p2, vI p3, vI p4, vI c0, vI c1, vI c2, vI (Int32.ofNat n), vI 0, vI u0, vI u1, vI (Int32.ofNat mm), vR sh, vR su, vR rr, vI (Int32.ofNat n), vI 1]) rfl ?_
          exact h)
      exact ⟨_, _, Y989, M989, hh989, k991⟩
    · have k992 : Rch p e below S0 T982 (mkF m 171 #[vI p1, vI p2, vI p3, vI p4, vI c0, vI c1, vI c2, vI (Int32.ofNat n), vI 0, vI u0, vI u1, vI (Int32.ofNat mm), vR sh, vR su, vR rr, vI (Int32.ofNat n), vI 1] []) := fun t h => k984 t (by
          refine XS.iload Y982.here hx rfl (hb hby at_140) rfl ?_
          refine XS.ifYes Y982.here hx rfl (pc0 := 142) (pc' := 171) rfl (hb hby at_142) rfl ((if0 _ _).trans (flt ((by rw [Int32.lt_iff_toInt_lt, show (0 : Int32).toInt = 0 from by decide, (own_tn (by omega)).2]; omega) : ¬ ((0 : Int32) < (Int32.ofNat n)))).2.2.2) (by decide) (by decide) ?_
          exact h)
      exact ⟨_, _, Y982, M982, hh982, k992⟩
  replace X993 := X993.out
  obtain ⟨T1002, L1002, X1002, N1002, e1002, k1002⟩ : ∃ (T' : State) (L' : List Loc), LikeL X993 T' L' ∧ Fr n0 L' ∧ T'.heap = T976.heap ∧ Rch p e below S0 T' (mkF m 203 #[vI p1, vI p2, vI p3, vI p4, vI c0, vI c1, vI c2, vI (Int32.ofNat n), vI 0, vI u0, vI u1, vI (Int32.ofNat mm), vR sh, vR su, vR rr, vI (Int32.ofNat n), vI 1] []) := by
    by_cases hbn : 1 < n
    · have k994 : Rch p e below S0 T993 (mkF m 185 #[vI p1, vI p2, vI p3, vI p4, vI c0, vI c1, vI c2, vI (Int32.ofNat n), vI 0, vI u0, vI u1, vI (Int32.ofNat mm), vR sh, vR su, vR rr, vI (Int32.ofNat n), vI 1] [(.int (1 : Int32)), (.ref rr)]) := fun t h => k993 t (by
          refine XS.iload X993.here hx rfl (hb hby at_171) rfl ?_
          refine XS.iconst X993.here hx rfl (hb hby at_173) ?_
          refine XS.icmpNo X993.here hx rfl (hb hby at_174) rfl (tlt ((by rw [Int32.lt_iff_toInt_lt, show (1 : Int32).toInt = 1 from by decide, (own_tn (by omega)).2]; omega) : (1 : Int32) < (Int32.ofNat n))).2.2.2 ?_
          refine XS.iload X993.here hx rfl (hb hby at_177) rfl ?_
          refine XS.ifNo X993.here hx rfl (hb hby at_179) rfl ((if0 _ _).trans (feq (by decide : ¬ ((1 : Int32) = (0 : Int32)))).1) ?_
          refine XS.aload X993.here hx rfl (hb hby at_182) rfl rfl ?_
          refine XS.iconst X993.here hx rfl (hb hby at_184) ?_
          exact h)
      obtain ⟨cq995, kq995, q995a, q995b, q995c⟩ := isOf hZ971 e993 Er
      obtain ⟨_, _, ⟨T995, L995, kk995, n995⟩, -, X995, ⟨Lc995, hQ995, l995, y995, z995⟩, st995⟩ := X993.virtualBack hx (y := y_38) (z := y_38) hown971 (mvT hZ971 (hw _ (gm 168 rfl))) (mvT hZ971 (hw _ (gm 169 rfl))) (notFace_of_selects (args := #[]) (mvT hZ971 (hw _ (gm 171 rfl)))) (mvT hZ971 (hw _ (gm 171 rfl))) (mvT hZ971 (hw _ (gm 170 rfl))) (by decide) (backOf (W := 0) (rmCAs l Z a0 hw [] rr 1 (own_rs n mm c0 c1 c2 u0 u1) fm zC T976.heap n0 O979 SC hzC SAs SHi SLo SP hfm Sr (by omega) (by omega)) hZ971 (hw _ (gm 172 rfl)) (hw _ (gm 7 rfl)) (by decide) (by decide)) q995a q995c (g := (mkF m 185 #[vI p1, vI p2, vI p3, vI p4, vI c0, vI c1, vI c2, vI (Int32.ofNat n), vI 0, vI u0, vI u1, vI (Int32.ofNat mm), vR sh, vR su, vR rr, vI (Int32.ofNat n), vI 1] [(.int (1 : Int32)), (.ref rr)])) rfl (by rw [hml]; rfl) (Steps.refl _) (argsL := [(.int (1 : Int32))]) (rest := []) (lenOf pd_28 rfl) rfl (by show 2 * 0 + _ ≤ _; exact Nat.le_of_eq rfl) (hb hby at_185) (fun _ _ => ⟨rfl, e993, (by decide : 17 + 0 ≤ _), (by decide : 264 + 0 ≤ _)⟩)
      dsimp only [Pt.U, Pt.locs, Pt.cells, Pt.slots] at X995 l995 y995 z995 st995 hQ995
      subst l995 y995 z995
      obtain ⟨rfl, Nq995, hh995⟩ := hQ995
      have N995 := Fr.app N993 Nq995
      have k996 : Rch p e below S0 T995 (mkF m 188 #[vI p1, vI p2, vI p3, vI p4, vI c0, vI c1, vI c2, vI (Int32.ofNat n), vI 0, vI u0, vI u1, vI (Int32.ofNat mm), vR sh, vR su, vR rr, vI (Int32.ofNat n), vI 1] [(.int (own_nm c1))]) := fun t h => k994 t (st995.trans (by rw [g1 hbn]; exact h))
      obtain ⟨lo995, Y995, M995⟩ : ∃ lo, Stand p l e room_1 (s.setVm T971.vm) m #[(.int p1), (.int p2), (.int p3), (.int p4)] below meth c T995 lo 17 264 ∧ Fr n0 lo := ⟨_, X995, N995⟩
      clear X995 N995
      have k997 : Rch p e below S0 T995 (mkF m 190 #[vI p1, vI p2, vI p3, vI p4, vI c0, vI c1, vI c2, vI (Int32.ofNat n), vI 0, vI u0, vI u1, vI (Int32.ofNat mm), vR sh, vR su, vR rr, vI (Int32.ofNat n), vI 1] [(.int c1), (.int (own_nm c1))]) := fun t h => k996 t (by
          refine XS.iload Y995.here hx rfl (hb hby at_188) rfl ?_
          exact h)
      obtain ⟨_, _, ⟨T998, L998, kk998, n998⟩, -, X998, ⟨Lc998, hQ998, l998, y998, z998⟩, st998⟩ := Jvm.LawKit.callS Y995 hx (y := y_39) hown971 (mvT hZ971 (hw _ (gm 242 rfl))) (mvT hZ971 (hw _ (gm 243 rfl))) (mvT hZ971 (hw _ (gm 3 rfl))) (mvT hZ971 (hw _ (gm 244 rfl))) (by decide) (backOf (W := 1) (rmNM l Z a0 hw [] c1  T976.heap n0 O979 hc1) hZ971 (hw _ (gm 244 rfl)) (hw _ (gm 3 rfl)) (by decide) (by decide)) (g := (mkF m 190 #[vI p1, vI p2, vI p3, vI p4, vI c0, vI c1, vI c2, vI (Int32.ofNat n), vI 0, vI u0, vI u1, vI (Int32.ofNat mm), vR sh, vR su, vR rr, vI (Int32.ofNat n), vI 1] [(.int c1), (.int (own_nm c1))])) rfl (by rw [hml]; rfl) (argsL := [(.int c1)]) (rest := [(.int (own_nm c1))]) (lenOf pd_40 rfl) rfl (by show 2 * 0 + _ ≤ _; exact Nat.le_of_eq rfl) (hb hby at_190) (fun _ _ => ⟨rfl, hh995, (by decide : 17 + 0 ≤ _), (by decide : 264 + 0 ≤ _)⟩)
      dsimp only [Pt.U, Pt.locs, Pt.cells, Pt.slots] at X998 l998 y998 z998 st998 hQ998
      subst l998 y998 z998
      obtain ⟨rfl, Nq998, hh998⟩ := hQ998
      have N998 := Fr.app M995 Nq998
      have k999 : Rch p e below S0 T998 (mkF m 193 #[vI p1, vI p2, vI p3, vI p4, vI c0, vI c1, vI c2, vI (Int32.ofNat n), vI 0, vI u0, vI u1, vI (Int32.ofNat mm), vR sh, vR su, vR rr, vI (Int32.ofNat n), vI 1] [(.int (own_nm c1)), (.int (own_nm c1))]) := fun t h => k997 t (st998 t h)
      obtain ⟨lo998, Y998, M998⟩ : ∃ lo, Stand p l e room_1 (s.setVm T971.vm) m #[(.int p1), (.int p2), (.int p3), (.int p4)] below meth c T998 lo 17 264 ∧ Fr n0 lo := ⟨_, X998, N998⟩
      clear X998 N998
      have k1000 : Rch p e below S0 T998 (mkF m 203 #[vI p1, vI p2, vI p3, vI p4, vI c0, vI c1, vI c2, vI (Int32.ofNat n), vI 0, vI u0, vI u1, vI (Int32.ofNat mm), vR sh, vR su, vR rr, vI (Int32.ofNat n), vI 1] []) := fun t h => k999 t (by
          refine XS.icmpNo Y998.here hx rfl (hb hby at_193) rfl (teq (rfl : (own_nm c1) = (own_nm c1))).2 ?_
          refine XS.iconst Y998.here hx rfl (hb hby at_196) ?_
          refine XS.goto Y998.here hx rfl (pc0 := 197) (pc' := 201) rfl (hb hby at_197) (by decide) (by decide) ?_
          refine XS.istore Y998.here hx rfl (hb hby at_201) rfl (l' := #[vI p1, vI p2, vI p3, vI p4, vI c0, vI c1, vI c2, vI (Int32.ofNat n), vI 0, vI u0, vI u1, vI (Int32.ofNat mm), vR sh, vR su, vR rr, vI (Int32.ofNat n), vI 1]) rfl ?_
          exact h)
      exact ⟨_, _, Y998, M998, hh998, k1000⟩
    · have k1001 : Rch p e below S0 T993 (mkF m 203 #[vI p1, vI p2, vI p3, vI p4, vI c0, vI c1, vI c2, vI (Int32.ofNat n), vI 0, vI u0, vI u1, vI (Int32.ofNat mm), vR sh, vR su, vR rr, vI (Int32.ofNat n), vI 1] []) := fun t h => k993 t (by
          refine XS.iload X993.here hx rfl (hb hby at_171) rfl ?_
          refine XS.iconst X993.here hx rfl (hb hby at_173) ?_
          refine XS.icmpYes X993.here hx rfl (pc0 := 174) (pc' := 203) rfl (hb hby at_174) rfl (flt ((by rw [Int32.lt_iff_toInt_lt, show (1 : Int32).toInt = 1 from by decide, (own_tn (by omega)).2]; omega) : ¬ ((1 : Int32) < (Int32.ofNat n)))).2.2.2 (by decide) (by decide) ?_
          exact h)
      exact ⟨_, _, X993, N993, e993, k1001⟩
  replace X1002 := X1002.out
  obtain ⟨T1011, L1011, X1011, N1011, e1011, k1011⟩ : ∃ (T' : State) (L' : List Loc), LikeL X1002 T' L' ∧ Fr n0 L' ∧ T'.heap = T976.heap ∧ Rch p e below S0 T' (mkF m 235 #[vI p1, vI p2, vI p3, vI p4, vI c0, vI c1, vI c2, vI (Int32.ofNat n), vI 0, vI u0, vI u1, vI (Int32.ofNat mm), vR sh, vR su, vR rr, vI (Int32.ofNat n), vI 1] []) := by
    by_cases hbn : 2 < n
    · have k1003 : Rch p e below S0 T1002 (mkF m 217 #[vI p1, vI p2, vI p3, vI p4, vI c0, vI c1, vI c2, vI (Int32.ofNat n), vI 0, vI u0, vI u1, vI (Int32.ofNat mm), vR sh, vR su, vR rr, vI (Int32.ofNat n), vI 1] [(.int (2 : Int32)), (.ref rr)]) := fun t h => k1002 t (by
          refine XS.iload X1002.here hx rfl (hb hby at_203) rfl ?_
          refine XS.iconst X1002.here hx rfl (hb hby at_205) ?_
          refine XS.icmpNo X1002.here hx rfl (hb hby at_206) rfl (tlt ((by rw [Int32.lt_iff_toInt_lt, show (2 : Int32).toInt = 2 from by decide, (own_tn (by omega)).2]; omega) : (2 : Int32) < (Int32.ofNat n))).2.2.2 ?_
          refine XS.iload X1002.here hx rfl (hb hby at_209) rfl ?_
          refine XS.ifNo X1002.here hx rfl (hb hby at_211) rfl ((if0 _ _).trans (feq (by decide : ¬ ((1 : Int32) = (0 : Int32)))).1) ?_
          refine XS.aload X1002.here hx rfl (hb hby at_214) rfl rfl ?_
          refine XS.iconst X1002.here hx rfl (hb hby at_216) ?_
          exact h)
      obtain ⟨cq1004, kq1004, q1004a, q1004b, q1004c⟩ := isOf hZ971 e1002 Er
      obtain ⟨_, _, ⟨T1004, L1004, kk1004, n1004⟩, -, X1004, ⟨Lc1004, hQ1004, l1004, y1004, z1004⟩, st1004⟩ := X1002.virtualBack hx (y := y_38) (z := y_38) hown971 (mvT hZ971 (hw _ (gm 168 rfl))) (mvT hZ971 (hw _ (gm 169 rfl))) (notFace_of_selects (args := #[]) (mvT hZ971 (hw _ (gm 171 rfl)))) (mvT hZ971 (hw _ (gm 171 rfl))) (mvT hZ971 (hw _ (gm 170 rfl))) (by decide) (backOf (W := 0) (rmCAs l Z a0 hw [] rr 2 (own_rs n mm c0 c1 c2 u0 u1) fm zC T976.heap n0 O979 SC hzC SAs SHi SLo SP hfm Sr (by omega) (by omega)) hZ971 (hw _ (gm 172 rfl)) (hw _ (gm 7 rfl)) (by decide) (by decide)) q1004a q1004c (g := (mkF m 217 #[vI p1, vI p2, vI p3, vI p4, vI c0, vI c1, vI c2, vI (Int32.ofNat n), vI 0, vI u0, vI u1, vI (Int32.ofNat mm), vR sh, vR su, vR rr, vI (Int32.ofNat n), vI 1] [(.int (2 : Int32)), (.ref rr)])) rfl (by rw [hml]; rfl) (Steps.refl _) (argsL := [(.int (2 : Int32))]) (rest := []) (lenOf pd_28 rfl) rfl (by show 2 * 0 + _ ≤ _; exact Nat.le_of_eq rfl) (hb hby at_217) (fun _ _ => ⟨rfl, e1002, (by decide : 17 + 0 ≤ _), (by decide : 264 + 0 ≤ _)⟩)
      dsimp only [Pt.U, Pt.locs, Pt.cells, Pt.slots] at X1004 l1004 y1004 z1004 st1004 hQ1004
      subst l1004 y1004 z1004
      obtain ⟨rfl, Nq1004, hh1004⟩ := hQ1004
      have N1004 := Fr.app N1002 Nq1004
      have k1005 : Rch p e below S0 T1004 (mkF m 220 #[vI p1, vI p2, vI p3, vI p4, vI c0, vI c1, vI c2, vI (Int32.ofNat n), vI 0, vI u0, vI u1, vI (Int32.ofNat mm), vR sh, vR su, vR rr, vI (Int32.ofNat n), vI 1] [(.int (own_nm c2))]) := fun t h => k1003 t (st1004.trans (by rw [g2 hbn]; exact h))
      obtain ⟨lo1004, Y1004, M1004⟩ : ∃ lo, Stand p l e room_1 (s.setVm T971.vm) m #[(.int p1), (.int p2), (.int p3), (.int p4)] below meth c T1004 lo 17 264 ∧ Fr n0 lo := ⟨_, X1004, N1004⟩
      clear X1004 N1004
      have k1006 : Rch p e below S0 T1004 (mkF m 222 #[vI p1, vI p2, vI p3, vI p4, vI c0, vI c1, vI c2, vI (Int32.ofNat n), vI 0, vI u0, vI u1, vI (Int32.ofNat mm), vR sh, vR su, vR rr, vI (Int32.ofNat n), vI 1] [(.int c2), (.int (own_nm c2))]) := fun t h => k1005 t (by
          refine XS.iload Y1004.here hx rfl (hb hby at_220) rfl ?_
          exact h)
      obtain ⟨_, _, ⟨T1007, L1007, kk1007, n1007⟩, -, X1007, ⟨Lc1007, hQ1007, l1007, y1007, z1007⟩, st1007⟩ := Jvm.LawKit.callS Y1004 hx (y := y_39) hown971 (mvT hZ971 (hw _ (gm 242 rfl))) (mvT hZ971 (hw _ (gm 243 rfl))) (mvT hZ971 (hw _ (gm 3 rfl))) (mvT hZ971 (hw _ (gm 244 rfl))) (by decide) (backOf (W := 1) (rmNM l Z a0 hw [] c2  T976.heap n0 O979 hc2) hZ971 (hw _ (gm 244 rfl)) (hw _ (gm 3 rfl)) (by decide) (by decide)) (g := (mkF m 222 #[vI p1, vI p2, vI p3, vI p4, vI c0, vI c1, vI c2, vI (Int32.ofNat n), vI 0, vI u0, vI u1, vI (Int32.ofNat mm), vR sh, vR su, vR rr, vI (Int32.ofNat n), vI 1] [(.int c2), (.int (own_nm c2))])) rfl (by rw [hml]; rfl) (argsL := [(.int c2)]) (rest := [(.int (own_nm c2))]) (lenOf pd_40 rfl) rfl (by show 2 * 0 + _ ≤ _; exact Nat.le_of_eq rfl) (hb hby at_222) (fun _ _ => ⟨rfl, hh1004, (by decide : 17 + 0 ≤ _), (by decide : 264 + 0 ≤ _)⟩)
      dsimp only [Pt.U, Pt.locs, Pt.cells, Pt.slots] at X1007 l1007 y1007 z1007 st1007 hQ1007
      subst l1007 y1007 z1007
      obtain ⟨rfl, Nq1007, hh1007⟩ := hQ1007
      have N1007 := Fr.app M1004 Nq1007
      have k1008 : Rch p e below S0 T1007 (mkF m 225 #[vI p1, vI p2, vI p3, vI p4, vI c0, vI c1, vI c2, vI (Int32.ofNat n), vI 0, vI u0, vI u1, vI (Int32.ofNat mm), vR sh, vR su, vR rr, vI (Int32.ofNat n), vI 1] [(.int (own_nm c2)), (.int (own_nm c2))]) := fun t h => k1006 t (st1007 t h)
      obtain ⟨lo1007, Y1007, M1007⟩ : ∃ lo, Stand p l e room_1 (s.setVm T971.vm) m #[(.int p1), (.int p2), (.int p3), (.int p4)] below meth c T1007 lo 17 264 ∧ Fr n0 lo := ⟨_, X1007, N1007⟩
      clear X1007 N1007
      have k1009 : Rch p e below S0 T1007 (mkF m 235 #[vI p1, vI p2, vI p3, vI p4, vI c0, vI c1, vI c2, vI (Int32.ofNat n), vI 0, vI u0, vI u1, vI (Int32.ofNat mm), vR sh, vR su, vR rr, vI (Int32.ofNat n), vI 1] []) := fun t h => k1008 t (by
          refine XS.icmpNo Y1007.here hx rfl (hb hby at_225) rfl (teq (rfl : (own_nm c2) = (own_nm c2))).2 ?_
          refine XS.iconst Y1007.here hx rfl (hb hby at_228) ?_
          refine XS.goto Y1007.here hx rfl (pc0 := 229) (pc' := 233) rfl (hb hby at_229) (by decide) (by decide) ?_
          refine XS.istore Y1007.here hx rfl (hb hby at_233) rfl (l' := #[vI p1, vI p2, vI p3, vI p4, vI c0, vI c1, vI c2, vI (Int32.ofNat n), vI 0, vI u0, vI u1, vI (Int32.ofNat mm), vR sh, vR su, vR rr, vI (Int32.ofNat n), vI 1]) rfl ?_
          exact h)
      exact ⟨_, _, Y1007, M1007, hh1007, k1009⟩
    · have k1010 : Rch p e below S0 T1002 (mkF m 235 #[vI p1, vI p2, vI p3, vI p4, vI c0, vI c1, vI c2, vI (Int32.ofNat n), vI 0, vI u0, vI u1, vI (Int32.ofNat mm), vR sh, vR su, vR rr, vI (Int32.ofNat n), vI 1] []) := fun t h => k1002 t (by
          refine XS.iload X1002.here hx rfl (hb hby at_203) rfl ?_
          refine XS.iconst X1002.here hx rfl (hb hby at_205) ?_
          refine XS.icmpYes X1002.here hx rfl (pc0 := 206) (pc' := 235) rfl (hb hby at_206) rfl (flt ((by rw [Int32.lt_iff_toInt_lt, show (2 : Int32).toInt = 2 from by decide, (own_tn (by omega)).2]; omega) : ¬ ((2 : Int32) < (Int32.ofNat n)))).2.2.2 (by decide) (by decide) ?_
          exact h)
      exact ⟨_, _, X1002, N1002, e1002, k1010⟩
  replace X1011 := X1011.out
  have k1012 : Rch p e below S0 T1011 (mkF m 244 #[vI p1, vI p2, vI p3, vI p4, vI c0, vI c1, vI c2, vI (Int32.ofNat n), vI 0, vI u0, vI u1, vI (Int32.ofNat mm), vR sh, vR su, vR rr, vI (Int32.ofNat n), vI 1] [(.int (Int32.ofNat n)), (.ref rr)]) := fun t h => k1011 t (by
      refine XS.iload X1011.here hx rfl (hb hby at_235) rfl ?_
      refine XS.ifNo X1011.here hx rfl (hb hby at_237) rfl ((if0 _ _).trans (feq (by decide : ¬ ((1 : Int32) = (0 : Int32)))).1) ?_
      refine XS.aload X1011.here hx rfl (hb hby at_240) rfl rfl ?_
      refine XS.iload X1011.here hx rfl (hb hby at_242) rfl ?_
      exact h)
  obtain ⟨cq1013, kq1013, q1013a, q1013b, q1013c⟩ := isOf hZ971 e1011 Er
  obtain ⟨_, _, ⟨T1013, L1013, kk1013, n1013⟩, -, X1013, ⟨Lc1013, hQ1013, l1013, y1013, z1013⟩, st1013⟩ := X1011.virtualBack hx (y := y_38) (z := y_38) hown971 (mvT hZ971 (hw _ (gm 168 rfl))) (mvT hZ971 (hw _ (gm 169 rfl))) (notFace_of_selects (args := #[]) (mvT hZ971 (hw _ (gm 171 rfl)))) (mvT hZ971 (hw _ (gm 171 rfl))) (mvT hZ971 (hw _ (gm 170 rfl))) (by decide) (backOf (W := 0) (rmCAs l Z a0 hw [] rr n (own_rs n mm c0 c1 c2 u0 u1) fm zC T976.heap n0 O979 SC hzC SAs SHi SLo SP hfm Sr (by omega) (by omega)) hZ971 (hw _ (gm 172 rfl)) (hw _ (gm 7 rfl)) (by decide) (by decide)) q1013a q1013c (g := (mkF m 244 #[vI p1, vI p2, vI p3, vI p4, vI c0, vI c1, vI c2, vI (Int32.ofNat n), vI 0, vI u0, vI u1, vI (Int32.ofNat mm), vR sh, vR su, vR rr, vI (Int32.ofNat n), vI 1] [(.int (Int32.ofNat n)), (.ref rr)])) rfl (by rw [hml]; rfl) (Steps.refl _) (argsL := [(.int (Int32.ofNat n))]) (rest := []) (lenOf pd_28 rfl) rfl (by show 2 * 0 + _ ≤ _; exact Nat.le_of_eq rfl) (hb hby at_244) (fun _ _ => ⟨rfl, e1011, (by decide : 17 + 0 ≤ _), (by decide : 264 + 0 ≤ _)⟩)
  dsimp only [Pt.U, Pt.locs, Pt.cells, Pt.slots] at X1013 l1013 y1013 z1013 st1013 hQ1013
  subst l1013 y1013 z1013
  obtain ⟨rfl, Nq1013, hh1013⟩ := hQ1013
  have N1013 := Fr.app N1011 Nq1013
  have k1014 : Rch p e below S0 T1013 (mkF m 247 #[vI p1, vI p2, vI p3, vI p4, vI c0, vI c1, vI c2, vI (Int32.ofNat n), vI 0, vI u0, vI u1, vI (Int32.ofNat mm), vR sh, vR su, vR rr, vI (Int32.ofNat n), vI 1] [(.int (45 : Int32))]) := fun t h => k1012 t (st1013.trans (by rw [g3]; exact h))
  obtain ⟨lo1013, Y1013, M1013⟩ : ∃ lo, Stand p l e room_1 (s.setVm T971.vm) m #[(.int p1), (.int p2), (.int p3), (.int p4)] below meth c T1013 lo 17 264 ∧ Fr n0 lo := ⟨_, X1013, N1013⟩
  clear X1013 N1013
  have k1015 : Rch p e below S0 T1013 (mkF m 259 #[vI p1, vI p2, vI p3, vI p4, vI c0, vI c1, vI c2, vI (Int32.ofNat n), vI 0, vI u0, vI u1, vI (Int32.ofNat mm), vR sh, vR su, vR rr, vI (Int32.ofNat n), vI 1] []) := fun t h => k1014 t (by
      refine XS.bipush Y1013.here hx rfl (hb hby at_247) ?_
      refine XS.icmpNo Y1013.here hx rfl (hb hby at_249) rfl (teq (by decide : (45 : Int32) = (45 : Int32))).2 ?_
      refine XS.iconst Y1013.here hx rfl (hb hby at_252) ?_
      refine XS.goto Y1013.here hx rfl (pc0 := 253) (pc' := 257) rfl (hb hby at_253) (by decide) (by decide) ?_
      refine XS.istore Y1013.here hx rfl (hb hby at_257) rfl (l' := #[vI p1, vI p2, vI p3, vI p4, vI c0, vI c1, vI c2, vI (Int32.ofNat n), vI 0, vI u0, vI u1, vI (Int32.ofNat mm), vR sh, vR su, vR rr, vI (Int32.ofNat n), vI 1]) rfl ?_
      exact h)
  obtain ⟨T1021, L1021, X1021, N1021, e1021, k1021⟩ : ∃ (T' : State) (L' : List Loc), LikeL Y1013 T' L' ∧ Fr n0 L' ∧ T'.heap = T976.heap ∧ Rch p e below S0 T' (mkF m 290 #[vI p1, vI p2, vI p3, vI p4, vI c0, vI c1, vI c2, vI (Int32.ofNat n), vI 0, vI u0, vI u1, vI (Int32.ofNat mm), vR sh, vR su, vR rr, vI (Int32.ofNat n), vI 1] []) := by
    by_cases hbn : 0 < mm
    · have k1016 : Rch p e below S0 T1013 (mkF m 275 #[vI p1, vI p2, vI p3, vI p4, vI c0, vI c1, vI c2, vI (Int32.ofNat n), vI 0, vI u0, vI u1, vI (Int32.ofNat mm), vR sh, vR su, vR rr, vI (Int32.ofNat n), vI 1] [(.int (Int32.ofNat (n + 1))), (.ref rr)]) := fun t h => k1015 t (by
          refine XS.iload Y1013.here hx rfl (hb hby at_259) rfl ?_
          refine XS.ifNo Y1013.here hx rfl (hb hby at_261) rfl ((if0 _ _).trans (tlt ((by rw [Int32.lt_iff_toInt_lt, show (0 : Int32).toInt = 0 from by decide, (own_tn (by omega)).2]; omega) : (0 : Int32) < (Int32.ofNat mm))).2.2.2) ?_
          refine XS.iload Y1013.here hx rfl (hb hby at_264) rfl ?_
          refine XS.ifNo Y1013.here hx rfl (hb hby at_266) rfl ((if0 _ _).trans (feq (by decide : ¬ ((1 : Int32) = (0 : Int32)))).1) ?_
          refine XS.aload Y1013.here hx rfl (hb hby at_269) rfl rfl ?_
          refine XS.iload Y1013.here hx rfl (hb hby at_271) rfl ?_
          refine XS.iconst Y1013.here hx rfl (hb hby at_273) ?_
          show Steps p.tables e below (T1013.setTop (mkF m 274 #[vI p1, vI p2, vI p3, vI p4, vI c0, vI c1, vI c2, vI (Int32.ofNat n), vI 0, vI u0, vI u1, vI (Int32.ofNat mm), vR sh, vR su, vR rr, vI (Int32.ofNat n), vI 1] [(.int (1 : Int32)), (.int (Int32.ofNat n)), (.ref rr)])) _
          refine XS.iadd Y1013.here hx rfl (hb hby at_274) rfl ?_
          rw [(show Int32.ofNat n + (1 : Int32) = Int32.ofNat (n + 1) from own_addn (j := 1) (by omega))]
          exact h)
      obtain ⟨cq1017, kq1017, q1017a, q1017b, q1017c⟩ := isOf hZ971 hh1013 Er
      obtain ⟨_, _, ⟨T1017, L1017, kk1017, n1017⟩, -, X1017, ⟨Lc1017, hQ1017, l1017, y1017, z1017⟩, st1017⟩ := Y1013.virtualBack hx (y := y_38) (z := y_38) hown971 (mvT hZ971 (hw _ (gm 168 rfl))) (mvT hZ971 (hw _ (gm 169 rfl))) (notFace_of_selects (args := #[]) (mvT hZ971 (hw _ (gm 171 rfl)))) (mvT hZ971 (hw _ (gm 171 rfl))) (mvT hZ971 (hw _ (gm 170 rfl))) (by decide) (backOf (W := 0) (rmCAs l Z a0 hw [] rr (n + 1) (own_rs n mm c0 c1 c2 u0 u1) fm zC T976.heap n0 O979 SC hzC SAs SHi SLo SP hfm Sr (by omega) (by omega)) hZ971 (hw _ (gm 172 rfl)) (hw _ (gm 7 rfl)) (by decide) (by decide)) q1017a q1017c (g := (mkF m 275 #[vI p1, vI p2, vI p3, vI p4, vI c0, vI c1, vI c2, vI (Int32.ofNat n), vI 0, vI u0, vI u1, vI (Int32.ofNat mm), vR sh, vR su, vR rr, vI (Int32.ofNat n), vI 1] [(.int (Int32.ofNat (n + 1))), (.ref rr)])) rfl (by rw [hml]; rfl) (Steps.refl _) (argsL := [(.int (Int32.ofNat (n + 1)))]) (rest := []) (lenOf pd_28 rfl) rfl (by show 2 * 0 + _ ≤ _; exact Nat.le_of_eq rfl) (hb hby at_275) (fun _ _ => ⟨rfl, hh1013, (by decide : 17 + 0 ≤ _), (by decide : 264 + 0 ≤ _)⟩)
      dsimp only [Pt.U, Pt.locs, Pt.cells, Pt.slots] at X1017 l1017 y1017 z1017 st1017 hQ1017
      subst l1017 y1017 z1017
      obtain ⟨rfl, Nq1017, hh1017⟩ := hQ1017
      have N1017 := Fr.app M1013 Nq1017
      have k1018 : Rch p e below S0 T1017 (mkF m 278 #[vI p1, vI p2, vI p3, vI p4, vI c0, vI c1, vI c2, vI (Int32.ofNat n), vI 0, vI u0, vI u1, vI (Int32.ofNat mm), vR sh, vR su, vR rr, vI (Int32.ofNat n), vI 1] [(.int u0)]) := fun t h => k1016 t (st1017.trans (by rw [g4 hbn]; exact h))
      obtain ⟨lo1017, Y1017, M1017⟩ : ∃ lo, Stand p l e room_1 (s.setVm T971.vm) m #[(.int p1), (.int p2), (.int p3), (.int p4)] below meth c T1017 lo 17 264 ∧ Fr n0 lo := ⟨_, X1017, N1017⟩
      clear X1017 N1017
      have k1019 : Rch p e below S0 T1017 (mkF m 290 #[vI p1, vI p2, vI p3, vI p4, vI c0, vI c1, vI c2, vI (Int32.ofNat n), vI 0, vI u0, vI u1, vI (Int32.ofNat mm), vR sh, vR su, vR rr, vI (Int32.ofNat n), vI 1] []) := fun t h => k1018 t (by
          refine XS.iload Y1017.here hx rfl (hb hby at_278) rfl ?_
          refine XS.icmpNo Y1017.here hx rfl (hb hby at_280) rfl (teq (rfl : u0 = u0)).2 ?_
          refine XS.iconst Y1017.here hx rfl (hb hby at_283) ?_
          refine XS.goto Y1017.here hx rfl (pc0 := 284) (pc' := 288) rfl (hb hby at_284) (by decide) (by decide) ?_
          refine XS.istore Y1017.here hx rfl (hb hby at_288) rfl (l' := #[vI p1, vI p2, vI p3, vI p4, vI c0, vI c1, vI c2, vI (Int32.ofNat n), vI 0, vI u0, vI u1, vI (Int32.ofNat mm), vR sh, vR su, vR rr, vI (Int32.ofNat n), vI 1]) rfl ?_
          exact h)
      exact ⟨_, _, Y1017, M1017, hh1017, k1019⟩
    · have k1020 : Rch p e below S0 T1013 (mkF m 290 #[vI p1, vI p2, vI p3, vI p4, vI c0, vI c1, vI c2, vI (Int32.ofNat n), vI 0, vI u0, vI u1, vI (Int32.ofNat mm), vR sh, vR su, vR rr, vI (Int32.ofNat n), vI 1] []) := fun t h => k1015 t (by
          refine XS.iload Y1013.here hx rfl (hb hby at_259) rfl ?_
          refine XS.ifYes Y1013.here hx rfl (pc0 := 261) (pc' := 290) rfl (hb hby at_261) rfl ((if0 _ _).trans (flt ((by rw [Int32.lt_iff_toInt_lt, show (0 : Int32).toInt = 0 from by decide, (own_tn (by omega)).2]; omega) : ¬ ((0 : Int32) < (Int32.ofNat mm)))).2.2.2) (by decide) (by decide) ?_
          exact h)
      exact ⟨_, _, Y1013, M1013, hh1013, k1020⟩
  replace X1021 := X1021.out
  obtain ⟨T1027, L1027, X1027, N1027, e1027, k1027⟩ : ∃ (T' : State) (L' : List Loc), LikeL X1021 T' L' ∧ Fr n0 L' ∧ T'.heap = T976.heap ∧ Rch p e below S0 T' (mkF m 322 #[vI p1, vI p2, vI p3, vI p4, vI c0, vI c1, vI c2, vI (Int32.ofNat n), vI 0, vI u0, vI u1, vI (Int32.ofNat mm), vR sh, vR su, vR rr, vI (Int32.ofNat n), vI 1] []) := by
    by_cases hbn : 1 < mm
    · have k1022 : Rch p e below S0 T1021 (mkF m 307 #[vI p1, vI p2, vI p3, vI p4, vI c0, vI c1, vI c2, vI (Int32.ofNat n), vI 0, vI u0, vI u1, vI (Int32.ofNat mm), vR sh, vR su, vR rr, vI (Int32.ofNat n), vI 1] [(.int (Int32.ofNat (n + 2))), (.ref rr)]) := fun t h => k1021 t (by
          refine XS.iload X1021.here hx rfl (hb hby at_290) rfl ?_
          refine XS.iconst X1021.here hx rfl (hb hby at_292) ?_
          refine XS.icmpNo X1021.here hx rfl (hb hby at_293) rfl (tlt ((by rw [Int32.lt_iff_toInt_lt, show (1 : Int32).toInt = 1 from by decide, (own_tn (by omega)).2]; omega) : (1 : Int32) < (Int32.ofNat mm))).2.2.2 ?_
          refine XS.iload X1021.here hx rfl (hb hby at_296) rfl ?_
          refine XS.ifNo X1021.here hx rfl (hb hby at_298) rfl ((if0 _ _).trans (feq (by decide : ¬ ((1 : Int32) = (0 : Int32)))).1) ?_
          refine XS.aload X1021.here hx rfl (hb hby at_301) rfl rfl ?_
          refine XS.iload X1021.here hx rfl (hb hby at_303) rfl ?_
          refine XS.iconst X1021.here hx rfl (hb hby at_305) ?_
          show Steps p.tables e below (T1021.setTop (mkF m 306 #[vI p1, vI p2, vI p3, vI p4, vI c0, vI c1, vI c2, vI (Int32.ofNat n), vI 0, vI u0, vI u1, vI (Int32.ofNat mm), vR sh, vR su, vR rr, vI (Int32.ofNat n), vI 1] [(.int (2 : Int32)), (.int (Int32.ofNat n)), (.ref rr)])) _
          refine XS.iadd X1021.here hx rfl (hb hby at_306) rfl ?_
          rw [(show Int32.ofNat n + (2 : Int32) = Int32.ofNat (n + 2) from own_addn (j := 2) (by omega))]
          exact h)
      obtain ⟨cq1023, kq1023, q1023a, q1023b, q1023c⟩ := isOf hZ971 e1021 Er
      obtain ⟨_, _, ⟨T1023, L1023, kk1023, n1023⟩, -, X1023, ⟨Lc1023, hQ1023, l1023, y1023, z1023⟩, st1023⟩ := X1021.virtualBack hx (y := y_38) (z := y_38) hown971 (mvT hZ971 (hw _ (gm 168 rfl))) (mvT hZ971 (hw _ (gm 169 rfl))) (notFace_of_selects (args := #[]) (mvT hZ971 (hw _ (gm 171 rfl)))) (mvT hZ971 (hw _ (gm 171 rfl))) (mvT hZ971 (hw _ (gm 170 rfl))) (by decide) (backOf (W := 0) (rmCAs l Z a0 hw [] rr (n + 2) (own_rs n mm c0 c1 c2 u0 u1) fm zC T976.heap n0 O979 SC hzC SAs SHi SLo SP hfm Sr (by omega) (by omega)) hZ971 (hw _ (gm 172 rfl)) (hw _ (gm 7 rfl)) (by decide) (by decide)) q1023a q1023c (g := (mkF m 307 #[vI p1, vI p2, vI p3, vI p4, vI c0, vI c1, vI c2, vI (Int32.ofNat n), vI 0, vI u0, vI u1, vI (Int32.ofNat mm), vR sh, vR su, vR rr, vI (Int32.ofNat n), vI 1] [(.int (Int32.ofNat (n + 2))), (.ref rr)])) rfl (by rw [hml]; rfl) (Steps.refl _) (argsL := [(.int (Int32.ofNat (n + 2)))]) (rest := []) (lenOf pd_28 rfl) rfl (by show 2 * 0 + _ ≤ _; exact Nat.le_of_eq rfl) (hb hby at_307) (fun _ _ => ⟨rfl, e1021, (by decide : 17 + 0 ≤ _), (by decide : 264 + 0 ≤ _)⟩)
      dsimp only [Pt.U, Pt.locs, Pt.cells, Pt.slots] at X1023 l1023 y1023 z1023 st1023 hQ1023
      subst l1023 y1023 z1023
      obtain ⟨rfl, Nq1023, hh1023⟩ := hQ1023
      have N1023 := Fr.app N1021 Nq1023
      have k1024 : Rch p e below S0 T1023 (mkF m 310 #[vI p1, vI p2, vI p3, vI p4, vI c0, vI c1, vI c2, vI (Int32.ofNat n), vI 0, vI u0, vI u1, vI (Int32.ofNat mm), vR sh, vR su, vR rr, vI (Int32.ofNat n), vI 1] [(.int u1)]) := fun t h => k1022 t (st1023.trans (by rw [g5 hbn]; exact h))
      obtain ⟨lo1023, Y1023, M1023⟩ : ∃ lo, Stand p l e room_1 (s.setVm T971.vm) m #[(.int p1), (.int p2), (.int p3), (.int p4)] below meth c T1023 lo 17 264 ∧ Fr n0 lo := ⟨_, X1023, N1023⟩
      clear X1023 N1023
      have k1025 : Rch p e below S0 T1023 (mkF m 322 #[vI p1, vI p2, vI p3, vI p4, vI c0, vI c1, vI c2, vI (Int32.ofNat n), vI 0, vI u0, vI u1, vI (Int32.ofNat mm), vR sh, vR su, vR rr, vI (Int32.ofNat n), vI 1] []) := fun t h => k1024 t (by
          refine XS.iload Y1023.here hx rfl (hb hby at_310) rfl ?_
          refine XS.icmpNo Y1023.here hx rfl (hb hby at_312) rfl (teq (rfl : u1 = u1)).2 ?_
          refine XS.iconst Y1023.here hx rfl (hb hby at_315) ?_
          refine XS.goto Y1023.here hx rfl (pc0 := 316) (pc' := 320) rfl (hb hby at_316) (by decide) (by decide) ?_
          refine XS.istore Y1023.here hx rfl (hb hby at_320) rfl (l' := #[vI p1, vI p2, vI p3, vI p4, vI c0, vI c1, vI c2, vI (Int32.ofNat n), vI 0, vI u0, vI u1, vI (Int32.ofNat mm), vR sh, vR su, vR rr, vI (Int32.ofNat n), vI 1]) rfl ?_
          exact h)
      exact ⟨_, _, Y1023, M1023, hh1023, k1025⟩
    · have k1026 : Rch p e below S0 T1021 (mkF m 322 #[vI p1, vI p2, vI p3, vI p4, vI c0, vI c1, vI c2, vI (Int32.ofNat n), vI 0, vI u0, vI u1, vI (Int32.ofNat mm), vR sh, vR su, vR rr, vI (Int32.ofNat n), vI 1] []) := fun t h => k1021 t (by
          refine XS.iload X1021.here hx rfl (hb hby at_290) rfl ?_
          refine XS.iconst X1021.here hx rfl (hb hby at_292) ?_
          refine XS.icmpYes X1021.here hx rfl (pc0 := 293) (pc' := 322) rfl (hb hby at_293) rfl (flt ((by rw [Int32.lt_iff_toInt_lt, show (1 : Int32).toInt = 1 from by decide, (own_tn (by omega)).2]; omega) : ¬ ((1 : Int32) < (Int32.ofNat mm)))).2.2.2 (by decide) (by decide) ?_
          exact h)
      exact ⟨_, _, X1021, N1021, e1021, k1026⟩
  replace X1027 := X1027.out
  clear lr lh lu g0 g1 g2 g3 g4 g5
  have k1028 : Rch p e below S0 T1027 (mkF m 324 #[vI p1, vI p2, vI p3, vI p4, vI c0, vI c1, vI c2, vI (Int32.ofNat n), vI 0, vI u0, vI u1, vI (Int32.ofNat mm), vR sh, vR su, vR rr, vI (Int32.ofNat n), vI 1] [(.int (1 : Int32))]) := fun t h => k1027 t (by
      refine XS.iload X1027.here hx rfl (hb hby at_322) rfl ?_
      exact h)
  obtain ⟨fs, hr, hrun, hended, hfin⟩ := X1027.leaveW hS971 (by rw [e1027]; exact hkk980) (v := (some (.int (1 : Int32)))) (fun h => by rw [Bd.returns] at h; cases h)
  refine ⟨_, _, ?_, hrun, hended, _, _, rfl, ?_, (by rw [hh]; have q := own_chr rC978 (CHv.at X1027 hZ971 hEL hC978) e1027; exact q), hfin.1, hfin.2.1, hfin.2.2.1, hfin.2.2.2.mono (by decide) (by decide)⟩
  · rw [← hS0]
    refine k1028 _ ?_
    show Steps p.tables e below (T1027.setTop (mkF m 324 #[vI p1, vI p2, vI p3, vI p4, vI c0, vI c1, vI c2, vI (Int32.ofNat n), vI 0, vI u0, vI u1, vI (Int32.ofNat mm), vR sh, vR su, vR rr, vI (Int32.ofNat n), vI 1] [(.int (1 : Int32))])) _
    exact retN X1027 hx (t := .boolean) Bd.returns (by simp) (hb hby at_324) hr
  · show Q_rm0_n Z  h0 n0 _ T1027.heap _
    rw [e1027]
    exact ⟨rfl, N1027⟩
theorem own_len4 (y : Int32) : ∃ n : Nat, n < 4 ∧ y &&& 3 = Int32.ofNat n := by
  have h := c_mask y 3 2 (by decide) (by decide)
  refine ⟨(y &&& 3).toInt.toNat, by omega, Int32.toInt_inj.mp ?_⟩
  rw [(own_tn (by omega)).2]; omega
theorem own_mod3 (y : Int32) : ∃ n : Nat, n < 3 ∧ (y &&& 2147483647) % 3 = Int32.ofNat n := by
  have h := c_mask y 2147483647 31 (by decide) (by decide)
  have q := (c_irem (y &&& 2147483647) 3 3 (by decide)).1 (by omega)
  refine ⟨((y &&& 2147483647) % 3).toInt.toNat, by omega, Int32.toInt_inj.mp ?_⟩
  rw [(own_tn (by omega)).2]; omega
theorem own_all (l : Launch) (Z : State) (a0 : Array Value) (hw : ∀ d ∈ tables_1, d.before a0 Z = true) (ws : List Jvm.Cond) (p1 p2 p3 p4 zC : Int32) (fm : Value) (h0 : Heap) (n0 : Nat) (O0 : Old Z n0 h0) (SC : Sta Z Z.heap "java/lang/String" "COMPACT_STRINGS" "Z" (.int zC)) (hzC : ¬ zC = 0) (SAs : Sta Z Z.heap "java/lang/StringUTF16" "$assertionsDisabled" "Z" (.int (1 : Int32))) (SHi : Sta Z Z.heap "java/lang/StringUTF16" "HI_BYTE_SHIFT" "I" (.int (0 : Int32))) (SLo : Sta Z Z.heap "java/lang/StringUTF16" "LO_BYTE_SHIFT" "I" (.int (8 : Int32))) (SP : Sta Z Z.heap "jdk/internal/util/Preconditions" "SIOOBE_FORMATTER" "Ljava/util/function/BiFunction;" fm) (hfm : fm = .null ∨ ∃ wP, fm = .ref wP) :
    MetFree l x (head1 (Jvm.Cond.code x code maxLocals ret :: ws) room_1) (fun a U => a = #[(.int p1), (.int p2), (.int p3), (.int p4)] ∧ Z.Warmed39 U.vm ∧ U.heap = h0 ∧ CHv Z consts_1 U.vm h0) (fun _ _ _ _ _ => True) (fun _ U o U' => ∃ v L, o = .returned v ∧ Q_rm0_z Z h0 n0 v U'.heap L ∧ CHr Z consts_1 U.vm U.heap U'.vm U'.heap ∧ ReturnedEndW U o U' L room_1.cells room_1.slots) := by
  obtain ⟨mm, hm3, hm⟩ := own_mod3 p4
  by_cases hz : (((p2.toUInt32 >>> ((18 : Int32) &&& 31).toUInt32).toInt32) &&& (1 : Int32)) = 0
  · obtain ⟨n, hn4, hnn⟩ := own_len4 ((p2.toUInt32 >>> ((16 : Int32) &&& 31).toUInt32).toInt32)
    exact rm0_n l Z a0 hw ws p1 p2 p3 p4 zC fm n mm h0 n0 O0 SC hzC SAs SHi SLo SP hfm hz hnn hn4 hm hm3
  · exact rm0_z l Z a0 hw ws p1 p2 p3 p4 zC fm mm h0 n0 O0 SC hzC SAs SHi SLo SP hfm hz hm hm3
set_option maxRecDepth 65536 in
set_option maxHeartbeats 40000000 in
theorem comes_1 {Post : Tables → Env → Array Value → State → Outcome → State → Prop} (hpost : ∀ tb e args s v u, (limb_1_1.after args s (.returned v) u = true ∧ limb_1_2.after args s (.returned v) u = true ∧ True) → ReturnedEndW s (.returned v) u (Jvm.fieldLocs frame_1_writes args s ++ Jvm.arrayLocs frame_1_arrays args s ++ Jvm.staticLocs frame_1_statics s) 40 1344 → Post tb e args s (.returned v) u) :
    ArmFor flags0 classFile x code maxLocals ret World_1 tables_1 room_1 Calls_1 rest_1 Pre_1 Post := by
  intro l hfl _ _ p e ha hc hk s m args below hf hA hF happ hP
  obtain ⟨hcalls, hrest, hpre⟩ := hP
  obtain ⟨-, -, -, hnamed, -, -, -, hat⟩ := (Spec.applies_iff hf).mp happ
  obtain ⟨hg, hn⟩ := and_e (Cond.before_iff.mp (show (Jvm.Cond.and given_1 narrow_1).before args s = true from hpre))
  obtain ⟨g_0, g_1⟩ := and_e hg
  obtain ⟨gi_0, gr_0⟩ := and_e g_1
  obtain ⟨gi_1, gr_1⟩ := and_e gr_0
  obtain ⟨gi_2, gr_2⟩ := and_e gr_1
  obtain ⟨w0, w1, w2, w3, rfl⟩ : ∃ w0 w1 w2 w3 : Value, args = #[w0, w1, w2, w3] := by
    have hs : args.size = 4 := by simpa [Cond.value, given_1] using g_0
    obtain ⟨L⟩ := args
    match L, hs with
    | [w0, w1, w2, w3], _ => exact ⟨w0, w1, w2, w3, rfl⟩
  have hw := fun d (hd : d ∈ tables_1) => atoms_spec (ws := Jvm.Cond.code x code maxLocals ret :: tables_1) hat d (List.mem_cons_of_mem _ hd)
  have hfit : Fit s := fun {y c} hc i hi => by
    obtain ⟨ha, rfl⟩ := Array.getElem?_eq_some_iff.mp hc
    have q := List.all_eq_true.mp ((Array.all_eq_true_iff_forall_mem.mp hF) _ (Array.getElem_mem ha)) i (List.mem_range.mpr hi)
    simpa [Array.getElem?_eq_getElem hi] using q
  obtain ⟨i0, ei0⟩ := is_v gi_0
  obtain rfl : w0 = (.int i0) := Option.some.inj ei0
  obtain ⟨i1, ei1⟩ := is_v gi_1
  obtain rfl : w1 = (.int i1) := Option.some.inj ei1
  obtain ⟨i2, ei2⟩ := is_v gi_2
  obtain rfl : w2 = (.int i2) := Option.some.inj ei2
  obtain ⟨i3, ei3⟩ := is_v gr_2
  obtain rfl : w3 = (.int i3) := Option.some.inj ei3
  obtain ⟨hsets, hown0⟩ := atoms_of _ (rest_1_c_eq ▸ (show rest_1_c.before _ s = true from hrest))
  have hr0 := Cond.before_iff.mp hown0
  obtain ⟨zC, eC⟩ := is_v (Cond.before_iff.mp (hsets _ (gm 1 rfl)))
  have SC := Sta.start eC (Or.inl (hsets _ (gm 0 rfl)))
  have hzC : ¬ zC = 0 := fun q => by
    have u := not_v (Cond.before_iff.mp (hsets _ (gm 2 rfl)))
    simp only [Cond.value, eC, Term.int_eval, q] at u
    simp at u
  have SAs := Sta.start (own_eqi (Cond.before_iff.mp (hsets _ (gm 12 rfl)))) (Or.inl (hsets _ (gm 11 rfl)))
  have SHi := Sta.start (own_eqi (Cond.before_iff.mp (hsets _ (gm 15 rfl)))) (Or.inl (hsets _ (gm 14 rfl)))
  have SLo := Sta.start (own_eqi (Cond.before_iff.mp (hsets _ (gm 18 rfl)))) (Or.inl (hsets _ (gm 17 rfl)))
  obtain ⟨fm, eP, rP⟩ := isR_v (Cond.before_iff.mp (hsets _ (gm 8 rfl)))
  have SP := Sta.start eP (Or.inl (hsets _ (gm 7 rfl)))
  have hfm := ref_cases rP
  have hEL : EW s _ consts_1 := (EW.cons (hw _ (gm 19 rfl)) (by decide +kernel) EW.nil)
  have hCH : CHv s consts_1 s.vm s.heap := CHv.start hEL (fun p hp => hcalls.1 p hp) (hsets _ (gm 2 rfl)) (hw _ (gm 20 rfl)) (hw _ (gm 6 rfl))
  obtain ⟨n, o, h1, h2, h3, _, L, rfl, ⟨rfl, N⟩, -, hq⟩ := own_all l s _ hw tables_1 i0 i1 i2 i3 zC fm s.heap s.heap.size (Old.start s) SC hzC SAs SHi SLo SP hfm p e ha hc hk s m _ below hf ((Spec.applies_iff_loose hf).mp happ).1 ⟨rfl, State.Warmed39.refl s, rfl, hCH⟩ trivial
  refine ⟨n, _, h1, h2, h3, hpost _ _ _ _ _ _ ⟨Cond.after_iff.mpr rfl, Cond.after_iff.mpr (eq_i res_at (Term.int_eval (1)) rfl), trivial⟩ ⟨hq.1, hq.2.1, hq.2.2.1, (hq.2.2.2.sift fun y hy => Or.inr (N y hy)).mono (by decide) (by decide)⟩⟩
theorem main_1_1 : Claimed_1_1 := comes_1 fun _ _ _ _ _ _ h hF => ⟨h.1, hF⟩
theorem main_1_2 : Claimed_1_2 := comes_1 fun _ _ _ _ _ _ h hF => ⟨h.2.1, hF⟩
end Jvm.Pilot.@@N@@
namespace Jvm.Pilot.@@N@@
open Jvm Jvm.ClassFile Sem Op Lib Jvm.Free Jvm.Stand Jvm.Pilot.@@N@@.Jvm.D
/-! MADE BY PROGRAM (witnessworld.py) out of the Statement's table words and the real class files: 26 classes; the members and pool entries that the words name. The judged class is class 1, her method 3. -/
namespace start1
open Jvm.ClassFile
def u (s : String) : CpInfo := .utf8 (stringToUtf16 s)
/-- a pool by its gaps: so many unusable entries, then the entry; so many at the end -/
def gap : Nat → List CpInfo → List CpInfo
  | 0, r => r
  | n + 1, r => .unusable :: gap n r
def poolList (es : List (Nat × CpInfo)) (last : Nat) : List CpInfo := es.foldr (fun e r => gap e.1 (e.2 :: r)) (gap last [])
def pool (es : List (Nat × CpInfo)) (last : Nat) : Array CpInfo := ⟨poolList es last⟩
def fileOf (pool : Array CpInfo) (this : Nat) (attrs : Array Attribute := #[]) (ms : Array MethodInfo := #[]) (fl : Nat := 33) (sup : Nat := 0) (ifs : Array Nat := #[]) (fds : Array FieldInfo := #[]) : ClassFile where
  minorVersion := 0
  majorVersion := 65
  constantPool := pool
  accessFlags := fl
  thisClass := this
  superClass := sup
  interfaces := ifs
  fields := fds
  methods := ms
  attributes := attrs
def plain (name : String) (sup : Option ClassId) : Class where
  name := name
  kind := .ordinary
  loader := none
  accessFlags := 33
  super := sup
  interfaces := #[]
  cf := none
  fields := #[]
  methods := #[]
  instanceTypes := #[]
  staticTypes := #[]
  resolved := #[]
  callSites := []
  init := .initialized
  statics := none
  mirror := none

def pool0 : Array CpInfo := pool [(5, u "<init>"), (0, u "()V"), (1, .class_ 10), (1, u "java/lang/Object")] 113

def k0c0 : Code := { maxStack := 0, maxLocals := 1, code := object_method_1_code, exceptionTable := #[], attributes := #[] }
def k0m0 : Method := { name := "<init>", desc := "()V", sig := { parameters := [], returnType := none }, accessFlags := 1, code := some k0c0 }
/-- java/lang/Object -/
def k0 : Class := { plain "java/lang/Object" none with
  accessFlags := 33
  interfaces := #[]
  cf := some (fileOf pool0 8 #[] #[{ accessFlags := 1, nameIndex := 5, descriptorIndex := 6, attributes := #[] }] 33 0 #[] #[])
  fields := #[]
  methods := #[k0m0]
  instanceTypes := #[]
  staticTypes := #[]
  resolved := Array.replicate 124 none
  statics := none }

def pool1 : Array CpInfo := pool [(2, .class_ 4), (1, u "java/lang/Object"), (0, u "<init>"), (0, u "()V"), (0, .class_ 8), (0, u "java/lang/String"), (0, .methodref 7 10), (0, .nameAndType 5 11), (0, u "([C)V"), (0, .integer 2147483647), (0, .methodref 14 15), (0, .class_ 16), (0, .nameAndType 17 18), (0, u "com/example/nuthatch/nuthatch/EntryNameMemberPinLaw"), (0, u "text"), (0, u "(ICCC)Ljava/lang/String;"), (0, .methodref 20 21), (0, .class_ 22), (0, .nameAndType 23 24), (0, u "com/example/nuthatch/nuthatch/EntryName"), (0, u "member"), (0, u "(Ljava/lang/String;Ljava/lang/String;)Ljava/lang/String;"), (0, .methodref 7 26), (0, .nameAndType 27 28), (0, u "length"), (0, u "()I"), (0, .methodref 7 30), (0, .nameAndType 31 32), (0, u "charAt"), (0, u "(I)C"), (0, .methodref 14 34), (0, .nameAndType 35 36), (0, u "named"), (0, u "(C)C"), (3, u "law"), (0, u "(IIII)Z")] 2

def k1m0 : Method := { name := "<init>", desc := "()V", sig := { parameters := [], returnType := none }, accessFlags := 2, code := none }
def k1c1 : Code := { maxStack := 6, maxLocals := 4, code := method_2_code, exceptionTable := #[], attributes := #[] }
def k1m1 : Method := { name := "text", desc := "(ICCC)Ljava/lang/String;", sig := { parameters := [.int, .char, .char, .char], returnType := some (.object "java/lang/String") }, accessFlags := 10, code := some k1c1 }
def k1c2 : Code := { maxStack := 2, maxLocals := 4, code := method_3_code, exceptionTable := #[], attributes := #[] }
def k1m2 : Method := { name := "named", desc := "(C)C", sig := { parameters := [.char], returnType := some .char }, accessFlags := 10, code := some k1c2 }
def k1c3 : Code := { maxStack := 4, maxLocals := 17, code := code, exceptionTable := #[], attributes := #[] }
def k1m3 : Method := { name := "law", desc := "(IIII)Z", sig := { parameters := [.int, .int, .int, .int], returnType := some .boolean }, accessFlags := 9, code := some k1c3 }
/-- com/example/nuthatch/nuthatch/EntryNameMemberPinLaw -/
def k1 : Class := { plain "com/example/nuthatch/nuthatch/EntryNameMemberPinLaw" (some 0) with
  accessFlags := 49
  interfaces := #[]
  cf := some (fileOf pool1 14 #[] #[{ accessFlags := 2, nameIndex := 5, descriptorIndex := 6, attributes := #[] }, { accessFlags := 10, nameIndex := 17, descriptorIndex := 18, attributes := #[] }, { accessFlags := 10, nameIndex := 35, descriptorIndex := 36, attributes := #[] }, { accessFlags := 9, nameIndex := 40, descriptorIndex := 41, attributes := #[] }] 49 2 #[] #[])
  fields := #[]
  methods := #[k1m0, k1m1, k1m2, k1m3]
  instanceTypes := #[]
  staticTypes := #[]
  resolved := Array.replicate 44 none
  statics := none }

def pool2 : Array CpInfo := pool [(1, .class_ 2), (0, u "java/io/Serializable"), (0, .class_ 4), (0, u "java/lang/Object")] 2

/-- java/io/Serializable -/
def k2 : Class := { plain "java/io/Serializable" (some 0) with
  accessFlags := 1537
  interfaces := #[]
  cf := some (fileOf pool2 1 #[] #[] 1537 3 #[] #[])
  fields := #[]
  methods := #[]
  instanceTypes := #[]
  staticTypes := #[]
  resolved := Array.replicate 7 none
  statics := none }

def pool3 : Array CpInfo := pool [(1, .class_ 2), (0, u "java/lang/Comparable"), (0, .class_ 4), (0, u "java/lang/Object")] 7

/-- java/lang/Comparable -/
def k3 : Class := { plain "java/lang/Comparable" (some 0) with
  accessFlags := 1537
  interfaces := #[]
  cf := some (fileOf pool3 1 #[] #[] 1537 3 #[] #[])
  fields := #[]
  methods := #[]
  instanceTypes := #[]
  staticTypes := #[]
  resolved := Array.replicate 12 none
  statics := none }

def pool4 : Array CpInfo := pool [(2, .class_ 4), (1, u "java/lang/CharSequence"), (42, .class_ 48), (0, u "java/lang/CharSequence$1CodePointIterator"), (10, .class_ 60), (0, u "java/lang/CharSequence$1CharIterator"), (5, .class_ 67), (0, u "java/lang/Object")] 63

/-- java/lang/CharSequence -/
def k4 : Class := { plain "java/lang/CharSequence" (some 0) with
  accessFlags := 1537
  interfaces := #[]
  cf := some (fileOf pool4 2 #[.nestMembers #[47, 59]] #[] 1537 66 #[] #[])
  fields := #[]
  methods := #[]
  instanceTypes := #[]
  staticTypes := #[]
  resolved := Array.replicate 131 none
  statics := none }

def pool5 : Array CpInfo := pool [(1, .class_ 2), (0, u "java/lang/constant/Constable"), (0, .class_ 4), (0, u "java/lang/Object")] 6

/-- java/lang/constant/Constable -/
def k5 : Class := { plain "java/lang/constant/Constable" (some 0) with
  accessFlags := 1537
  interfaces := #[]
  cf := some (fileOf pool5 1 #[] #[] 1537 3 #[] #[])
  fields := #[]
  methods := #[]
  instanceTypes := #[]
  staticTypes := #[]
  resolved := Array.replicate 11 none
  statics := none }

def pool6 : Array CpInfo := pool [(1, .class_ 2), (0, u "java/lang/constant/ConstantDesc"), (0, .class_ 4), (0, u "java/lang/Object")] 32

/-- java/lang/constant/ConstantDesc -/
def k6 : Class := { plain "java/lang/constant/ConstantDesc" (some 0) with
  accessFlags := 1537
  interfaces := #[]
  cf := some (fileOf pool6 1 #[] #[] 1537 3 #[] #[])
  fields := #[]
  methods := #[]
  instanceTypes := #[]
  staticTypes := #[]
  resolved := Array.replicate 37 none
  statics := none }

def pool7 : Array CpInfo := pool [(1, .methodref 2 3), (0, .class_ 4), (0, .nameAndType 5 6), (0, u "java/lang/Object"), (0, u "<init>"), (0, u "()V"), (0, .string 8), (0, u ""), (0, .fieldref 10 11), (0, .class_ 12), (0, .nameAndType 13 14), (0, u "java/lang/String"), (0, u "value"), (0, u "[B"), (0, .fieldref 10 16), (0, .nameAndType 17 18), (0, u "coder"), (0, u "B"), (2, u "hash"), (0, u "I"), (2, u "hashIsZero"), (0, u "Z"), (0, .methodref 10 28), (0, .nameAndType 5 29), (0, u "([CIILjava/lang/Void;)V"), (6, u "checkBoundsOffCount"), (0, u "(III)I"), (0, .fieldref 10 39), (0, .nameAndType 40 26), (0, u "COMPACT_STRINGS"), (1, .class_ 44), (1, u "java/lang/StringUTF16"), (0, u "compress"), (1, .methodref 42 48), (0, .nameAndType 49 50), (0, u "coderFromArrayLen"), (0, u "([BI)B"), (3, .methodref 55 56), (0, .class_ 57), (0, .nameAndType 58 59), (0, u "java/util/Arrays"), (0, u "copyOfRange"), (0, u "([BII)[B"), (47, .class_ 109), (1, u "java/lang/StringLatin1"), (32, u "()Z"), (34, .methodref 42 178), (0, .nameAndType 45 179), (0, u "([CII)[B"), (13, .class_ 195), (1, u "java/lang/System"), (16, .methodref 193 213), (0, .nameAndType 214 215), (0, u "arraycopy"), (0, u "(Ljava/lang/Object;ILjava/lang/Object;II)V"), (118, u "()I"), (0, .methodref 10 336), (0, .nameAndType 17 337), (0, u "()B"), (2, u "()[B"), (22, u "([BI)C"), (27, u "(II)V"), (35, u "(I)C"), (61, .methodref 10 490), (0, .nameAndType 5 491), (0, u "(Ljava/lang/AbstractStringBuilder;Ljava/lang/Void;)V"), (0, .methodref 10 493), (0, .nameAndType 494 142), (0, u "isLatin1"), (0, .methodref 107 496), (0, .nameAndType 497 363), (0, u "charAt"), (0, .methodref 42 496), (2, u "checkIndex"), (4, .nameAndType 507 334), (0, u "length"), (24, u "getBytes"), (16, .methodref 550 506), (0, .class_ 551), (0, u "java/lang/AbstractStringBuilder"), (0, .methodref 550 553), (0, .nameAndType 554 340), (0, u "getValue"), (20, .class_ 576), (0, u "java/lang/CharSequence"), (22, u "CASE_INSENSITIVE_ORDER"), (0, u "Ljava/util/Comparator;"), (220, u "([BIB)V"), (188, u "([C)V"), (36, .methodref 550 493), (0, .fieldref 550 1049), (0, .nameAndType 1050 26), (0, u "maybeLatin1"), (2, .fieldref 1054 1055), (0, .class_ 1056), (0, .nameAndType 1057 1058), (0, u "jdk/internal/util/Preconditions"), (0, u "SIOOBE_FORMATTER"), (0, u "Ljava/util/function/BiFunction;"), (0, .methodref 1054 1060), (0, .nameAndType 501 1061), (0, u "(IILjava/util/function/BiFunction;)I"), (2, u "(IIILjava/util/function/BiFunction;)I"), (0, .methodref 1054 1066), (0, .nameAndType 1067 1064), (0, u "checkFromIndexSize"), (33, u "serialPersistentFields"), (0, u "[Ljava/io/ObjectStreamField;"), (0, .class_ 1104), (0, u "java/lang/String$CaseInsensitiveComparator"), (1, .class_ 1107), (0, u "java/io/Serializable"), (0, .class_ 1109), (0, u "java/lang/Comparable"), (0, .class_ 1111), (0, u "java/lang/constant/Constable"), (0, .class_ 1113), (0, u "java/lang/constant/ConstantDesc"), (2, u "serialVersionUID"), (0, u "J"), (3, u "REPL"), (0, u "C"), (2, u "LATIN1"), (1, u "UTF16"), (105, u "(Ljava/lang/StringBuilder;)V")] 217

def k7m0 : Method := { name := "<init>", desc := "()V", sig := { parameters := [], returnType := none }, accessFlags := 1, code := none }
def k7c1 : Code := { maxStack := 5, maxLocals := 2, code := jdk_42_method_3_code, exceptionTable := #[], attributes := #[] }
def k7m1 : Method := { name := "<init>", desc := "([C)V", sig := { parameters := [(.array .char)], returnType := none }, accessFlags := 1, code := some k7c1 }
def k7c2 : Code := { maxStack := 3, maxLocals := 2, code := jdk_42_method_53_code, exceptionTable := #[], attributes := #[] }
def k7m2 : Method := { name := "<init>", desc := "(Ljava/lang/StringBuilder;)V", sig := { parameters := [(.object "java/lang/StringBuilder")], returnType := none }, accessFlags := 1, code := some k7c2 }
def k7c3 : Code := { maxStack := 2, maxLocals := 1, code := jdk_42_method_54_code, exceptionTable := #[], attributes := #[] }
def k7m3 : Method := { name := "length", desc := "()I", sig := { parameters := [], returnType := some .int }, accessFlags := 1, code := some k7c3 }
def k7c4 : Code := { maxStack := 2, maxLocals := 2, code := jdk_42_method_56_code, exceptionTable := #[], attributes := #[] }
def k7m4 : Method := { name := "charAt", desc := "(I)C", sig := { parameters := [.int], returnType := some .char }, accessFlags := 1, code := some k7c4 }
def k7c5 : Code := { maxStack := 5, maxLocals := 4, code := jdk_42_method_147_code, exceptionTable := #[], attributes := #[] }
def k7m5 : Method := { name := "getBytes", desc := "([BIB)V", sig := { parameters := [(.array .byte), .int, .byte], returnType := none }, accessFlags := 0, code := some k7c5 }
def k7c6 : Code := { maxStack := 4, maxLocals := 6, code := jdk_42_method_149_code, exceptionTable := #[], attributes := #[] }
def k7m6 : Method := { name := "<init>", desc := "([CIILjava/lang/Void;)V", sig := { parameters := [(.array .char), .int, .int, (.object "java/lang/Void")], returnType := none }, accessFlags := 2, code := some k7c6 }
def k7c7 : Code := { maxStack := 5, maxLocals := 5, code := jdk_42_method_150_code, exceptionTable := #[], attributes := #[] }
def k7m7 : Method := { name := "<init>", desc := "(Ljava/lang/AbstractStringBuilder;Ljava/lang/Void;)V", sig := { parameters := [(.object "java/lang/AbstractStringBuilder"), (.object "java/lang/Void")], returnType := none }, accessFlags := 0, code := some k7c7 }
def k7c8 : Code := { maxStack := 1, maxLocals := 1, code := jdk_42_method_152_code, exceptionTable := #[], attributes := #[] }
def k7m8 : Method := { name := "coder", desc := "()B", sig := { parameters := [], returnType := some .byte }, accessFlags := 0, code := some k7c8 }
def k7c9 : Code := { maxStack := 1, maxLocals := 1, code := jdk_42_method_154_code, exceptionTable := #[], attributes := #[] }
def k7m9 : Method := { name := "isLatin1", desc := "()Z", sig := { parameters := [], returnType := some .boolean }, accessFlags := 0, code := some k7c9 }
def k7c10 : Code := { maxStack := 3, maxLocals := 2, code := jdk_42_method_155_code, exceptionTable := #[], attributes := #[] }
def k7m10 : Method := { name := "checkIndex", desc := "(II)V", sig := { parameters := [.int, .int], returnType := none }, accessFlags := 8, code := some k7c10 }
def k7c11 : Code := { maxStack := 4, maxLocals := 3, code := jdk_42_method_157_code, exceptionTable := #[], attributes := #[] }
def k7m11 : Method := { name := "checkBoundsOffCount", desc := "(III)I", sig := { parameters := [.int, .int, .int], returnType := some .int }, accessFlags := 8, code := some k7c11 }
/-- java/lang/String -/
def k7 : Class := { plain "java/lang/String" (some 0) with
  accessFlags := 49
  interfaces := #[2, 3, 4, 5, 6]
  cf := some (fileOf pool7 10 #[.nestMembers #[1103]] #[{ accessFlags := 1, nameIndex := 5, descriptorIndex := 6, attributes := #[] }, { accessFlags := 1, nameIndex := 5, descriptorIndex := 1010, attributes := #[] }, { accessFlags := 1, nameIndex := 5, descriptorIndex := 1233, attributes := #[] }, { accessFlags := 1, nameIndex := 507, descriptorIndex := 334, attributes := #[] }, { accessFlags := 1, nameIndex := 497, descriptorIndex := 427, attributes := #[] }, { accessFlags := 0, nameIndex := 532, descriptorIndex := 821, attributes := #[] }, { accessFlags := 2, nameIndex := 5, descriptorIndex := 29, attributes := #[] }, { accessFlags := 0, nameIndex := 5, descriptorIndex := 491, attributes := #[] }, { accessFlags := 0, nameIndex := 17, descriptorIndex := 337, attributes := #[] }, { accessFlags := 0, nameIndex := 494, descriptorIndex := 142, attributes := #[] }, { accessFlags := 8, nameIndex := 501, descriptorIndex := 391, attributes := #[] }, { accessFlags := 8, nameIndex := 36, descriptorIndex := 37, attributes := #[] }] 49 2 #[1106, 1108, 575, 1110, 1112] #[{ accessFlags := 18, nameIndex := 13, descriptorIndex := 14, attributes := #[] }, { accessFlags := 18, nameIndex := 17, descriptorIndex := 18, attributes := #[] }, { accessFlags := 2, nameIndex := 21, descriptorIndex := 22, attributes := #[] }, { accessFlags := 2, nameIndex := 25, descriptorIndex := 26, attributes := #[] }, { accessFlags := 26, nameIndex := 1116, descriptorIndex := 1117, attributes := #[] }, { accessFlags := 24, nameIndex := 40, descriptorIndex := 26, attributes := #[] }, { accessFlags := 26, nameIndex := 1101, descriptorIndex := 1102, attributes := #[] }, { accessFlags := 26, nameIndex := 1121, descriptorIndex := 1122, attributes := #[] }, { accessFlags := 25, nameIndex := 599, descriptorIndex := 600, attributes := #[] }, { accessFlags := 24, nameIndex := 1125, descriptorIndex := 18, attributes := #[] }, { accessFlags := 24, nameIndex := 1127, descriptorIndex := 18, attributes := #[] }])
  fields := #[{ name := "value", type := (.array .byte), accessFlags := 18, slot := 0, constantValue := 0 }, { name := "coder", type := .byte, accessFlags := 18, slot := 1, constantValue := 0 }, { name := "hash", type := .int, accessFlags := 2, slot := 2, constantValue := 0 }, { name := "hashIsZero", type := .boolean, accessFlags := 2, slot := 3, constantValue := 0 }, { name := "serialVersionUID", type := .long, accessFlags := 26, slot := 0, constantValue := 0 }, { name := "COMPACT_STRINGS", type := .boolean, accessFlags := 24, slot := 1, constantValue := 0 }, { name := "serialPersistentFields", type := (.array (.object "java/io/ObjectStreamField")), accessFlags := 26, slot := 2, constantValue := 0 }, { name := "REPL", type := .char, accessFlags := 26, slot := 3, constantValue := 0 }, { name := "CASE_INSENSITIVE_ORDER", type := (.object "java/util/Comparator"), accessFlags := 25, slot := 4, constantValue := 0 }, { name := "LATIN1", type := .byte, accessFlags := 24, slot := 5, constantValue := 0 }, { name := "UTF16", type := .byte, accessFlags := 24, slot := 6, constantValue := 0 }]
  methods := #[k7m0, k7m1, k7m2, k7m3, k7m4, k7m5, k7m6, k7m7, k7m8, k7m9, k7m10, k7m11]
  instanceTypes := #[(.array .byte), .byte, .int, .boolean]
  staticTypes := #[.long, .boolean, (.array (.object "java/io/ObjectStreamField")), .char, (.object "java/util/Comparator"), .byte, .byte]
  resolved := Array.replicate 1451 none
  statics := some 0 }

def pool8 : Array CpInfo := pool [(3, .class_ 4), (0, u "java/lang/String"), (1, .class_ 8), (1, u "java/lang/Object"), (0, u "<init>"), (0, u "()V"), (0, .methodref 12 13), (0, .class_ 14), (0, .nameAndType 15 16), (0, u "java/lang/StringUTF16"), (0, u "newBytesLength"), (0, u "(I)I"), (3, .integer 1073741823), (23, .fieldref 12 45), (0, .nameAndType 46 47), (0, u "$assertionsDisabled"), (0, u "Z"), (0, .methodref 12 49), (0, .nameAndType 50 51), (0, u "length"), (0, u "([B)I"), (7, .fieldref 12 60), (0, .nameAndType 61 62), (0, u "HI_BYTE_SHIFT"), (0, u "I"), (0, .fieldref 12 64), (0, .nameAndType 65 62), (0, u "LO_BYTE_SHIFT"), (1, .methodref 12 68), (0, .nameAndType 69 70), (0, u "checkIndex"), (0, u "(I[B)V"), (0, .methodref 12 72), (0, .nameAndType 73 74), (0, u "getChar"), (0, u "([BI)C"), (24, u "(II[B)V"), (7, .methodref 12 108), (0, .nameAndType 109 110), (0, u "newBytesFor"), (0, u "(I)[B"), (0, .methodref 12 112), (0, .nameAndType 113 114), (0, u "putChar"), (0, u "([BII)V"), (0, .methodref 12 116), (0, .nameAndType 117 118), (0, u "compress"), (0, u "([CI[BII)I"), (0, .methodref 12 120), (0, .nameAndType 121 122), (0, u "toBytes"), (0, u "([CII)[B"), (17, u "inflate"), (0, u "([BI[BII)V"), (31, .methodref 12 174), (0, .nameAndType 175 99), (0, u "checkBoundsOffCount"), (85, u "coderFromArrayLen"), (0, u "([BI)B"), (18, u "(III)I"), (87, .class_ 371), (1, u "java/lang/StringUTF16$LinesSpliterator"), (20, u "charAt"), (21, .methodref 3 415), (0, .nameAndType 69 416), (0, u "(II)V"), (2, .methodref 3 420), (0, .nameAndType 175 281), (9, u "MAX_LENGTH"), (196, .class_ 628), (0, u "java/lang/StringUTF16$CodePointsSpliterator"), (0, .class_ 630), (0, u "java/lang/StringUTF16$CharsSpliterator")] 4

def k8m0 : Method := { name := "<init>", desc := "()V", sig := { parameters := [], returnType := none }, accessFlags := 0, code := none }
def k8c1 : Code := { maxStack := 1, maxLocals := 1, code := jdk_52_method_2_code, exceptionTable := #[], attributes := #[] }
def k8m1 : Method := { name := "newBytesFor", desc := "(I)[B", sig := { parameters := [.int], returnType := some (.array .byte) }, accessFlags := 9, code := some k8c1 }
def k8c2 : Code := { maxStack := 4, maxLocals := 1, code := jdk_52_method_3_code, exceptionTable := #[], attributes := #[] }
def k8m2 : Method := { name := "newBytesLength", desc := "(I)I", sig := { parameters := [.int], returnType := some .int }, accessFlags := 9, code := some k8c2 }
def k8c3 : Code := { maxStack := 4, maxLocals := 3, code := jdk_52_method_4_code, exceptionTable := #[], attributes := #[] }
def k8m3 : Method := { name := "putChar", desc := "([BII)V", sig := { parameters := [(.array .byte), .int, .int], returnType := none }, accessFlags := 8, code := some k8c3 }
def k8c4 : Code := { maxStack := 3, maxLocals := 2, code := jdk_52_method_5_code, exceptionTable := #[], attributes := #[] }
def k8m4 : Method := { name := "getChar", desc := "([BI)C", sig := { parameters := [(.array .byte), .int], returnType := some .char }, accessFlags := 8, code := some k8c4 }
def k8c5 : Code := { maxStack := 2, maxLocals := 1, code := jdk_52_method_6_code, exceptionTable := #[], attributes := #[] }
def k8m5 : Method := { name := "length", desc := "([B)I", sig := { parameters := [(.array .byte)], returnType := some .int }, accessFlags := 9, code := some k8c5 }
def k8c6 : Code := { maxStack := 4, maxLocals := 5, code := jdk_52_method_14_code, exceptionTable := #[], attributes := #[] }
def k8m6 : Method := { name := "toBytes", desc := "([CII)[B", sig := { parameters := [(.array .char), .int, .int], returnType := some (.array .byte) }, accessFlags := 9, code := some k8c6 }
def k8c7 : Code := { maxStack := 2, maxLocals := 2, code := jdk_52_method_15_code, exceptionTable := #[], attributes := #[] }
def k8m7 : Method := { name := "coderFromArrayLen", desc := "([BI)B", sig := { parameters := [(.array .byte), .int], returnType := some .byte }, accessFlags := 8, code := some k8c7 }
def k8c8 : Code := { maxStack := 5, maxLocals := 6, code := jdk_52_method_16_code, exceptionTable := #[], attributes := #[] }
def k8m8 : Method := { name := "compress", desc := "([CII)[B", sig := { parameters := [(.array .char), .int, .int], returnType := some (.array .byte) }, accessFlags := 9, code := some k8c8 }
def k8c9 : Code := { maxStack := 3, maxLocals := 7, code := jdk_52_method_21_code, exceptionTable := #[], attributes := #[] }
def k8m9 : Method := { name := "compress", desc := "([CI[BII)I", sig := { parameters := [(.array .char), .int, (.array .byte), .int, .int], returnType := some .int }, accessFlags := 9, code := some k8c9 }
def k8c10 : Code := { maxStack := 2, maxLocals := 2, code := jdk_52_method_83_code, exceptionTable := #[], attributes := #[] }
def k8m10 : Method := { name := "charAt", desc := "([BI)C", sig := { parameters := [(.array .byte), .int], returnType := some .char }, accessFlags := 9, code := some k8c10 }
def k8c11 : Code := { maxStack := 4, maxLocals := 6, code := jdk_52_method_86_code, exceptionTable := #[], attributes := #[] }
def k8m11 : Method := { name := "inflate", desc := "([BI[BII)V", sig := { parameters := [(.array .byte), .int, (.array .byte), .int, .int], returnType := none }, accessFlags := 9, code := some k8c11 }
def k8c12 : Code := { maxStack := 2, maxLocals := 2, code := jdk_52_method_91_code, exceptionTable := #[], attributes := #[] }
def k8m12 : Method := { name := "checkIndex", desc := "(I[B)V", sig := { parameters := [.int, (.array .byte)], returnType := none }, accessFlags := 9, code := some k8c12 }
def k8c13 : Code := { maxStack := 3, maxLocals := 3, code := jdk_52_method_94_code, exceptionTable := #[], attributes := #[] }
def k8m13 : Method := { name := "checkBoundsOffCount", desc := "(II[B)V", sig := { parameters := [.int, .int, (.array .byte)], returnType := none }, accessFlags := 9, code := some k8c13 }
/-- java/lang/StringUTF16 -/
def k8 : Class := { plain "java/lang/StringUTF16" (some 0) with
  accessFlags := 48
  interfaces := #[]
  cf := some (fileOf pool8 12 #[.nestMembers #[627, 629, 369]] #[{ accessFlags := 0, nameIndex := 9, descriptorIndex := 10, attributes := #[] }, { accessFlags := 9, nameIndex := 109, descriptorIndex := 110, attributes := #[] }, { accessFlags := 9, nameIndex := 15, descriptorIndex := 16, attributes := #[] }, { accessFlags := 8, nameIndex := 113, descriptorIndex := 114, attributes := #[] }, { accessFlags := 8, nameIndex := 73, descriptorIndex := 74, attributes := #[] }, { accessFlags := 9, nameIndex := 50, descriptorIndex := 51, attributes := #[] }, { accessFlags := 9, nameIndex := 121, descriptorIndex := 122, attributes := #[] }, { accessFlags := 8, nameIndex := 261, descriptorIndex := 262, attributes := #[] }, { accessFlags := 9, nameIndex := 117, descriptorIndex := 122, attributes := #[] }, { accessFlags := 9, nameIndex := 117, descriptorIndex := 118, attributes := #[] }, { accessFlags := 9, nameIndex := 392, descriptorIndex := 74, attributes := #[] }, { accessFlags := 9, nameIndex := 140, descriptorIndex := 141, attributes := #[] }, { accessFlags := 9, nameIndex := 69, descriptorIndex := 70, attributes := #[] }, { accessFlags := 9, nameIndex := 175, descriptorIndex := 99, attributes := #[] }] 48 6 #[] #[{ accessFlags := 26, nameIndex := 61, descriptorIndex := 62, attributes := #[] }, { accessFlags := 26, nameIndex := 65, descriptorIndex := 62, attributes := #[] }, { accessFlags := 24, nameIndex := 430, descriptorIndex := 62, attributes := #[] }, { accessFlags := 4120, nameIndex := 46, descriptorIndex := 47, attributes := #[] }])
  fields := #[{ name := "HI_BYTE_SHIFT", type := .int, accessFlags := 26, slot := 0, constantValue := 0 }, { name := "LO_BYTE_SHIFT", type := .int, accessFlags := 26, slot := 1, constantValue := 0 }, { name := "MAX_LENGTH", type := .int, accessFlags := 24, slot := 2, constantValue := 0 }, { name := "$assertionsDisabled", type := .boolean, accessFlags := 4120, slot := 3, constantValue := 0 }]
  methods := #[k8m0, k8m1, k8m2, k8m3, k8m4, k8m5, k8m6, k8m7, k8m8, k8m9, k8m10, k8m11, k8m12, k8m13]
  instanceTypes := #[]
  staticTypes := #[.int, .int, .int, .boolean]
  resolved := Array.replicate 635 none
  statics := some 1 }

def pool9 : Array CpInfo := pool [(4, .class_ 6), (0, .nameAndType 7 8), (0, u "java/lang/Object"), (0, u "<init>"), (0, u "()V"), (8, .class_ 18), (0, u "java/lang/StringBuilder"), (0, .methodref 17 5), (0, .methodref 21 22), (0, .class_ 23), (0, .nameAndType 24 25), (0, u "java/lang/String"), (0, u "length"), (0, u "()I"), (0, .methodref 21 27), (0, .nameAndType 28 29), (0, u "charAt"), (0, u "(I)C"), (0, .class_ 31), (0, u "com/example/nuthatch/nuthatch/EntryName"), (0, .methodref 17 33), (0, .nameAndType 34 35), (0, u "append"), (0, u "(C)Ljava/lang/StringBuilder;"), (0, .methodref 17 37), (0, .nameAndType 34 38), (0, u "(Ljava/lang/String;)Ljava/lang/StringBuilder;"), (0, .methodref 17 40), (0, .nameAndType 41 42), (0, u "toString"), (0, u "()Ljava/lang/String;"), (24, u "(Ljava/lang/String;Ljava/lang/String;)Ljava/lang/String;"), (32, u "NOT_AN_ENTRY"), (0, u "J"), (1, u "NUMBER"), (0, u "C"), (1, u "HOST"), (0, u "SEQUENCE"), (1, u "UNNAMEABLE"), (0, u "MAX_SEQUENCE_DIGITS"), (0, u "I"), (1, u "READER"), (0, u "Ljava/lang/String;"), (2, u "WRITER"), (2, u "CONTENDER"), (0, u "OTHER_CONTENDER"), (4, u "member")] 31

def k9m0 : Method := { name := "<init>", desc := "()V", sig := { parameters := [], returnType := none }, accessFlags := 2, code := none }
def k9c1 : Code := { maxStack := 2, maxLocals := 6, code := prog_2_method_3_code, exceptionTable := #[], attributes := #[] }
def k9m1 : Method := { name := "member", desc := "(Ljava/lang/String;Ljava/lang/String;)Ljava/lang/String;", sig := { parameters := [(.object "java/lang/String"), (.object "java/lang/String")], returnType := some (.object "java/lang/String") }, accessFlags := 8, code := some k9c1 }
/-- com/example/nuthatch/nuthatch/EntryName -/
def k9 : Class := { plain "com/example/nuthatch/nuthatch/EntryName" (some 0) with
  accessFlags := 48
  interfaces := #[]
  cf := some (fileOf pool9 30 #[] #[{ accessFlags := 2, nameIndex := 7, descriptorIndex := 8, attributes := #[] }, { accessFlags := 8, nameIndex := 126, descriptorIndex := 67, attributes := #[] }] 48 4 #[] #[{ accessFlags := 24, nameIndex := 100, descriptorIndex := 101, attributes := #[] }, { accessFlags := 26, nameIndex := 103, descriptorIndex := 104, attributes := #[] }, { accessFlags := 26, nameIndex := 106, descriptorIndex := 104, attributes := #[] }, { accessFlags := 26, nameIndex := 107, descriptorIndex := 104, attributes := #[] }, { accessFlags := 26, nameIndex := 109, descriptorIndex := 104, attributes := #[] }, { accessFlags := 26, nameIndex := 110, descriptorIndex := 111, attributes := #[] }, { accessFlags := 24, nameIndex := 113, descriptorIndex := 114, attributes := #[] }, { accessFlags := 24, nameIndex := 117, descriptorIndex := 114, attributes := #[] }, { accessFlags := 26, nameIndex := 120, descriptorIndex := 114, attributes := #[] }, { accessFlags := 26, nameIndex := 121, descriptorIndex := 114, attributes := #[] }])
  fields := #[{ name := "NOT_AN_ENTRY", type := .long, accessFlags := 24, slot := 0, constantValue := 0 }, { name := "NUMBER", type := .char, accessFlags := 26, slot := 1, constantValue := 0 }, { name := "HOST", type := .char, accessFlags := 26, slot := 2, constantValue := 0 }, { name := "SEQUENCE", type := .char, accessFlags := 26, slot := 3, constantValue := 0 }, { name := "UNNAMEABLE", type := .char, accessFlags := 26, slot := 4, constantValue := 0 }, { name := "MAX_SEQUENCE_DIGITS", type := .int, accessFlags := 26, slot := 5, constantValue := 0 }, { name := "READER", type := (.object "java/lang/String"), accessFlags := 24, slot := 6, constantValue := 0 }, { name := "WRITER", type := (.object "java/lang/String"), accessFlags := 24, slot := 7, constantValue := 0 }, { name := "CONTENDER", type := (.object "java/lang/String"), accessFlags := 26, slot := 8, constantValue := 0 }, { name := "OTHER_CONTENDER", type := (.object "java/lang/String"), accessFlags := 26, slot := 9, constantValue := 0 }]
  methods := #[k9m0, k9m1]
  instanceTypes := #[]
  staticTypes := #[.long, .char, .char, .char, .char, .int, (.object "java/lang/String"), (.object "java/lang/String"), (.object "java/lang/String"), (.object "java/lang/String")]
  resolved := Array.replicate 158 none
  statics := none }

def pool10 : Array CpInfo := pool [(1, .class_ 2), (0, u "java/lang/Appendable"), (0, .class_ 4), (0, u "java/lang/Object")] 9

/-- java/lang/Appendable -/
def k10 : Class := { plain "java/lang/Appendable" (some 0) with
  accessFlags := 1537
  interfaces := #[]
  cf := some (fileOf pool10 1 #[] #[] 1537 3 #[] #[])
  fields := #[]
  methods := #[]
  instanceTypes := #[]
  staticTypes := #[]
  resolved := Array.replicate 14 none
  statics := none }

def pool11 : Array CpInfo := pool [(1, .class_ 2), (0, u "java/lang/String"), (0, .methodref 4 5), (0, .class_ 6), (0, .nameAndType 7 8), (0, u "java/lang/Object"), (0, u "<init>"), (0, u "()V"), (1, .class_ 12), (1, u "java/lang/AbstractStringBuilder"), (0, u "EMPTYVALUE"), (0, u "[B"), (0, .fieldref 10 16), (0, .nameAndType 17 14), (0, u "value"), (0, .fieldref 1 19), (0, .nameAndType 20 21), (0, u "COMPACT_STRINGS"), (0, u "Z"), (0, .fieldref 10 23), (0, .nameAndType 24 25), (0, u "coder"), (0, u "B"), (0, .methodref 27 28), (0, .class_ 29), (0, .nameAndType 30 31), (0, u "java/lang/StringUTF16"), (0, u "newBytesFor"), (0, u "(I)[B"), (0, .methodref 1 33), (0, .nameAndType 34 35), (0, u "length"), (0, u "()I"), (4, .methodref 1 41), (0, .nameAndType 24 42), (0, u "()B"), (2, u "append"), (0, u "(Ljava/lang/String;)Ljava/lang/AbstractStringBuilder;"), (1, .class_ 49), (0, u "java/lang/CharSequence"), (19, u "(Ljava/lang/String;)V"), (5, u "maybeLatin1"), (3, .fieldref 10 80), (0, .nameAndType 81 82), (0, u "count"), (0, u "I"), (0, .methodref 10 84), (0, .nameAndType 85 86), (0, u "isLatin1"), (0, u "()Z"), (1, .class_ 90), (1, u "java/lang/StringLatin1"), (9, .methodref 10 101), (0, .nameAndType 102 103), (0, u "ensureCapacityInternal"), (0, u "(I)V"), (21, .methodref 88 126), (0, .nameAndType 127 128), (0, u "inflate"), (0, u "([BI[BII)V"), (62, .methodref 88 192), (0, .nameAndType 193 194), (0, u "canEncode"), (0, u "(C)Z"), (0, .methodref 10 196), (0, .nameAndType 127 8), (11, .methodref 10 209), (0, .nameAndType 210 211), (0, u "putStringAt"), (0, u "(ILjava/lang/String;)V"), (5, u "inflateIfNeededFor"), (2, .nameAndType 221 222), (0, u "getBytes"), (0, u "([BIB)V"), (69, u "(C)Ljava/lang/AbstractStringBuilder;"), (104, .methodref 10 398), (0, .nameAndType 217 69), (0, .methodref 1 220), (3, u "()[B"), (40, .class_ 445), (0, u "java/lang/Appendable"), (106, u "getValue")] 56

def k11m0 : Method := { name := "<init>", desc := "()V", sig := { parameters := [], returnType := none }, accessFlags := 0, code := none }
def k11c1 : Code := { maxStack := 2, maxLocals := 2, code := jdk_68_method_2_code, exceptionTable := #[], attributes := #[] }
def k11m1 : Method := { name := "<init>", desc := "(I)V", sig := { parameters := [.int], returnType := none }, accessFlags := 0, code := some k11c1 }
def k11c2 : Code := { maxStack := 1, maxLocals := 1, code := jdk_68_method_6_code, exceptionTable := #[], attributes := #[] }
def k11m2 : Method := { name := "length", desc := "()I", sig := { parameters := [], returnType := some .int }, accessFlags := 1, code := some k11c2 }
def k11c3 : Code := { maxStack := 4, maxLocals := 3, code := jdk_68_method_9_code, exceptionTable := #[], attributes := #[] }
def k11m3 : Method := { name := "ensureCapacityInternal", desc := "(I)V", sig := { parameters := [.int], returnType := none }, accessFlags := 2, code := some k11c3 }
def k11c4 : Code := { maxStack := 5, maxLocals := 2, code := jdk_68_method_11_code, exceptionTable := #[], attributes := #[] }
def k11m4 : Method := { name := "inflate", desc := "()V", sig := { parameters := [], returnType := none }, accessFlags := 2, code := some k11c4 }
def k11c5 : Code := { maxStack := 3, maxLocals := 3, code := jdk_68_method_22_code, exceptionTable := #[], attributes := #[] }
def k11m5 : Method := { name := "append", desc := "(Ljava/lang/String;)Ljava/lang/AbstractStringBuilder;", sig := { parameters := [(.object "java/lang/String")], returnType := some (.object "java/lang/AbstractStringBuilder") }, accessFlags := 1, code := some k11c5 }
def k11c6 : Code := { maxStack := 5, maxLocals := 2, code := jdk_68_method_31_code, exceptionTable := #[], attributes := #[] }
def k11m6 : Method := { name := "append", desc := "(C)Ljava/lang/AbstractStringBuilder;", sig := { parameters := [.char], returnType := some (.object "java/lang/AbstractStringBuilder") }, accessFlags := 1, code := some k11c6 }
def k11c7 : Code := { maxStack := 1, maxLocals := 1, code := jdk_68_method_64_code, exceptionTable := #[], attributes := #[] }
def k11m7 : Method := { name := "getValue", desc := "()[B", sig := { parameters := [], returnType := some (.array .byte) }, accessFlags := 16, code := some k11c7 }
def k11c8 : Code := { maxStack := 1, maxLocals := 1, code := jdk_68_method_68_code, exceptionTable := #[], attributes := #[] }
def k11m8 : Method := { name := "isLatin1", desc := "()Z", sig := { parameters := [], returnType := some .boolean }, accessFlags := 16, code := some k11c8 }
def k11c9 : Code := { maxStack := 2, maxLocals := 2, code := jdk_68_method_71_code, exceptionTable := #[], attributes := #[] }
def k11m9 : Method := { name := "inflateIfNeededFor", desc := "(Ljava/lang/String;)V", sig := { parameters := [(.object "java/lang/String")], returnType := none }, accessFlags := 2, code := some k11c9 }
def k11c10 : Code := { maxStack := 4, maxLocals := 3, code := jdk_68_method_73_code, exceptionTable := #[], attributes := #[] }
def k11m10 : Method := { name := "putStringAt", desc := "(ILjava/lang/String;)V", sig := { parameters := [.int, (.object "java/lang/String")], returnType := none }, accessFlags := 2, code := some k11c10 }
/-- java/lang/AbstractStringBuilder -/
def k11 : Class := { plain "java/lang/AbstractStringBuilder" (some 0) with
  accessFlags := 1056
  interfaces := #[10, 4]
  cf := some (fileOf pool11 10 #[] #[{ accessFlags := 0, nameIndex := 7, descriptorIndex := 8, attributes := #[] }, { accessFlags := 0, nameIndex := 7, descriptorIndex := 103, attributes := #[] }, { accessFlags := 1, nameIndex := 34, descriptorIndex := 35, attributes := #[] }, { accessFlags := 2, nameIndex := 102, descriptorIndex := 103, attributes := #[] }, { accessFlags := 2, nameIndex := 127, descriptorIndex := 8, attributes := #[] }, { accessFlags := 1, nameIndex := 45, descriptorIndex := 46, attributes := #[] }, { accessFlags := 1, nameIndex := 45, descriptorIndex := 292, attributes := #[] }, { accessFlags := 16, nameIndex := 552, descriptorIndex := 403, attributes := #[] }, { accessFlags := 16, nameIndex := 85, descriptorIndex := 86, attributes := #[] }, { accessFlags := 2, nameIndex := 217, descriptorIndex := 69, attributes := #[] }, { accessFlags := 2, nameIndex := 210, descriptorIndex := 211, attributes := #[] }] 1056 4 #[444, 48] #[{ accessFlags := 0, nameIndex := 17, descriptorIndex := 14, attributes := #[] }, { accessFlags := 0, nameIndex := 24, descriptorIndex := 25, attributes := #[] }, { accessFlags := 0, nameIndex := 75, descriptorIndex := 21, attributes := #[] }, { accessFlags := 0, nameIndex := 81, descriptorIndex := 82, attributes := #[] }, { accessFlags := 26, nameIndex := 13, descriptorIndex := 14, attributes := #[] }])
  fields := #[{ name := "value", type := (.array .byte), accessFlags := 0, slot := 0, constantValue := 0 }, { name := "coder", type := .byte, accessFlags := 0, slot := 1, constantValue := 0 }, { name := "maybeLatin1", type := .boolean, accessFlags := 0, slot := 2, constantValue := 0 }, { name := "count", type := .int, accessFlags := 0, slot := 3, constantValue := 0 }, { name := "EMPTYVALUE", type := (.array .byte), accessFlags := 26, slot := 0, constantValue := 0 }]
  methods := #[k11m0, k11m1, k11m2, k11m3, k11m4, k11m5, k11m6, k11m7, k11m8, k11m9, k11m10]
  instanceTypes := #[(.array .byte), .byte, .boolean, .int]
  staticTypes := #[(.array .byte)]
  resolved := Array.replicate 609 none
  statics := none }

def pool12 : Array CpInfo := pool [(1, .methodref 2 3), (0, .class_ 4), (0, .nameAndType 5 6), (0, u "java/lang/AbstractStringBuilder"), (0, u "<init>"), (0, u "(I)V"), (11, .class_ 20), (1, u "java/lang/String"), (3, .class_ 26), (1, u "java/lang/StringBuilder"), (0, u "append"), (0, u "(Ljava/lang/String;)Ljava/lang/StringBuilder;"), (0, .methodref 2 30), (0, .nameAndType 27 31), (0, u "(Ljava/lang/String;)Ljava/lang/AbstractStringBuilder;"), (18, .methodref 2 51), (0, .nameAndType 27 52), (0, u "(C)Ljava/lang/AbstractStringBuilder;"), (84, .methodref 18 138), (0, .nameAndType 5 139), (0, u "(Ljava/lang/StringBuilder;)V"), (5, u "()V"), (10, u "()I"), (129, u "(C)Ljava/lang/StringBuilder;"), (56, .methodref 2 344), (0, .nameAndType 345 156), (0, u "length"), (3, .class_ 350), (0, u "java/lang/Appendable"), (0, .class_ 352), (0, u "java/io/Serializable"), (0, .class_ 354), (0, u "java/lang/Comparable"), (0, .class_ 356), (0, u "java/lang/CharSequence"), (0, u "serialVersionUID"), (0, u "J"), (40, u "toString"), (0, u "()Ljava/lang/String;")] 21

def k12c0 : Code := { maxStack := 2, maxLocals := 1, code := jdk_67_method_1_code, exceptionTable := #[], attributes := #[] }
def k12m0 : Method := { name := "<init>", desc := "()V", sig := { parameters := [], returnType := none }, accessFlags := 1, code := some k12c0 }
def k12c1 : Code := { maxStack := 2, maxLocals := 2, code := jdk_67_method_7_code, exceptionTable := #[], attributes := #[] }
def k12m1 : Method := { name := "append", desc := "(Ljava/lang/String;)Ljava/lang/StringBuilder;", sig := { parameters := [(.object "java/lang/String")], returnType := some (.object "java/lang/StringBuilder") }, accessFlags := 1, code := some k12c1 }
def k12c2 : Code := { maxStack := 2, maxLocals := 2, code := jdk_67_method_14_code, exceptionTable := #[], attributes := #[] }
def k12m2 : Method := { name := "append", desc := "(C)Ljava/lang/StringBuilder;", sig := { parameters := [.char], returnType := some (.object "java/lang/StringBuilder") }, accessFlags := 1, code := some k12c2 }
def k12c3 : Code := { maxStack := 3, maxLocals := 1, code := jdk_67_method_42_code, exceptionTable := #[], attributes := #[] }
def k12m3 : Method := { name := "toString", desc := "()Ljava/lang/String;", sig := { parameters := [], returnType := some (.object "java/lang/String") }, accessFlags := 1, code := some k12c3 }
def k12c4 : Code := { maxStack := 1, maxLocals := 1, code := jdk_67_method_93_code, exceptionTable := #[], attributes := #[] }
def k12m4 : Method := { name := "length", desc := "()I", sig := { parameters := [], returnType := some .int }, accessFlags := 4161, code := some k12c4 }
/-- java/lang/StringBuilder -/
def k12 : Class := { plain "java/lang/StringBuilder" (some 11) with
  accessFlags := 49
  interfaces := #[10, 2, 3, 4]
  cf := some (fileOf pool12 24 #[] #[{ accessFlags := 1, nameIndex := 5, descriptorIndex := 145, attributes := #[] }, { accessFlags := 1, nameIndex := 27, descriptorIndex := 28, attributes := #[] }, { accessFlags := 1, nameIndex := 27, descriptorIndex := 286, attributes := #[] }, { accessFlags := 1, nameIndex := 399, descriptorIndex := 400, attributes := #[] }, { accessFlags := 4161, nameIndex := 345, descriptorIndex := 156, attributes := #[] }] 49 2 #[349, 351, 353, 355] #[{ accessFlags := 24, nameIndex := 357, descriptorIndex := 358, attributes := #[] }])
  fields := #[{ name := "serialVersionUID", type := .long, accessFlags := 24, slot := 0, constantValue := 0 }]
  methods := #[k12m0, k12m1, k12m2, k12m3, k12m4]
  instanceTypes := #[(.array .byte), .byte, .boolean, .int]
  staticTypes := #[.long]
  resolved := Array.replicate 422 none
  statics := none }

def pool13 : Array CpInfo := pool [(1, .class_ 2), (0, u "java/lang/String"), (1, .class_ 6), (1, u "java/lang/Object"), (0, u "<init>"), (0, u "()V"), (0, .methodref 1 10), (0, .nameAndType 11 12), (0, u "checkIndex"), (0, u "(II)V"), (1, .class_ 16), (1, u "java/lang/StringLatin1"), (0, u "inflate"), (2, .class_ 22), (1, u "java/lang/StringUTF16"), (3, .nameAndType 17 27), (0, u "([BI[BII)V"), (25, u "([BI)C"), (36, u "canEncode"), (14, u "(C)Z"), (15, u "$assertionsDisabled"), (0, u "Z"), (98, .class_ 223), (1, u "java/lang/StringLatin1$LinesSpliterator"), (16, .methodref 20 26), (11, u "charAt"), (137, .class_ 391), (0, u "java/lang/StringLatin1$CharsSpliterator")] 3

def k13m0 : Method := { name := "<init>", desc := "()V", sig := { parameters := [], returnType := none }, accessFlags := 0, code := none }
def k13c1 : Code := { maxStack := 2, maxLocals := 2, code := jdk_43_method_2_code, exceptionTable := #[], attributes := #[] }
def k13m1 : Method := { name := "charAt", desc := "([BI)C", sig := { parameters := [(.array .byte), .int], returnType := some .char }, accessFlags := 9, code := some k13c1 }
def k13c2 : Code := { maxStack := 2, maxLocals := 1, code := jdk_43_method_3_code, exceptionTable := #[], attributes := #[] }
def k13m2 : Method := { name := "canEncode", desc := "(C)Z", sig := { parameters := [.char], returnType := some .boolean }, accessFlags := 9, code := some k13c2 }
def k13c3 : Code := { maxStack := 5, maxLocals := 5, code := jdk_43_method_50_code, exceptionTable := #[], attributes := #[] }
def k13m3 : Method := { name := "inflate", desc := "([BI[BII)V", sig := { parameters := [(.array .byte), .int, (.array .byte), .int, .int], returnType := none }, accessFlags := 9, code := some k13c3 }
/-- java/lang/StringLatin1 -/
def k13 : Class := { plain "java/lang/StringLatin1" (some 0) with
  accessFlags := 48
  interfaces := #[]
  cf := some (fileOf pool13 14 #[.nestMembers #[390, 221]] #[{ accessFlags := 0, nameIndex := 7, descriptorIndex := 8, attributes := #[] }, { accessFlags := 9, nameIndex := 252, descriptorIndex := 53, attributes := #[] }, { accessFlags := 9, nameIndex := 90, descriptorIndex := 105, attributes := #[] }, { accessFlags := 9, nameIndex := 17, descriptorIndex := 27, attributes := #[] }] 48 4 #[] #[{ accessFlags := 4120, nameIndex := 121, descriptorIndex := 122, attributes := #[] }])
  fields := #[{ name := "$assertionsDisabled", type := .boolean, accessFlags := 4120, slot := 0, constantValue := 0 }]
  methods := #[k13m0, k13m1, k13m2, k13m3]
  instanceTypes := #[]
  staticTypes := #[.boolean]
  resolved := Array.replicate 395 none
  statics := none }

def pool14 : Array CpInfo := pool [(2, .class_ 4), (1, u "java/lang/Object"), (0, u "<init>"), (0, u "()V"), (1, .class_ 10), (1, u "java/lang/System"), (0, u "allowSecurityManager"), (0, u "I"), (16, u "cons"), (0, u "Ljava/io/Console;"), (77, .class_ 110), (1, u "java/lang/System$CallersHolder"), (43, u "initialErrStream"), (0, u "Ljava/io/PrintStream;"), (19, u "security"), (0, u "Ljava/lang/SecurityManager;"), (31, .class_ 209), (0, u "java/lang/System$1"), (7, u "props"), (0, u "Ljava/util/Properties;"), (2, u "lineSeparator"), (0, u "Ljava/lang/String;"), (96, .class_ 321), (1, u "java/lang/System$LoggerFinder"), (5, .class_ 328), (0, u "java/lang/System$Logger"), (67, u "err"), (2, u "out"), (91, u "notSupportedJnuEncoding"), (15, u "in"), (17, u "initialIn"), (0, u "Ljava/io/InputStream;"), (35, u "bootLayer"), (0, u "Ljava/lang/ModuleLayer;"), (99, .class_ 664), (0, u "java/lang/System$2"), (9, u "NEVER"), (2, u "MAYBE"), (49, u "arraycopy"), (0, u "(Ljava/lang/Object;ILjava/lang/Object;II)V"), (72, .class_ 802), (0, u "java/lang/System$Logger$Level")] 31

def k14m0 : Method := { name := "<init>", desc := "()V", sig := { parameters := [], returnType := none }, accessFlags := 2, code := none }
def k14m1 : Method := { name := "arraycopy", desc := "(Ljava/lang/Object;ILjava/lang/Object;II)V", sig := { parameters := [(.object "java/lang/Object"), .int, (.object "java/lang/Object"), .int, .int], returnType := none }, accessFlags := 265, code := none }
/-- java/lang/System -/
def k14 : Class := { plain "java/lang/System" (some 0) with
  accessFlags := 49
  interfaces := #[]
  cf := some (fileOf pool14 8 #[.nestMembers #[319, 327, 801, 108, 663, 208]] #[{ accessFlags := 2, nameIndex := 5, descriptorIndex := 6, attributes := #[] }, { accessFlags := 265, nameIndex := 727, descriptorIndex := 728, attributes := #[] }] 49 2 #[] #[{ accessFlags := 25, nameIndex := 507, descriptorIndex := 526, attributes := #[] }, { accessFlags := 25, nameIndex := 399, descriptorIndex := 155, attributes := #[] }, { accessFlags := 25, nameIndex := 396, descriptorIndex := 155, attributes := #[] }, { accessFlags := 10, nameIndex := 525, descriptorIndex := 526, attributes := #[] }, { accessFlags := 26, nameIndex := 674, descriptorIndex := 12, attributes := #[] }, { accessFlags := 26, nameIndex := 677, descriptorIndex := 12, attributes := #[] }, { accessFlags := 10, nameIndex := 11, descriptorIndex := 12, attributes := #[] }, { accessFlags := 74, nameIndex := 175, descriptorIndex := 176, attributes := #[] }, { accessFlags := 10, nameIndex := 491, descriptorIndex := 222, attributes := #[] }, { accessFlags := 74, nameIndex := 29, descriptorIndex := 30, attributes := #[] }, { accessFlags := 74, nameIndex := 154, descriptorIndex := 155, attributes := #[] }, { accessFlags := 10, nameIndex := 217, descriptorIndex := 218, attributes := #[] }, { accessFlags := 10, nameIndex := 221, descriptorIndex := 222, attributes := #[] }, { accessFlags := 8, nameIndex := 562, descriptorIndex := 563, attributes := #[] }])
  fields := #[{ name := "in", type := (.object "java/io/InputStream"), accessFlags := 25, slot := 0, constantValue := 0 }, { name := "out", type := (.object "java/io/PrintStream"), accessFlags := 25, slot := 1, constantValue := 0 }, { name := "err", type := (.object "java/io/PrintStream"), accessFlags := 25, slot := 2, constantValue := 0 }, { name := "initialIn", type := (.object "java/io/InputStream"), accessFlags := 10, slot := 3, constantValue := 0 }, { name := "NEVER", type := .int, accessFlags := 26, slot := 4, constantValue := 0 }, { name := "MAYBE", type := .int, accessFlags := 26, slot := 5, constantValue := 0 }, { name := "allowSecurityManager", type := .int, accessFlags := 10, slot := 6, constantValue := 0 }, { name := "security", type := (.object "java/lang/SecurityManager"), accessFlags := 74, slot := 7, constantValue := 0 }, { name := "notSupportedJnuEncoding", type := (.object "java/lang/String"), accessFlags := 10, slot := 8, constantValue := 0 }, { name := "cons", type := (.object "java/io/Console"), accessFlags := 74, slot := 9, constantValue := 0 }, { name := "initialErrStream", type := (.object "java/io/PrintStream"), accessFlags := 74, slot := 10, constantValue := 0 }, { name := "props", type := (.object "java/util/Properties"), accessFlags := 10, slot := 11, constantValue := 0 }, { name := "lineSeparator", type := (.object "java/lang/String"), accessFlags := 10, slot := 12, constantValue := 0 }, { name := "bootLayer", type := (.object "java/lang/ModuleLayer"), accessFlags := 8, slot := 13, constantValue := 0 }]
  methods := #[k14m0, k14m1]
  instanceTypes := #[]
  staticTypes := #[(.object "java/io/InputStream"), (.object "java/io/PrintStream"), (.object "java/io/PrintStream"), (.object "java/io/InputStream"), .int, .int, .int, (.object "java/lang/SecurityManager"), (.object "java/lang/String"), (.object "java/io/Console"), (.object "java/io/PrintStream"), (.object "java/util/Properties"), (.object "java/lang/String"), (.object "java/lang/ModuleLayer")]
  resolved := Array.replicate 834 none
  statics := none }

def pool15 : Array CpInfo := pool [(2, .class_ 4), (1, u "java/lang/Object"), (0, u "<init>"), (0, u "()V"), (7, .class_ 16), (1, u "java/util/Arrays"), (57, .class_ 76), (1, u "java/util/Arrays$NaturalOrder"), (36, .class_ 115), (1, u "java/util/Arrays$LegacyMergeSort"), (1, u "Z"), (21, u "copyOfRange"), (10, .methodref 151 152), (0, .class_ 153), (0, .nameAndType 154 155), (0, u "java/lang/System"), (0, u "arraycopy"), (0, u "(Ljava/lang/Object;ILjava/lang/Object;II)V"), (148, .methodref 305 306), (0, .class_ 307), (0, .nameAndType 308 309), (0, u "java/lang/Math"), (0, u "min"), (0, u "(II)I"), (29, .methodref 14 340), (0, .nameAndType 341 342), (0, u "copyOfRangeByte"), (0, u "([BII)[B"), (0, .methodref 14 344), (0, .nameAndType 345 346), (0, u "checkLength"), (0, u "(II)V"), (28, .class_ 376), (0, u "java/util/Arrays$ArrayList"), (68, u "$assertionsDisabled"), (269, u "MIN_ARRAY_SORT_GRAN"), (0, u "I"), (2, u "INSERTIONSORT_THRESHOLD"), (255, .class_ 976), (0, u "java/util/Arrays$ArrayItr")] 52

def k15m0 : Method := { name := "<init>", desc := "()V", sig := { parameters := [], returnType := none }, accessFlags := 2, code := none }
def k15c1 : Code := { maxStack := 4, maxLocals := 2, code := jdk_65_method_131_code, exceptionTable := #[], attributes := #[] }
def k15m1 : Method := { name := "checkLength", desc := "(II)V", sig := { parameters := [.int, .int], returnType := none }, accessFlags := 10, code := some k15c1 }
def k15c2 : Code := { maxStack := 3, maxLocals := 3, code := jdk_65_method_132_code, exceptionTable := #[], attributes := #[] }
def k15m2 : Method := { name := "copyOfRange", desc := "([BII)[B", sig := { parameters := [(.array .byte), .int, .int], returnType := some (.array .byte) }, accessFlags := 9, code := some k15c2 }
def k15c3 : Code := { maxStack := 6, maxLocals := 5, code := jdk_65_method_133_code, exceptionTable := #[], attributes := #[] }
def k15m3 : Method := { name := "copyOfRangeByte", desc := "([BII)[B", sig := { parameters := [(.array .byte), .int, .int], returnType := some (.array .byte) }, accessFlags := 10, code := some k15c3 }
/-- java/util/Arrays -/
def k15 : Class := { plain "java/util/Arrays" (some 0) with
  accessFlags := 49
  interfaces := #[]
  cf := some (fileOf pool15 14 #[.nestMembers #[975, 375, 113, 74]] #[{ accessFlags := 2, nameIndex := 5, descriptorIndex := 6, attributes := #[] }, { accessFlags := 10, nameIndex := 345, descriptorIndex := 346, attributes := #[] }, { accessFlags := 9, nameIndex := 139, descriptorIndex := 342, attributes := #[] }, { accessFlags := 10, nameIndex := 341, descriptorIndex := 342, attributes := #[] }] 49 2 #[] #[{ accessFlags := 26, nameIndex := 715, descriptorIndex := 716, attributes := #[] }, { accessFlags := 26, nameIndex := 719, descriptorIndex := 716, attributes := #[] }, { accessFlags := 4120, nameIndex := 445, descriptorIndex := 117, attributes := #[] }])
  fields := #[{ name := "MIN_ARRAY_SORT_GRAN", type := .int, accessFlags := 26, slot := 0, constantValue := 0 }, { name := "INSERTIONSORT_THRESHOLD", type := .int, accessFlags := 26, slot := 1, constantValue := 0 }, { name := "$assertionsDisabled", type := .boolean, accessFlags := 4120, slot := 2, constantValue := 0 }]
  methods := #[k15m0, k15m1, k15m2, k15m3]
  instanceTypes := #[]
  staticTypes := #[.int, .int, .boolean]
  resolved := Array.replicate 1029 none
  statics := none }

def pool16 : Array CpInfo := pool [(1, .class_ 2), (0, u "java/lang/Math"), (1, .class_ 6), (1, u "java/lang/Object"), (0, u "<init>"), (0, u "()V"), (89, .class_ 100), (1, u "java/lang/Math$RandomNumberGeneratorHolder"), (71, u "negativeZeroFloatBits"), (0, u "J"), (2, u "negativeZeroDoubleBits"), (24, u "min"), (43, u "$assertionsDisabled"), (0, u "Z"), (88, u "(II)I"), (2, u "twoToTheDoubleScaleDown"), (0, u "D"), (4, u "twoToTheDoubleScaleUp"), (9, u "E"), (3, u "PI"), (2, u "TAU"), (2, u "DEGREES_TO_RADIANS"), (0, u "RADIANS_TO_DEGREES")] 94

def k16m0 : Method := { name := "<init>", desc := "()V", sig := { parameters := [], returnType := none }, accessFlags := 2, code := none }
def k16c1 : Code := { maxStack := 2, maxLocals := 2, code := jdk_29_method_69_code, exceptionTable := #[], attributes := #[] }
def k16m1 : Method := { name := "min", desc := "(II)I", sig := { parameters := [.int, .int], returnType := some .int }, accessFlags := 9, code := some k16c1 }
/-- java/lang/Math -/
def k16 : Class := { plain "java/lang/Math" (some 0) with
  accessFlags := 49
  interfaces := #[]
  cf := some (fileOf pool16 1 #[.nestMembers #[98]] #[{ accessFlags := 2, nameIndex := 7, descriptorIndex := 8, attributes := #[] }, { accessFlags := 9, nameIndex := 201, descriptorIndex := 335, attributes := #[] }] 49 4 #[] #[{ accessFlags := 25, nameIndex := 354, descriptorIndex := 339, attributes := #[] }, { accessFlags := 25, nameIndex := 358, descriptorIndex := 339, attributes := #[] }, { accessFlags := 25, nameIndex := 361, descriptorIndex := 339, attributes := #[] }, { accessFlags := 26, nameIndex := 364, descriptorIndex := 339, attributes := #[] }, { accessFlags := 26, nameIndex := 365, descriptorIndex := 339, attributes := #[] }, { accessFlags := 26, nameIndex := 172, descriptorIndex := 173, attributes := #[] }, { accessFlags := 26, nameIndex := 176, descriptorIndex := 173, attributes := #[] }, { accessFlags := 8, nameIndex := 344, descriptorIndex := 339, attributes := #[] }, { accessFlags := 8, nameIndex := 338, descriptorIndex := 339, attributes := #[] }, { accessFlags := 4120, nameIndex := 245, descriptorIndex := 246, attributes := #[] }])
  fields := #[{ name := "E", type := .double, accessFlags := 25, slot := 0, constantValue := 0 }, { name := "PI", type := .double, accessFlags := 25, slot := 1, constantValue := 0 }, { name := "TAU", type := .double, accessFlags := 25, slot := 2, constantValue := 0 }, { name := "DEGREES_TO_RADIANS", type := .double, accessFlags := 26, slot := 3, constantValue := 0 }, { name := "RADIANS_TO_DEGREES", type := .double, accessFlags := 26, slot := 4, constantValue := 0 }, { name := "negativeZeroFloatBits", type := .long, accessFlags := 26, slot := 5, constantValue := 0 }, { name := "negativeZeroDoubleBits", type := .long, accessFlags := 26, slot := 6, constantValue := 0 }, { name := "twoToTheDoubleScaleUp", type := .double, accessFlags := 8, slot := 7, constantValue := 0 }, { name := "twoToTheDoubleScaleDown", type := .double, accessFlags := 8, slot := 8, constantValue := 0 }, { name := "$assertionsDisabled", type := .boolean, accessFlags := 4120, slot := 9, constantValue := 0 }]
  methods := #[k16m0, k16m1]
  instanceTypes := #[]
  staticTypes := #[.double, .double, .double, .double, .double, .long, .long, .double, .double, .boolean]
  resolved := Array.replicate 460 none
  statics := none }

def pool17 : Array CpInfo := pool [(2, .class_ 4), (1, u "java/lang/Object"), (0, u "<init>"), (0, u "()V"), (17, .class_ 26), (1, u "jdk/internal/util/Preconditions"), (6, u "checkIndex"), (15, u "checkFromIndexSize"), (5, .class_ 56), (0, u "jdk/internal/util/Preconditions$4"), (57, .class_ 115), (0, u "jdk/internal/util/Preconditions$1"), (7, u "SIOOBE_FORMATTER"), (0, u "Ljava/util/function/BiFunction;"), (0, .class_ 126), (0, u "jdk/internal/util/Preconditions$2"), (3, u "AIOOBE_FORMATTER"), (0, .class_ 132), (0, u "jdk/internal/util/Preconditions$3"), (3, u "IOOBE_FORMATTER"), (41, u "(IILjava/util/function/BiFunction;)I"), (4, u "(IIILjava/util/function/BiFunction;)I")] 10

def k17m0 : Method := { name := "<init>", desc := "()V", sig := { parameters := [], returnType := none }, accessFlags := 1, code := none }
def k17c1 : Code := { maxStack := 3, maxLocals := 3, code := jdk_41_method_11_code, exceptionTable := #[], attributes := #[] }
def k17m1 : Method := { name := "checkIndex", desc := "(IILjava/util/function/BiFunction;)I", sig := { parameters := [.int, .int, (.object "java/util/function/BiFunction")], returnType := some .int }, accessFlags := 9, code := some k17c1 }
def k17c2 : Code := { maxStack := 4, maxLocals := 4, code := jdk_41_method_13_code, exceptionTable := #[], attributes := #[] }
def k17m2 : Method := { name := "checkFromIndexSize", desc := "(IIILjava/util/function/BiFunction;)I", sig := { parameters := [.int, .int, .int, (.object "java/util/function/BiFunction")], returnType := some .int }, accessFlags := 9, code := some k17c2 }
/-- jdk/internal/util/Preconditions -/
def k17 : Class := { plain "jdk/internal/util/Preconditions" (some 0) with
  accessFlags := 33
  interfaces := #[]
  cf := some (fileOf pool17 24 #[.nestMembers #[55, 131, 125, 114]] #[{ accessFlags := 1, nameIndex := 5, descriptorIndex := 6, attributes := #[] }, { accessFlags := 9, nameIndex := 33, descriptorIndex := 178, attributes := #[] }, { accessFlags := 9, nameIndex := 49, descriptorIndex := 183, attributes := #[] }] 33 2 #[] #[{ accessFlags := 25, nameIndex := 123, descriptorIndex := 124, attributes := #[] }, { accessFlags := 25, nameIndex := 130, descriptorIndex := 124, attributes := #[] }, { accessFlags := 25, nameIndex := 136, descriptorIndex := 124, attributes := #[] }])
  fields := #[{ name := "SIOOBE_FORMATTER", type := (.object "java/util/function/BiFunction"), accessFlags := 25, slot := 0, constantValue := 0 }, { name := "AIOOBE_FORMATTER", type := (.object "java/util/function/BiFunction"), accessFlags := 25, slot := 1, constantValue := 0 }, { name := "IOOBE_FORMATTER", type := (.object "java/util/function/BiFunction"), accessFlags := 25, slot := 2, constantValue := 0 }]
  methods := #[k17m0, k17m1, k17m2]
  instanceTypes := #[]
  staticTypes := #[(.object "java/util/function/BiFunction"), (.object "java/util/function/BiFunction"), (.object "java/util/function/BiFunction")]
  resolved := Array.replicate 194 none
  statics := some 2 }

def pool18 : Array CpInfo := pool [(9, u "<init>"), (6, .class_ 18), (1, u "java/lang/Object"), (0, u "()V"), (1, .class_ 23), (1, u "jdk/internal/util/ArraysSupport"), (0, u "LOG2_ARRAY_LONG_INDEX_SCALE"), (0, u "I"), (2, u "U"), (0, u "Ljdk/internal/misc/Unsafe;"), (8, u "BIG_ENDIAN"), (0, u "Z"), (8, u "LOG2_BYTE_BIT_SIZE"), (4, u "LOG2_ARRAY_INT_INDEX_SCALE"), (54, u "JLA"), (0, u "Ljdk/internal/access/JavaLangAccess;"), (11, u "LOG2_ARRAY_BOOLEAN_INDEX_SCALE"), (9, u "LOG2_ARRAY_BYTE_INDEX_SCALE"), (5, u "LOG2_ARRAY_CHAR_INDEX_SCALE"), (5, u "LOG2_ARRAY_SHORT_INDEX_SCALE"), (18, u "LOG2_ARRAY_FLOAT_INDEX_SCALE"), (24, u "LOG2_ARRAY_DOUBLE_INDEX_SCALE"), (89, u "T_BOOLEAN"), (2, u "T_CHAR"), (1, u "T_FLOAT"), (1, u "T_DOUBLE"), (1, u "T_BYTE"), (1, u "T_SHORT"), (1, u "T_INT"), (1, u "T_LONG"), (1, u "SOFT_MAX_ARRAY_LENGTH")] 83

def k18m0 : Method := { name := "<init>", desc := "()V", sig := { parameters := [], returnType := none }, accessFlags := 2, code := none }
/-- jdk/internal/util/ArraysSupport -/
def k18 : Class := { plain "jdk/internal/util/ArraysSupport" (some 0) with
  accessFlags := 33
  interfaces := #[]
  cf := some (fileOf pool18 21 #[] #[{ accessFlags := 2, nameIndex := 9, descriptorIndex := 19, attributes := #[] }] 33 16 #[] #[{ accessFlags := 24, nameIndex := 28, descriptorIndex := 29, attributes := #[] }, { accessFlags := 26, nameIndex := 38, descriptorIndex := 39, attributes := #[] }, { accessFlags := 25, nameIndex := 121, descriptorIndex := 25, attributes := #[] }, { accessFlags := 25, nameIndex := 131, descriptorIndex := 25, attributes := #[] }, { accessFlags := 25, nameIndex := 137, descriptorIndex := 25, attributes := #[] }, { accessFlags := 25, nameIndex := 143, descriptorIndex := 25, attributes := #[] }, { accessFlags := 25, nameIndex := 53, descriptorIndex := 25, attributes := #[] }, { accessFlags := 25, nameIndex := 24, descriptorIndex := 25, attributes := #[] }, { accessFlags := 25, nameIndex := 162, descriptorIndex := 25, attributes := #[] }, { accessFlags := 25, nameIndex := 187, descriptorIndex := 25, attributes := #[] }, { accessFlags := 26, nameIndex := 48, descriptorIndex := 25, attributes := #[] }, { accessFlags := 25, nameIndex := 277, descriptorIndex := 25, attributes := #[] }, { accessFlags := 25, nameIndex := 280, descriptorIndex := 25, attributes := #[] }, { accessFlags := 25, nameIndex := 282, descriptorIndex := 25, attributes := #[] }, { accessFlags := 25, nameIndex := 284, descriptorIndex := 25, attributes := #[] }, { accessFlags := 25, nameIndex := 286, descriptorIndex := 25, attributes := #[] }, { accessFlags := 25, nameIndex := 288, descriptorIndex := 25, attributes := #[] }, { accessFlags := 25, nameIndex := 290, descriptorIndex := 25, attributes := #[] }, { accessFlags := 25, nameIndex := 292, descriptorIndex := 25, attributes := #[] }, { accessFlags := 26, nameIndex := 108, descriptorIndex := 109, attributes := #[] }, { accessFlags := 25, nameIndex := 294, descriptorIndex := 25, attributes := #[] }])
  fields := #[{ name := "U", type := (.object "jdk/internal/misc/Unsafe"), accessFlags := 24, slot := 0, constantValue := 0 }, { name := "BIG_ENDIAN", type := .boolean, accessFlags := 26, slot := 1, constantValue := 0 }, { name := "LOG2_ARRAY_BOOLEAN_INDEX_SCALE", type := .int, accessFlags := 25, slot := 2, constantValue := 0 }, { name := "LOG2_ARRAY_BYTE_INDEX_SCALE", type := .int, accessFlags := 25, slot := 3, constantValue := 0 }, { name := "LOG2_ARRAY_CHAR_INDEX_SCALE", type := .int, accessFlags := 25, slot := 4, constantValue := 0 }, { name := "LOG2_ARRAY_SHORT_INDEX_SCALE", type := .int, accessFlags := 25, slot := 5, constantValue := 0 }, { name := "LOG2_ARRAY_INT_INDEX_SCALE", type := .int, accessFlags := 25, slot := 6, constantValue := 0 }, { name := "LOG2_ARRAY_LONG_INDEX_SCALE", type := .int, accessFlags := 25, slot := 7, constantValue := 0 }, { name := "LOG2_ARRAY_FLOAT_INDEX_SCALE", type := .int, accessFlags := 25, slot := 8, constantValue := 0 }, { name := "LOG2_ARRAY_DOUBLE_INDEX_SCALE", type := .int, accessFlags := 25, slot := 9, constantValue := 0 }, { name := "LOG2_BYTE_BIT_SIZE", type := .int, accessFlags := 26, slot := 10, constantValue := 0 }, { name := "T_BOOLEAN", type := .int, accessFlags := 25, slot := 11, constantValue := 0 }, { name := "T_CHAR", type := .int, accessFlags := 25, slot := 12, constantValue := 0 }, { name := "T_FLOAT", type := .int, accessFlags := 25, slot := 13, constantValue := 0 }, { name := "T_DOUBLE", type := .int, accessFlags := 25, slot := 14, constantValue := 0 }, { name := "T_BYTE", type := .int, accessFlags := 25, slot := 15, constantValue := 0 }, { name := "T_SHORT", type := .int, accessFlags := 25, slot := 16, constantValue := 0 }, { name := "T_INT", type := .int, accessFlags := 25, slot := 17, constantValue := 0 }, { name := "T_LONG", type := .int, accessFlags := 25, slot := 18, constantValue := 0 }, { name := "JLA", type := (.object "jdk/internal/access/JavaLangAccess"), accessFlags := 26, slot := 19, constantValue := 0 }, { name := "SOFT_MAX_ARRAY_LENGTH", type := .int, accessFlags := 25, slot := 20, constantValue := 0 }]
  methods := #[k18m0]
  instanceTypes := #[]
  staticTypes := #[(.object "jdk/internal/misc/Unsafe"), .boolean, .int, .int, .int, .int, .int, .int, .int, .int, .int, .int, .int, .int, .int, .int, .int, .int, .int, (.object "jdk/internal/access/JavaLangAccess"), .int]
  resolved := Array.replicate 378 none
  statics := none }

def pool19 : Array CpInfo := pool [(1, u "java/lang/Cloneable"), (0, .class_ 1), (0, u "java/lang/Object"), (0, .class_ 3)] 3

/-- java/lang/Cloneable -/
def k19 : Class := { plain "java/lang/Cloneable" (some 0) with
  accessFlags := 1537
  interfaces := #[]
  cf := some (fileOf pool19 2 #[] #[] 1537 4 #[] #[])
  fields := #[]
  methods := #[]
  instanceTypes := #[]
  staticTypes := #[]
  resolved := Array.replicate 8 none
  statics := none }

/-- the primitive byte -/
def k20 : Class := { plain "byte" none with kind := .primitive 'B', accessFlags := 0x411 }
/-- [B -/
def k21 : Class := { plain "[B" (some 0) with kind := .array 20 .byte, interfaces := #[19, 2], accessFlags := 1041 }

/-- the primitive char -/
def k22 : Class := { plain "char" none with kind := .primitive 'C', accessFlags := 0x411 }
/-- [C -/
def k23 : Class := { plain "[C" (some 0) with kind := .array 22 .char, interfaces := #[19, 2], accessFlags := 1041 }

/-- the primitive int -/
def k24 : Class := { plain "int" none with kind := .primitive 'I', accessFlags := 0x411 }
/-- [I -/
def k25 : Class := { plain "[I" (some 0) with kind := .array 24 .int, interfaces := #[19, 2], accessFlags := 1041 }

def heap : Heap := #[{ cls := 7, slots := #[.long 0, .int 1, .null, .int 0, .null, .int 0, .int 0], vm := .statics 7 },
  { cls := 8, slots := #[.int 0, .int 8, .int 0, .int 1], vm := .statics 8 },
  { cls := 17, slots := #[.null, .null, .null], vm := .statics 17 }]
def classes : Array Class := #[k0, k1, k2, k3, k4, k5, k6, k7, k8, k9, k10, k11, k12, k13, k14, k15, k16, k17, k18, k19, k20, k21, k22, k23, k24, k25]
def interned : List (Array UInt16 × Addr) := []
def slotsUsed : Nat := 14
def theMethod : MethodId := ⟨1, 3⟩
def args0 : Array Value := #[.int 5, .int 3, .int 1, .int 2]
def aboutOver (below : List Frame) : State where
  vm := { classes := classes, interned := interned.toArray }
  heap := heap
  slotsUsed := slotsUsed
  threads := #[{ frames := .invoking theMethod args0 :: below }]
def below0 : List Frame := [.native { method := ⟨0, 0⟩, args := #[] }]
def about1 : State := aboutOver below0
def p0 : Program := .bare "" "" ""
def e0 : Env := launch0.env 0 0 0
theorem w_frames : about1.frames = Frame.invoking theMethod args0 :: below0 := rfl
set_option maxRecDepth 65536 in
theorem w_args : argsFit about1.vm theMethod args0 = true := by decide +kernel
set_option maxRecDepth 65536 in
theorem w_heap : heapFits about1 = true := by decide +kernel
set_option maxRecDepth 65536 in
theorem w_runnable : about1.curStatus? = some .runnable := by decide +kernel
set_option maxRecDepth 65536 in
theorem w_alone : about1.alone = true := by decide +kernel
set_option maxRecDepth 65536 in
theorem w_named : about1.methodNamed? x = some theMethod := by decide +kernel
set_option maxRecDepth 65536 in
theorem w_hears : about1.hears theMethod below0 = true := by decide +kernel
set_option maxRecDepth 65536 in
theorem w_ripe : about1.ripe theMethod args0 below0 = true := by decide +kernel
theorem w_running : about1.status = .running := rfl
set_option maxRecDepth 65536 in
theorem w_room : about1.hasRoom e0.platform room_1 = true :=
  launch0.hasRoom_least _ room_1 (by decide +kernel) (by decide +kernel) (by decide +kernel) (by decide +kernel) (by decide +kernel) (by decide +kernel)
theorem allAtoms_all (ts : List Jvm.Cond) (a : Array Jvm.Value) (st : Jvm.State) : (allAtoms ts).before a st = ts.all (fun c => c.before a st) := by
  induction ts with
  | nil => rfl
  | cons c t ih =>
    show (Jvm.Cond.and c (allAtoms t)).before a st = _
    rw [Jvm.Cond.before_and, ih, List.all_cons]
def words1 : List Jvm.Cond := Jvm.Cond.code x code maxLocals ret :: tables_1
/-- a 'code' word, met by the world's own term for the bytes: nothing is compared byte by byte -/
theorem code_word {y : MethodName} {bytes : ByteArray} {mx : Nat} {rt : Option FieldType} {a : Array Value} {s : State} {m : MethodId} {meth : Method} {c : Code} (h1 : s.methodNamed? y = some m) (h2 : s.vm.method? m = some meth) (h3 : meth.code = some c) (h4 : c.code = bytes)
    (h5 : (c.maxLocals == mx && c.exceptionTable.isEmpty && decide (c.maxStack ≤ mostOperands) && decide (meth.sig.returnType = rt) && !meth.locks && decide (parseMethodDescriptor y.desc = some meth.sig)) = true) : (Jvm.Cond.code y bytes mx rt).before a s = true := by
  simp only [Bool.and_eq_true, beq_iff_eq, Bool.not_eq_true', decide_eq_true_eq] at h5
  obtain ⟨⟨⟨⟨⟨g1, g2⟩, g3⟩, g4⟩, g5⟩, g6⟩ := h5
  simp [Cond.before, Cond.holds, Cond.value, h1, h2, h3, h4, g1, g2, g3, g4, g5, g6]
def isCode : Jvm.Cond → Bool
  | .code _ _ _ _ => true
  | _ => false
theorem all_split {L : List Jvm.Cond} {P : Jvm.Cond → Bool} (h1 : L.all (fun c => isCode c || P c) = true) (h2 : ∀ c ∈ L.filter isCode, P c = true) : L.all P = true := by
  refine List.all_eq_true.mpr fun c hc => ?_
  have h := List.all_eq_true.mp h1 c hc
  rcases Bool.eq_false_or_eq_true (isCode c) with hi | hi
  · exact h2 c (List.mem_filter.mpr ⟨hc, hi⟩)
  · simpa [hi] using h
set_option maxRecDepth 65536 in
theorem w_c0 : (Jvm.Cond.code x code maxLocals ret).before args0 about1 = true := code_word (m := ⟨1, 3⟩) (meth := k1m3) (c := k1c3) (by decide +kernel) rfl rfl rfl (by decide +kernel)
set_option maxRecDepth 65536 in
theorem w_c1 : (Jvm.Cond.code ({ cls := "com/example/nuthatch/nuthatch/EntryNameMemberPinLaw", name := "text", desc := "(ICCC)Ljava/lang/String;" } : Jvm.MethodName) method_2_code (4 : Nat) (Option.some (Jvm.ClassFile.FieldType.object "java/lang/String"))).before args0 about1 = true := code_word (m := ⟨1, 1⟩) (meth := k1m1) (c := k1c1) (by decide +kernel) rfl rfl rfl (by decide +kernel)
set_option maxRecDepth 65536 in
theorem w_c2 : (Jvm.Cond.code ({ cls := "java/lang/String", name := "<init>", desc := "([C)V" } : Jvm.MethodName) jdk_42_method_3_code (2 : Nat) (Option.none : Option Jvm.ClassFile.FieldType)).before args0 about1 = true := code_word (m := ⟨7, 1⟩) (meth := k7m1) (c := k7c1) (by decide +kernel) rfl rfl rfl (by decide +kernel)
set_option maxRecDepth 65536 in
theorem w_c3 : (Jvm.Cond.code ({ cls := "java/lang/String", name := "<init>", desc := "([CIILjava/lang/Void;)V" } : Jvm.MethodName) jdk_42_method_149_code (6 : Nat) (Option.none : Option Jvm.ClassFile.FieldType)).before args0 about1 = true := code_word (m := ⟨7, 6⟩) (meth := k7m6) (c := k7c6) (by decide +kernel) rfl rfl rfl (by decide +kernel)
set_option maxRecDepth 65536 in
theorem w_c4 : (Jvm.Cond.code ({ cls := "java/lang/Object", name := "<init>", desc := "()V" } : Jvm.MethodName) object_method_1_code (1 : Nat) (Option.none : Option Jvm.ClassFile.FieldType)).before args0 about1 = true := code_word (m := ⟨0, 0⟩) (meth := k0m0) (c := k0c0) (by decide +kernel) rfl rfl rfl (by decide +kernel)
set_option maxRecDepth 65536 in
theorem w_c5 : (Jvm.Cond.code ({ cls := "java/lang/StringUTF16", name := "compress", desc := "([CII)[B" } : Jvm.MethodName) jdk_52_method_16_code (6 : Nat) (Option.some (Jvm.ClassFile.FieldType.array Jvm.ClassFile.FieldType.byte))).before args0 about1 = true := code_word (m := ⟨8, 8⟩) (meth := k8m8) (c := k8c8) (by decide +kernel) rfl rfl rfl (by decide +kernel)
set_option maxRecDepth 65536 in
theorem w_c6 : (Jvm.Cond.code ({ cls := "java/lang/StringUTF16", name := "compress", desc := "([CI[BII)I" } : Jvm.MethodName) jdk_52_method_21_code (7 : Nat) (Option.some Jvm.ClassFile.FieldType.int)).before args0 about1 = true := code_word (m := ⟨8, 9⟩) (meth := k8m9) (c := k8c9) (by decide +kernel) rfl rfl rfl (by decide +kernel)
set_option maxRecDepth 65536 in
theorem w_c7 : (Jvm.Cond.code ({ cls := "java/lang/StringUTF16", name := "coderFromArrayLen", desc := "([BI)B" } : Jvm.MethodName) jdk_52_method_15_code (2 : Nat) (Option.some Jvm.ClassFile.FieldType.byte)).before args0 about1 = true := code_word (m := ⟨8, 7⟩) (meth := k8m7) (c := k8c7) (by decide +kernel) rfl rfl rfl (by decide +kernel)
set_option maxRecDepth 65536 in
theorem w_c8 : (Jvm.Cond.code ({ cls := "com/example/nuthatch/nuthatch/EntryName", name := "member", desc := "(Ljava/lang/String;Ljava/lang/String;)Ljava/lang/String;" } : Jvm.MethodName) prog_2_method_3_code (6 : Nat) (Option.some (Jvm.ClassFile.FieldType.object "java/lang/String"))).before args0 about1 = true := code_word (m := ⟨9, 1⟩) (meth := k9m1) (c := k9c1) (by decide +kernel) rfl rfl rfl (by decide +kernel)
set_option maxRecDepth 65536 in
theorem w_c9 : (Jvm.Cond.code ({ cls := "java/lang/StringBuilder", name := "<init>", desc := "()V" } : Jvm.MethodName) jdk_67_method_1_code (1 : Nat) (Option.none : Option Jvm.ClassFile.FieldType)).before args0 about1 = true := code_word (m := ⟨12, 0⟩) (meth := k12m0) (c := k12c0) (by decide +kernel) rfl rfl rfl (by decide +kernel)
set_option maxRecDepth 65536 in
theorem w_c10 : (Jvm.Cond.code ({ cls := "java/lang/AbstractStringBuilder", name := "<init>", desc := "(I)V" } : Jvm.MethodName) jdk_68_method_2_code (2 : Nat) (Option.none : Option Jvm.ClassFile.FieldType)).before args0 about1 = true := code_word (m := ⟨11, 1⟩) (meth := k11m1) (c := k11c1) (by decide +kernel) rfl rfl rfl (by decide +kernel)
set_option maxRecDepth 65536 in
theorem w_c11 : (Jvm.Cond.code ({ cls := "java/lang/String", name := "length", desc := "()I" } : Jvm.MethodName) jdk_42_method_54_code (1 : Nat) (Option.some Jvm.ClassFile.FieldType.int)).before args0 about1 = true := code_word (m := ⟨7, 3⟩) (meth := k7m3) (c := k7c3) (by decide +kernel) rfl rfl rfl (by decide +kernel)
set_option maxRecDepth 65536 in
theorem w_c12 : (Jvm.Cond.code ({ cls := "java/lang/String", name := "coder", desc := "()B" } : Jvm.MethodName) jdk_42_method_152_code (1 : Nat) (Option.some Jvm.ClassFile.FieldType.byte)).before args0 about1 = true := code_word (m := ⟨7, 8⟩) (meth := k7m8) (c := k7c8) (by decide +kernel) rfl rfl rfl (by decide +kernel)
set_option maxRecDepth 65536 in
theorem w_c13 : (Jvm.Cond.code ({ cls := "java/lang/StringBuilder", name := "append", desc := "(C)Ljava/lang/StringBuilder;" } : Jvm.MethodName) jdk_67_method_14_code (2 : Nat) (Option.some (Jvm.ClassFile.FieldType.object "java/lang/StringBuilder"))).before args0 about1 = true := code_word (m := ⟨12, 2⟩) (meth := k12m2) (c := k12c2) (by decide +kernel) rfl rfl rfl (by decide +kernel)
set_option maxRecDepth 65536 in
theorem w_c14 : (Jvm.Cond.code ({ cls := "java/lang/AbstractStringBuilder", name := "append", desc := "(C)Ljava/lang/AbstractStringBuilder;" } : Jvm.MethodName) jdk_68_method_31_code (2 : Nat) (Option.some (Jvm.ClassFile.FieldType.object "java/lang/AbstractStringBuilder"))).before args0 about1 = true := code_word (m := ⟨11, 6⟩) (meth := k11m6) (c := k11c6) (by decide +kernel) rfl rfl rfl (by decide +kernel)
set_option maxRecDepth 65536 in
theorem w_c15 : (Jvm.Cond.code ({ cls := "java/lang/AbstractStringBuilder", name := "ensureCapacityInternal", desc := "(I)V" } : Jvm.MethodName) jdk_68_method_9_code (3 : Nat) (Option.none : Option Jvm.ClassFile.FieldType)).before args0 about1 = true := code_word (m := ⟨11, 3⟩) (meth := k11m3) (c := k11c3) (by decide +kernel) rfl rfl rfl (by decide +kernel)
set_option maxRecDepth 65536 in
theorem w_c16 : (Jvm.Cond.code ({ cls := "java/lang/AbstractStringBuilder", name := "isLatin1", desc := "()Z" } : Jvm.MethodName) jdk_68_method_68_code (1 : Nat) (Option.some Jvm.ClassFile.FieldType.boolean)).before args0 about1 = true := code_word (m := ⟨11, 8⟩) (meth := k11m8) (c := k11c8) (by decide +kernel) rfl rfl rfl (by decide +kernel)
set_option maxRecDepth 65536 in
theorem w_c17 : (Jvm.Cond.code ({ cls := "java/lang/StringLatin1", name := "canEncode", desc := "(C)Z" } : Jvm.MethodName) jdk_43_method_3_code (1 : Nat) (Option.some Jvm.ClassFile.FieldType.boolean)).before args0 about1 = true := code_word (m := ⟨13, 2⟩) (meth := k13m2) (c := k13c2) (by decide +kernel) rfl rfl rfl (by decide +kernel)
set_option maxRecDepth 65536 in
theorem w_c18 : (Jvm.Cond.code ({ cls := "java/lang/StringBuilder", name := "append", desc := "(Ljava/lang/String;)Ljava/lang/StringBuilder;" } : Jvm.MethodName) jdk_67_method_7_code (2 : Nat) (Option.some (Jvm.ClassFile.FieldType.object "java/lang/StringBuilder"))).before args0 about1 = true := code_word (m := ⟨12, 1⟩) (meth := k12m1) (c := k12c1) (by decide +kernel) rfl rfl rfl (by decide +kernel)
set_option maxRecDepth 65536 in
theorem w_c19 : (Jvm.Cond.code ({ cls := "java/lang/AbstractStringBuilder", name := "append", desc := "(Ljava/lang/String;)Ljava/lang/AbstractStringBuilder;" } : Jvm.MethodName) jdk_68_method_22_code (3 : Nat) (Option.some (Jvm.ClassFile.FieldType.object "java/lang/AbstractStringBuilder"))).before args0 about1 = true := code_word (m := ⟨11, 5⟩) (meth := k11m5) (c := k11c5) (by decide +kernel) rfl rfl rfl (by decide +kernel)
set_option maxRecDepth 65536 in
theorem w_c20 : (Jvm.Cond.code ({ cls := "java/lang/AbstractStringBuilder", name := "putStringAt", desc := "(ILjava/lang/String;)V" } : Jvm.MethodName) jdk_68_method_73_code (3 : Nat) (Option.none : Option Jvm.ClassFile.FieldType)).before args0 about1 = true := code_word (m := ⟨11, 10⟩) (meth := k11m10) (c := k11c10) (by decide +kernel) rfl rfl rfl (by decide +kernel)
set_option maxRecDepth 65536 in
theorem w_c21 : (Jvm.Cond.code ({ cls := "java/lang/AbstractStringBuilder", name := "inflateIfNeededFor", desc := "(Ljava/lang/String;)V" } : Jvm.MethodName) jdk_68_method_71_code (2 : Nat) (Option.none : Option Jvm.ClassFile.FieldType)).before args0 about1 = true := code_word (m := ⟨11, 9⟩) (meth := k11m9) (c := k11c9) (by decide +kernel) rfl rfl rfl (by decide +kernel)
set_option maxRecDepth 65536 in
theorem w_c22 : (Jvm.Cond.code ({ cls := "java/lang/String", name := "getBytes", desc := "([BIB)V" } : Jvm.MethodName) jdk_42_method_147_code (4 : Nat) (Option.none : Option Jvm.ClassFile.FieldType)).before args0 about1 = true := code_word (m := ⟨7, 5⟩) (meth := k7m5) (c := k7c5) (by decide +kernel) rfl rfl rfl (by decide +kernel)
set_option maxRecDepth 65536 in
theorem w_c23 : (Jvm.Cond.code ({ cls := "java/lang/StringBuilder", name := "toString", desc := "()Ljava/lang/String;" } : Jvm.MethodName) jdk_67_method_42_code (1 : Nat) (Option.some (Jvm.ClassFile.FieldType.object "java/lang/String"))).before args0 about1 = true := code_word (m := ⟨12, 3⟩) (meth := k12m3) (c := k12c3) (by decide +kernel) rfl rfl rfl (by decide +kernel)
set_option maxRecDepth 65536 in
theorem w_c24 : (Jvm.Cond.code ({ cls := "java/lang/String", name := "<init>", desc := "(Ljava/lang/StringBuilder;)V" } : Jvm.MethodName) jdk_42_method_53_code (2 : Nat) (Option.none : Option Jvm.ClassFile.FieldType)).before args0 about1 = true := code_word (m := ⟨7, 2⟩) (meth := k7m2) (c := k7c2) (by decide +kernel) rfl rfl rfl (by decide +kernel)
set_option maxRecDepth 65536 in
theorem w_c25 : (Jvm.Cond.code ({ cls := "java/lang/String", name := "<init>", desc := "(Ljava/lang/AbstractStringBuilder;Ljava/lang/Void;)V" } : Jvm.MethodName) jdk_42_method_150_code (5 : Nat) (Option.none : Option Jvm.ClassFile.FieldType)).before args0 about1 = true := code_word (m := ⟨7, 7⟩) (meth := k7m7) (c := k7c7) (by decide +kernel) rfl rfl rfl (by decide +kernel)
set_option maxRecDepth 65536 in
theorem w_c26 : (Jvm.Cond.code ({ cls := "java/lang/AbstractStringBuilder", name := "getValue", desc := "()[B" } : Jvm.MethodName) jdk_68_method_64_code (1 : Nat) (Option.some (Jvm.ClassFile.FieldType.array Jvm.ClassFile.FieldType.byte))).before args0 about1 = true := code_word (m := ⟨11, 7⟩) (meth := k11m7) (c := k11c7) (by decide +kernel) rfl rfl rfl (by decide +kernel)
set_option maxRecDepth 65536 in
theorem w_c27 : (Jvm.Cond.code ({ cls := "java/lang/StringBuilder", name := "length", desc := "()I" } : Jvm.MethodName) jdk_67_method_93_code (1 : Nat) (Option.some Jvm.ClassFile.FieldType.int)).before args0 about1 = true := code_word (m := ⟨12, 4⟩) (meth := k12m4) (c := k12c4) (by decide +kernel) rfl rfl rfl (by decide +kernel)
set_option maxRecDepth 65536 in
theorem w_c28 : (Jvm.Cond.code ({ cls := "java/lang/AbstractStringBuilder", name := "length", desc := "()I" } : Jvm.MethodName) jdk_68_method_6_code (1 : Nat) (Option.some Jvm.ClassFile.FieldType.int)).before args0 about1 = true := code_word (m := ⟨11, 2⟩) (meth := k11m2) (c := k11c2) (by decide +kernel) rfl rfl rfl (by decide +kernel)
set_option maxRecDepth 65536 in
theorem w_c29 : (Jvm.Cond.code ({ cls := "java/util/Arrays", name := "copyOfRange", desc := "([BII)[B" } : Jvm.MethodName) jdk_65_method_132_code (3 : Nat) (Option.some (Jvm.ClassFile.FieldType.array Jvm.ClassFile.FieldType.byte))).before args0 about1 = true := code_word (m := ⟨15, 2⟩) (meth := k15m2) (c := k15c2) (by decide +kernel) rfl rfl rfl (by decide +kernel)
set_option maxRecDepth 65536 in
theorem w_c30 : (Jvm.Cond.code ({ cls := "java/util/Arrays", name := "copyOfRangeByte", desc := "([BII)[B" } : Jvm.MethodName) jdk_65_method_133_code (5 : Nat) (Option.some (Jvm.ClassFile.FieldType.array Jvm.ClassFile.FieldType.byte))).before args0 about1 = true := code_word (m := ⟨15, 3⟩) (meth := k15m3) (c := k15c3) (by decide +kernel) rfl rfl rfl (by decide +kernel)
set_option maxRecDepth 65536 in
theorem w_c31 : (Jvm.Cond.code ({ cls := "java/util/Arrays", name := "checkLength", desc := "(II)V" } : Jvm.MethodName) jdk_65_method_131_code (2 : Nat) (Option.none : Option Jvm.ClassFile.FieldType)).before args0 about1 = true := code_word (m := ⟨15, 1⟩) (meth := k15m1) (c := k15c1) (by decide +kernel) rfl rfl rfl (by decide +kernel)
set_option maxRecDepth 65536 in
theorem w_c32 : (Jvm.Cond.code ({ cls := "java/lang/Math", name := "min", desc := "(II)I" } : Jvm.MethodName) jdk_29_method_69_code (2 : Nat) (Option.some Jvm.ClassFile.FieldType.int)).before args0 about1 = true := code_word (m := ⟨16, 1⟩) (meth := k16m1) (c := k16c1) (by decide +kernel) rfl rfl rfl (by decide +kernel)
set_option maxRecDepth 65536 in
theorem w_c33 : (Jvm.Cond.code ({ cls := "java/lang/String", name := "charAt", desc := "(I)C" } : Jvm.MethodName) jdk_42_method_56_code (2 : Nat) (Option.some Jvm.ClassFile.FieldType.char)).before args0 about1 = true := code_word (m := ⟨7, 4⟩) (meth := k7m4) (c := k7c4) (by decide +kernel) rfl rfl rfl (by decide +kernel)
set_option maxRecDepth 65536 in
theorem w_c34 : (Jvm.Cond.code ({ cls := "java/lang/String", name := "isLatin1", desc := "()Z" } : Jvm.MethodName) jdk_42_method_154_code (1 : Nat) (Option.some Jvm.ClassFile.FieldType.boolean)).before args0 about1 = true := code_word (m := ⟨7, 9⟩) (meth := k7m9) (c := k7c9) (by decide +kernel) rfl rfl rfl (by decide +kernel)
set_option maxRecDepth 65536 in
theorem w_c35 : (Jvm.Cond.code ({ cls := "java/lang/StringLatin1", name := "charAt", desc := "([BI)C" } : Jvm.MethodName) jdk_43_method_2_code (2 : Nat) (Option.some Jvm.ClassFile.FieldType.char)).before args0 about1 = true := code_word (m := ⟨13, 1⟩) (meth := k13m1) (c := k13c1) (by decide +kernel) rfl rfl rfl (by decide +kernel)
set_option maxRecDepth 65536 in
theorem w_c36 : (Jvm.Cond.code ({ cls := "java/lang/String", name := "checkIndex", desc := "(II)V" } : Jvm.MethodName) jdk_42_method_155_code (2 : Nat) (Option.none : Option Jvm.ClassFile.FieldType)).before args0 about1 = true := code_word (m := ⟨7, 10⟩) (meth := k7m10) (c := k7c10) (by decide +kernel) rfl rfl rfl (by decide +kernel)
set_option maxRecDepth 65536 in
theorem w_c37 : (Jvm.Cond.code ({ cls := "jdk/internal/util/Preconditions", name := "checkIndex", desc := "(IILjava/util/function/BiFunction;)I" } : Jvm.MethodName) jdk_41_method_11_code (3 : Nat) (Option.some Jvm.ClassFile.FieldType.int)).before args0 about1 = true := code_word (m := ⟨17, 1⟩) (meth := k17m1) (c := k17c1) (by decide +kernel) rfl rfl rfl (by decide +kernel)
set_option maxRecDepth 65536 in
theorem w_c38 : (Jvm.Cond.code ({ cls := "java/lang/StringUTF16", name := "toBytes", desc := "([CII)[B" } : Jvm.MethodName) jdk_52_method_14_code (5 : Nat) (Option.some (Jvm.ClassFile.FieldType.array Jvm.ClassFile.FieldType.byte))).before args0 about1 = true := code_word (m := ⟨8, 6⟩) (meth := k8m6) (c := k8c6) (by decide +kernel) rfl rfl rfl (by decide +kernel)
set_option maxRecDepth 65536 in
theorem w_c39 : (Jvm.Cond.code ({ cls := "java/lang/StringUTF16", name := "newBytesFor", desc := "(I)[B" } : Jvm.MethodName) jdk_52_method_2_code (1 : Nat) (Option.some (Jvm.ClassFile.FieldType.array Jvm.ClassFile.FieldType.byte))).before args0 about1 = true := code_word (m := ⟨8, 1⟩) (meth := k8m1) (c := k8c1) (by decide +kernel) rfl rfl rfl (by decide +kernel)
set_option maxRecDepth 65536 in
theorem w_c40 : (Jvm.Cond.code ({ cls := "java/lang/StringUTF16", name := "newBytesLength", desc := "(I)I" } : Jvm.MethodName) jdk_52_method_3_code (1 : Nat) (Option.some Jvm.ClassFile.FieldType.int)).before args0 about1 = true := code_word (m := ⟨8, 2⟩) (meth := k8m2) (c := k8c2) (by decide +kernel) rfl rfl rfl (by decide +kernel)
set_option maxRecDepth 65536 in
theorem w_c41 : (Jvm.Cond.code ({ cls := "java/lang/StringUTF16", name := "putChar", desc := "([BII)V" } : Jvm.MethodName) jdk_52_method_4_code (3 : Nat) (Option.none : Option Jvm.ClassFile.FieldType)).before args0 about1 = true := code_word (m := ⟨8, 3⟩) (meth := k8m3) (c := k8c3) (by decide +kernel) rfl rfl rfl (by decide +kernel)
set_option maxRecDepth 65536 in
theorem w_c42 : (Jvm.Cond.code ({ cls := "java/lang/StringUTF16", name := "getChar", desc := "([BI)C" } : Jvm.MethodName) jdk_52_method_5_code (2 : Nat) (Option.some Jvm.ClassFile.FieldType.char)).before args0 about1 = true := code_word (m := ⟨8, 4⟩) (meth := k8m4) (c := k8c4) (by decide +kernel) rfl rfl rfl (by decide +kernel)
set_option maxRecDepth 65536 in
theorem w_c43 : (Jvm.Cond.code ({ cls := "java/lang/AbstractStringBuilder", name := "inflate", desc := "()V" } : Jvm.MethodName) jdk_68_method_11_code (2 : Nat) (Option.none : Option Jvm.ClassFile.FieldType)).before args0 about1 = true := code_word (m := ⟨11, 4⟩) (meth := k11m4) (c := k11c4) (by decide +kernel) rfl rfl rfl (by decide +kernel)
set_option maxRecDepth 65536 in
theorem w_c44 : (Jvm.Cond.code ({ cls := "java/lang/StringLatin1", name := "inflate", desc := "([BI[BII)V" } : Jvm.MethodName) jdk_43_method_50_code (5 : Nat) (Option.none : Option Jvm.ClassFile.FieldType)).before args0 about1 = true := code_word (m := ⟨13, 3⟩) (meth := k13m3) (c := k13c3) (by decide +kernel) rfl rfl rfl (by decide +kernel)
set_option maxRecDepth 65536 in
theorem w_c45 : (Jvm.Cond.code ({ cls := "java/lang/StringUTF16", name := "inflate", desc := "([BI[BII)V" } : Jvm.MethodName) jdk_52_method_86_code (6 : Nat) (Option.none : Option Jvm.ClassFile.FieldType)).before args0 about1 = true := code_word (m := ⟨8, 11⟩) (meth := k8m11) (c := k8c11) (by decide +kernel) rfl rfl rfl (by decide +kernel)
set_option maxRecDepth 65536 in
theorem w_c46 : (Jvm.Cond.code ({ cls := "java/lang/StringUTF16", name := "checkBoundsOffCount", desc := "(II[B)V" } : Jvm.MethodName) jdk_52_method_94_code (3 : Nat) (Option.none : Option Jvm.ClassFile.FieldType)).before args0 about1 = true := code_word (m := ⟨8, 13⟩) (meth := k8m13) (c := k8c13) (by decide +kernel) rfl rfl rfl (by decide +kernel)
set_option maxRecDepth 65536 in
theorem w_c47 : (Jvm.Cond.code ({ cls := "java/lang/StringUTF16", name := "length", desc := "([B)I" } : Jvm.MethodName) jdk_52_method_6_code (1 : Nat) (Option.some Jvm.ClassFile.FieldType.int)).before args0 about1 = true := code_word (m := ⟨8, 5⟩) (meth := k8m5) (c := k8c5) (by decide +kernel) rfl rfl rfl (by decide +kernel)
set_option maxRecDepth 65536 in
theorem w_c48 : (Jvm.Cond.code ({ cls := "java/lang/String", name := "checkBoundsOffCount", desc := "(III)I" } : Jvm.MethodName) jdk_42_method_157_code (3 : Nat) (Option.some Jvm.ClassFile.FieldType.int)).before args0 about1 = true := code_word (m := ⟨7, 11⟩) (meth := k7m11) (c := k7c11) (by decide +kernel) rfl rfl rfl (by decide +kernel)
set_option maxRecDepth 65536 in
theorem w_c49 : (Jvm.Cond.code ({ cls := "jdk/internal/util/Preconditions", name := "checkFromIndexSize", desc := "(IIILjava/util/function/BiFunction;)I" } : Jvm.MethodName) jdk_41_method_13_code (4 : Nat) (Option.some Jvm.ClassFile.FieldType.int)).before args0 about1 = true := code_word (m := ⟨17, 2⟩) (meth := k17m2) (c := k17c2) (by decide +kernel) rfl rfl rfl (by decide +kernel)
set_option maxRecDepth 65536 in
theorem w_c50 : (Jvm.Cond.code ({ cls := "java/lang/StringUTF16", name := "charAt", desc := "([BI)C" } : Jvm.MethodName) jdk_52_method_83_code (2 : Nat) (Option.some Jvm.ClassFile.FieldType.char)).before args0 about1 = true := code_word (m := ⟨8, 10⟩) (meth := k8m10) (c := k8c10) (by decide +kernel) rfl rfl rfl (by decide +kernel)
set_option maxRecDepth 65536 in
theorem w_c51 : (Jvm.Cond.code ({ cls := "java/lang/StringUTF16", name := "checkIndex", desc := "(I[B)V" } : Jvm.MethodName) jdk_52_method_91_code (2 : Nat) (Option.none : Option Jvm.ClassFile.FieldType)).before args0 about1 = true := code_word (m := ⟨8, 12⟩) (meth := k8m12) (c := k8c12) (by decide +kernel) rfl rfl rfl (by decide +kernel)
set_option maxRecDepth 65536 in
theorem w_c52 : (Jvm.Cond.code ({ cls := "com/example/nuthatch/nuthatch/EntryNameMemberPinLaw", name := "named", desc := "(C)C" } : Jvm.MethodName) method_3_code (4 : Nat) (Option.some Jvm.ClassFile.FieldType.char)).before args0 about1 = true := code_word (m := ⟨1, 2⟩) (meth := k1m2) (c := k1c2) (by decide +kernel) rfl rfl rfl (by decide +kernel)
def codes1 : List Jvm.Cond := [Jvm.Cond.code x code maxLocals ret, Jvm.Cond.code ({ cls := "com/example/nuthatch/nuthatch/EntryNameMemberPinLaw", name := "text", desc := "(ICCC)Ljava/lang/String;" } : Jvm.MethodName) method_2_code (4 : Nat) (Option.some (Jvm.ClassFile.FieldType.object "java/lang/String")), Jvm.Cond.code ({ cls := "java/lang/String", name := "<init>", desc := "([C)V" } : Jvm.MethodName) jdk_42_method_3_code (2 : Nat) (Option.none : Option Jvm.ClassFile.FieldType), Jvm.Cond.code ({ cls := "java/lang/String", name := "<init>", desc := "([CIILjava/lang/Void;)V" } : Jvm.MethodName) jdk_42_method_149_code (6 : Nat) (Option.none : Option Jvm.ClassFile.FieldType), Jvm.Cond.code ({ cls := "java/lang/Object", name := "<init>", desc := "()V" } : Jvm.MethodName) object_method_1_code (1 : Nat) (Option.none : Option Jvm.ClassFile.FieldType), Jvm.Cond.code ({ cls := "java/lang/StringUTF16", name := "compress", desc := "([CII)[B" } : Jvm.MethodName) jdk_52_method_16_code (6 : Nat) (Option.some (Jvm.ClassFile.FieldType.array Jvm.ClassFile.FieldType.byte)), Jvm.Cond.code ({ cls := "java/lang/StringUTF16", name := "compress", desc := "([CI[BII)I" } : Jvm.MethodName) jdk_52_method_21_code (7 : Nat) (Option.some Jvm.ClassFile.FieldType.int), Jvm.Cond.code ({ cls := "java/lang/StringUTF16", name := "coderFromArrayLen", desc := "([BI)B" } : Jvm.MethodName) jdk_52_method_15_code (2 : Nat) (Option.some Jvm.ClassFile.FieldType.byte), Jvm.Cond.code ({ cls := "com/example/nuthatch/nuthatch/EntryName", name := "member", desc := "(Ljava/lang/String;Ljava/lang/String;)Ljava/lang/String;" } : Jvm.MethodName) prog_2_method_3_code (6 : Nat) (Option.some (Jvm.ClassFile.FieldType.object "java/lang/String")), Jvm.Cond.code ({ cls := "java/lang/StringBuilder", name := "<init>", desc := "()V" } : Jvm.MethodName) jdk_67_method_1_code (1 : Nat) (Option.none : Option Jvm.ClassFile.FieldType), Jvm.Cond.code ({ cls := "java/lang/AbstractStringBuilder", name := "<init>", desc := "(I)V" } : Jvm.MethodName) jdk_68_method_2_code (2 : Nat) (Option.none : Option Jvm.ClassFile.FieldType), Jvm.Cond.code ({ cls := "java/lang/String", name := "length", desc := "()I" } : Jvm.MethodName) jdk_42_method_54_code (1 : Nat) (Option.some Jvm.ClassFile.FieldType.int), Jvm.Cond.code ({ cls := "java/lang/String", name := "coder", desc := "()B" } : Jvm.MethodName) jdk_42_method_152_code (1 : Nat) (Option.some Jvm.ClassFile.FieldType.byte), Jvm.Cond.code ({ cls := "java/lang/StringBuilder", name := "append", desc := "(C)Ljava/lang/StringBuilder;" } : Jvm.MethodName) jdk_67_method_14_code (2 : Nat) (Option.some (Jvm.ClassFile.FieldType.object "java/lang/StringBuilder")), Jvm.Cond.code ({ cls := "java/lang/AbstractStringBuilder", name := "append", desc := "(C)Ljava/lang/AbstractStringBuilder;" } : Jvm.MethodName) jdk_68_method_31_code (2 : Nat) (Option.some (Jvm.ClassFile.FieldType.object "java/lang/AbstractStringBuilder")), Jvm.Cond.code ({ cls := "java/lang/AbstractStringBuilder", name := "ensureCapacityInternal", desc := "(I)V" } : Jvm.MethodName) jdk_68_method_9_code (3 : Nat) (Option.none : Option Jvm.ClassFile.FieldType), Jvm.Cond.code ({ cls := "java/lang/AbstractStringBuilder", name := "isLatin1", desc := "()Z" } : Jvm.MethodName) jdk_68_method_68_code (1 : Nat) (Option.some Jvm.ClassFile.FieldType.boolean), Jvm.Cond.code ({ cls := "java/lang/StringLatin1", name := "canEncode", desc := "(C)Z" } : Jvm.MethodName) jdk_43_method_3_code (1 : Nat) (Option.some Jvm.ClassFile.FieldType.boolean), Jvm.Cond.code ({ cls := "java/lang/StringBuilder", name := "append", desc := "(Ljava/lang/String;)Ljava/lang/StringBuilder;" } : Jvm.MethodName) jdk_67_method_7_code (2 : Nat) (Option.some (Jvm.ClassFile.FieldType.object "java/lang/StringBuilder")), Jvm.Cond.code ({ cls := "java/lang/AbstractStringBuilder", name := "append", desc := "(Ljava/lang/String;)Ljava/lang/AbstractStringBuilder;" } : Jvm.MethodName) jdk_68_method_22_code (3 : Nat) (Option.some (Jvm.ClassFile.FieldType.object "java/lang/AbstractStringBuilder")), Jvm.Cond.code ({ cls := "java/lang/AbstractStringBuilder", name := "putStringAt", desc := "(ILjava/lang/String;)V" } : Jvm.MethodName) jdk_68_method_73_code (3 : Nat) (Option.none : Option Jvm.ClassFile.FieldType), Jvm.Cond.code ({ cls := "java/lang/AbstractStringBuilder", name := "inflateIfNeededFor", desc := "(Ljava/lang/String;)V" } : Jvm.MethodName) jdk_68_method_71_code (2 : Nat) (Option.none : Option Jvm.ClassFile.FieldType), Jvm.Cond.code ({ cls := "java/lang/String", name := "getBytes", desc := "([BIB)V" } : Jvm.MethodName) jdk_42_method_147_code (4 : Nat) (Option.none : Option Jvm.ClassFile.FieldType), Jvm.Cond.code ({ cls := "java/lang/StringBuilder", name := "toString", desc := "()Ljava/lang/String;" } : Jvm.MethodName) jdk_67_method_42_code (1 : Nat) (Option.some (Jvm.ClassFile.FieldType.object "java/lang/String")), Jvm.Cond.code ({ cls := "java/lang/String", name := "<init>", desc := "(Ljava/lang/StringBuilder;)V" } : Jvm.MethodName) jdk_42_method_53_code (2 : Nat) (Option.none : Option Jvm.ClassFile.FieldType), Jvm.Cond.code ({ cls := "java/lang/String", name := "<init>", desc := "(Ljava/lang/AbstractStringBuilder;Ljava/lang/Void;)V" } : Jvm.MethodName) jdk_42_method_150_code (5 : Nat) (Option.none : Option Jvm.ClassFile.FieldType), Jvm.Cond.code ({ cls := "java/lang/AbstractStringBuilder", name := "getValue", desc := "()[B" } : Jvm.MethodName) jdk_68_method_64_code (1 : Nat) (Option.some (Jvm.ClassFile.FieldType.array Jvm.ClassFile.FieldType.byte)), Jvm.Cond.code ({ cls := "java/lang/StringBuilder", name := "length", desc := "()I" } : Jvm.MethodName) jdk_67_method_93_code (1 : Nat) (Option.some Jvm.ClassFile.FieldType.int), Jvm.Cond.code ({ cls := "java/lang/AbstractStringBuilder", name := "length", desc := "()I" } : Jvm.MethodName) jdk_68_method_6_code (1 : Nat) (Option.some Jvm.ClassFile.FieldType.int), Jvm.Cond.code ({ cls := "java/util/Arrays", name := "copyOfRange", desc := "([BII)[B" } : Jvm.MethodName) jdk_65_method_132_code (3 : Nat) (Option.some (Jvm.ClassFile.FieldType.array Jvm.ClassFile.FieldType.byte)), Jvm.Cond.code ({ cls := "java/util/Arrays", name := "copyOfRangeByte", desc := "([BII)[B" } : Jvm.MethodName) jdk_65_method_133_code (5 : Nat) (Option.some (Jvm.ClassFile.FieldType.array Jvm.ClassFile.FieldType.byte)), Jvm.Cond.code ({ cls := "java/util/Arrays", name := "checkLength", desc := "(II)V" } : Jvm.MethodName) jdk_65_method_131_code (2 : Nat) (Option.none : Option Jvm.ClassFile.FieldType), Jvm.Cond.code ({ cls := "java/lang/Math", name := "min", desc := "(II)I" } : Jvm.MethodName) jdk_29_method_69_code (2 : Nat) (Option.some Jvm.ClassFile.FieldType.int), Jvm.Cond.code ({ cls := "java/lang/String", name := "charAt", desc := "(I)C" } : Jvm.MethodName) jdk_42_method_56_code (2 : Nat) (Option.some Jvm.ClassFile.FieldType.char), Jvm.Cond.code ({ cls := "java/lang/String", name := "isLatin1", desc := "()Z" } : Jvm.MethodName) jdk_42_method_154_code (1 : Nat) (Option.some Jvm.ClassFile.FieldType.boolean), Jvm.Cond.code ({ cls := "java/lang/StringLatin1", name := "charAt", desc := "([BI)C" } : Jvm.MethodName) jdk_43_method_2_code (2 : Nat) (Option.some Jvm.ClassFile.FieldType.char), Jvm.Cond.code ({ cls := "java/lang/String", name := "checkIndex", desc := "(II)V" } : Jvm.MethodName) jdk_42_method_155_code (2 : Nat) (Option.none : Option Jvm.ClassFile.FieldType), Jvm.Cond.code ({ cls := "jdk/internal/util/Preconditions", name := "checkIndex", desc := "(IILjava/util/function/BiFunction;)I" } : Jvm.MethodName) jdk_41_method_11_code (3 : Nat) (Option.some Jvm.ClassFile.FieldType.int), Jvm.Cond.code ({ cls := "java/lang/StringUTF16", name := "toBytes", desc := "([CII)[B" } : Jvm.MethodName) jdk_52_method_14_code (5 : Nat) (Option.some (Jvm.ClassFile.FieldType.array Jvm.ClassFile.FieldType.byte)), Jvm.Cond.code ({ cls := "java/lang/StringUTF16", name := "newBytesFor", desc := "(I)[B" } : Jvm.MethodName) jdk_52_method_2_code (1 : Nat) (Option.some (Jvm.ClassFile.FieldType.array Jvm.ClassFile.FieldType.byte)), Jvm.Cond.code ({ cls := "java/lang/StringUTF16", name := "newBytesLength", desc := "(I)I" } : Jvm.MethodName) jdk_52_method_3_code (1 : Nat) (Option.some Jvm.ClassFile.FieldType.int), Jvm.Cond.code ({ cls := "java/lang/StringUTF16", name := "putChar", desc := "([BII)V" } : Jvm.MethodName) jdk_52_method_4_code (3 : Nat) (Option.none : Option Jvm.ClassFile.FieldType), Jvm.Cond.code ({ cls := "java/lang/StringUTF16", name := "getChar", desc := "([BI)C" } : Jvm.MethodName) jdk_52_method_5_code (2 : Nat) (Option.some Jvm.ClassFile.FieldType.char), Jvm.Cond.code ({ cls := "java/lang/AbstractStringBuilder", name := "inflate", desc := "()V" } : Jvm.MethodName) jdk_68_method_11_code (2 : Nat) (Option.none : Option Jvm.ClassFile.FieldType), Jvm.Cond.code ({ cls := "java/lang/StringLatin1", name := "inflate", desc := "([BI[BII)V" } : Jvm.MethodName) jdk_43_method_50_code (5 : Nat) (Option.none : Option Jvm.ClassFile.FieldType), Jvm.Cond.code ({ cls := "java/lang/StringUTF16", name := "inflate", desc := "([BI[BII)V" } : Jvm.MethodName) jdk_52_method_86_code (6 : Nat) (Option.none : Option Jvm.ClassFile.FieldType), Jvm.Cond.code ({ cls := "java/lang/StringUTF16", name := "checkBoundsOffCount", desc := "(II[B)V" } : Jvm.MethodName) jdk_52_method_94_code (3 : Nat) (Option.none : Option Jvm.ClassFile.FieldType), Jvm.Cond.code ({ cls := "java/lang/StringUTF16", name := "length", desc := "([B)I" } : Jvm.MethodName) jdk_52_method_6_code (1 : Nat) (Option.some Jvm.ClassFile.FieldType.int), Jvm.Cond.code ({ cls := "java/lang/String", name := "checkBoundsOffCount", desc := "(III)I" } : Jvm.MethodName) jdk_42_method_157_code (3 : Nat) (Option.some Jvm.ClassFile.FieldType.int), Jvm.Cond.code ({ cls := "jdk/internal/util/Preconditions", name := "checkFromIndexSize", desc := "(IIILjava/util/function/BiFunction;)I" } : Jvm.MethodName) jdk_41_method_13_code (4 : Nat) (Option.some Jvm.ClassFile.FieldType.int), Jvm.Cond.code ({ cls := "java/lang/StringUTF16", name := "charAt", desc := "([BI)C" } : Jvm.MethodName) jdk_52_method_83_code (2 : Nat) (Option.some Jvm.ClassFile.FieldType.char), Jvm.Cond.code ({ cls := "java/lang/StringUTF16", name := "checkIndex", desc := "(I[B)V" } : Jvm.MethodName) jdk_52_method_91_code (2 : Nat) (Option.none : Option Jvm.ClassFile.FieldType), Jvm.Cond.code ({ cls := "com/example/nuthatch/nuthatch/EntryNameMemberPinLaw", name := "named", desc := "(C)C" } : Jvm.MethodName) method_3_code (4 : Nat) (Option.some Jvm.ClassFile.FieldType.char)]
set_option maxRecDepth 65536 in
theorem codes_eq : words1.filter isCode = codes1 := rfl
theorem w_codes : ∀ c ∈ words1.filter isCode, c.before args0 about1 = true := by
  rw [codes_eq]
  intro c hc
  simp only [codes1, List.mem_cons, List.not_mem_nil, or_false] at hc
  rcases hc with rfl | rfl | rfl | rfl | rfl | rfl | rfl | rfl | rfl | rfl | rfl | rfl | rfl | rfl | rfl | rfl | rfl | rfl | rfl | rfl | rfl | rfl | rfl | rfl | rfl | rfl | rfl | rfl | rfl | rfl | rfl | rfl | rfl | rfl | rfl | rfl | rfl | rfl | rfl | rfl | rfl | rfl | rfl | rfl | rfl | rfl | rfl | rfl | rfl | rfl | rfl | rfl | rfl
  · exact w_c0
  · exact w_c1
  · exact w_c2
  · exact w_c3
  · exact w_c4
  · exact w_c5
  · exact w_c6
  · exact w_c7
  · exact w_c8
  · exact w_c9
  · exact w_c10
  · exact w_c11
  · exact w_c12
  · exact w_c13
  · exact w_c14
  · exact w_c15
  · exact w_c16
  · exact w_c17
  · exact w_c18
  · exact w_c19
  · exact w_c20
  · exact w_c21
  · exact w_c22
  · exact w_c23
  · exact w_c24
  · exact w_c25
  · exact w_c26
  · exact w_c27
  · exact w_c28
  · exact w_c29
  · exact w_c30
  · exact w_c31
  · exact w_c32
  · exact w_c33
  · exact w_c34
  · exact w_c35
  · exact w_c36
  · exact w_c37
  · exact w_c38
  · exact w_c39
  · exact w_c40
  · exact w_c41
  · exact w_c42
  · exact w_c43
  · exact w_c44
  · exact w_c45
  · exact w_c46
  · exact w_c47
  · exact w_c48
  · exact w_c49
  · exact w_c50
  · exact w_c51
  · exact w_c52
set_option maxRecDepth 65536 in
theorem w_t1 : (words1.take 24).all (fun c => isCode c || c.before args0 about1) = true := by decide +kernel
set_option maxRecDepth 65536 in
theorem w_t2 : ((words1.drop 24).take 24).all (fun c => isCode c || c.before args0 about1) = true := by decide +kernel
set_option maxRecDepth 65536 in
theorem w_t3 : (((words1.drop 24).drop 24).take 24).all (fun c => isCode c || c.before args0 about1) = true := by decide +kernel
set_option maxRecDepth 65536 in
theorem w_t4 : ((((words1.drop 24).drop 24).drop 24).take 24).all (fun c => isCode c || c.before args0 about1) = true := by decide +kernel
set_option maxRecDepth 65536 in
theorem w_t5 : (((((words1.drop 24).drop 24).drop 24).drop 24).take 24).all (fun c => isCode c || c.before args0 about1) = true := by decide +kernel
set_option maxRecDepth 65536 in
theorem w_t6 : ((((((words1.drop 24).drop 24).drop 24).drop 24).drop 24).take 24).all (fun c => isCode c || c.before args0 about1) = true := by decide +kernel
set_option maxRecDepth 65536 in
theorem w_t7 : (((((((words1.drop 24).drop 24).drop 24).drop 24).drop 24).drop 24).take 24).all (fun c => isCode c || c.before args0 about1) = true := by decide +kernel
set_option maxRecDepth 65536 in
theorem w_t8 : ((((((((words1.drop 24).drop 24).drop 24).drop 24).drop 24).drop 24).drop 24).take 24).all (fun c => isCode c || c.before args0 about1) = true := by decide +kernel
set_option maxRecDepth 65536 in
theorem w_t9 : (((((((((words1.drop 24).drop 24).drop 24).drop 24).drop 24).drop 24).drop 24).drop 24).take 24).all (fun c => isCode c || c.before args0 about1) = true := by decide +kernel
set_option maxRecDepth 65536 in
theorem w_t10 : ((((((((((words1.drop 24).drop 24).drop 24).drop 24).drop 24).drop 24).drop 24).drop 24).drop 24).take 24).all (fun c => isCode c || c.before args0 about1) = true := by decide +kernel
set_option maxRecDepth 65536 in
theorem w_t11 : ((((((((((words1.drop 24).drop 24).drop 24).drop 24).drop 24).drop 24).drop 24).drop 24).drop 24).drop 24).all (fun c => isCode c || c.before args0 about1) = true := by decide +kernel
theorem w_tables : (allAtoms (Jvm.Cond.code x code maxLocals ret :: tables_1)).before args0 about1 = true := by
  rw [allAtoms_all]
  show words1.all (fun c => c.before args0 about1) = true
  refine all_split ?_ w_codes
  rw [← List.take_append_drop 24 words1, List.all_append, w_t1, ← List.take_append_drop 24 (words1.drop 24), List.all_append, w_t2, ← List.take_append_drop 24 ((words1.drop 24).drop 24), List.all_append, w_t3, ← List.take_append_drop 24 (((words1.drop 24).drop 24).drop 24), List.all_append, w_t4, ← List.take_append_drop 24 ((((words1.drop 24).drop 24).drop 24).drop 24), List.all_append, w_t5, ← List.take_append_drop 24 (((((words1.drop 24).drop 24).drop 24).drop 24).drop 24), List.all_append, w_t6, ← List.take_append_drop 24 ((((((words1.drop 24).drop 24).drop 24).drop 24).drop 24).drop 24), List.all_append, w_t7, ← List.take_append_drop 24 (((((((words1.drop 24).drop 24).drop 24).drop 24).drop 24).drop 24).drop 24), List.all_append, w_t8, ← List.take_append_drop 24 ((((((((words1.drop 24).drop 24).drop 24).drop 24).drop 24).drop 24).drop 24).drop 24), List.all_append, w_t9, ← List.take_append_drop 24 (((((((((words1.drop 24).drop 24).drop 24).drop 24).drop 24).drop 24).drop 24).drop 24).drop 24), List.all_append, w_t10, w_t11]
  rfl
set_option maxRecDepth 65536 in
theorem w_rest : rest_1_c.before args0 about1 = true := by decide +kernel
set_option maxRecDepth 65536 in
theorem w_case : (Jvm.Cond.and given_1 narrow_1).before args0 about1 = true := by decide +kernel
set_option maxRecDepth 65536 in
theorem w_consts : constsHeld consts_1 about1 := Jvm.Lit.constsHeldB_iff.mp (by decide +kernel)
theorem w_applies : (headSpec (Jvm.Cond.code x code maxLocals ret :: tables_1) room_1).applies x e0.platform about1 = true :=
  (Spec.applies_iff w_frames).mpr ⟨w_running, w_runnable, w_alone, w_named, w_hears, w_ripe, w_room, w_tables⟩
theorem atStart : AtStart classFile x code maxLocals ret World_1 tables_1 room_1 Calls_1 rest_1 Pre_1 launch0 p0 e0 about1 theMethod args0 below0 :=
  ⟨lists_1, trivial, launch0.admits_env _ _ _, launch0.least_env, fairChoices_fair.cas, fairChoices_fair.clock, w_frames, w_args, w_heap, w_applies, ⟨w_consts, trivial⟩, w_rest, w_case⟩
end start1
theorem witness_1 : WitnessClaimed_1 := ⟨start1.p0, start1.e0, start1.about1, start1.theMethod, start1.args0, start1.below0, start1.atStart⟩
end Jvm.Pilot.@@N@@
