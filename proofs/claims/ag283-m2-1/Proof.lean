import JvmDerived
import JvmDerived.Pilot.@@N@@Statement
import JvmDerived.Pilot.@@N@@Code
set_option linter.unusedVariables false
set_option linter.unusedSimpArgs false
namespace Jvm.RoadKit
open Sem ClassFile Op Lib Jvm.Stand Jvm.Free Jvm.LawKit
section New
variable {p : Program} {l : Launch} {e : Env} {R : Room} {s : State} {m : MethodId} {args : Array Value} {below : List Frame} {meth : Method} {c : Code} {T : State} {locs : List Loc} {cells slots : Nat}
theorem retI (X : Stand p l e R s m args below meth c T locs cells slots) (hx : p.tables.exec = Jvm.exec) {pc : Nat} {Ls : Array Slot} {z : Int32} {rest : List Value} (hret : meth.sig.returnType = some .int) (hd : decode c.code pc = .ok (.ireturn, 1)) {fs : List Frame}
    (hl : ∀ (f : JFrame) (acts : List Action), f.method = m → f.locked = none → f.entered = [] → (doReturn e (T.setTop f) acts (some (.int z))).1 = T.setFrames fs) : Steps p.tables e below (T.setTop (mkF m pc Ls (.int z :: rest))) (T.setFrames fs) := by
  have hm' : T.vm.method? m = some meth := X.method'
  have hn : narrow .int (.int z) = .int z := rfl
  show Steps p.tables e below (T.setTop { method := m, pc := pc, locals := Ls, stack := _ :: rest, locked := none }) _
  jvm_step X.here [X.here.top, hx, hd, hm', hret, hn]
  first | (intro acts; rw [hl _ acts rfl rfl rfl]) | rw [hl _ _ rfl rfl rfl]
  exact Steps.refl _
end New
end Jvm.RoadKit
/- laws to paste: Road.backV (cut by pick.py; bodies as the Statement names them) -/
namespace Jvm.Pilot.@@N@@
namespace StrChars
open Jvm Sem ClassFile Op Lib Jvm.Stand Jvm.Free.XT Jvm.Free.ALB Jvm.Free.JM Jvm.Free
open Jvm.Lib.Cold (StaticIs)
/-- a char array whose places are chars -/
def Ch (a : Addr) (A : Cell) (U : State) : Prop := Arr .char a A U ∧ Typed .char A
theorem Ch.mv {a : Addr} {A : Cell} {U U' : State} (h : Ch a A U) (hal : U.vm.Alike U'.vm) (hh : U'.heap = U.heap) : Ch a A U' := ⟨h.1.mv hal hh, h.2⟩
theorem Ch.keep {a : Addr} {A : Cell} {U U' : State} (h : Ch a A U) (hal : U.vm.Alike U'.vm) (hk : U'.heap[a]? = some A) : Ch a A U' := ⟨h.1.keep hal hk, h.2⟩
/-- what place i of a char[]'s cell holds -/
def cv (A : Cell) (i : Nat) : Int32 := match A.slots[i]? with | some (.int x) => x | _ => 0
theorem Ch.get {a : Addr} {A : Cell} {U : State} (h : Ch a A U) {i : Nat} (hi : i < A.slots.size) : A.slots[i]? = some (.int (cv A i)) := by
  have e := Array.getElem?_eq_getElem hi
  have f := h.2 i _ e
  unfold cv; rw [e]
  generalize A.slots[i] = v at f
  cases v <;> simp [fits] at f ⊢
/-- the byte that i2b leaves of a char -/
def lo8 (x : Int32) : Int32 := x.toInt8.toInt32
theorem fits_lo8 (y : Int32) : fits .byte (.int (lo8 y)) = true := by
  have h1 := y.toInt8.le_toInt
  have h2 := y.toInt8.toInt_lt
  simp only [lo8, fits, Bool.and_eq_true, decide_eq_true_eq, Int32.le_iff_toInt_le, Int8.toInt_toInt32, show (-128 : Int32).toInt = -128 from by decide, show (127 : Int32).toInt = 127 from by decide]
  omega
/-- A' is A but that each place j of lo .. hi - 1 holds f j -/
def Laid (A A' : Cell) (lo hi : Nat) (f : Nat → Value) : Prop := A'.cls = A.cls ∧ A'.vm = A.vm ∧ A'.slots.size = A.slots.size ∧ ∀ i, A'.slots[i]? = if lo ≤ i ∧ i < hi then some (f i) else A.slots[i]?
theorem Laid.zero (A : Cell) (lo : Nat) (f : Nat → Value) : Laid A A lo (lo + 0) f := ⟨rfl, rfl, rfl, fun i => by rw [if_neg (by omega)]⟩
theorem Laid.step {A Ak : Cell} {lo k : Nat} {f : Nat → Value} {v : Value} (h : Laid A Ak lo k f) (hlo : lo ≤ k) (hk : k < Ak.slots.size) (hv : v = f k) : Laid A (Ak.setSlot k v) lo (k + 1) f := by
  refine ⟨h.1, h.2.1, by simpa [Cell.setSlot] using h.2.2.1, fun i => ?_⟩
  by_cases e : k = i
  · subst e; rw [Cell.slots_setSlot_self v hk, if_pos (by omega), hv]
  · rw [Cell.slots_setSlot_ne v e, h.2.2.2 i]
    by_cases q : lo ≤ i ∧ i < k
    · rw [if_pos q, if_pos (by omega)]
    · rw [if_neg q, if_neg (by omega)]
def U16 : String := "java/lang/StringUTF16"
namespace Cmp5
def yN : MethodName := ⟨"java/lang/StringUTF16", "compress", "([CI[BII)I"⟩
abbrev yB : ByteArray := jdk_52_method_21_code
theorem d0 : decode yB 0 = .ok (.iconst 0, 1) := by decide +kernel
theorem d1 : decode yB 1 = .ok (.istore 5, 2) := by decide +kernel
theorem d3 : decode yB 3 = .ok (.iload 5, 2) := by decide +kernel
theorem d5 : decode yB 5 = .ok (.iload 4, 2) := by decide +kernel
theorem d7 : decode yB 7 = .ok (.if_icmp (.ge) 37, 3) := by decide +kernel
theorem d10 : decode yB 10 = .ok (.aload_n 0, 1) := by decide +kernel
theorem d11 : decode yB 11 = .ok (.iload_n 1, 1) := by decide +kernel
theorem d12 : decode yB 12 = .ok (.caload, 1) := by decide +kernel
theorem d13 : decode yB 13 = .ok (.istore 6, 2) := by decide +kernel
theorem d15 : decode yB 15 = .ok (.iload 6, 2) := by decide +kernel
theorem d17 : decode yB 17 = .ok (.sipush 255, 3) := by decide +kernel
theorem d20 : decode yB 20 = .ok (.if_icmp (.le) 6, 3) := by decide +kernel
theorem d26 : decode yB 26 = .ok (.aload_n 2, 1) := by decide +kernel
theorem d27 : decode yB 27 = .ok (.iload_n 3, 1) := by decide +kernel
theorem d28 : decode yB 28 = .ok (.iload 6, 2) := by decide +kernel
theorem d30 : decode yB 30 = .ok (.i2b, 1) := by decide +kernel
theorem d31 : decode yB 31 = .ok (.bastore, 1) := by decide +kernel
theorem d32 : decode yB 32 = .ok (.iinc 1 1, 3) := by decide +kernel
theorem d35 : decode yB 35 = .ok (.iinc 3 1, 3) := by decide +kernel
theorem d38 : decode yB 38 = .ok (.iinc 5 1, 3) := by decide +kernel
theorem d41 : decode yB 41 = .ok (.goto (-38), 3) := by decide +kernel
theorem d44 : decode yB 44 = .ok (.iload 4, 2) := by decide +kernel
theorem d46 : decode yB 46 = .ok (.ireturn, 1) := by decide +kernel
def site : List Cond := []
def tab : Cond := tabOf yN yB 7 (some .int) site
def P (b : Addr) (A : Cell) (d : Addr) (B : Cell) (o q len : Nat) (args : Array Value) (s : State) : Prop := args = #[.ref b, .int (Int32.ofNat o), .ref d, .int (Int32.ofNat q), .int (Int32.ofNat len)] ∧ Ch b A s ∧ Arr .byte d B s ∧ b ≠ d ∧ o + len ≤ A.slots.size ∧ q + len ≤ B.slots.size ∧ ∀ i, i < len → ¬ 255 < cv A (o + i)
def E (b : Addr) (A : Cell) (d : Addr) (B : Cell) (o q len : Nat) (r : Option Value) (s u : State) : Prop := r = some (.int (Int32.ofNat len)) ∧ ∃ B', Put d B' s u ∧ Laid B B' q (q + len) (fun j => Value.int (lo8 (cv A (o + (j - q)))))
/-- no char of the range above 255: len; the places written hold each char's low byte -/
theorem law (l : Launch) (b : Addr) (A : Cell) (d : Addr) (B : Cell) (o q len : Nat) : Law l yN 5 5 0 0 yB 7 (some .int) site (P b A d B o q len) (E b A d B o q len) (copyLocs d q len) 0 0 := by
  refine Law.of_walk (plainFor_of_name (by decide +kernel)) (by decide +kernel) (by decide +kernel) (by decide) (fun _ _ h => by rw [h.1]; rfl) (fun _ U U' hal hh h => ⟨h.1, h.2.1.mv hal hh, h.2.2.1.mv hal hh, h.2.2.2⟩) (fun r U U' V V' h1 hal h2 h => ⟨h.1, h.2.elim fun B' q => ⟨B', q.1.mv h1 h2, q.2⟩⟩) ?_
  intro p e s m args below meth c s₁ X0 hexec hbytes hml hret hlk hnm hown hh0 W hP
  obtain ⟨rfl, hA, hB, hne, l1, l2, hp⟩ := hP
  have c1 : Steps p.tables e below (s₁.setTop (entryFrame m #[.ref b, .int (Int32.ofNat o), .ref d, .int (Int32.ofNat q), .int (Int32.ofNat len)] 7)) (s₁.setTop (mkF m 0 #[.val (.ref b), .val (.int (Int32.ofNat o)), .val (.ref d), .val (.int (Int32.ofNat q)), .val (.int (Int32.ofNat len)), .unset, .unset] [])) := entry rfl
  have hA0 := hA.1.mv X0.warmed.alike hh0
  have hB0 := hB.mv X0.warmed.alike hh0
  have a31 := hA.1.2.2.2
  have c2 : Steps p.tables e below (s₁.setTop (entryFrame m #[.ref b, .int (Int32.ofNat o), .ref d, .int (Int32.ofNat q), .int (Int32.ofNat len)] 7)) (s₁.setTop (mkF m 3 #[.val (.ref b), .val (.int (Int32.ofNat o)), .val (.ref d), .val (.int (Int32.ofNat q)), .val (.int (Int32.ofNat len)), .val (.int 0), .unset] [])) := c1.trans (by
    refine iconstV X0.here hexec rfl 0 (hb hbytes d0) (by decide) ?_
    refine XS.istore X0.here hexec rfl (hb hbytes d1) rfl rfl ?_
    exact Steps.refl _)
  have loop : ∀ (r i : Nat), i + r = len → ∀ (z : Slot), (z = .unset ∨ ∃ w, z = .val w ∧ w.category = 1) → ∀ (Tl : State) (Bk : Cell), Stand p l e { frames := 0, locals := 0, cells := 0, slots := 0 } s m #[.ref b, .int (Int32.ofNat o), .ref d, .int (Int32.ofNat q), .int (Int32.ofNat len)] below meth c Tl ([] ++ copyLocs d q i) 0 0 → Put d Bk s₁ Tl → Laid B Bk q (q + i) (fun j => Value.int (lo8 (cv A (o + (j - q))))) →
      Steps p.tables e below (s₁.setTop (entryFrame m #[.ref b, .int (Int32.ofNat o), .ref d, .int (Int32.ofNat q), .int (Int32.ofNat len)] 7)) (Tl.setTop (mkF m 3 #[.val (.ref b), .val (.int (Int32.ofNat (o + i))), .val (.ref d), .val (.int (Int32.ofNat (q + i))), .val (.int (Int32.ofNat len)), .val (.int (Int32.ofNat i)), z] [])) → ∃ (T' : State) (B' : Cell) (z' : Slot), Stand p l e { frames := 0, locals := 0, cells := 0, slots := 0 } s m #[.ref b, .int (Int32.ofNat o), .ref d, .int (Int32.ofNat q), .int (Int32.ofNat len)] below meth c T' ([] ++ copyLocs d q len) 0 0 ∧ Put d B' s₁ T' ∧ Laid B B' q (q + len) (fun j => Value.int (lo8 (cv A (o + (j - q))))) ∧
      Steps p.tables e below (s₁.setTop (entryFrame m #[.ref b, .int (Int32.ofNat o), .ref d, .int (Int32.ofNat q), .int (Int32.ofNat len)] 7)) (T'.setTop (mkF m 3 #[.val (.ref b), .val (.int (Int32.ofNat (o + len))), .val (.ref d), .val (.int (Int32.ofNat (q + len))), .val (.int (Int32.ofNat len)), .val (.int (Int32.ofNat len)), z'] [])) := by
    intro r
    induction r with
    | zero =>
      intro i hi z hz Tl Bk Xl pl fl cl
      have hil : i = len := by omega
      rw [hil] at Xl fl cl
      exact ⟨Tl, Bk, z, Xl, pl, fl, cl⟩
    | succ r ih =>
      intro i hi z hz Tl Bk Xl pl fl cl
      have all := X0.warmed.alike.symm.trans Xl.warmed.alike
      have hAl := hA0.keep all (pl.other hne hA0.1)
      have hBk := hB0.like all pl.1 fl.1 fl.2.1 fl.2.2.1
      have hlt : q + i < Bk.slots.size := by rw [fl.2.2.1]; omega
      have c3 : Steps p.tables e below (s₁.setTop (entryFrame m #[.ref b, .int (Int32.ofNat o), .ref d, .int (Int32.ofNat q), .int (Int32.ofNat len)] 7)) (Tl.setTop (mkF m 12 #[.val (.ref b), .val (.int (Int32.ofNat (o + i))), .val (.ref d), .val (.int (Int32.ofNat (q + i))), .val (.int (Int32.ofNat len)), .val (.int (Int32.ofNat i)), z] [.int (Int32.ofNat (o + i)), .ref b])) := cl.trans (by
        refine XS.iload Xl.here hexec rfl (hb hbytes d3) rfl ?_
        refine XS.iload Xl.here hexec rfl (hb hbytes d5) rfl ?_
        refine XS.icmpNo Xl.here hexec rfl (hb hbytes d7) rfl (ii_ge_f (lt32 (by omega) (by omega))) ?_
        refine XS.aloadN Xl.here hexec rfl (hb hbytes d10) rfl rfl ?_
        refine XS.iloadN Xl.here hexec rfl (hb hbytes d11) rfl ?_
        exact Steps.refl _)
      have c4 : Steps p.tables e below (s₁.setTop (entryFrame m #[.ref b, .int (Int32.ofNat o), .ref d, .int (Int32.ofNat q), .int (Int32.ofNat len)] 7)) (Tl.setTop (mkF m 13 #[.val (.ref b), .val (.int (Int32.ofNat (o + i))), .val (.ref d), .val (.int (Int32.ofNat (q + i))), .val (.int (Int32.ofNat len)), .val (.int (Int32.ofNat i)), z] [.int (cv A (o + i))])) := c3.trans (by
        refine Xl.aget hexec hAl rfl (hA.get (i := o + i) (by omega)) rfl rfl (hb hbytes d12) ?_
        exact Steps.refl _)
      have c5 : Steps p.tables e below (s₁.setTop (entryFrame m #[.ref b, .int (Int32.ofNat o), .ref d, .int (Int32.ofNat q), .int (Int32.ofNat len)] 7)) (Tl.setTop (mkF m 15 #[.val (.ref b), .val (.int (Int32.ofNat (o + i))), .val (.ref d), .val (.int (Int32.ofNat (q + i))), .val (.int (Int32.ofNat len)), .val (.int (Int32.ofNat i)), .val (.int (cv A (o + i)))] [])) := c4.trans (by
        refine XS.istoreS Xl.here hexec rfl (hb hbytes d13) rfl rfl hz ?_
        exact Steps.refl _)
      have c6 : Steps p.tables e below (s₁.setTop (entryFrame m #[.ref b, .int (Int32.ofNat o), .ref d, .int (Int32.ofNat q), .int (Int32.ofNat len)] 7)) (Tl.setTop (mkF m 31 #[.val (.ref b), .val (.int (Int32.ofNat (o + i))), .val (.ref d), .val (.int (Int32.ofNat (q + i))), .val (.int (Int32.ofNat len)), .val (.int (Int32.ofNat i)), .val (.int (cv A (o + i)))] [.int (lo8 (cv A (o + i))), .int (Int32.ofNat (q + i)), .ref d])) := c5.trans (by
        refine XS.iload Xl.here hexec rfl (hb hbytes d15) rfl ?_
        refine sipushV Xl.here hexec rfl 255 (hb hbytes d17) (by decide) ?_
        refine XS.icmpYes Xl.here hexec rfl (pc0 := 20) rfl (hb hbytes d20) rfl (ii_le_t (hp i (by omega))) (by decide) rfl ?_
        refine XS.aloadN Xl.here hexec rfl (hb hbytes d26) rfl rfl ?_
        refine XS.iloadN Xl.here hexec rfl (hb hbytes d27) rfl ?_
        refine XS.iload Xl.here hexec rfl (hb hbytes d28) rfl ?_
        refine i2b Xl.here hexec rfl (hb hbytes d30) rfl ?_
        exact Steps.refl _)
      obtain ⟨T7, X7, p7, st7⟩ := Xl.aput hexec hBk rfl hlt rfl (fits_lo8 (cv A (o + i))) (g := (mkF m 31 #[.val (.ref b), .val (.int (Int32.ofNat (o + i))), .val (.ref d), .val (.int (Int32.ofNat (q + i))), .val (.int (Int32.ofNat len)), .val (.int (Int32.ofNat i)), .val (.int (cv A (o + i)))] [.int (lo8 (cv A (o + i))), .int (Int32.ofNat (q + i)), .ref d])) rfl (rest := []) rfl (hb hbytes d31)
      have c8 : Steps p.tables e below (s₁.setTop (entryFrame m #[.ref b, .int (Int32.ofNat o), .ref d, .int (Int32.ofNat q), .int (Int32.ofNat len)] 7)) (T7.setTop (mkF m 32 #[.val (.ref b), .val (.int (Int32.ofNat (o + i))), .val (.ref d), .val (.int (Int32.ofNat (q + i))), .val (.int (Int32.ofNat len)), .val (.int (Int32.ofNat i)), .val (.int (cv A (o + i)))] [])) := c6.trans (st7 _ (Steps.refl _))
      have c9 : Steps p.tables e below (s₁.setTop (entryFrame m #[.ref b, .int (Int32.ofNat o), .ref d, .int (Int32.ofNat q), .int (Int32.ofNat len)] 7)) (T7.setTop (mkF m 3 #[.val (.ref b), .val (.int (Int32.ofNat (o + i) + 1)), .val (.ref d), .val (.int (Int32.ofNat (q + i) + 1)), .val (.int (Int32.ofNat len)), .val (.int (Int32.ofNat i + 1)), .val (.int (cv A (o + i)))] [])) := c8.trans (by
        refine iincV X7.here hexec rfl 1 (hb hbytes d32) (by decide) rfl rfl ?_
        refine iincV X7.here hexec rfl 1 (hb hbytes d35) (by decide) rfl rfl ?_
        refine iincV X7.here hexec rfl 1 (hb hbytes d38) (by decide) rfl rfl ?_
        refine XS.goto X7.here hexec rfl (pc0 := 41) rfl (hb hbytes d41) (by decide) rfl ?_
        exact Steps.refl _)
      have c10 : Steps p.tables e below (s₁.setTop (entryFrame m #[.ref b, .int (Int32.ofNat o), .ref d, .int (Int32.ofNat q), .int (Int32.ofNat len)] 7)) (T7.setTop (mkF m 3 #[.val (.ref b), .val (.int (Int32.ofNat (o + (i + 1)))), .val (.ref d), .val (.int (Int32.ofNat (q + (i + 1)))), .val (.int (Int32.ofNat len)), .val (.int (Int32.ofNat (i + 1))), .val (.int (cv A (o + i)))] [])) := by
        have := c9
        rw [succ32, succ32, succ32] at this
        exact this
      exact ih (i + 1) (by omega) _ (Or.inr ⟨_, rfl, rfl⟩) T7 _ (by rw [copyLocs_step, ← List.append_assoc]; exact X7) (pl.trans p7) (fl.step (by omega) hlt (by simp)) c10
  obtain ⟨T9, B9, z9, X9, p9, f9, g9⟩ := loop len 0 (by omega) .unset (Or.inl rfl) s₁ B (by simpa [copyLocs] using X0) ⟨hB0.1, fun _ _ => rfl, rfl⟩ (Laid.zero _ _ _) c2
  have c11 : Steps p.tables e below (s₁.setTop (entryFrame m #[.ref b, .int (Int32.ofNat o), .ref d, .int (Int32.ofNat q), .int (Int32.ofNat len)] 7)) (T9.setTop (mkF m 46 #[.val (.ref b), .val (.int (Int32.ofNat (o + len))), .val (.ref d), .val (.int (Int32.ofNat (q + len))), .val (.int (Int32.ofNat len)), .val (.int (Int32.ofNat len)), z9] [.int (Int32.ofNat len)])) := g9.trans (by
    refine XS.iload X9.here hexec rfl (hb hbytes d3) rfl ?_
    refine XS.iload X9.here hexec rfl (hb hbytes d5) rfl ?_
    refine XS.icmpYes X9.here hexec rfl (pc0 := 7) rfl (hb hbytes d7) rfl (ii_ge_t (nlt32 (by omega) (Nat.le_refl _))) (by decide) rfl ?_
    refine XS.iload X9.here hexec rfl (hb hbytes d44) rfl ?_
    exact Steps.refl _)
  exact ⟨T9, some (.int (Int32.ofNat len)), _, _, _, X9, by simp, rfl, rfl, (fun h => by cases h), ⟨rfl, B9, p9.from hh0, f9⟩, fun fs hl => c11.trans (X9.ireturnOut hexec hret rfl (Or.inl rfl) (hb hbytes d46) hl)⟩
end Cmp5
namespace Cmp3
def yN : MethodName := ⟨"java/lang/StringUTF16", "compress", "([CII)[B"⟩
abbrev yB : ByteArray := jdk_52_method_16_code
theorem d0 : decode yB 0 = .ok (.iload_n 2, 1) := by decide +kernel
theorem d1 : decode yB 1 = .ok (.newarray .byte, 2) := by decide +kernel
theorem d3 : decode yB 3 = .ok (.astore_n 3, 1) := by decide +kernel
theorem d4 : decode yB 4 = .ok (.aload_n 0, 1) := by decide +kernel
theorem d5 : decode yB 5 = .ok (.iload_n 1, 1) := by decide +kernel
theorem d6 : decode yB 6 = .ok (.aload_n 3, 1) := by decide +kernel
theorem d7 : decode yB 7 = .ok (.iconst 0, 1) := by decide +kernel
theorem d8 : decode yB 8 = .ok (.iload_n 2, 1) := by decide +kernel
theorem d9 : decode yB 9 = .ok (.invokestatic 115, 3) := by decide +kernel
theorem d12 : decode yB 12 = .ok (.istore 4, 2) := by decide +kernel
theorem d14 : decode yB 14 = .ok (.iload 4, 2) := by decide +kernel
theorem d16 : decode yB 16 = .ok (.iload_n 2, 1) := by decide +kernel
theorem d17 : decode yB 17 = .ok (.if_icmp (.eq) 40, 3) := by decide +kernel
theorem d57 : decode yB 57 = .ok (.aload_n 3, 1) := by decide +kernel
theorem d58 : decode yB 58 = .ok (.areturn, 1) := by decide +kernel
def site : List Cond := [.arrayClass .byte, Cmp5.tab] ++ staticW U16 115 Cmp5.yN
def tab : Cond := tabOf yN yB 6 (some (.array .byte)) site
def P (b : Addr) (A : Cell) (o len : Nat) (args : Array Value) (s : State) : Prop := args = #[.ref b, .int (Int32.ofNat o), .int (Int32.ofNat len)] ∧ Ch b A s ∧ o + len ≤ A.slots.size ∧ len ≤ 536870912 ∧ ∀ i, i < len → ¬ 255 < cv A (o + i)
def E (b : Addr) (A : Cell) (o len : Nat) (r : Option Value) (s u : State) : Prop := NewArr .byte "[B" len (fun j => .int (lo8 (cv A (o + j)))) r s u ∧ u.heap.size = s.heap.size + 1
/-- no char of the range above 255: a new byte[] of their low bytes -/
theorem law (l : Launch) (b : Addr) (A : Cell) (o len : Nat) : Law l yN 3 3 1 18 yB 6 (some (.array .byte)) site (P b A o len) (E b A o len) [] 1 len := by
  refine Law.of_walk (plainFor_of_name (by decide +kernel)) (by decide +kernel) (by decide +kernel) (by decide) (fun _ _ h => by rw [h.1]; rfl) (fun _ U U' hal hh h => ⟨h.1, h.2.1.mv hal hh, h.2.2⟩) (fun r U U' V V' h1 hal h2 h => ⟨NewArr.mv r U U' V V' h1 hal h2 h.1, by rw [h1, h2]; exact h.2⟩) ?_
  intro p e s m args below meth c s₁ X0 hexec hbytes hml hret hlk hnm hown hh0 W hP
  obtain ⟨rfl, hA, l1, l2, hp⟩ := hP
  have a31 := hA.1.2.2.2
  have c1 : Steps p.tables e below (s₁.setTop (entryFrame m #[.ref b, .int (Int32.ofNat o), .int (Int32.ofNat len)] 6)) (s₁.setTop (mkF m 0 #[.val (.ref b), .val (.int (Int32.ofNat o)), .val (.int (Int32.ofNat len)), .unset, .unset, .unset] [])) := entry rfl
  have c2 : Steps p.tables e below (s₁.setTop (entryFrame m #[.ref b, .int (Int32.ofNat o), .int (Int32.ofNat len)] 6)) (s₁.setTop (mkF m 1 #[.val (.ref b), .val (.int (Int32.ofNat o)), .val (.int (Int32.ofNat len)), .unset, .unset, .unset] [.int (Int32.ofNat len)])) := c1.trans (by
    refine XS.iloadN X0.here hexec rfl (hb hbytes d0) rfl ?_
    exact Steps.refl _)
  obtain ⟨T3, B3, X3, ba3, bs3, bv3, bh3, bf3, st3⟩ := X0.anew hexec (atype := .byte) (wk W (.arrayClass .byte)) rfl (by show len * 1 ≤ _; omega) (by omega) (g := (mkF m 1 #[.val (.ref b), .val (.int (Int32.ofNat o)), .val (.int (Int32.ofNat len)), .unset, .unset, .unset] [.int (Int32.ofNat len)])) rfl (hb hbytes d1) (rest := []) rfl (Nat.le_refl _) (by show 0 + len ≤ len; omega)
  rw [hh0] at ba3 st3
  have kp3 : XT.Kept s T3 := (XT.Kept.of_eq hh0).push bh3
  have hA3 := hA.keep X3.warmed.alike (kp3 _ _ hA.1.1)
  have hne : b ≠ s.heap.size := hA.1.ne
  have c4 : Steps p.tables e below (s₁.setTop (entryFrame m #[.ref b, .int (Int32.ofNat o), .int (Int32.ofNat len)] 6)) (T3.setTop (mkF m 3 #[.val (.ref b), .val (.int (Int32.ofNat o)), .val (.int (Int32.ofNat len)), .unset, .unset, .unset] [.ref s.heap.size])) := c2.trans (st3 _ (Steps.refl _))
  have c5 : Steps p.tables e below (s₁.setTop (entryFrame m #[.ref b, .int (Int32.ofNat o), .int (Int32.ofNat len)] 6)) (T3.setTop (mkF m 9 #[.val (.ref b), .val (.int (Int32.ofNat o)), .val (.int (Int32.ofNat len)), .val (.ref s.heap.size), .unset, .unset] [.int (Int32.ofNat len), .int 0, .ref s.heap.size, .int (Int32.ofNat o), .ref b])) := c4.trans (by
    refine XS.astoreN X3.here hexec rfl (hb hbytes d3) rfl rfl rfl ?_
    refine XS.aloadN X3.here hexec rfl (hb hbytes d4) rfl rfl ?_
    refine XS.iloadN X3.here hexec rfl (hb hbytes d5) rfl ?_
    refine XS.aloadN X3.here hexec rfl (hb hbytes d6) rfl rfl ?_
    refine iconstV X3.here hexec rfl 0 (hb hbytes d7) (by decide) ?_
    refine XS.iloadN X3.here hexec rfl (hb hbytes d8) rfl ?_
    exact Steps.refl _)
  obtain ⟨v6, T6, X6, E6, g6⟩ := X3.callS hexec (Cmp5.law l b A s.heap.size B3 o 0 len) hown (wks W (staticW U16 115 Cmp5.yN)) (wk W Cmp5.tab) (W := 0) (Nat.le_of_ble_eq_true rfl) (Nat.le_of_ble_eq_true rfl) (Nat.le_refl _) (by show 0 + len + 0 ≤ len; omega) (g := (mkF m 9 #[.val (.ref b), .val (.int (Int32.ofNat o)), .val (.int (Int32.ofNat len)), .val (.ref s.heap.size), .unset, .unset] [.int (Int32.ofNat len), .int (Int32.ofNat 0), .ref s.heap.size, .int (Int32.ofNat o), .ref b])) rfl (by rw [hml]; rfl) c5 (argsL := [.ref b, .int (Int32.ofNat o), .ref s.heap.size, .int (Int32.ofNat 0), .int (Int32.ofNat len)]) (rest := []) rfl rfl (by show 2 * 0 + 0 ≤ _; decide) (hb hbytes d9) (⟨rfl, hA3, ba3, hne, l1, by rw [bs3]; simp, hp⟩)
  obtain ⟨rfl, B6, p6, f6⟩ := E6
  have c7 : Steps p.tables e below (s₁.setTop (entryFrame m #[.ref b, .int (Int32.ofNat o), .int (Int32.ofNat len)] 6)) (T6.setTop (mkF m 12 #[.val (.ref b), .val (.int (Int32.ofNat o)), .val (.int (Int32.ofNat len)), .val (.ref s.heap.size), .unset, .unset] [.int (Int32.ofNat len)])) := g6
  have c8 : Steps p.tables e below (s₁.setTop (entryFrame m #[.ref b, .int (Int32.ofNat o), .int (Int32.ofNat len)] 6)) (T6.setTop (mkF m 58 #[.val (.ref b), .val (.int (Int32.ofNat o)), .val (.int (Int32.ofNat len)), .val (.ref s.heap.size), .val (.int (Int32.ofNat len)), .unset] [.ref s.heap.size])) := c7.trans (by
    refine XS.istore X6.here hexec rfl (hb hbytes d12) rfl rfl ?_
    refine XS.iload X6.here hexec rfl (hb hbytes d14) rfl ?_
    refine XS.iloadN X6.here hexec rfl (hb hbytes d16) rfl ?_
    refine XS.icmpYes X6.here hexec rfl (pc0 := 17) rfl (hb hbytes d17) rfl (ii_eq_t rfl) (by decide) rfl ?_
    refine XS.aloadN X6.here hexec rfl (hb hbytes d57) rfl rfl ?_
    exact Steps.refl _)
  have X8 := X6.wide (L' := []) (cells' := 1) (slots' := len) (fun x hx hlt => by
    simp only [List.nil_append, copyLocs, List.mem_map, List.mem_range] at hx
    obtain ⟨i, -, rfl⟩ := hx
    exact absurd hlt (Nat.lt_irrefl _)) (Nat.le_refl _) (by omega)
  exact ⟨T6, some (.ref s.heap.size), _, _, _, X8, rfl, rfl, rfl, (fun h => by cases h), ⟨⟨rfl, B6, ba3.like (X3.warmed.alike.symm.trans X6.warmed.alike) p6.1 f6.1 f6.2.1 f6.2.2.1, f6.2.1.trans bv3, by rw [X6.warmed.alike.findClass, f6.1]; exact bf3, by rw [f6.2.2.1, bs3]; simp, fun j hj => by rw [f6.2.2.2 j, if_pos (by omega)]; rfl, kp3.put p6 (Nat.le_refl _)⟩, by rw [p6.2.2, bh3, hh0]; simp⟩, fun fs hl => c8.trans (X8.areturnOut hexec rfl hret rfl (hb hbytes d58) hl)⟩
end Cmp3
namespace CodL
def yN : MethodName := ⟨"java/lang/StringUTF16", "coderFromArrayLen", "([BI)B"⟩
abbrev yB : ByteArray := jdk_52_method_15_code
theorem d0 : decode yB 0 = .ok (.iload_n 1, 1) := by decide +kernel
theorem d1 : decode yB 1 = .ok (.aload_n 0, 1) := by decide +kernel
theorem d2 : decode yB 2 = .ok (.arraylength, 1) := by decide +kernel
theorem d3 : decode yB 3 = .ok (.isub, 1) := by decide +kernel
theorem d4 : decode yB 4 = .ok (.bipush 31, 2) := by decide +kernel
theorem d6 : decode yB 6 = .ok (.iushr, 1) := by decide +kernel
theorem d7 : decode yB 7 = .ok (.i2b, 1) := by decide +kernel
theorem d8 : decode yB 8 = .ok (.ireturn, 1) := by decide +kernel
def site : List Cond := []
def tab : Cond := tabOf yN yB 2 (some .byte) site
def P (d : Addr) (B : Cell) (args : Array Value) (s : State) : Prop := args = #[.ref d, .int (Int32.ofNat B.slots.size)] ∧ Arr .byte d B s
def E (r : Option Value) (s u : State) : Prop := XT.PureE (some (.int 0)) r s u
/-- an array as long as the number of chars: LATIN1 -/
theorem law (l : Launch) (d : Addr) (B : Cell) : Law l yN 2 2 0 0 yB 2 (some .byte) site (P d B) E [] 0 0 := by
  refine Law.of_walk (plainFor_of_name (by decide +kernel)) (by decide +kernel) (by decide +kernel) (by decide) (fun _ _ h => by rw [h.1]; rfl) (fun _ U U' hal hh h => ⟨h.1, h.2.mv hal hh⟩) (fun r U U' V V' h1 hal h2 h => XT.PureE.mv r U U' V V' h1 hal h2 h) ?_
  intro p e s m args below meth c s₁ X0 hexec hbytes hml hret hlk hnm hown hh0 W hP
  obtain ⟨rfl, hB⟩ := hP
  have hB0 := hB.mv X0.warmed.alike hh0
  have c1 : Steps p.tables e below (s₁.setTop (entryFrame m #[.ref d, .int (Int32.ofNat B.slots.size)] 2)) (s₁.setTop (mkF m 0 #[.val (.ref d), .val (.int (Int32.ofNat B.slots.size))] [])) := entry rfl
  have c2 : Steps p.tables e below (s₁.setTop (entryFrame m #[.ref d, .int (Int32.ofNat B.slots.size)] 2)) (s₁.setTop (mkF m 2 #[.val (.ref d), .val (.int (Int32.ofNat B.slots.size))] [.ref d, .int (Int32.ofNat B.slots.size)])) := c1.trans (by
    refine XS.iloadN X0.here hexec rfl (hb hbytes d0) rfl ?_
    refine XS.aloadN X0.here hexec rfl (hb hbytes d1) rfl rfl ?_
    exact Steps.refl _)
  have c3 : Steps p.tables e below (s₁.setTop (entryFrame m #[.ref d, .int (Int32.ofNat B.slots.size)] 2)) (s₁.setTop (mkF m 8 #[.val (.ref d), .val (.int (Int32.ofNat B.slots.size))] [.int (lo8 (ushr (Int32.ofNat B.slots.size - Int32.ofNat B.slots.size) 31))])) := c2.trans (by
    refine X0.alen hexec hB0 rfl rfl (hb hbytes d2) ?_
    refine XS.isub X0.here hexec rfl (hb hbytes d3) rfl ?_
    refine bipushV X0.here hexec rfl 31 (hb hbytes d4) (by decide) ?_
    refine iushr X0.here hexec rfl (hb hbytes d6) rfl ?_
    refine i2b X0.here hexec rfl (hb hbytes d7) rfl ?_
    exact Steps.refl _)
  have e0 : lo8 (ushr (Int32.ofNat B.slots.size - Int32.ofNat B.slots.size) 31) = 0 := by rw [Int32.sub_self]; decide
  rw [e0] at c3
  exact ⟨s₁, some (.int 0), _, _, _, X0, rfl, rfl, rfl, (fun h => by cases h), ⟨rfl, hh0⟩, fun fs hl => c3.trans (X0.ireturnOut hexec hret rfl (Or.inr (Or.inr (Or.inl rfl))) (hb hbytes d8) hl)⟩
end CodL
/-- the String at a is Latin-1 over a new byte[] (the heap's one new cell): the low bytes of the len chars of A from o on; every cell but a is kept -/
def Got (a : Addr) (D : Cell) (fV fC : Field) (A : Cell) (o len : Nat) (r : Option Value) (s u : State) : Prop := r = none ∧ ∃ D' V : Cell, Blank "java/lang/String" a D' u ∧ Same D D' [fV.slot, fC.slot] ∧ D'.slots[fV.slot]? = some (.ref s.heap.size) ∧ D'.slots[fC.slot]? = some (.int 0) ∧ Arr .byte s.heap.size V u ∧ V.vm = .none ∧ u.vm.findClass "[B" = some V.cls ∧ V.slots.size = len ∧ (∀ j, j < len → V.slots[j]? = some (.int (lo8 (cv A (o + j))))) ∧ (∀ (y : Addr) (c : Cell), y ≠ a → s.heap[y]? = some c → u.heap[y]? = some c) ∧ u.heap.size = s.heap.size + 1
theorem Got.mv {a : Addr} {D A : Cell} {fV fC : Field} {o len : Nat} : ∀ r (U U' V V' : State), U'.heap = U.heap → V.vm.Alike V'.vm → V'.heap = V.heap → Got a D fV fC A o len r U V → Got a D fV fC A o len r U' V' :=
  fun r U U' V V' h1 hal h2 ⟨e0, D', X, a1, a2, a3, a4, a5, a6, a7, a8, a9, a10, a11⟩ => ⟨e0, D', X, a1.mv hal h2, a2, by rw [h1]; exact a3, a4, by rw [h1]; exact a5.mv hal h2, a6, by rw [hal.findClass]; exact a7, a8, a9, by rw [h1, h2]; exact a10, by rw [h1, h2]; exact a11⟩
namespace New4
def yN : MethodName := ⟨"java/lang/String", "<init>", "([CIILjava/lang/Void;)V"⟩
abbrev yB : ByteArray := jdk_42_method_149_code
theorem d0 : decode yB 0 = .ok (.aload_n 0, 1) := by decide +kernel
theorem d1 : decode yB 1 = .ok (.invokespecial 1, 3) := by decide +kernel
theorem d4 : decode yB 4 = .ok (.iload_n 3, 1) := by decide +kernel
theorem d5 : decode yB 5 = .ok (.ifCond (.ne) 22, 3) := by decide +kernel
theorem d27 : decode yB 27 = .ok (.getstatic 38, 3) := by decide +kernel
theorem d30 : decode yB 30 = .ok (.ifCond (.eq) 28, 3) := by decide +kernel
theorem d33 : decode yB 33 = .ok (.aload_n 1, 1) := by decide +kernel
theorem d34 : decode yB 34 = .ok (.iload_n 2, 1) := by decide +kernel
theorem d35 : decode yB 35 = .ok (.iload_n 3, 1) := by decide +kernel
theorem d36 : decode yB 36 = .ok (.invokestatic 177, 3) := by decide +kernel
theorem d39 : decode yB 39 = .ok (.astore 5, 2) := by decide +kernel
theorem d41 : decode yB 41 = .ok (.aload_n 0, 1) := by decide +kernel
theorem d42 : decode yB 42 = .ok (.aload 5, 2) := by decide +kernel
theorem d44 : decode yB 44 = .ok (.iload_n 3, 1) := by decide +kernel
theorem d45 : decode yB 45 = .ok (.invokestatic 47, 3) := by decide +kernel
theorem d48 : decode yB 48 = .ok (.putfield 15, 3) := by decide +kernel
theorem d51 : decode yB 51 = .ok (.aload_n 0, 1) := by decide +kernel
theorem d52 : decode yB 52 = .ok (.aload 5, 2) := by decide +kernel
theorem d54 : decode yB 54 = .ok (.putfield 9, 3) := by decide +kernel
theorem d57 : decode yB 57 = .ok (.return_, 1) := by decide +kernel
def site : List Cond := [.fieldLink "java/lang/String" 38 "java/lang/String" "COMPACT_STRINGS" "Z", Cmp3.tab, CodL.tab, .laysFinal "java/lang/String" "java/lang/String" "value" "[B", .fieldLink "java/lang/String" 9 "java/lang/String" "value" "[B", .laysFinal "java/lang/String" "java/lang/String" "coder" "B", .fieldLink "java/lang/String" 15 "java/lang/String" "coder" "B"] ++ objW "java/lang/String" 1 ++ staticW "java/lang/String" 177 Cmp3.yN ++ staticW "java/lang/String" 47 CodL.yN
def tab : Cond := tabOf yN yB 6 none site
def P (a : Addr) (D : Cell) (fV fC : Field) (b : Addr) (A : Cell) (z : Int32) (o len : Nat) (args : Array Value) (s : State) : Prop := args = #[.ref a, .ref b, .int (Int32.ofNat o), .int (Int32.ofNat len), .null] ∧ Blank "java/lang/String" a D s ∧ Found "java/lang/String" "value" "[B" fV s ∧ Found "java/lang/String" "coder" "B" fC s ∧ Ch b A s ∧ StaticIs s "java/lang/String" "COMPACT_STRINGS" "Z" (.int z) ∧ ¬ z = 0 ∧ 0 < len ∧ o + len ≤ A.slots.size ∧ len ≤ 536870912 ∧ ∀ i, i < len → ¬ 255 < cv A (o + i)
def E (a : Addr) (D : Cell) (fV fC : Field) (A : Cell) (o len : Nat) (r : Option Value) (s u : State) : Prop := Got a D fV fC A o len r s u
/-- len > 0, no char of the range above 255: a Latin-1 String of their low bytes -/
theorem law (l : Launch) (a : Addr) (D : Cell) (fV fC : Field) (b : Addr) (A : Cell) (z : Int32) (o len : Nat) : Law l yN 5 4 2 35 yB 6 none site (P a D fV fC b A z o len) (E a D fV fC A o len) [⟨a, fC.slot⟩, ⟨a, fV.slot⟩] 1 len := by
  refine Law.of_walk (plainFor_of_name (by decide +kernel)) (by decide +kernel) (by decide +kernel) (by decide) (fun _ _ h => by rw [h.1]; rfl) (fun _ U U' hal hh h => ⟨h.1, h.2.1.mv hal hh, h.2.2.1.al hal, h.2.2.2.1.al hal, h.2.2.2.2.1.mv hal hh, h.2.2.2.2.2.1.there hal hh, h.2.2.2.2.2.2⟩) (fun r U U' V V' h1 hal h2 h => Got.mv r U U' V V' h1 hal h2 h) ?_
  intro p e s m args below meth c s₁ X0 hexec hbytes hml hret hlk hnm hown hh0 W hP
  obtain ⟨rfl, hB, f1, f2, hA, s1, hz, l0, l1, l2, hp⟩ := hP
  have a31 := hA.1.2.2.2
  have c1 : Steps p.tables e below (s₁.setTop (entryFrame m #[.ref a, .ref b, .int (Int32.ofNat o), .int (Int32.ofNat len), .null] 6)) (s₁.setTop (mkF m 0 #[.val (.ref a), .val (.ref b), .val (.int (Int32.ofNat o)), .val (.int (Int32.ofNat len)), .val .null, .unset] [])) := entry rfl
  have c2 : Steps p.tables e below (s₁.setTop (entryFrame m #[.ref a, .ref b, .int (Int32.ofNat o), .int (Int32.ofNat len), .null] 6)) (s₁.setTop (mkF m 1 #[.val (.ref a), .val (.ref b), .val (.int (Int32.ofNat o)), .val (.int (Int32.ofNat len)), .val .null, .unset] [.ref a])) := c1.trans (by
    refine XS.aloadN X0.here hexec rfl (hb hbytes d0) rfl rfl ?_
    exact Steps.refl _)
  obtain ⟨T3, X3, q3, st3⟩ := X0.oinit hexec hown (wks W (objW "java/lang/String" 1)) (g := (mkF m 1 #[.val (.ref a), .val (.ref b), .val (.int (Int32.ofNat o)), .val (.int (Int32.ofNat len)), .val .null, .unset] [.ref a])) rfl (by rw [hml]; rfl) (rest := []) rfl (hb hbytes d1) (W := 0) (by show 2 * 0 + 0 ≤ _; decide) (Nat.le_of_ble_eq_true rfl) (Nat.le_of_ble_eq_true rfl)
  have hh3 := q3.trans hh0
  have c4 : Steps p.tables e below (s₁.setTop (entryFrame m #[.ref a, .ref b, .int (Int32.ofNat o), .int (Int32.ofNat len), .null] 6)) (T3.setTop (mkF m 27 #[.val (.ref a), .val (.ref b), .val (.int (Int32.ofNat o)), .val (.int (Int32.ofNat len)), .val .null, .unset] [])) := (c2.trans (st3 _ (Steps.refl _))).trans (by
    refine XS.iloadN X3.here hexec rfl (hb hbytes d4) rfl ?_
    refine XS.ifYes X3.here hexec rfl (pc0 := 5) rfl (hb hbytes d5) rfl (i0_ne_t (nz32 (by omega) l0)) (by decide) rfl ?_
    exact Steps.refl _)
  obtain ⟨T5, X5, q5, st5⟩ := X3.sget hexec hown (wk W (.fieldLink "java/lang/String" 38 "java/lang/String" "COMPACT_STRINGS" "Z")) s1 (fun _ _ h => by rw [hh3]; exact h) (g := (mkF m 27 #[.val (.ref a), .val (.ref b), .val (.int (Int32.ofNat o)), .val (.int (Int32.ofNat len)), .val .null, .unset] [])) rfl (hb hbytes d27)
  have hh5 := q5.trans hh3
  have c6 : Steps p.tables e below (s₁.setTop (entryFrame m #[.ref a, .ref b, .int (Int32.ofNat o), .int (Int32.ofNat len), .null] 6)) (T5.setTop (mkF m 30 #[.val (.ref a), .val (.ref b), .val (.int (Int32.ofNat o)), .val (.int (Int32.ofNat len)), .val .null, .unset] [.int z])) := c4.trans (st5 _ (Steps.refl _))
  have c7 : Steps p.tables e below (s₁.setTop (entryFrame m #[.ref a, .ref b, .int (Int32.ofNat o), .int (Int32.ofNat len), .null] 6)) (T5.setTop (mkF m 36 #[.val (.ref a), .val (.ref b), .val (.int (Int32.ofNat o)), .val (.int (Int32.ofNat len)), .val .null, .unset] [.int (Int32.ofNat len), .int (Int32.ofNat o), .ref b])) := c6.trans (by
    refine XS.ifNo X5.here hexec rfl (hb hbytes d30) rfl (i0_eq_f hz) ?_
    refine XS.aloadN X5.here hexec rfl (hb hbytes d33) rfl rfl ?_
    refine XS.iloadN X5.here hexec rfl (hb hbytes d34) rfl ?_
    refine XS.iloadN X5.here hexec rfl (hb hbytes d35) rfl ?_
    exact Steps.refl _)
  obtain ⟨v8, T8, X8, E8, g8⟩ := X5.callS hexec (Cmp3.law l b A o len) hown (wks W (staticW "java/lang/String" 177 Cmp3.yN)) (wk W Cmp3.tab) (W := 0) (Nat.le_of_ble_eq_true rfl) (Nat.le_of_ble_eq_true rfl) (Nat.le_refl _) (by show 0 + len ≤ len; omega) (g := (mkF m 36 #[.val (.ref a), .val (.ref b), .val (.int (Int32.ofNat o)), .val (.int (Int32.ofNat len)), .val .null, .unset] [.int (Int32.ofNat len), .int (Int32.ofNat o), .ref b])) rfl (by rw [hml]; rfl) c7 (argsL := [.ref b, .int (Int32.ofNat o), .int (Int32.ofNat len)]) (rest := []) rfl rfl (by show 2 * 0 + 0 ≤ _; decide) (hb hbytes d36) (⟨rfl, hA.mv X5.warmed.alike hh5, l1, l2, hp⟩)
  obtain ⟨e8, z8⟩ := E8
  obtain ⟨rfl, N, n1, n2, n3, n4, n5, n6⟩ := NewArr.mv _ T5 s _ _ hh5.symm (Vm.Alike.refl _) rfl e8
  rw [hh5] at z8
  have hB1 := hB.keep X8.warmed.alike (n6 _ _ hB.1)
  have hne : s.heap.size ≠ a := (Nat.ne_of_lt (Array.getElem?_eq_some_iff.mp hB.1).1).symm
  have c9 : Steps p.tables e below (s₁.setTop (entryFrame m #[.ref a, .ref b, .int (Int32.ofNat o), .int (Int32.ofNat len), .null] 6)) (T8.setTop (mkF m 39 #[.val (.ref a), .val (.ref b), .val (.int (Int32.ofNat o)), .val (.int (Int32.ofNat len)), .val .null, .unset] [.ref s.heap.size])) := g8
  have c10 : Steps p.tables e below (s₁.setTop (entryFrame m #[.ref a, .ref b, .int (Int32.ofNat o), .int (Int32.ofNat len), .null] 6)) (T8.setTop (mkF m 45 #[.val (.ref a), .val (.ref b), .val (.int (Int32.ofNat o)), .val (.int (Int32.ofNat len)), .val .null, .val (.ref s.heap.size)] [.int (Int32.ofNat N.slots.size), .ref s.heap.size, .ref a])) := by
    have hc : Steps p.tables e below (s₁.setTop (entryFrame m #[.ref a, .ref b, .int (Int32.ofNat o), .int (Int32.ofNat len), .null] 6)) (T8.setTop (mkF m 45 #[.val (.ref a), .val (.ref b), .val (.int (Int32.ofNat o)), .val (.int (Int32.ofNat len)), .val .null, .val (.ref s.heap.size)] [.int (Int32.ofNat len), .ref s.heap.size, .ref a])) := c9.trans (by
      refine XS.astore X8.here hexec rfl (hb hbytes d39) rfl rfl rfl ?_
      refine XS.aloadN X8.here hexec rfl (hb hbytes d41) rfl rfl ?_
      refine XS.aload X8.here hexec rfl (hb hbytes d42) rfl rfl ?_
      refine XS.iloadN X8.here hexec rfl (hb hbytes d44) rfl ?_
      exact Steps.refl _)
    rw [n4]; exact hc
  obtain ⟨v11, T11, X11, E11, g11⟩ := X8.callS hexec (CodL.law l s.heap.size N) hown (wks W (staticW "java/lang/String" 47 CodL.yN)) (wk W CodL.tab) (W := 1) (Nat.le_of_ble_eq_true rfl) (Nat.le_of_ble_eq_true rfl) (Nat.le_refl _) (by show 0 + len + 0 ≤ len; omega) (g := (mkF m 45 #[.val (.ref a), .val (.ref b), .val (.int (Int32.ofNat o)), .val (.int (Int32.ofNat len)), .val .null, .val (.ref s.heap.size)] [.int (Int32.ofNat N.slots.size), .ref s.heap.size, .ref a])) rfl (by rw [hml]; rfl) c10 (argsL := [.ref s.heap.size, .int (Int32.ofNat N.slots.size)]) (rest := [.ref a]) rfl rfl (by show 2 * 0 + (1 + 0) ≤ _; decide) (hb hbytes d45) (⟨rfl, n1⟩)
  obtain ⟨rfl, q11⟩ := E11
  have hB11 := hB1.mv (X8.warmed.alike.symm.trans X11.warmed.alike) q11
  have c12 : Steps p.tables e below (s₁.setTop (entryFrame m #[.ref a, .ref b, .int (Int32.ofNat o), .int (Int32.ofNat len), .null] 6)) (T11.setTop (mkF m 48 #[.val (.ref a), .val (.ref b), .val (.int (Int32.ofNat o)), .val (.int (Int32.ofNat len)), .val .null, .val (.ref s.heap.size)] [.int 0, .ref a])) := g11
  obtain ⟨T13, X13, p13, bl13, sl13, st13⟩ := X11.finit hexec hown (wk W (.fieldLink "java/lang/String" 15 "java/lang/String" "coder" "B")) (Or.inr ⟨_, (wk W (.laysFinal "java/lang/String" "java/lang/String" "coder" "B"))⟩) (Or.inl ⟨rfl, hnm⟩) f2 (Or.inl rfl) hB11 (t := .byte) (by decide +kernel) rfl (g := (mkF m 48 #[.val (.ref a), .val (.ref b), .val (.int (Int32.ofNat o)), .val (.int (Int32.ofNat len)), .val .null, .val (.ref s.heap.size)] [.int 0, .ref a])) rfl (rest := []) rfl (hb hbytes d48)
  have c14 : Steps p.tables e below (s₁.setTop (entryFrame m #[.ref a, .ref b, .int (Int32.ofNat o), .int (Int32.ofNat len), .null] 6)) (T13.setTop (mkF m 54 #[.val (.ref a), .val (.ref b), .val (.int (Int32.ofNat o)), .val (.int (Int32.ofNat len)), .val .null, .val (.ref s.heap.size)] [.ref s.heap.size, .ref a])) := (c12.trans (st13 _ (Steps.refl _))).trans (by
    refine XS.aloadN X13.here hexec rfl (hb hbytes d51) rfl rfl ?_
    refine XS.aload X13.here hexec rfl (hb hbytes d52) rfl rfl ?_
    exact Steps.refl _)
  obtain ⟨T15, X15, p15, bl15, sl15, st15⟩ := X13.finit hexec hown (wk W (.fieldLink "java/lang/String" 9 "java/lang/String" "value" "[B")) (Or.inr ⟨_, (wk W (.laysFinal "java/lang/String" "java/lang/String" "value" "[B"))⟩) (Or.inl ⟨rfl, hnm⟩) f1 (Or.inl rfl) bl13 (t := (.array .byte)) (by decide +kernel) rfl (g := (mkF m 54 #[.val (.ref a), .val (.ref b), .val (.int (Int32.ofNat o)), .val (.int (Int32.ofNat len)), .val .null, .val (.ref s.heap.size)] [.ref s.heap.size, .ref a])) rfl (rest := []) rfl (hb hbytes d54)
  have c16 : Steps p.tables e below (s₁.setTop (entryFrame m #[.ref a, .ref b, .int (Int32.ofNat o), .int (Int32.ofNat len), .null] 6)) (T15.setTop (mkF m 57 #[.val (.ref a), .val (.ref b), .val (.int (Int32.ofNat o)), .val (.int (Int32.ofNat len)), .val .null, .val (.ref s.heap.size)] [])) := c14.trans (st15 _ (Steps.refl _))
  have ap := apart (Or.inr ⟨_, (wk W (.laysFinal "java/lang/String" "java/lang/String" "value" "[B"))⟩) (Or.inr ⟨_, (wk W (.laysFinal "java/lang/String" "java/lang/String" "coder" "B"))⟩) f1 f2 (t₁ := .array .byte) (t₂ := .byte) (by decide +kernel) (by decide +kernel) (by decide)
  have al := X8.warmed.alike.symm.trans X15.warmed.alike
  have n7 : T11.heap[s.heap.size]? = some N := by rw [q11]; exact n1.1
  exact ⟨T15, none, _, _, _, X15, by simp, rfl, by omega, (fun _ => rfl), ⟨rfl, _, N, bl15, ((Same.refl D _).set _ (by simp)).set _ (by simp), sl15, (Cell.slots_setSlot_ne _ ap).trans sl13, n1.keep al (p15.other hne (p13.other hne n7)), n2, by rw [al.findClass]; exact n3, n4, n5, fun y c h1 h2 => p15.other h1 (p13.other h1 (by rw [q11]; exact n6 y c h2)), by rw [p15.2.2, p13.2.2, q11]; exact z8⟩, fun fs hl => c16.trans (X15.returnOut hexec hret (hb hbytes d57) hl)⟩
end New4
namespace New1
def yN : MethodName := ⟨"java/lang/String", "<init>", "([C)V"⟩
abbrev yB : ByteArray := jdk_42_method_3_code
theorem d0 : decode yB 0 = .ok (.aload_n 0, 1) := by decide +kernel
theorem d1 : decode yB 1 = .ok (.aload_n 1, 1) := by decide +kernel
theorem d2 : decode yB 2 = .ok (.iconst 0, 1) := by decide +kernel
theorem d3 : decode yB 3 = .ok (.aload_n 1, 1) := by decide +kernel
theorem d4 : decode yB 4 = .ok (.arraylength, 1) := by decide +kernel
theorem d5 : decode yB 5 = .ok (.aconst_null, 1) := by decide +kernel
theorem d6 : decode yB 6 = .ok (.invokespecial 27, 3) := by decide +kernel
theorem d9 : decode yB 9 = .ok (.return_, 1) := by decide +kernel
def site : List Cond := [New4.tab] ++ initW "java/lang/String" 27 New4.yN
def tab : Cond := tabOf yN yB 2 none site
def P (a : Addr) (D : Cell) (fV fC : Field) (b : Addr) (A : Cell) (z : Int32) (args : Array Value) (s : State) : Prop := args = #[.ref a, .ref b] ∧ Blank "java/lang/String" a D s ∧ Found "java/lang/String" "value" "[B" fV s ∧ Found "java/lang/String" "coder" "B" fC s ∧ Ch b A s ∧ StaticIs s "java/lang/String" "COMPACT_STRINGS" "Z" (.int z) ∧ ¬ z = 0 ∧ 0 < A.slots.size ∧ A.slots.size ≤ 536870912 ∧ ∀ i, i < A.slots.size → ¬ 255 < cv A i
def E (a : Addr) (D : Cell) (fV fC : Field) (A : Cell) (r : Option Value) (s u : State) : Prop := Got a D fV fC A 0 A.slots.size r s u
/-- new String(chars), not empty, no char above 255: a Latin-1 String of their low bytes -/
theorem law (l : Launch) (a : Addr) (D : Cell) (fV fC : Field) (b : Addr) (A : Cell) (z : Int32) : Law l yN 2 1 3 52 yB 2 none site (P a D fV fC b A z) (E a D fV fC A) [⟨a, fC.slot⟩, ⟨a, fV.slot⟩] 1 A.slots.size := by
  refine Law.of_walk (plainFor_of_name (by decide +kernel)) (by decide +kernel) (by decide +kernel) (by decide) (fun _ _ h => by rw [h.1]; rfl) (fun _ U U' hal hh h => ⟨h.1, h.2.1.mv hal hh, h.2.2.1.al hal, h.2.2.2.1.al hal, h.2.2.2.2.1.mv hal hh, h.2.2.2.2.2.1.there hal hh, h.2.2.2.2.2.2⟩) (fun r U U' V V' h1 hal h2 h => Got.mv r U U' V V' h1 hal h2 h) ?_
  intro p e s m args below meth c s₁ X0 hexec hbytes hml hret hlk hnm hown hh0 W hP
  obtain ⟨rfl, hB, f1, f2, hA, s1, hz, l0, l2, hp⟩ := hP
  have c1 : Steps p.tables e below (s₁.setTop (entryFrame m #[.ref a, .ref b] 2)) (s₁.setTop (mkF m 0 #[.val (.ref a), .val (.ref b)] [])) := entry rfl
  have c2 : Steps p.tables e below (s₁.setTop (entryFrame m #[.ref a, .ref b] 2)) (s₁.setTop (mkF m 6 #[.val (.ref a), .val (.ref b)] [.null, .int (Int32.ofNat A.slots.size), .int 0, .ref b, .ref a])) := c1.trans (by
    refine XS.aloadN X0.here hexec rfl (hb hbytes d0) rfl rfl ?_
    refine XS.aloadN X0.here hexec rfl (hb hbytes d1) rfl rfl ?_
    refine iconstV X0.here hexec rfl 0 (hb hbytes d2) (by decide) ?_
    refine XS.aloadN X0.here hexec rfl (hb hbytes d3) rfl rfl ?_
    refine X0.alen hexec (hA.1.mv X0.warmed.alike hh0) rfl rfl (hb hbytes d4) ?_
    refine XS.aconstNull X0.here hexec rfl (hb hbytes d5) ?_
    exact Steps.refl _)
  obtain ⟨v3, T3, X3, E3, g3⟩ := X0.callN hexec (New4.law l a D fV fC b A z 0 A.slots.size) rfl hown (wks W (initW "java/lang/String" 27 New4.yN)) (W New4.tab (by simp only [site, List.mem_cons, List.mem_append, true_or, or_true])) (W := 0) (Nat.le_of_ble_eq_true rfl) (Nat.le_of_ble_eq_true rfl) (Nat.le_refl _) (by show 0 + A.slots.size ≤ A.slots.size; omega) (g := (mkF m 6 #[.val (.ref a), .val (.ref b)] [.null, .int (Int32.ofNat A.slots.size), .int (Int32.ofNat 0), .ref b, .ref a])) rfl (by rw [hml]; rfl) c2 (argsL := [.ref b, .int (Int32.ofNat 0), .int (Int32.ofNat A.slots.size), .null]) (rest := []) rfl rfl (by show 2 * 0 + 0 ≤ _; decide) (hb hbytes d6) (⟨rfl, hB.mv X0.warmed.alike hh0, f1.al X0.warmed.alike, f2.al X0.warmed.alike, hA.mv X0.warmed.alike hh0, s1.there X0.warmed.alike hh0, hz, l0, by omega, l2, fun i hi => by rw [Nat.zero_add]; exact hp i hi⟩)
  have e0 := Got.mv _ s₁ s _ _ hh0.symm (Vm.Alike.refl _) rfl E3
  obtain rfl := e0.1
  have c4 : Steps p.tables e below (s₁.setTop (entryFrame m #[.ref a, .ref b] 2)) (T3.setTop (mkF m 9 #[.val (.ref a), .val (.ref b)] [])) := g3
  exact ⟨T3, none, _, _, _, X3, by simp, rfl, by omega, (fun _ => rfl), e0, fun fs hl => c4.trans (X3.returnOut hexec hret (hb hbytes d9) hl)⟩
theorem pays {l : Launch} {R : Room} {p : Program} {e : Env} {below : List Frame} {s : State} {sargs : Array Value} {len W : Nat} (a : Addr) (D : Cell) (fV fC : Field) (b : Addr) (A : Cell) (z : Int32) (htab : tab.before sargs s = true) (hfr : 4 ≤ R.frames) (hlo : W + 65 ≤ R.locals) :
    Back l R p e below s sargs yN len W (fun A₁ a₁ => A₁.cells + 1 ≤ R.cells ∧ A₁.slots + A.slots.size ≤ R.slots ∧ P a D fV fC b A z a₁ A₁.U) (fun A₁ _ v₁ B₁ => E a D fV fC A v₁ A₁.U B₁.U ∧ B₁.locs = A₁.locs ++ [⟨a, fC.slot⟩, ⟨a, fV.slot⟩] ∧ B₁.cells = A₁.cells + 1 ∧ B₁.slots = A₁.slots + A.slots.size) :=
  (law l a D fV fC b A z).pays htab hfr (by omega)
end New1
end StrChars
namespace StrChars.Road
open Jvm Sem ClassFile Op Lib Jvm.Stand Jvm.Free Jvm.Free.XT
open Jvm.Lib.Cold (StaticIs)
abbrev ST : String := "java/lang/String"
/-- every table word that New1's law asks, flat -/
abbrev words : List Jvm.Cond := [.code New1.yN New1.yB 2 none, .initialized ST, .methodLink ST 27 New4.yN, .instanceMethod New4.yN,
  .code New4.yN New4.yB 6 none, .fieldLink ST 38 ST "COMPACT_STRINGS" "Z", .laysFinal ST ST "value" "[B", .fieldLink ST 9 ST "value" "[B", .laysFinal ST ST "coder" "B", .fieldLink ST 15 ST "coder" "B",
  .methodLink ST 1 Lib.objectInit, .instanceMethod Lib.objectInit, .code Lib.objectInit ⟨#[0xb1]⟩ 1 none, .methodLink ST 177 Cmp3.yN, .static Cmp3.yN, .methodLink ST 47 CodL.yN, .static CodL.yN,
  .code Cmp3.yN Cmp3.yB 6 (some (.array .byte)), .initialized U16, .arrayClass .byte, .methodLink U16 115 Cmp5.yN, .static Cmp5.yN, .code Cmp5.yN Cmp5.yB 7 (some .int), .code CodL.yN CodL.yB 2 (some .byte)]
theorem tab_of {a : Array Value} {s : State} (h : ∀ w ∈ words, w.before a s = true) : New1.tab.before a s = true := by
  have h5 : Cmp5.tab.before a s = true := unparts (wk h (.code Cmp5.yN Cmp5.yB 7 (some .int))) (wks h (.initialized Cmp5.yN.cls :: Cmp5.site))
  have hc : CodL.tab.before a s = true := unparts (wk h (.code CodL.yN CodL.yB 2 (some .byte))) (wks h (.initialized CodL.yN.cls :: CodL.site))
  have q5 : ∀ w ∈ Cmp5.tab :: words, w.before a s = true := fun w hw => (List.mem_cons.mp hw).elim (fun e => e ▸ h5) (h w)
  have h3 : Cmp3.tab.before a s = true := unparts (wk q5 (.code Cmp3.yN Cmp3.yB 6 (some (.array .byte)))) (wks q5 (.initialized Cmp3.yN.cls :: Cmp3.site))
  have q3 : ∀ w ∈ Cmp3.tab :: CodL.tab :: words, w.before a s = true := fun w hw => (List.mem_cons.mp hw).elim (fun e => e ▸ h3) fun hw => (List.mem_cons.mp hw).elim (fun e => e ▸ hc) (h w)
  have h4 : New4.tab.before a s = true := unparts (wk q3 (.code New4.yN New4.yB 6 none)) (wks q3 (.initialized New4.yN.cls :: New4.site))
  have q4 : ∀ w ∈ New4.tab :: words, w.before a s = true := fun w hw => (List.mem_cons.mp hw).elim (fun e => e ▸ h4) (h w)
  exact unparts (wk q4 (.code New1.yN New1.yB 2 none)) (wks q4 (.initialized New1.yN.cls :: New1.site))
/-- the words ride from the start Z to the walk's own state -/
theorem moved {Z s : State} {a0 args : Array Value} (hZ : Z.Warmed39 s.vm) (hw : ∀ d ∈ words, d.before a0 Z = true) : ∀ d ∈ words, d.before args s = true := fun d hd => by
  have q := hw d hd
  have t : ∀ d ∈ words, d = .arrayClass .byte ∨ (d.onTables && d.keepsFace) = true := by decide +kernel
  rcases t d hd with rfl | t
  · exact RoadKit.mvA hZ q
  · exact RoadKit.mv hZ q t
/-- WHAT COMES BACK, over the tables of the start Z: h the heap at the call, h' behind it -/
def Q (Z : State) (x : Addr) (A : Cell) (h : Heap) (v : Option Value) (h' : Heap) (L : List Loc) : Prop := v = none ∧ (∀ y ∈ L, y.base = x) ∧ RoadKit.Keep h h' [x] ∧ h'.size = h.size + 1 ∧ RoadKit.Exa Z h' x ST ∧ RoadKit.Fld Z h' x ST "value" "[B" (.ref h.size) ∧ RoadKit.Fld Z h' x ST "coder" "B" (.int 0) ∧
  (∃ V : Cell, RoadKit.Arr Z h' h.size V .byte ∧ V.vm = .none ∧ Z.vm.findClass "[B" = some V.cls ∧ V.slots.size = A.slots.size ∧ ∀ j, j < A.slots.size → V.slots[j]? = some (.int (lo8 (cv A j)))) ∧
  ∀ (O n d : String) (w : Value), RoadKit.Fld Z h x O n d w → RoadKit.slotOf Z O n d ≠ RoadKit.slotOf Z ST "value" "[B" → RoadKit.slotOf Z O n d ≠ RoadKit.slotOf Z ST "coder" "B" → RoadKit.Fld Z h' x O n d w
/-- **new String(chars) AT A CALL, IN THE ROAD'S FORM**: for specialBack behind newO: x the fresh String, b the char[] with the cell A -/
theorem back {p : Program} {l : Launch} {e : Env} {R : Room} {s : State} {args : Array Value} {below : List Frame} {len W : Nat} {Z : State} {a0 : Array Value} {h : Heap} (hZ : Z.Warmed39 s.vm) (hw : ∀ d ∈ words, d.before a0 Z = true) {kI : Nat} (wi : (Jvm.Cond.instantiable ST kI).before a0 Z = true)
    {x b : Addr} {A : Cell} {z : Int32} {v0 c0 : Value} (E : RoadKit.Exa Z h x ST) (V : RoadKit.Fld Z h x ST "value" "[B" v0) (C : RoadKit.Fld Z h x ST "coder" "B" c0) (K : RoadKit.Arr Z h b A .char) (hty : Typed .char A) (S : RoadKit.Sta Z h ST "COMPACT_STRINGS" "Z" (.int z)) (hz : ¬ z = 0)
    (l0 : 0 < A.slots.size) (l2 : A.slots.size ≤ 536870912) (hp : ∀ i, i < A.slots.size → ¬ 255 < cv A i) (hfr : 4 ≤ R.frames) (hlo : W + 65 ≤ R.locals) :
    Back l R p e below s args New1.yN len W (fun P a => a = #[.ref x, .ref b] ∧ P.U.heap = h ∧ P.cells + 1 ≤ R.cells ∧ P.slots + A.slots.size ≤ R.slots)
      (fun P _ v B => ∃ L, Q Z x A h v B.U.heap L ∧ B.locs = P.locs ++ L ∧ B.cells = P.cells + 1 ∧ B.slots = P.slots + A.slots.size) := by
  intro m meth c P g ig mk a X hg hsize hdg hW hn hp'
  obtain ⟨rfl, rfl, r1, r2⟩ := hp'
  have al : Z.vm.Alike P.U.vm := hZ.alike.trans X.warmed.alike
  obtain ⟨D, cfV, kV, iV, fV, hD, gV, stV, knV, obV, asV, slV⟩ := id V
  obtain ⟨D', cfC, kC, iC, fC, hD', gC, stC, -, -, asC, slC⟩ := id C
  cases hD.symm.trans hD'
  obtain ⟨D2, kD, e1, e2, e3, e4, e5⟩ := id E
  cases hD.symm.trans e1
  obtain ⟨c2, k2, i1, i2, i3, -⟩ := Cond.instantiable_spec wi
  cases e2.symm.trans i1
  cases e3.symm.trans i2
  obtain ⟨kU, u1, u2⟩ := al.2.2 _ _ e3
  have hB : Blank ST x D P.U := ⟨hD, ⟨knV, fun q hq => by rw [hq] at obV; cases obV⟩, by rw [al.findClass]; exact e2, kU, u1, by rw [u2]; exact i3, by rw [u2]; exact e5 i3⟩
  have F1 : Found ST "value" "[B" fV P.U := ⟨SBG.found_only al ⟨cfV, kV, iV, gV⟩, stV⟩
  have F2 : Found ST "coder" "B" fC P.U := ⟨SBG.found_only al ⟨cfC, kC, iC, gC⟩, stC⟩
  have hA : Ch b A P.U := ⟨⟨K.1, State.isArrayOf_alike al K.2.1, K.2.2, by omega⟩, hty⟩
  have hS : StaticIs P.U ST "COMPACT_STRINGS" "Z" (.int z) := by
    obtain ⟨cfS, iS, kS, fS, st, cS, t1, t2, t3, t4, t5, t6, t7⟩ := S
    exact StaticIs.there (s := { Z with heap := P.U.heap }) ⟨cfS, iS, kS, fS, st, cS, t1, t2, t3, t4, t5, (fun q => by rw [q] at t6; cases t6), t7⟩ al rfl
  obtain ⟨v, B, X', ⟨⟨hv, E', V', q1, q2, q3, q4, q5, q6, q7, q8, q9, q10, q11⟩, hl, hc, hs⟩, st⟩ := New1.pays x D fV fC b A z (tab_of (moved hZ hw)) hfr hlo m meth c P g ig mk _ X hg hsize hdg hW hn ⟨r1, r2, rfl, hB, F1, F2, hA, hS, hz, l0, l2, hp⟩
  have al' : Z.vm.Alike B.U.vm := hZ.alike.trans X'.warmed.alike
  have hsz : E'.slots.size = D.slots.size := by
    obtain ⟨-, -, -, kB, w1, w2, w3⟩ := q1
    obtain ⟨kB', y1, y2⟩ := al'.2.2 _ _ e3
    rw [q2.2.1] at w1
    cases w1.symm.trans y1
    rw [w3, e5 i3, y2]
  refine ⟨v, B, X', ⟨_, ⟨hv, ?_, ⟨by omega, fun y cy hy hn' => q10 y cy (by simpa using hn') hy, fun y cy hy => ?_⟩, q11, ⟨E', _, q1.1, by rw [q2.2.1]; exact e2, by rw [q2.2.1]; exact e3, by rw [q2.1]; exact obV, fun _ => by rw [hsz]; exact e5 i3⟩,
    ⟨E', cfV, kV, iV, fV, q1.1, gV, stV, by rw [q2.1]; exact knV, by rw [q2.1]; exact obV, by rw [q2.2.1]; exact asV, q3⟩, ⟨E', cfC, kC, iC, fC, q1.1, gC, stC, by rw [q2.1]; exact knV, by rw [q2.1]; exact obV, by rw [q2.2.1]; exact asC, q4⟩,
    ⟨V', ⟨q5.1, State.isArrayOf_alike al'.symm q5.2.1, q5.2.2.1⟩, q6, by rw [← al'.findClass]; exact q7, q8, fun j hj => by have := q9 j hj; rwa [Nat.zero_add] at this⟩, fun O n d w F n1 n2 => ?_⟩, hl, hc, hs⟩, st⟩
  · intro y hy
    simp only [List.mem_cons, List.not_mem_nil, or_false] at hy
    rcases hy with rfl | rfl <;> rfl
  · by_cases q : y = x
    · subst q
      cases hD.symm.trans hy
      exact ⟨E', q1.1, q2.2.1, q2.1, hsz⟩
    · exact ⟨cy, q10 y cy q hy, rfl, rfl, rfl⟩
  · obtain ⟨D3, cf, k, i, f, g1, g2, g3, g4, g5, g6, g7⟩ := F
    cases hD.symm.trans g1
    simp only [RoadKit.slotOf, g2, gV, gC, Option.map_some, Option.getD_some] at n1 n2
    exact ⟨E', cf, k, i, f, q1.1, g2, g3, by rw [q2.1]; exact g4, by rw [q2.1]; exact g5, by rw [q2.2.1]; exact g6, by rw [q2.2.2 f.slot (by simp [n1, n2])]; exact g7⟩
end StrChars.Road
namespace StrChars.Road
open Jvm Sem ClassFile Op Lib Jvm.Stand Jvm.Free Jvm.Free.XT
/-- WHAT COMES BACK, the byte[] as a list of values -/
def QA (Z : State) (x : Addr) (zn : Int32) (cs : List Int32) (h : Heap) (v : Option Value) (h' : Heap) (L : List Loc) : Prop := v = none ∧ (∀ y ∈ L, y.base = x) ∧ RoadKit.Keep h h' [x] ∧ h'.size = h.size + 1 ∧ RoadKit.Exa Z h' x ST ∧ RoadKit.Fld Z h' x ST "value" "[B" (.ref h.size) ∧ RoadKit.Fld Z h' x ST "coder" "B" (.int 0) ∧
  (∃ kb, Z.vm.findClass "[B" = some kb ∧ RoadKit.Arv Z h' h.size kb .byte zn (cs.map fun c => .int (lo8 c)) (.int 0)) ∧
  ∀ (O n d : String) (w : Value), RoadKit.Fld Z h x O n d w → RoadKit.slotOf Z O n d ≠ RoadKit.slotOf Z ST "value" "[B" → RoadKit.slotOf Z O n d ≠ RoadKit.slotOf Z ST "coder" "B" → RoadKit.Fld Z h' x O n d w
/-- **new String(chars) AT A CALL, THE ARRAYS AS LISTS**: the char[] at b holds cs, not empty, no char above 255 -/
theorem backArv {p : Program} {l : Launch} {e : Env} {R : Room} {s : State} {args : Array Value} {below : List Frame} {len W : Nat} {Z : State} {a0 : Array Value} {h : Heap} (hZ : Z.Warmed39 s.vm) (hw : ∀ d ∈ words, d.before a0 Z = true) {kI : Nat} (wi : (Jvm.Cond.instantiable ST kI).before a0 Z = true)
    {x b : Addr} {k : ClassId} {zn z : Int32} {cs : List Int32} {dv v0 c0 : Value} (E : RoadKit.Exa Z h x ST) (V : RoadKit.Fld Z h x ST "value" "[B" v0) (C : RoadKit.Fld Z h x ST "coder" "B" c0) (K : RoadKit.Arv Z h b k .char zn (cs.map Value.int) dv) (S : RoadKit.Sta Z h ST "COMPACT_STRINGS" "Z" (.int z)) (hz : ¬ z = 0)
    (hlen : zn.toNatClampNeg = cs.length) (h0 : 0 < cs.length) (hbig : cs.length ≤ 536870912) (hall : ∀ c ∈ cs, ¬ 255 < c) (hfr : 4 ≤ R.frames) (hlo : W + 65 ≤ R.locals) :
    Back l R p e below s args New1.yN len W (fun P a => a = #[.ref x, .ref b] ∧ P.U.heap = h ∧ P.cells + 1 ≤ R.cells ∧ P.slots + cs.length ≤ R.slots)
      (fun P _ v B => ∃ L, QA Z x zn cs h v B.U.heap L ∧ B.locs = P.locs ++ L ∧ B.cells = P.cells + 1 ∧ B.slots = P.slots + cs.length) := by
  obtain ⟨A, K1, K2, K3, K4, K5, K6⟩ := K
  have e : A.slots.size = cs.length := K3.trans hlen
  have hat : ∀ (i : Nat) (hi : i < cs.length), A.slots[i]? = some (.int cs[i]) := fun i hi => by rw [K5 i (by omega)]; simp [List.getD_eq_getElem?_getD, hi]
  have hcv : ∀ (i : Nat) (hi : i < cs.length), cv A i = cs[i] := fun i hi => by unfold cv; rw [hat i hi]
  have hty : Typed .char A := fun i v hv => by
    have hi : i < A.slots.size := (Array.getElem?_eq_some_iff.mp hv).1
    have q := K5 i hi
    rw [hv] at q
    rw [Option.some.inj q]
    exact K6 i hi
  refine Back.mono (back hZ hw wi E V C K1 hty S hz (by omega) (by omega) (fun i hi => by rw [hcv i (by omega)]; exact hall _ (List.getElem_mem _)) hfr hlo) (fun P a hp => ⟨hp.1, hp.2.1, hp.2.2.1, by rw [e]; exact hp.2.2.2⟩) (fun P a v B hp hq => ?_)
  obtain ⟨L, ⟨q1, q2, q3, q4, q5, q6, q7, ⟨V', v1, v2, v3, v4, v5⟩, q9⟩, hl, hc, hs⟩ := hq
  refine ⟨L, ⟨q1, q2, q3, q4, q5, q6, q7, ⟨V'.cls, v3, V', v1, rfl, by rw [v4, e, hlen], K4, fun i hi => ?_, fun i hi => ?_⟩, q9⟩, hl, hc, by rw [hs, e]⟩
  · have hi' : i < cs.length := by omega
    rw [v5 i (by omega), hcv i hi']; simp [List.getD_eq_getElem?_getD, hi']
  · have hi' : i < cs.length := by omega
    simp only [List.getD_eq_getElem?_getD, List.getElem?_map, List.getElem?_eq_getElem hi', Option.map_some, Option.getD_some]
    exact fits_lo8 _
end StrChars.Road
namespace StrChars.Road
open Jvm Sem ClassFile Op Lib Jvm.Stand Jvm.Free Jvm.Free.XT
/-- WHAT COMES BACK, in the writer's own shape -/
def QV (Z : State) (x : Addr) (N : Int32) (bs : List Int32) (h : Heap) (n0 : Nat) (v : Option Value) (h' : Heap) (L : List Loc) : Prop := v = none ∧ RoadKit.Fr n0 L ∧ RoadKit.Keep h h' [x] ∧ RoadKit.Exa Z h' x ST ∧ RoadKit.Fld Z h' x ST "coder" "B" (.int 0) ∧
  ∃ (t : Addr) (kb : ClassId), n0 ≤ t ∧ h.size ≤ t ∧ ¬ t = x ∧ RoadKit.Fld Z h' x ST "value" "[B" (.ref t) ∧ RoadKit.Arv Z h' t kb .byte N (bs.map Value.int) (.int 0)
/-- **new String(chars) AT A CALL, FOR THE WRITER**: a char[] of n known ints, each 0 to 255 -/
theorem backV {p : Program} {l : Launch} {e : Env} {R : Room} {s : State} {args : Array Value} {below : List Frame} {len W : Nat} {Z : State} {a0 : Array Value} {h : Heap} (hZ : Z.Warmed39 s.vm) (hw : ∀ d ∈ words, d.before a0 Z = true) {kI : Nat} (wi : (Jvm.Cond.instantiable ST kI).before a0 Z = true)
    {x b : Addr} {kC : ClassId} {cs bs : List Int32} {d v0 c0 : Value} {z N : Int32} {n n0 : Nat} (hx0 : n0 ≤ x) (hh0 : n0 ≤ h.size) (E : RoadKit.Exa Z h x ST) (V : RoadKit.Fld Z h x ST "value" "[B" v0) (C : RoadKit.Fld Z h x ST "coder" "B" c0) (K : RoadKit.Arv Z h b kC .char N (cs.map Value.int) d) (S : RoadKit.Sta Z h ST "COMPACT_STRINGS" "Z" (.int z)) (hz : ¬ z = 0)
    (hn : cs.length = n) (hN : N = Int32.ofNat n) (l0 : 0 < n) (l2 : n ≤ 4000) (hp : ∀ c ∈ cs, ¬ c < 0 ∧ ¬ (255 : Int32) < c) (hb : bs = cs.map (fun c => c.toInt8.toInt32)) (hfr : 4 ≤ R.frames) (hlo : W + 65 ≤ R.locals) :
    Back l R p e below s args (⟨"java/lang/String", "<init>", "([C)V"⟩ : MethodName) len W (fun P a => a = #[.ref x, .ref b] ∧ P.U.heap = h ∧ P.cells + 1 ≤ R.cells ∧ P.slots + n ≤ R.slots)
      (fun P _ v B => ∃ L, QV Z x N bs h n0 v B.U.heap L ∧ B.locs = P.locs ++ L ∧ B.cells = P.cells + 1 ∧ B.slots = P.slots + n) := by
  subst hn hN hb
  refine Back.mono (backArv hZ hw wi E V C K S hz (n32 (by omega)) l0 (by omega) (fun c hc => (hp c hc).2) hfr hlo) (fun P a hp => hp) (fun P a v B hp hq => ?_)
  obtain ⟨L, ⟨q1, q2, q3, q4, q5, q6, q7, ⟨kb, v1, v2⟩, q9⟩, hl, hc, hs⟩ := hq
  exact ⟨L, ⟨q1, fun y hy => by rw [q2 y hy]; exact hx0, q3, q5, q7, h.size, kb, hh0, Nat.le_refl _, Nat.ne_of_gt E.lt, q6, by rw [List.map_map]; exact v2⟩, hl, hc, hs⟩
end StrChars.Road
end Jvm.Pilot.@@N@@
namespace Jvm.Pilot.@@N@@
open Jvm Jvm.ClassFile Sem Op Lib Jvm.Free Jvm.Stand Jvm.LawKit Jvm.RoadKit Bundle Jvm.Pilot.@@N@@.Jvm.D
def Rch (p : Program) (e : Env) (below : List Frame) (S0 T : State) (g : JFrame) : Prop := ∀ t, Steps p.tables e below (T.setTop g) t → Steps p.tables e below S0 t
theorem own_le {Z : State} {n0 : Nat} {h : Heap} (O : Old Z n0 h) : n0 ≤ h.size := O.1 ▸ O.2.1
theorem own_ge {Z : State} {n0 : Nat} {h : Heap} {x : Nat} (O : Old Z n0 h) (g : h.size ≤ x) : n0 ≤ x := Nat.le_trans (own_le O) g
theorem own_ne {y x k : Nat} (h : y < k) (g : k ≤ x) : y ≠ x := Nat.ne_of_lt (Nat.lt_of_lt_of_le h g)
section Own
variable {p : Program} {l : Launch} {e : Env} {R : Room} {s : State} {m : MethodId} {args : Array Value} {below : List Frame} {meth : Method} {c : Code} {T : State} {locs : List Loc} {cells slots : Nat}
def Like (X : Stand p l e R s m args below meth c T locs cells slots) (T' : State) : Prop := Stand p l e R s m args below meth c T' locs cells slots
theorem Like.out {X : Stand p l e R s m args below meth c T locs cells slots} {T' : State} (h : Like X T') : Stand p l e R s m args below meth c T' locs cells slots := h
end Own
theorem own_eqi {args : Array Value} {first s : State} {o : Option Outcome} {idx : List Nat} {a : Term} {n : Int32} (h : (Jvm.Cond.eq a (Jvm.Term.int n)).value args first o s idx = some true) : a.eval args first o idx s = some (.int n) := by
  simp only [Cond.value, Term.int_eval] at h
  cases ha : a.eval args first o idx s with
  | none => simp [ha] at h
  | some x => cases x <;> simp [ha] at h ⊢; exact h
theorem own_eqr {args : Array Value} {first s : State} {o : Option Outcome} {idx : List Nat} {a b : Term} {w : Addr} (eb : b.eval args first o idx s = some (.ref w)) (h : (Jvm.Cond.eq a b).value args first o s idx = some true) : a.eval args first o idx s = some (.ref w) := by
  simp only [Cond.value, eb] at h
  cases ha : a.eval args first o idx s with
  | none => simp [ha] at h
  | some x => cases x <;> simp [ha] at h ⊢; exact h
theorem own_ext {h h' : Heap} (K : Keep h h' []) : Ext h h' := ⟨K.1, fun a c q => K.2.1 a c q nin0⟩
theorem own_255 (x : Int32) : ¬ (x &&& 255) < 0 ∧ ¬ (255 : Int32) < (x &&& 255) := by
  have h := c_mask x 255 8 (by decide) (by decide)
  constructor
  · rw [Int32.lt_iff_toInt_lt]; have e : (0 : Int32).toInt = 0 := by decide
    omega
  · rw [Int32.lt_iff_toInt_lt]; have e : (255 : Int32).toInt = 255 := by decide
    omega
theorem own_nar (c : Int32) (h : ¬ c < 0 ∧ ¬ (255 : Int32) < c) : nar .char c = c ∧ c.toUInt32.toUInt16.toUInt32.toInt32 = c := by
  have e : c.toUInt32.toUInt16.toUInt32.toInt32 = c := by
    apply Int32.toInt_inj.mp
    have q := c_i2c c
    have h0 : (0 : Int32).toInt = 0 := by decide
    have h1 : (255 : Int32).toInt = 255 := by decide
    rw [Int32.lt_iff_toInt_lt, Int32.lt_iff_toInt_lt] at h
    omega
  exact ⟨e, e⟩
theorem own_tn {i : Nat} (h : i < 2147483648) : (Int32.ofNat i).toNatClampNeg = i ∧ (Int32.ofNat i).toInt = i := by
  have e : (Int32.ofNat i).toInt = i := Int32.toInt_ofNat_of_lt h
  exact ⟨by simp only [Int32.toNatClampNeg, e]; rfl, e⟩
theorem own_lt30 {n : Nat} (h : n ≤ 100000) : Int32.ofNat n < (1073741823 : Int32) := by
  have e : (1073741823 : Int32).toInt = 1073741823 := rfl
  rw [Int32.lt_iff_toInt_lt, (own_tn (by omega)).2, e]; omega
theorem own_olt {i n : Nat} (hi : i < 2147483648) (hn : n < 2147483648) : (Int32.ofNat i < Int32.ofNat n) ↔ i < n := by
  rw [Int32.lt_iff_toInt_lt, (own_tn hi).2, (own_tn hn).2]; omega
theorem own_on0 {i : Nat} (hi : i < 2147483648) : ¬ Int32.ofNat i < 0 := by
  rw [Int32.lt_iff_toInt_lt, (own_tn hi).2]; have e : (0 : Int32).toInt = 0 := by decide
  omega
theorem own_inc {i : Nat} (hi : i + 1 < 2147483648) : Int32.ofNat i + 1 = Int32.ofNat (i + 1) := by
  apply Int32.toInt_inj.mp
  have a := c_iadd (Int32.ofNat i) 1
  have e : (1 : Int32).toInt = 1 := by decide
  rw [(own_tn (by omega)).2, e] at a
  rw [(own_tn hi).2]
  have r := rng32 (Int32.ofNat i + 1)
  omega
theorem own_dbl {i : Nat} (hi : 2 * i < 2147483648) : Int32.ofNat i <<< ((1 : Int32) &&& 31) = Int32.ofNat (2 * i) := by
  apply Int32.toInt_inj.mp
  have a := c_ishl (Int32.ofNat i) 1 1 (by decide)
  rw [(own_tn (by omega)).2] at a
  rw [(own_tn hi).2]
  have r := rng32 (Int32.ofNat i <<< ((1 : Int32) &&& 31))
  omega
theorem own_at (cs : List Int32) (i : Nat) (d : Int32) : (cs.map Value.int).getD i (.int d) = .int (cs.getD i d) := by
  simp only [List.getD_eq_getElem?_getD, List.getElem?_map]
  cases cs[i]? <;> rfl
theorem own_inb {i n : Nat} (h : i < n) (hn : n < 2147483648) : ¬ Int32.ofNat i < 0 ∧ Int32.ofNat i < Int32.ofNat n := ⟨own_on0 (by omega), (own_olt (by omega) hn).mpr h⟩
def own_lo (c : Int32) : Int32 := nar .byte ((c >>> ((0 : Int32) &&& 31)).toInt8.toInt32)
def own_hi (c : Int32) : Int32 := nar .byte ((c >>> ((8 : Int32) &&& 31)).toInt8.toInt32)
theorem own_narc (c : Int32) (h : ¬ c < 0 ∧ ¬ (65535 : Int32) < c) : nar .char c = c ∧ c.toUInt32.toUInt16.toUInt32.toInt32 = c := by
  have e : c.toUInt32.toUInt16.toUInt32.toInt32 = c := by
    apply Int32.toInt_inj.mp
    have q := c_i2c c
    have h0 : (0 : Int32).toInt = 0 := by decide
    have h1 : (65535 : Int32).toInt = 65535 := by decide
    rw [Int32.lt_iff_toInt_lt, Int32.lt_iff_toInt_lt] at h
    omega
  exact ⟨e, e⟩
theorem own_pair (c : Int32) (h : ¬ c < 0 ∧ ¬ (65535 : Int32) < c) : (((own_lo c &&& (255 : Int32)) <<< ((0 : Int32) &&& 31)) ||| ((own_hi c &&& (255 : Int32)) <<< ((8 : Int32) &&& 31))).toUInt32.toUInt16.toUInt32.toInt32 = c := by
  have h0 : (0 : Int32).toInt = 0 := by decide
  have h1 : (65535 : Int32).toInt = 65535 := by decide
  rw [Int32.lt_iff_toInt_lt, Int32.lt_iff_toInt_lt] at h
  have s0 := c_ishr c 0 0 (by decide)
  have s8 := c_ishr c 8 8 (by decide)
  have b0 := c_i2b (c >>> ((0 : Int32) &&& 31))
  have b8 := c_i2b (c >>> ((8 : Int32) &&& 31))
  have b0' := c_i2b ((c >>> ((0 : Int32) &&& 31)).toInt8.toInt32)
  have b8' := c_i2b ((c >>> ((8 : Int32) &&& 31)).toInt8.toInt32)
  have m0 := c_mask (own_lo c) 255 8 (by decide) (by decide)
  have m8 := c_mask (own_hi c) 255 8 (by decide) (by decide)
  have l0 : (own_lo c).toInt = ((c >>> ((0 : Int32) &&& 31)).toInt8.toInt32).toInt8.toInt32.toInt := rfl
  have l8 : (own_hi c).toInt = ((c >>> ((8 : Int32) &&& 31)).toInt8.toInt32).toInt8.toInt32.toInt := rfl
  have u0 := c_ishl (own_lo c &&& 255) 0 0 (by decide)
  have u8 := c_ishl (own_hi c &&& 255) 8 8 (by decide)
  have r0 := rng32 ((own_lo c &&& 255) <<< ((0 : Int32) &&& 31))
  have r8 := rng32 ((own_hi c &&& 255) <<< ((8 : Int32) &&& 31))
  have e0 : ((own_lo c &&& 255) <<< ((0 : Int32) &&& 31)).toInt = c.toInt % 256 := by omega
  have e8 : ((own_hi c &&& 255) <<< ((8 : Int32) &&& 31)).toInt = c.toInt / 256 * 256 := by omega
  have o := c_or' ((own_lo c &&& 255) <<< ((0 : Int32) &&& 31)) ((own_hi c &&& 255) <<< ((8 : Int32) &&& 31)) 8 (by decide) 256 (by decide) (by omega) (by omega) (by omega)
  have ro := rng32 (((own_lo c &&& 255) <<< ((0 : Int32) &&& 31)) ||| ((own_hi c &&& 255) <<< ((8 : Int32) &&& 31)))
  have eo : (((own_lo c &&& 255) <<< ((0 : Int32) &&& 31)) ||| ((own_hi c &&& 255) <<< ((8 : Int32) &&& 31))) = c := Int32.toInt_inj.mp (by omega)
  rw [eo]
  exact (own_narc c ⟨by rw [Int32.lt_iff_toInt_lt]; omega, by rw [Int32.lt_iff_toInt_lt]; omega⟩).2
theorem own_first (cs : List Int32) (h : ∃ c ∈ cs, (255 : Int32) < c) : ∃ k, k < cs.length ∧ (∀ i, i < k → ¬ (255 : Int32) < cs.getD i 0) ∧ (255 : Int32) < cs.getD k 0 := by
  induction cs with
  | nil => obtain ⟨c, hc, -⟩ := h; cases hc
  | cons a r ih =>
    by_cases q : (255 : Int32) < a
    · exact ⟨0, by simp, fun i hi => absurd hi (Nat.not_lt_zero _), q⟩
    · obtain ⟨c, hc, hq⟩ := h
      rcases List.mem_cons.mp hc with rfl | hc
      · exact absurd hq q
      · obtain ⟨k, h1, h2, h3⟩ := ih ⟨c, hc, hq⟩
        refine ⟨k + 1, by simpa using h1, fun i hi => ?_, by simpa using h3⟩
        cases i with
        | zero => simpa using q
        | succ i => simpa using h2 i (by omega)
theorem own_memD (cs : List Int32) (P : Int32 → Prop) (h : ∀ c ∈ cs, P c) (i : Nat) (hi : i < cs.length) : P (cs.getD i 0) := by
  rw [List.getD_eq_getElem?_getD, List.getElem?_eq_getElem hi]
  exact h _ (List.getElem_mem hi)
theorem own_coder {n : Nat} (h0 : 0 < n) (hn : n ≤ 4000) : ((Int32.ofNat n - Int32.ofNat (2 * n)).toUInt32 >>> ((31 : Int32) &&& 31).toUInt32).toInt32 = 1 := by
  apply Int32.toInt_inj.mp
  have a := c_iushr (Int32.ofNat n - Int32.ofNat (2 * n)) 31 31 (by decide) (by decide)
  have b := c_isub (Int32.ofNat n) (Int32.ofNat (2 * n))
  have r := rng32 (Int32.ofNat n - Int32.ofNat (2 * n))
  rw [(own_tn (by omega)).2, (own_tn (by omega)).2] at b
  have e : (1 : Int32).toInt = 1 := by decide
  rw [a, e]
  omega
def Q_rmNL (Z : State) (n : Nat) (h0 : Heap) (n0 : Nat) (v : Option Value) (h : Heap) (L : List Loc) : Prop := v = some (.int (Int32.ofNat (2 * n))) ∧ Fr n0 L ∧ h = h0
theorem ef_19 (m : MethodId) (x0 : Int32) : entryFrame m #[(.int x0)] 1 = mkF m 0 #[.val (.int x0)] [] := by first | (simp [entryFrame, mkF, argsToLocals, Value.category]; done) | rfl
theorem pn_StringUTF16 : plainName "java/lang/StringUTF16" = true := by first | (simp [plainName, overriddenIn]; done) | decide +kernel
theorem d19_0 : decode jdk_52_method_3_code 0 = .ok (.iload_n 0, 1) := by decide +kernel
theorem d19_1 : decode jdk_52_method_3_code 1 = .ok (.ifCond .ge 11, 3) := by decide +kernel
theorem d19_12 : decode jdk_52_method_3_code 12 = .ok (.iload_n 0, 1) := by decide +kernel
theorem d19_13 : decode jdk_52_method_3_code 13 = .ok (.ldc 20, 2) := by decide +kernel
theorem d19_15 : decode jdk_52_method_3_code 15 = .ok (.if_icmp .lt 40, 3) := by decide +kernel
theorem d19_55 : decode jdk_52_method_3_code 55 = .ok (.iload_n 0, 1) := by decide +kernel
theorem d19_56 : decode jdk_52_method_3_code 56 = .ok (.iconst 1, 1) := by decide +kernel
theorem d19_57 : decode jdk_52_method_3_code 57 = .ok (.ishl, 1) := by decide +kernel
theorem d19_58 : decode jdk_52_method_3_code 58 = .ok (.ireturn, 1) := by decide +kernel
set_option maxRecDepth 65536 in
set_option maxHeartbeats 40000000 in
theorem rmNL (l : Launch) (Z : State) (a0 : Array Value) (hw : ∀ d ∈ tables_1, d.before a0 Z = true) (ws : List Jvm.Cond) (n : Nat) (h0 : Heap) (n0 : Nat) (O0 : Old Z n0 h0) (hn : n ≤ 4) :
    MetFree l (⟨"java/lang/StringUTF16", "newBytesLength", "(I)I"⟩ : MethodName) (head1 (Jvm.Cond.code (⟨"java/lang/StringUTF16", "newBytesLength", "(I)I"⟩ : MethodName) jdk_52_method_3_code 1 (some .int) :: ws) ({ frames := 0, cells := 0, slots := 0, locals := 0 } : Room)) (fun a U => a = #[(.int (Int32.ofNat n))] ∧ Z.Warmed39 U.vm ∧ U.heap = h0) (fun _ _ _ _ _ => True) (fun _ U o U' => ∃ v L, o = .returned v ∧ Q_rmNL Z n h0 n0 v U'.heap L ∧ FrameEnd U o U' L ({ frames := 0, cells := 0, slots := 0, locals := 0 } : Room).cells ({ frames := 0, cells := 0, slots := 0, locals := 0 } : Room).slots) := by
  refine MetFree.of_bodySF (plainFor_of_name pn_StringUTF16) hisR ?_
  intro p e s m args below meth c s₁ Bd hml0 hP hK
  obtain ⟨rfl, hZ, hh⟩ := hP
  have hx := Bd.exec
  have hby := Bd.bytes
  have hml : c.maxLocals = 1 := hml0
  have hown : s.vm.findClass "java/lang/StringUTF16" = some m.cls := findClass_of_methodNamed Bd.named
  have hnm := (name_of_methodNamed Bd.named Bd.method).1
  have X0 : Stand p l e ({ frames := 0, cells := 0, slots := 0, locals := 0 } : Room) s m #[(.int (Int32.ofNat n))] below meth c s₁ [] 0 0 := Stand.of_body Bd
  have e0 : s₁.heap = h0 := by rw [← hh, Bd.state]; rfl
  have N0 := Fr.nil n0
  obtain ⟨S0, hS0⟩ : ∃ z, z = s₁.setTop (entryFrame m #[(.int (Int32.ofNat n))] 1) := ⟨_, rfl⟩
  have k0 : Rch p e below S0 s₁ (mkF m 0 #[.val (.int (Int32.ofNat n))] []) := fun t kq => hS0 ▸ castTop (ef_19 m (Int32.ofNat n)) kq
  have k1 : Rch p e below S0 s₁ (mkF m 58 #[.val (.int (Int32.ofNat n))] [(.int (Int32.ofNat (2 * n)))]) := fun t h => k0 t (by
      show Steps p.tables e below (s₁.setTop (mkF m 0 #[.val (.int (Int32.ofNat n))] [])) _
      refine XS.iloadN X0.here hx rfl (hb hby d19_0) rfl ?_
      show Steps p.tables e below (s₁.setTop (mkF m 1 #[.val (.int (Int32.ofNat n))] [(.int (Int32.ofNat n))])) _
      refine XS.ifYes X0.here hx rfl (pc0 := 1) (pc' := 12) rfl (hb hby d19_1) rfl ((if0 _ _).trans (flt ((own_on0 (by omega)) : ¬ ((Int32.ofNat n) < (0 : Int32)))).2.1) (by decide) (by decide) ?_
      show Steps p.tables e below (s₁.setTop (mkF m 12 #[.val (.int (Int32.ofNat n))] [])) _
      refine XS.iloadN X0.here hx rfl (hb hby d19_12) rfl ?_
      show Steps p.tables e below (s₁.setTop (mkF m 13 #[.val (.int (Int32.ofNat n))] [(.int (Int32.ofNat n))])) _
      refine X0.ldcInt hx hown (mvT hZ (hw _ (List.mem_of_getElem? (i := 82) rfl))) (g := (mkF m 13 #[.val (.int (Int32.ofNat n))] [(.int (Int32.ofNat n))])) rfl (hb hby d19_13) _ ?_
      show Steps p.tables e below (s₁.setTop (mkF m 15 #[.val (.int (Int32.ofNat n))] [(.int (1073741823 : Int32)), (.int (Int32.ofNat n))])) _
      refine XS.icmpYes X0.here hx rfl (pc0 := 15) (pc' := 55) rfl (hb hby d19_15) rfl (tlt ((own_lt30 (by omega)) : (Int32.ofNat n) < (1073741823 : Int32))).1 (by decide) (by decide) ?_
      show Steps p.tables e below (s₁.setTop (mkF m 55 #[.val (.int (Int32.ofNat n))] [])) _
      refine XS.iloadN X0.here hx rfl (hb hby d19_55) rfl ?_
      show Steps p.tables e below (s₁.setTop (mkF m 56 #[.val (.int (Int32.ofNat n))] [(.int (Int32.ofNat n))])) _
      refine XS.iconst X0.here hx rfl (hb hby d19_56) ?_
      show Steps p.tables e below (s₁.setTop (mkF m 57 #[.val (.int (Int32.ofNat n))] [(.int (1 : Int32)), (.int (Int32.ofNat n))])) _
      refine XS.ishl X0.here hx rfl (hb hby d19_57) rfl ?_
      rw [own_dbl (i := n) (by omega)]
      show Steps p.tables e below (s₁.setTop (mkF m 58 #[.val (.int (Int32.ofNat n))] [(.int (Int32.ofNat (2 * n)))])) _
      exact h)
  obtain ⟨fs, hr, hrun, hended, hW, hsame⟩ := X0.leave (v := (some (.int (Int32.ofNat (2 * n))))) (fun h => by rw [Bd.returns] at h; cases h)
  refine ⟨_, _, ?_, hrun, hended, _, _, rfl, ?_, ⟨_, rfl⟩, hW, hsame.mono (by decide) (by decide)⟩
  · rw [← hS0]
    refine k1 _ ?_
    show Steps p.tables e below (s₁.setTop (mkF m 58 #[.val (.int (Int32.ofNat n))] [(.int (Int32.ofNat (2 * n)))])) _
    exact retI X0 hx Bd.returns (hb hby d19_58) hr
  · show Q_rmNL Z n h0 n0 _ s₁.heap _
    rw [e0]
    exact ⟨rfl, N0, rfl⟩
def Q_rmNF (Z : State) (n : Nat) (h0 : Heap) (n0 : Nat) (v : Option Value) (h : Heap) (L : List Loc) : Prop := ∃ x kx, v = some (.ref x) ∧ Fr n0 L ∧ Ext h0 h ∧ h0.size ≤ x ∧ Arv Z h x kx .byte (Int32.ofNat (2 * n)) [] (.int (0 : Int32))
theorem ef_18 (m : MethodId) (x0 : Int32) : entryFrame m #[(.int x0)] 1 = mkF m 0 #[.val (.int x0)] [] := by first | (simp [entryFrame, mkF, argsToLocals, Value.category]; done) | rfl
theorem d18_0 : decode jdk_52_method_2_code 0 = .ok (.iload_n 0, 1) := by decide +kernel
theorem pd_17 : parseMethodDescriptor "(I)I" = some ⟨[.int], some .int⟩ := by decide +kernel
theorem d18_1 : decode jdk_52_method_2_code 1 = .ok (.invokestatic 11, 3) := by decide +kernel
theorem d18_4 : decode jdk_52_method_2_code 4 = .ok (.newarray .byte, 2) := by decide +kernel
theorem d18_6 : decode jdk_52_method_2_code 6 = .ok (.areturn, 1) := by decide +kernel
set_option maxRecDepth 65536 in
set_option maxHeartbeats 40000000 in
theorem rmNF (l : Launch) (Z : State) (a0 : Array Value) (hw : ∀ d ∈ tables_1, d.before a0 Z = true) (ws : List Jvm.Cond) (n : Nat) (h0 : Heap) (n0 : Nat) (O0 : Old Z n0 h0) (hn : n ≤ 4) :
    MetFree l (⟨"java/lang/StringUTF16", "newBytesFor", "(I)[B"⟩ : MethodName) (head1 (Jvm.Cond.code (⟨"java/lang/StringUTF16", "newBytesFor", "(I)[B"⟩ : MethodName) jdk_52_method_2_code 1 (some (.array .byte)) :: ws) ({ frames := 1, cells := 1, slots := 8, locals := 20 } : Room)) (fun a U => a = #[(.int (Int32.ofNat n))] ∧ Z.Warmed39 U.vm ∧ U.heap = h0) (fun _ _ _ _ _ => True) (fun _ U o U' => ∃ v L, o = .returned v ∧ Q_rmNF Z n h0 n0 v U'.heap L ∧ FrameEnd U o U' L ({ frames := 1, cells := 1, slots := 8, locals := 20 } : Room).cells ({ frames := 1, cells := 1, slots := 8, locals := 20 } : Room).slots) := by
  refine MetFree.of_bodySF (plainFor_of_name pn_StringUTF16) hisR ?_
  intro p e s m args below meth c s₁ Bd hml0 hP hK
  obtain ⟨rfl, hZ, hh⟩ := hP
  have hx := Bd.exec
  have hby := Bd.bytes
  have hml : c.maxLocals = 1 := hml0
  have hown : s.vm.findClass "java/lang/StringUTF16" = some m.cls := findClass_of_methodNamed Bd.named
  have hnm := (name_of_methodNamed Bd.named Bd.method).1
  have X0 : Stand p l e ({ frames := 1, cells := 1, slots := 8, locals := 20 } : Room) s m #[(.int (Int32.ofNat n))] below meth c s₁ [] 0 0 := Stand.of_body Bd
  have e0 : s₁.heap = h0 := by rw [← hh, Bd.state]; rfl
  have N0 := Fr.nil n0
  obtain ⟨S0, hS0⟩ : ∃ z, z = s₁.setTop (entryFrame m #[(.int (Int32.ofNat n))] 1) := ⟨_, rfl⟩
  have k0 : Rch p e below S0 s₁ (mkF m 0 #[.val (.int (Int32.ofNat n))] []) := fun t kq => hS0 ▸ castTop (ef_18 m (Int32.ofNat n)) kq
  have K0 : Keep h0 h0 [] := Keep.refl h0 _
  have k2 : Rch p e below S0 s₁ (mkF m 1 #[.val (.int (Int32.ofNat n))] [(.int (Int32.ofNat n))]) := fun t h => k0 t (by
      show Steps p.tables e below (s₁.setTop (mkF m 0 #[.val (.int (Int32.ofNat n))] [])) _
      refine XS.iloadN X0.here hx rfl (hb hby d18_0) rfl ?_
      show Steps p.tables e below (s₁.setTop (mkF m 1 #[.val (.int (Int32.ofNat n))] [(.int (Int32.ofNat n))])) _
      exact h)
  obtain ⟨_, _, ⟨T3, L3, kk3, n3⟩, -, X3, ⟨Lc3, hQ3, l3, y3, z3⟩, st3⟩ := Jvm.LawKit.callS X0 hx (y := (⟨"java/lang/StringUTF16", "newBytesLength", "(I)I"⟩ : MethodName)) hown (mvT hZ (hw _ (List.mem_of_getElem? (i := 79) rfl))) (mvT hZ (hw _ (List.mem_of_getElem? (i := 80) rfl))) (mvT hZ (hw _ (List.mem_of_getElem? (i := 22) rfl))) (mvT hZ (hw _ (List.mem_of_getElem? (i := 81) rfl))) (by decide) (backOf (W := 0) (rmNL l Z a0 hw [] n  h0 n0 O0 hn) hZ (hw _ (List.mem_of_getElem? (i := 81) rfl)) (hw _ (List.mem_of_getElem? (i := 22) rfl)) (by decide) (by decide)) (g := (mkF m 1 #[.val (.int (Int32.ofNat n))] [(.int (Int32.ofNat n))])) rfl (by rw [hml]; rfl) (argsL := [(.int (Int32.ofNat n))]) (rest := []) (lenOf pd_17 rfl) rfl (by show 2 * 0 + _ ≤ _; exact Nat.le_of_eq rfl) (hb hby d18_1) (fun _ _ => ⟨rfl, e0, (by decide : 0 + 0 ≤ _), (by decide : 0 + 0 ≤ _)⟩)
  dsimp only [Pt.U, Pt.locs, Pt.cells, Pt.slots] at X3 l3 y3 z3 st3 hQ3
  subst l3 y3 z3
  obtain ⟨rfl, Nq3, hh3⟩ := hQ3
  have N3 := Fr.app N0 Nq3
  have k4 : Rch p e below S0 T3 (mkF m 4 #[.val (.int (Int32.ofNat n))] [(.int (Int32.ofNat (2 * n)))]) := fun t h => k2 t (st3 t h)
  obtain ⟨T5, h5, k5, X5, e5, E5, A5, st5⟩ := newP X3 hx hZ (hw _ (List.mem_of_getElem? (i := 24) rfl)) hh3 (g := (mkF m 4 #[.val (.int (Int32.ofNat n))] [(.int (Int32.ofNat (2 * n)))])) rfl (hb hby d18_4) rfl (own_on0 (by omega)) (cap := 8) (by rw [(own_tn (by omega)).1]; omega) (by decide) (by decide) (by decide)
  obtain ⟨b5, g5⟩ : ∃ z, z = h0.size := ⟨_, rfl⟩
  rw [← g5] at A5 st5
  have k6 : Rch p e below S0 T5 (mkF m 6 #[.val (.int (Int32.ofNat n))] [(.ref b5)]) := fun t h => k4 t (st5 t h)
  have ge_b5 : n0 ≤ b5 := own_ge O0 (Nat.le_of_eq g5.symm)
  have sz_b5 : h0.size ≤ b5 := Nat.le_trans K0.1 (Nat.le_of_eq g5.symm)
  have O7 := O0.ext E5
  have K8 := K0.ext E5
  have V_b5 : Arv Z h5 b5 k5 .byte (Int32.ofNat (2 * n)) [] (.int (0 : Int32)) := Arv.new A5 (own_on0 (by omega))
  obtain ⟨fs, hr, hrun, hended, hW, hsame⟩ := X5.leave (v := (some (.ref b5))) (fun h => by rw [Bd.returns] at h; cases h)
  refine ⟨_, _, ?_, hrun, hended, _, _, rfl, ?_, ⟨_, rfl⟩, hW, hsame.mono (by decide) (by decide)⟩
  · rw [← hS0]
    refine k6 _ ?_
    show Steps p.tables e below (T5.setTop (mkF m 6 #[.val (.int (Int32.ofNat n))] [(.ref b5)])) _
    jvm_step X5.here [X5.here.top, hx, (hb hby d18_6), X5.method', Bd.returns, Value.isRef, FieldType.isReference]
    first | (intro acts; rw [hr _ acts rfl rfl rfl]) | rw [hr _ _ rfl rfl rfl]
    exact Steps.refl _
  · show Q_rmNF Z n h0 n0 _ T5.heap _
    rw [e5]
    exact ⟨b5, k5, rfl, N3, own_ext K8, sz_b5, V_b5⟩
def Q_rmPC (Z : State) (rb : Addr) (i : Nat) (ch : Int32) (kb : ClassId) (n : Nat) (vs : List Value) (h0 : Heap) (n0 : Nat) (v : Option Value) (h : Heap) (L : List Loc) : Prop := v = none ∧ Fr n0 L ∧ Keep h0 h [rb] ∧ Arv Z h rb kb .byte (Int32.ofNat (2 * n)) ((vs.set (2 * i) (.int (own_lo ch))).set (2 * i + 1) (.int (own_hi ch))) (.int (0 : Int32))
theorem ef_20 (m : MethodId) (x0 : Addr) (x1 : Int32) (x2 : Int32) : entryFrame m #[(.ref x0), (.int x1), (.int x2)] 3 = mkF m 0 #[.val (.ref x0), .val (.int x1), .val (.int x2)] [] := by first | (simp [entryFrame, mkF, argsToLocals, Value.category]; done) | rfl
theorem d20_0 : decode jdk_52_method_4_code 0 = .ok (.getstatic 44, 3) := by decide +kernel
theorem d20_3 : decode jdk_52_method_4_code 3 = .ok (.ifCond .ne 25, 3) := by decide +kernel
theorem d20_28 : decode jdk_52_method_4_code 28 = .ok (.iload_n 1, 1) := by decide +kernel
theorem d20_29 : decode jdk_52_method_4_code 29 = .ok (.iconst 1, 1) := by decide +kernel
theorem d20_30 : decode jdk_52_method_4_code 30 = .ok (.ishl, 1) := by decide +kernel
theorem d20_31 : decode jdk_52_method_4_code 31 = .ok (.istore_n 1, 1) := by decide +kernel
theorem d20_32 : decode jdk_52_method_4_code 32 = .ok (.aload_n 0, 1) := by decide +kernel
theorem d20_33 : decode jdk_52_method_4_code 33 = .ok (.iload_n 1, 1) := by decide +kernel
theorem d20_34 : decode jdk_52_method_4_code 34 = .ok (.iinc 1 1, 3) := by decide +kernel
theorem d20_37 : decode jdk_52_method_4_code 37 = .ok (.iload_n 2, 1) := by decide +kernel
theorem d20_38 : decode jdk_52_method_4_code 38 = .ok (.getstatic 59, 3) := by decide +kernel
theorem d20_41 : decode jdk_52_method_4_code 41 = .ok (.ishr, 1) := by decide +kernel
theorem d20_42 : decode jdk_52_method_4_code 42 = .ok (.i2b, 1) := by decide +kernel
theorem d20_43 : decode jdk_52_method_4_code 43 = .ok (.bastore, 1) := by decide +kernel
theorem d20_44 : decode jdk_52_method_4_code 44 = .ok (.aload_n 0, 1) := by decide +kernel
theorem d20_45 : decode jdk_52_method_4_code 45 = .ok (.iload_n 1, 1) := by decide +kernel
theorem d20_46 : decode jdk_52_method_4_code 46 = .ok (.iload_n 2, 1) := by decide +kernel
theorem d20_47 : decode jdk_52_method_4_code 47 = .ok (.getstatic 63, 3) := by decide +kernel
theorem d20_50 : decode jdk_52_method_4_code 50 = .ok (.ishr, 1) := by decide +kernel
theorem d20_51 : decode jdk_52_method_4_code 51 = .ok (.i2b, 1) := by decide +kernel
theorem d20_52 : decode jdk_52_method_4_code 52 = .ok (.bastore, 1) := by decide +kernel
theorem d20_53 : decode jdk_52_method_4_code 53 = .ok (.return_, 1) := by decide +kernel
set_option maxRecDepth 65536 in
set_option maxHeartbeats 40000000 in
theorem rmPC (l : Launch) (Z : State) (a0 : Array Value) (hw : ∀ d ∈ tables_1, d.before a0 Z = true) (ws : List Jvm.Cond) (rb : Addr) (i : Nat) (ch : Int32) (kb : ClassId) (n : Nat) (vs : List Value) (h0 : Heap) (n0 : Nat) (O0 : Old Z n0 h0) (SAs : Sta Z Z.heap "java/lang/StringUTF16" "$assertionsDisabled" "Z" (.int (1 : Int32))) (SHi : Sta Z Z.heap "java/lang/StringUTF16" "HI_BYTE_SHIFT" "I" (.int (0 : Int32))) (SLo : Sta Z Z.heap "java/lang/StringUTF16" "LO_BYTE_SHIFT" "I" (.int (8 : Int32))) (ge_rb : n0 ≤ rb) (hn : n ≤ 4) (hi : i < n) (hl : vs.length = 2 * n) (Vb : Arv Z h0 rb kb .byte (Int32.ofNat (2 * n)) vs (.int (0 : Int32))) :
    MetFree l (⟨"java/lang/StringUTF16", "putChar", "([BII)V"⟩ : MethodName) (head1 (Jvm.Cond.code (⟨"java/lang/StringUTF16", "putChar", "([BII)V"⟩ : MethodName) jdk_52_method_4_code 3 none :: ws) ({ frames := 0, cells := 0, slots := 0, locals := 0 } : Room)) (fun a U => a = #[(.ref rb), (.int (Int32.ofNat i)), (.int ch)] ∧ Z.Warmed39 U.vm ∧ U.heap = h0) (fun _ _ _ _ _ => True) (fun _ U o U' => ∃ v L, o = .returned v ∧ Q_rmPC Z rb i ch kb n vs h0 n0 v U'.heap L ∧ FrameEnd U o U' L ({ frames := 0, cells := 0, slots := 0, locals := 0 } : Room).cells ({ frames := 0, cells := 0, slots := 0, locals := 0 } : Room).slots) := by
  refine MetFree.of_bodySF (plainFor_of_name pn_StringUTF16) hisR ?_
  intro p e s m args below meth c s₁ Bd hml0 hP hK
  obtain ⟨rfl, hZ, hh⟩ := hP
  have hx := Bd.exec
  have hby := Bd.bytes
  have hml : c.maxLocals = 3 := hml0
  have hown : s.vm.findClass "java/lang/StringUTF16" = some m.cls := findClass_of_methodNamed Bd.named
  have hnm := (name_of_methodNamed Bd.named Bd.method).1
  have X0 : Stand p l e ({ frames := 0, cells := 0, slots := 0, locals := 0 } : Room) s m #[(.ref rb), (.int (Int32.ofNat i)), (.int ch)] below meth c s₁ [] 0 0 := Stand.of_body Bd
  have e0 : s₁.heap = h0 := by rw [← hh, Bd.state]; rfl
  have N0 := Fr.nil n0
  obtain ⟨S0, hS0⟩ : ∃ z, z = s₁.setTop (entryFrame m #[(.ref rb), (.int (Int32.ofNat i)), (.int ch)] 3) := ⟨_, rfl⟩
  have k0 : Rch p e below S0 s₁ (mkF m 0 #[.val (.ref rb), .val (.int (Int32.ofNat i)), .val (.int ch)] []) := fun t kq => hS0 ▸ castTop (ef_20 m rb (Int32.ofNat i) ch) kq
  have K0 : Keep h0 h0 [rb] := Keep.refl h0 _
  obtain ⟨T9, X9, e9, st9⟩ := getS2 X0 hx hZ hown (host := "") (Or.inl (hw _ (List.mem_of_getElem? (i := 86) rfl))) Via.refl e0 (SAs.ext O0.2) (g := (mkF m 0 #[.val (.ref rb), .val (.int (Int32.ofNat i)), .val (.int ch)] [])) rfl (hb hby d20_0)
  have k10 : Rch p e below S0 T9 (mkF m 3 #[.val (.ref rb), .val (.int (Int32.ofNat i)), .val (.int ch)] [(.int (1 : Int32))]) := fun t h => k0 t (st9 t h)
  have k12 : Rch p e below S0 T9 (mkF m 38 #[.val (.ref rb), .val (.int (Int32.ofNat (2 * i + 1))), .val (.int ch)] [(.int ch), (.int (Int32.ofNat (2 * i))), (.ref rb)]) := fun t h => k10 t (by
      show Steps p.tables e below (T9.setTop (mkF m 3 #[.val (.ref rb), .val (.int (Int32.ofNat i)), .val (.int ch)] [(.int (1 : Int32))])) _
      refine XS.ifYes X9.here hx rfl (pc0 := 3) (pc' := 28) rfl (hb hby d20_3) rfl ((if0 _ _).trans (feq (by decide : ¬ ((1 : Int32) = (0 : Int32)))).2) (by decide) (by decide) ?_
      show Steps p.tables e below (T9.setTop (mkF m 28 #[.val (.ref rb), .val (.int (Int32.ofNat i)), .val (.int ch)] [])) _
      refine XS.iloadN X9.here hx rfl (hb hby d20_28) rfl ?_
      show Steps p.tables e below (T9.setTop (mkF m 29 #[.val (.ref rb), .val (.int (Int32.ofNat i)), .val (.int ch)] [(.int (Int32.ofNat i))])) _
      refine XS.iconst X9.here hx rfl (hb hby d20_29) ?_
      show Steps p.tables e below (T9.setTop (mkF m 30 #[.val (.ref rb), .val (.int (Int32.ofNat i)), .val (.int ch)] [(.int (1 : Int32)), (.int (Int32.ofNat i))])) _
      refine XS.ishl X9.here hx rfl (hb hby d20_30) rfl ?_
      rw [own_dbl (i := i) (by omega)]
      show Steps p.tables e below (T9.setTop (mkF m 31 #[.val (.ref rb), .val (.int (Int32.ofNat i)), .val (.int ch)] [(.int (Int32.ofNat (2 * i)))])) _
      refine XS.istoreN X9.here hx rfl (hb hby d20_31) rfl (l' := #[.val (.ref rb), .val (.int (Int32.ofNat (2 * i))), .val (.int ch)]) rfl ?_
      show Steps p.tables e below (T9.setTop (mkF m 32 #[.val (.ref rb), .val (.int (Int32.ofNat (2 * i))), .val (.int ch)] [])) _
      refine XS.aloadN X9.here hx rfl (hb hby d20_32) rfl rfl ?_
      show Steps p.tables e below (T9.setTop (mkF m 33 #[.val (.ref rb), .val (.int (Int32.ofNat (2 * i))), .val (.int ch)] [(.ref rb)])) _
      refine XS.iloadN X9.here hx rfl (hb hby d20_33) rfl ?_
      show Steps p.tables e below (T9.setTop (mkF m 34 #[.val (.ref rb), .val (.int (Int32.ofNat (2 * i))), .val (.int ch)] [(.int (Int32.ofNat (2 * i))), (.ref rb)])) _
      refine XS.iinc X9.here hx rfl (hb hby d20_34) rfl (l' := #[.val (.ref rb), .val (.int ((Int32.ofNat (2 * i)) + (1 : Int32))), .val (.int ch)]) rfl ?_
      rw [own_inc (i := 2 * i) (by omega)]
      show Steps p.tables e below (T9.setTop (mkF m 37 #[.val (.ref rb), .val (.int (Int32.ofNat (2 * i + 1))), .val (.int ch)] [(.int (Int32.ofNat (2 * i))), (.ref rb)])) _
      refine XS.iloadN X9.here hx rfl (hb hby d20_37) rfl ?_
      show Steps p.tables e below (T9.setTop (mkF m 38 #[.val (.ref rb), .val (.int (Int32.ofNat (2 * i + 1))), .val (.int ch)] [(.int ch), (.int (Int32.ofNat (2 * i))), (.ref rb)])) _
      exact h)
  obtain ⟨T11, X11, e11, st11⟩ := getS2 X9 hx hZ hown (host := "") (Or.inl (hw _ (List.mem_of_getElem? (i := 87) rfl))) Via.refl e9 (SHi.ext O0.2) (g := (mkF m 38 #[.val (.ref rb), .val (.int (Int32.ofNat (2 * i + 1))), .val (.int ch)] [(.int ch), (.int (Int32.ofNat (2 * i))), (.ref rb)])) rfl (hb hby d20_38)
  have k13 : Rch p e below S0 T11 (mkF m 41 #[.val (.ref rb), .val (.int (Int32.ofNat (2 * i + 1))), .val (.int ch)] [(.int (0 : Int32)), (.int ch), (.int (Int32.ofNat (2 * i))), (.ref rb)]) := fun t h => k12 t (st11 t h)
  have k15 : Rch p e below S0 T11 (mkF m 43 #[.val (.ref rb), .val (.int (Int32.ofNat (2 * i + 1))), .val (.int ch)] [(.int ((ch >>> ((0 : Int32) &&& 31)).toInt8.toInt32)), (.int (Int32.ofNat (2 * i))), (.ref rb)]) := fun t h => k13 t (by
      show Steps p.tables e below (T11.setTop (mkF m 41 #[.val (.ref rb), .val (.int (Int32.ofNat (2 * i + 1))), .val (.int ch)] [(.int (0 : Int32)), (.int ch), (.int (Int32.ofNat (2 * i))), (.ref rb)])) _
      refine XS.ishr X11.here hx rfl (hb hby d20_41) rfl ?_
      show Steps p.tables e below (T11.setTop (mkF m 42 #[.val (.ref rb), .val (.int (Int32.ofNat (2 * i + 1))), .val (.int ch)] [(.int (ch >>> ((0 : Int32) &&& 31))), (.int (Int32.ofNat (2 * i))), (.ref rb)])) _
      refine XS.i2b X11.here hx rfl (hb hby d20_42) rfl ?_
      show Steps p.tables e below (T11.setTop (mkF m 43 #[.val (.ref rb), .val (.int (Int32.ofNat (2 * i + 1))), .val (.int ch)] [(.int ((ch >>> ((0 : Int32) &&& 31)).toInt8.toInt32)), (.int (Int32.ofNat (2 * i))), (.ref rb)])) _
      exact h)
  obtain ⟨cl14, Ar14, q14, Sz14, Ng14, Hs14, G14⟩ := id Vb
  have hin14 : ¬ ((Int32.ofNat (2 * i)) < 0 ∨ cl14.slots.size ≤ ((Int32.ofNat (2 * i))).toNatClampNeg) := inb_of Sz14 (own_inb (by omega) (by omega))
  obtain ⟨T14, h14, X14, e14, W14, st14⟩ := stB X11 hx hZ e11 Ar14 (j := (Int32.ofNat (2 * i))) hin14 (g := (mkF m 43 #[.val (.ref rb), .val (.int (Int32.ofNat (2 * i + 1))), .val (.int ch)] [(.int ((ch >>> ((0 : Int32) &&& 31)).toInt8.toInt32)), (.int (Int32.ofNat (2 * i))), (.ref rb)])) rfl rfl (hb hby d20_43)
  have k16 : Rch p e below S0 T14 (mkF m 44 #[.val (.ref rb), .val (.int (Int32.ofNat (2 * i + 1))), .val (.int ch)] []) := fun t h => k15 t (st14 t h)
  have N14 := Fr.snoc X14 N0 ge_rb
  have Vb' := Arv.set Ar14 q14 Sz14 Ng14 Hs14 G14 (fits_nar_byte _) W14 (2 * i) (own_tn (by omega)).1 (by omega)
  replace Vb := Vb'
  have O17 := O0.wr W14 ge_rb
  have K18 := K0.wr W14 (Or.inl (List.mem_of_getElem? (i := 0) rfl))
  have k20 : Rch p e below S0 T14 (mkF m 47 #[.val (.ref rb), .val (.int (Int32.ofNat (2 * i + 1))), .val (.int ch)] [(.int ch), (.int (Int32.ofNat (2 * i + 1))), (.ref rb)]) := fun t h => k16 t (by
      show Steps p.tables e below (T14.setTop (mkF m 44 #[.val (.ref rb), .val (.int (Int32.ofNat (2 * i + 1))), .val (.int ch)] [])) _
      refine XS.aloadN X14.here hx rfl (hb hby d20_44) rfl rfl ?_
      show Steps p.tables e below (T14.setTop (mkF m 45 #[.val (.ref rb), .val (.int (Int32.ofNat (2 * i + 1))), .val (.int ch)] [(.ref rb)])) _
      refine XS.iloadN X14.here hx rfl (hb hby d20_45) rfl ?_
      show Steps p.tables e below (T14.setTop (mkF m 46 #[.val (.ref rb), .val (.int (Int32.ofNat (2 * i + 1))), .val (.int ch)] [(.int (Int32.ofNat (2 * i + 1))), (.ref rb)])) _
      refine XS.iloadN X14.here hx rfl (hb hby d20_46) rfl ?_
      show Steps p.tables e below (T14.setTop (mkF m 47 #[.val (.ref rb), .val (.int (Int32.ofNat (2 * i + 1))), .val (.int ch)] [(.int ch), (.int (Int32.ofNat (2 * i + 1))), (.ref rb)])) _
      exact h)
  obtain ⟨T19, X19, e19, st19⟩ := getS2 X14 hx hZ hown (host := "") (Or.inl (hw _ (List.mem_of_getElem? (i := 88) rfl))) Via.refl e14 (SLo.ext O17.2) (g := (mkF m 47 #[.val (.ref rb), .val (.int (Int32.ofNat (2 * i + 1))), .val (.int ch)] [(.int ch), (.int (Int32.ofNat (2 * i + 1))), (.ref rb)])) rfl (hb hby d20_47)
  have k21 : Rch p e below S0 T19 (mkF m 50 #[.val (.ref rb), .val (.int (Int32.ofNat (2 * i + 1))), .val (.int ch)] [(.int (8 : Int32)), (.int ch), (.int (Int32.ofNat (2 * i + 1))), (.ref rb)]) := fun t h => k20 t (st19 t h)
  have k23 : Rch p e below S0 T19 (mkF m 52 #[.val (.ref rb), .val (.int (Int32.ofNat (2 * i + 1))), .val (.int ch)] [(.int ((ch >>> ((8 : Int32) &&& 31)).toInt8.toInt32)), (.int (Int32.ofNat (2 * i + 1))), (.ref rb)]) := fun t h => k21 t (by
      show Steps p.tables e below (T19.setTop (mkF m 50 #[.val (.ref rb), .val (.int (Int32.ofNat (2 * i + 1))), .val (.int ch)] [(.int (8 : Int32)), (.int ch), (.int (Int32.ofNat (2 * i + 1))), (.ref rb)])) _
      refine XS.ishr X19.here hx rfl (hb hby d20_50) rfl ?_
      show Steps p.tables e below (T19.setTop (mkF m 51 #[.val (.ref rb), .val (.int (Int32.ofNat (2 * i + 1))), .val (.int ch)] [(.int (ch >>> ((8 : Int32) &&& 31))), (.int (Int32.ofNat (2 * i + 1))), (.ref rb)])) _
      refine XS.i2b X19.here hx rfl (hb hby d20_51) rfl ?_
      show Steps p.tables e below (T19.setTop (mkF m 52 #[.val (.ref rb), .val (.int (Int32.ofNat (2 * i + 1))), .val (.int ch)] [(.int ((ch >>> ((8 : Int32) &&& 31)).toInt8.toInt32)), (.int (Int32.ofNat (2 * i + 1))), (.ref rb)])) _
      exact h)
  obtain ⟨cl22, Ar22, q22, Sz22, Ng22, Hs22, G22⟩ := id Vb
  have hin22 : ¬ ((Int32.ofNat (2 * i + 1)) < 0 ∨ cl22.slots.size ≤ ((Int32.ofNat (2 * i + 1))).toNatClampNeg) := inb_of Sz22 (own_inb (by omega) (by omega))
  obtain ⟨T22, h22, X22, e22, W22, st22⟩ := stB X19 hx hZ e19 Ar22 (j := (Int32.ofNat (2 * i + 1))) hin22 (g := (mkF m 52 #[.val (.ref rb), .val (.int (Int32.ofNat (2 * i + 1))), .val (.int ch)] [(.int ((ch >>> ((8 : Int32) &&& 31)).toInt8.toInt32)), (.int (Int32.ofNat (2 * i + 1))), (.ref rb)])) rfl rfl (hb hby d20_52)
  have k24 : Rch p e below S0 T22 (mkF m 53 #[.val (.ref rb), .val (.int (Int32.ofNat (2 * i + 1))), .val (.int ch)] []) := fun t h => k23 t (st22 t h)
  have N22 := Fr.snoc X22 N14 ge_rb
  have Vb' := Arv.set Ar22 q22 Sz22 Ng22 Hs22 G22 (fits_nar_byte _) W22 (2 * i + 1) (own_tn (by omega)).1 (by rw [List.length_set]; omega)
  replace Vb := Vb'
  have O25 := O17.wr W22 ge_rb
  have K26 := K18.wr W22 (Or.inl (List.mem_of_getElem? (i := 0) rfl))
  obtain ⟨fs, hr, hrun, hended, hW, hsame⟩ := X22.leave (v := none) (fun _ => rfl)
  refine ⟨_, _, ?_, hrun, hended, _, _, rfl, ?_, ⟨_, rfl⟩, hW, hsame.mono (by decide) (by decide)⟩
  · rw [← hS0]
    refine k24 _ ?_
    show Steps p.tables e below (T22.setTop (mkF m 53 #[.val (.ref rb), .val (.int (Int32.ofNat (2 * i + 1))), .val (.int ch)] [])) _
    exact X22.returnOut hx Bd.returns (hb hby d20_53) hr
  · show Q_rmPC Z rb i ch kb n vs h0 n0 _ T22.heap _
    rw [e22]
    exact ⟨rfl, N22, K26, Vb⟩
def Q_rmGC (Z : State) (ch : Int32) (h0 : Heap) (n0 : Nat) (v : Option Value) (h : Heap) (L : List Loc) : Prop := v = some (.int ch) ∧ Fr n0 L ∧ h = h0
theorem ef_21 (m : MethodId) (x0 : Addr) (x1 : Int32) : entryFrame m #[(.ref x0), (.int x1)] 2 = mkF m 0 #[.val (.ref x0), .val (.int x1)] [] := by first | (simp [entryFrame, mkF, argsToLocals, Value.category]; done) | rfl
theorem d21_0 : decode jdk_52_method_5_code 0 = .ok (.getstatic 44, 3) := by decide +kernel
theorem d21_3 : decode jdk_52_method_5_code 3 = .ok (.ifCond .ne 25, 3) := by decide +kernel
theorem d21_28 : decode jdk_52_method_5_code 28 = .ok (.iload_n 1, 1) := by decide +kernel
theorem d21_29 : decode jdk_52_method_5_code 29 = .ok (.iconst 1, 1) := by decide +kernel
theorem d21_30 : decode jdk_52_method_5_code 30 = .ok (.ishl, 1) := by decide +kernel
theorem d21_31 : decode jdk_52_method_5_code 31 = .ok (.istore_n 1, 1) := by decide +kernel
theorem d21_32 : decode jdk_52_method_5_code 32 = .ok (.aload_n 0, 1) := by decide +kernel
theorem d21_33 : decode jdk_52_method_5_code 33 = .ok (.iload_n 1, 1) := by decide +kernel
theorem d21_34 : decode jdk_52_method_5_code 34 = .ok (.iinc 1 1, 3) := by decide +kernel
theorem d21_37 : decode jdk_52_method_5_code 37 = .ok (.baload, 1) := by decide +kernel
theorem d21_38 : decode jdk_52_method_5_code 38 = .ok (.sipush 255, 3) := by decide +kernel
theorem d21_41 : decode jdk_52_method_5_code 41 = .ok (.iand, 1) := by decide +kernel
theorem d21_42 : decode jdk_52_method_5_code 42 = .ok (.getstatic 59, 3) := by decide +kernel
theorem d21_45 : decode jdk_52_method_5_code 45 = .ok (.ishl, 1) := by decide +kernel
theorem d21_46 : decode jdk_52_method_5_code 46 = .ok (.aload_n 0, 1) := by decide +kernel
theorem d21_47 : decode jdk_52_method_5_code 47 = .ok (.iload_n 1, 1) := by decide +kernel
theorem d21_48 : decode jdk_52_method_5_code 48 = .ok (.baload, 1) := by decide +kernel
theorem d21_49 : decode jdk_52_method_5_code 49 = .ok (.sipush 255, 3) := by decide +kernel
theorem d21_52 : decode jdk_52_method_5_code 52 = .ok (.iand, 1) := by decide +kernel
theorem d21_53 : decode jdk_52_method_5_code 53 = .ok (.getstatic 63, 3) := by decide +kernel
theorem d21_56 : decode jdk_52_method_5_code 56 = .ok (.ishl, 1) := by decide +kernel
theorem d21_57 : decode jdk_52_method_5_code 57 = .ok (.ior, 1) := by decide +kernel
theorem d21_58 : decode jdk_52_method_5_code 58 = .ok (.i2c, 1) := by decide +kernel
theorem d21_59 : decode jdk_52_method_5_code 59 = .ok (.ireturn, 1) := by decide +kernel
set_option maxRecDepth 65536 in
set_option maxHeartbeats 40000000 in
theorem rmGC (l : Launch) (Z : State) (a0 : Array Value) (hw : ∀ d ∈ tables_1, d.before a0 Z = true) (ws : List Jvm.Cond) (rb : Addr) (k : Nat) (kb : ClassId) (n : Nat) (vs : List Value) (ch : Int32) (h0 : Heap) (n0 : Nat) (O0 : Old Z n0 h0) (SAs : Sta Z Z.heap "java/lang/StringUTF16" "$assertionsDisabled" "Z" (.int (1 : Int32))) (SHi : Sta Z Z.heap "java/lang/StringUTF16" "HI_BYTE_SHIFT" "I" (.int (0 : Int32))) (SLo : Sta Z Z.heap "java/lang/StringUTF16" "LO_BYTE_SHIFT" "I" (.int (8 : Int32))) (hn : n ≤ 4) (hi : k < n) (hc : ¬ ch < 0 ∧ ¬ (65535 : Int32) < ch) (u0 : vs.getD (2 * k) (.int (0 : Int32)) = .int (own_lo ch)) (u1 : vs.getD (2 * k + 1) (.int (0 : Int32)) = .int (own_hi ch)) (Vb : Arv Z h0 rb kb .byte (Int32.ofNat (2 * n)) vs (.int (0 : Int32))) :
    MetFree l (⟨"java/lang/StringUTF16", "getChar", "([BI)C"⟩ : MethodName) (head1 (Jvm.Cond.code (⟨"java/lang/StringUTF16", "getChar", "([BI)C"⟩ : MethodName) jdk_52_method_5_code 2 (some .char) :: ws) ({ frames := 0, cells := 0, slots := 0, locals := 0 } : Room)) (fun a U => a = #[(.ref rb), (.int (Int32.ofNat k))] ∧ Z.Warmed39 U.vm ∧ U.heap = h0) (fun _ _ _ _ _ => True) (fun _ U o U' => ∃ v L, o = .returned v ∧ Q_rmGC Z ch h0 n0 v U'.heap L ∧ FrameEnd U o U' L ({ frames := 0, cells := 0, slots := 0, locals := 0 } : Room).cells ({ frames := 0, cells := 0, slots := 0, locals := 0 } : Room).slots) := by
  refine MetFree.of_bodySF (plainFor_of_name pn_StringUTF16) hisR ?_
  intro p e s m args below meth c s₁ Bd hml0 hP hK
  obtain ⟨rfl, hZ, hh⟩ := hP
  have hx := Bd.exec
  have hby := Bd.bytes
  have hml : c.maxLocals = 2 := hml0
  have hown : s.vm.findClass "java/lang/StringUTF16" = some m.cls := findClass_of_methodNamed Bd.named
  have hnm := (name_of_methodNamed Bd.named Bd.method).1
  have X0 : Stand p l e ({ frames := 0, cells := 0, slots := 0, locals := 0 } : Room) s m #[(.ref rb), (.int (Int32.ofNat k))] below meth c s₁ [] 0 0 := Stand.of_body Bd
  have e0 : s₁.heap = h0 := by rw [← hh, Bd.state]; rfl
  have N0 := Fr.nil n0
  obtain ⟨S0, hS0⟩ : ∃ z, z = s₁.setTop (entryFrame m #[(.ref rb), (.int (Int32.ofNat k))] 2) := ⟨_, rfl⟩
  have k0 : Rch p e below S0 s₁ (mkF m 0 #[.val (.ref rb), .val (.int (Int32.ofNat k))] []) := fun t kq => hS0 ▸ castTop (ef_21 m rb (Int32.ofNat k)) kq
  obtain ⟨T27, X27, e27, st27⟩ := getS2 X0 hx hZ hown (host := "") (Or.inl (hw _ (List.mem_of_getElem? (i := 86) rfl))) Via.refl e0 (SAs.ext O0.2) (g := (mkF m 0 #[.val (.ref rb), .val (.int (Int32.ofNat k))] [])) rfl (hb hby d21_0)
  have k28 : Rch p e below S0 T27 (mkF m 3 #[.val (.ref rb), .val (.int (Int32.ofNat k))] [(.int (1 : Int32))]) := fun t h => k0 t (st27 t h)
  have k30 : Rch p e below S0 T27 (mkF m 37 #[.val (.ref rb), .val (.int (Int32.ofNat (2 * k + 1)))] [(.int (Int32.ofNat (2 * k))), (.ref rb)]) := fun t h => k28 t (by
      show Steps p.tables e below (T27.setTop (mkF m 3 #[.val (.ref rb), .val (.int (Int32.ofNat k))] [(.int (1 : Int32))])) _
      refine XS.ifYes X27.here hx rfl (pc0 := 3) (pc' := 28) rfl (hb hby d21_3) rfl ((if0 _ _).trans (feq (by decide : ¬ ((1 : Int32) = (0 : Int32)))).2) (by decide) (by decide) ?_
      show Steps p.tables e below (T27.setTop (mkF m 28 #[.val (.ref rb), .val (.int (Int32.ofNat k))] [])) _
      refine XS.iloadN X27.here hx rfl (hb hby d21_28) rfl ?_
      show Steps p.tables e below (T27.setTop (mkF m 29 #[.val (.ref rb), .val (.int (Int32.ofNat k))] [(.int (Int32.ofNat k))])) _
      refine XS.iconst X27.here hx rfl (hb hby d21_29) ?_
      show Steps p.tables e below (T27.setTop (mkF m 30 #[.val (.ref rb), .val (.int (Int32.ofNat k))] [(.int (1 : Int32)), (.int (Int32.ofNat k))])) _
      refine XS.ishl X27.here hx rfl (hb hby d21_30) rfl ?_
      rw [own_dbl (i := k) (by omega)]
      show Steps p.tables e below (T27.setTop (mkF m 31 #[.val (.ref rb), .val (.int (Int32.ofNat k))] [(.int (Int32.ofNat (2 * k)))])) _
      refine XS.istoreN X27.here hx rfl (hb hby d21_31) rfl (l' := #[.val (.ref rb), .val (.int (Int32.ofNat (2 * k)))]) rfl ?_
      show Steps p.tables e below (T27.setTop (mkF m 32 #[.val (.ref rb), .val (.int (Int32.ofNat (2 * k)))] [])) _
      refine XS.aloadN X27.here hx rfl (hb hby d21_32) rfl rfl ?_
      show Steps p.tables e below (T27.setTop (mkF m 33 #[.val (.ref rb), .val (.int (Int32.ofNat (2 * k)))] [(.ref rb)])) _
      refine XS.iloadN X27.here hx rfl (hb hby d21_33) rfl ?_
      show Steps p.tables e below (T27.setTop (mkF m 34 #[.val (.ref rb), .val (.int (Int32.ofNat (2 * k)))] [(.int (Int32.ofNat (2 * k))), (.ref rb)])) _
      refine XS.iinc X27.here hx rfl (hb hby d21_34) rfl (l' := #[.val (.ref rb), .val (.int ((Int32.ofNat (2 * k)) + (1 : Int32)))]) rfl ?_
      rw [own_inc (i := 2 * k) (by omega)]
      show Steps p.tables e below (T27.setTop (mkF m 37 #[.val (.ref rb), .val (.int (Int32.ofNat (2 * k + 1)))] [(.int (Int32.ofNat (2 * k))), (.ref rb)])) _
      exact h)
  obtain ⟨cl29, Ar29, q29, Sz29, Ng29, Hs29, G29⟩ := id Vb
  have hin29 : ¬ ((Int32.ofNat (2 * k)) < 0 ∨ cl29.slots.size ≤ ((Int32.ofNat (2 * k))).toNatClampNeg) := inb_of Sz29 (own_inb (by omega) (by omega))
  have hat29 : cl29.slots[((Int32.ofNat (2 * k))).toNatClampNeg]? = some (.int (own_lo ch)) := Hs29.at hin29 (by rw [(own_tn (by omega)).1]; exact u0)
  have k32 : Rch p e below S0 T27 (mkF m 42 #[.val (.ref rb), .val (.int (Int32.ofNat (2 * k + 1)))] [(.int ((own_lo ch) &&& (255 : Int32)))]) := fun t h => k30 t (by
      show Steps p.tables e below (T27.setTop (mkF m 37 #[.val (.ref rb), .val (.int (Int32.ofNat (2 * k + 1)))] [(.int (Int32.ofNat (2 * k))), (.ref rb)])) _
      refine X27.baloadBytes hx (j := (Int32.ofNat (2 * k))) (v := (.int (own_lo ch))) (by rw [e27]; exact Ar29.1) (State.isArrayOf_alike hZ.alike Ar29.2.1) Ar29.2.2 hin29 hat29 (g := (mkF m 37 #[.val (.ref rb), .val (.int (Int32.ofNat (2 * k + 1)))] [(.int (Int32.ofNat (2 * k))), (.ref rb)])) rfl rfl (hb hby d21_37) _ ?_
      show Steps p.tables e below (T27.setTop (mkF m 38 #[.val (.ref rb), .val (.int (Int32.ofNat (2 * k + 1)))] [(.int (own_lo ch))])) _
      refine XS.sipush X27.here hx rfl (hb hby d21_38) ?_
      show Steps p.tables e below (T27.setTop (mkF m 41 #[.val (.ref rb), .val (.int (Int32.ofNat (2 * k + 1)))] [(.int (255 : Int32)), (.int (own_lo ch))])) _
      refine XS.iand X27.here hx rfl (hb hby d21_41) rfl ?_
      show Steps p.tables e below (T27.setTop (mkF m 42 #[.val (.ref rb), .val (.int (Int32.ofNat (2 * k + 1)))] [(.int ((own_lo ch) &&& (255 : Int32)))])) _
      exact h)
  obtain ⟨T31, X31, e31, st31⟩ := getS2 X27 hx hZ hown (host := "") (Or.inl (hw _ (List.mem_of_getElem? (i := 87) rfl))) Via.refl e27 (SHi.ext O0.2) (g := (mkF m 42 #[.val (.ref rb), .val (.int (Int32.ofNat (2 * k + 1)))] [(.int ((own_lo ch) &&& (255 : Int32)))])) rfl (hb hby d21_42)
  have k33 : Rch p e below S0 T31 (mkF m 45 #[.val (.ref rb), .val (.int (Int32.ofNat (2 * k + 1)))] [(.int (0 : Int32)), (.int ((own_lo ch) &&& (255 : Int32)))]) := fun t h => k32 t (st31 t h)
  have k35 : Rch p e below S0 T31 (mkF m 48 #[.val (.ref rb), .val (.int (Int32.ofNat (2 * k + 1)))] [(.int (Int32.ofNat (2 * k + 1))), (.ref rb), (.int (((own_lo ch) &&& (255 : Int32)) <<< ((0 : Int32) &&& 31)))]) := fun t h => k33 t (by
      show Steps p.tables e below (T31.setTop (mkF m 45 #[.val (.ref rb), .val (.int (Int32.ofNat (2 * k + 1)))] [(.int (0 : Int32)), (.int ((own_lo ch) &&& (255 : Int32)))])) _
      refine XS.ishl X31.here hx rfl (hb hby d21_45) rfl ?_
      show Steps p.tables e below (T31.setTop (mkF m 46 #[.val (.ref rb), .val (.int (Int32.ofNat (2 * k + 1)))] [(.int (((own_lo ch) &&& (255 : Int32)) <<< ((0 : Int32) &&& 31)))])) _
      refine XS.aloadN X31.here hx rfl (hb hby d21_46) rfl rfl ?_
      show Steps p.tables e below (T31.setTop (mkF m 47 #[.val (.ref rb), .val (.int (Int32.ofNat (2 * k + 1)))] [(.ref rb), (.int (((own_lo ch) &&& (255 : Int32)) <<< ((0 : Int32) &&& 31)))])) _
      refine XS.iloadN X31.here hx rfl (hb hby d21_47) rfl ?_
      show Steps p.tables e below (T31.setTop (mkF m 48 #[.val (.ref rb), .val (.int (Int32.ofNat (2 * k + 1)))] [(.int (Int32.ofNat (2 * k + 1))), (.ref rb), (.int (((own_lo ch) &&& (255 : Int32)) <<< ((0 : Int32) &&& 31)))])) _
      exact h)
  obtain ⟨cl34, Ar34, q34, Sz34, Ng34, Hs34, G34⟩ := id Vb
  have hin34 : ¬ ((Int32.ofNat (2 * k + 1)) < 0 ∨ cl34.slots.size ≤ ((Int32.ofNat (2 * k + 1))).toNatClampNeg) := inb_of Sz34 (own_inb (by omega) (by omega))
  have hat34 : cl34.slots[((Int32.ofNat (2 * k + 1))).toNatClampNeg]? = some (.int (own_hi ch)) := Hs34.at hin34 (by rw [(own_tn (by omega)).1]; exact u1)
  have k37 : Rch p e below S0 T31 (mkF m 53 #[.val (.ref rb), .val (.int (Int32.ofNat (2 * k + 1)))] [(.int ((own_hi ch) &&& (255 : Int32))), (.int (((own_lo ch) &&& (255 : Int32)) <<< ((0 : Int32) &&& 31)))]) := fun t h => k35 t (by
      show Steps p.tables e below (T31.setTop (mkF m 48 #[.val (.ref rb), .val (.int (Int32.ofNat (2 * k + 1)))] [(.int (Int32.ofNat (2 * k + 1))), (.ref rb), (.int (((own_lo ch) &&& (255 : Int32)) <<< ((0 : Int32) &&& 31)))])) _
      refine X31.baloadBytes hx (j := (Int32.ofNat (2 * k + 1))) (v := (.int (own_hi ch))) (by rw [e31]; exact Ar34.1) (State.isArrayOf_alike hZ.alike Ar34.2.1) Ar34.2.2 hin34 hat34 (g := (mkF m 48 #[.val (.ref rb), .val (.int (Int32.ofNat (2 * k + 1)))] [(.int (Int32.ofNat (2 * k + 1))), (.ref rb), (.int (((own_lo ch) &&& (255 : Int32)) <<< ((0 : Int32) &&& 31)))])) rfl rfl (hb hby d21_48) _ ?_
      show Steps p.tables e below (T31.setTop (mkF m 49 #[.val (.ref rb), .val (.int (Int32.ofNat (2 * k + 1)))] [(.int (own_hi ch)), (.int (((own_lo ch) &&& (255 : Int32)) <<< ((0 : Int32) &&& 31)))])) _
      refine XS.sipush X31.here hx rfl (hb hby d21_49) ?_
      show Steps p.tables e below (T31.setTop (mkF m 52 #[.val (.ref rb), .val (.int (Int32.ofNat (2 * k + 1)))] [(.int (255 : Int32)), (.int (own_hi ch)), (.int (((own_lo ch) &&& (255 : Int32)) <<< ((0 : Int32) &&& 31)))])) _
      refine XS.iand X31.here hx rfl (hb hby d21_52) rfl ?_
      show Steps p.tables e below (T31.setTop (mkF m 53 #[.val (.ref rb), .val (.int (Int32.ofNat (2 * k + 1)))] [(.int ((own_hi ch) &&& (255 : Int32))), (.int (((own_lo ch) &&& (255 : Int32)) <<< ((0 : Int32) &&& 31)))])) _
      exact h)
  obtain ⟨T36, X36, e36, st36⟩ := getS2 X31 hx hZ hown (host := "") (Or.inl (hw _ (List.mem_of_getElem? (i := 88) rfl))) Via.refl e31 (SLo.ext O0.2) (g := (mkF m 53 #[.val (.ref rb), .val (.int (Int32.ofNat (2 * k + 1)))] [(.int ((own_hi ch) &&& (255 : Int32))), (.int (((own_lo ch) &&& (255 : Int32)) <<< ((0 : Int32) &&& 31)))])) rfl (hb hby d21_53)
  have k38 : Rch p e below S0 T36 (mkF m 56 #[.val (.ref rb), .val (.int (Int32.ofNat (2 * k + 1)))] [(.int (8 : Int32)), (.int ((own_hi ch) &&& (255 : Int32))), (.int (((own_lo ch) &&& (255 : Int32)) <<< ((0 : Int32) &&& 31)))]) := fun t h => k37 t (st36 t h)
  have k39 : Rch p e below S0 T36 (mkF m 59 #[.val (.ref rb), .val (.int (Int32.ofNat (2 * k + 1)))] [(.int ch)]) := fun t h => k38 t (by
      show Steps p.tables e below (T36.setTop (mkF m 56 #[.val (.ref rb), .val (.int (Int32.ofNat (2 * k + 1)))] [(.int (8 : Int32)), (.int ((own_hi ch) &&& (255 : Int32))), (.int (((own_lo ch) &&& (255 : Int32)) <<< ((0 : Int32) &&& 31)))])) _
      refine XS.ishl X36.here hx rfl (hb hby d21_56) rfl ?_
      show Steps p.tables e below (T36.setTop (mkF m 57 #[.val (.ref rb), .val (.int (Int32.ofNat (2 * k + 1)))] [(.int (((own_hi ch) &&& (255 : Int32)) <<< ((8 : Int32) &&& 31))), (.int (((own_lo ch) &&& (255 : Int32)) <<< ((0 : Int32) &&& 31)))])) _
      refine XS.ior X36.here hx rfl (hb hby d21_57) rfl ?_
      show Steps p.tables e below (T36.setTop (mkF m 58 #[.val (.ref rb), .val (.int (Int32.ofNat (2 * k + 1)))] [(.int ((((own_lo ch) &&& (255 : Int32)) <<< ((0 : Int32) &&& 31)) ||| (((own_hi ch) &&& (255 : Int32)) <<< ((8 : Int32) &&& 31))))])) _
      refine XS.i2c X36.here hx rfl (hb hby d21_58) rfl ?_
      rw [own_pair ch hc]
      show Steps p.tables e below (T36.setTop (mkF m 59 #[.val (.ref rb), .val (.int (Int32.ofNat (2 * k + 1)))] [(.int ch)])) _
      exact h)
  obtain ⟨fs, hr, hrun, hended, hW, hsame⟩ := X36.leave (v := (some (.int (nar .char ch)))) (fun h => by rw [Bd.returns] at h; cases h)
  refine ⟨_, _, ?_, hrun, hended, _, _, rfl, ?_, ⟨_, rfl⟩, hW, hsame.mono (by decide) (by decide)⟩
  · rw [← hS0]
    refine k39 _ ?_
    show Steps p.tables e below (T36.setTop (mkF m 59 #[.val (.ref rb), .val (.int (Int32.ofNat (2 * k + 1)))] [(.int ch)])) _
    exact retN X36 hx (t := .char) Bd.returns (by simp) (hb hby d21_59) hr
  · show Q_rmGC Z ch h0 n0 _ T36.heap _
    rw [e36]
    exact ⟨by rw [(own_narc ch hc).1], N0, rfl⟩
def Q_rmTO (Z : State) (n : Nat) (cs : List Int32) (h0 : Heap) (n0 : Nat) (v : Option Value) (h : Heap) (L : List Loc) : Prop := ∃ x kx vs, v = some (.ref x) ∧ Fr n0 L ∧ Ext h0 h ∧ h0.size ≤ x ∧ vs.length = 2 * n ∧ (∀ q, q < n → vs.getD (2 * q) (.int (0 : Int32)) = .int (own_lo (cs.getD q 0)) ∧ vs.getD (2 * q + 1) (.int (0 : Int32)) = .int (own_hi (cs.getD q 0))) ∧ Arv Z h x kx .byte (Int32.ofNat (2 * n)) vs (.int (0 : Int32))
theorem ef_17 (m : MethodId) (x0 : Addr) (x1 : Int32) (x2 : Int32) : entryFrame m #[(.ref x0), (.int x1), (.int x2)] 5 = mkF m 0 #[.val (.ref x0), .val (.int x1), .val (.int x2), .unset, .unset] [] := by first | (simp [entryFrame, mkF, argsToLocals, Value.category]; done) | rfl
theorem d17_0 : decode jdk_52_method_14_code 0 = .ok (.iload_n 2, 1) := by decide +kernel
theorem pd_16 : parseMethodDescriptor "(I)[B" = some ⟨[.int], some (.array .byte)⟩ := by decide +kernel
theorem d17_1 : decode jdk_52_method_14_code 1 = .ok (.invokestatic 107, 3) := by decide +kernel
theorem d17_4 : decode jdk_52_method_14_code 4 = .ok (.astore_n 3, 1) := by decide +kernel
theorem d17_5 : decode jdk_52_method_14_code 5 = .ok (.iconst 0, 1) := by decide +kernel
theorem d17_6 : decode jdk_52_method_14_code 6 = .ok (.istore 4, 2) := by decide +kernel
theorem d17_8 : decode jdk_52_method_14_code 8 = .ok (.iload 4, 2) := by decide +kernel
theorem d17_10 : decode jdk_52_method_14_code 10 = .ok (.iload_n 2, 1) := by decide +kernel
theorem d17_11 : decode jdk_52_method_14_code 11 = .ok (.if_icmp .ge 21, 3) := by decide +kernel
theorem d17_14 : decode jdk_52_method_14_code 14 = .ok (.aload_n 3, 1) := by decide +kernel
theorem d17_15 : decode jdk_52_method_14_code 15 = .ok (.iload 4, 2) := by decide +kernel
theorem d17_17 : decode jdk_52_method_14_code 17 = .ok (.aload_n 0, 1) := by decide +kernel
theorem d17_18 : decode jdk_52_method_14_code 18 = .ok (.iload_n 1, 1) := by decide +kernel
theorem d17_19 : decode jdk_52_method_14_code 19 = .ok (.caload, 1) := by decide +kernel
theorem pd_18 : parseMethodDescriptor "([BII)V" = some ⟨[(.array .byte), .int, .int], none⟩ := by decide +kernel
theorem d17_20 : decode jdk_52_method_14_code 20 = .ok (.invokestatic 111, 3) := by decide +kernel
theorem d17_23 : decode jdk_52_method_14_code 23 = .ok (.iinc 1 1, 3) := by decide +kernel
theorem d17_26 : decode jdk_52_method_14_code 26 = .ok (.iinc 4 1, 3) := by decide +kernel
theorem d17_29 : decode jdk_52_method_14_code 29 = .ok (.goto (-21), 3) := by decide +kernel
theorem own_step {n i : Nat} {cs : List Int32} {vs : List Value} (hv : vs.length = 2 * n ∧ (∀ q, q < i → vs.getD (2 * q) (.int (0 : Int32)) = .int (own_lo (cs.getD q 0)) ∧ vs.getD (2 * q + 1) (.int (0 : Int32)) = .int (own_hi (cs.getD q 0)))) (hi : i < n) :
    ((vs.set (2 * i) (.int (own_lo (cs.getD i 0)))).set (2 * i + 1) (.int (own_hi (cs.getD i 0)))).length = 2 * n ∧ (∀ q, q < i + 1 → ((vs.set (2 * i) (.int (own_lo (cs.getD i 0)))).set (2 * i + 1) (.int (own_hi (cs.getD i 0)))).getD (2 * q) (.int (0 : Int32)) = .int (own_lo (cs.getD q 0)) ∧ ((vs.set (2 * i) (.int (own_lo (cs.getD i 0)))).set (2 * i + 1) (.int (own_hi (cs.getD i 0)))).getD (2 * q + 1) (.int (0 : Int32)) = .int (own_hi (cs.getD q 0))) := by
  obtain ⟨hl, h⟩ := hv
  refine ⟨by simp [hl], fun q hq => ?_⟩
  have g : ∀ (l : List Value) (a b : Nat) (x d : Value), (l.set a x).getD b d = if a = b ∧ b < l.length then x else l.getD b d := fun l a b x d => by
    simp only [List.getD_eq_getElem?_getD, List.getElem?_set]
    by_cases e : a = b
    · subst e
      by_cases f : a < l.length
      · simp [f]
      · simp [f]
    · simp [e]
  rw [g, g, g, g]
  simp only [List.length_set, hl]
  by_cases e : q = i
  · subst e
    rw [if_neg (by omega), if_pos (by omega), if_pos (by omega)]
    exact ⟨rfl, rfl⟩
  · rw [if_neg (by omega), if_neg (by omega), if_neg (by omega), if_neg (by omega)]
    exact h q (by omega)
theorem d17_32 : decode jdk_52_method_14_code 32 = .ok (.aload_n 3, 1) := by decide +kernel
theorem d17_33 : decode jdk_52_method_14_code 33 = .ok (.areturn, 1) := by decide +kernel
set_option maxRecDepth 65536 in
set_option maxHeartbeats 40000000 in
theorem rmTO (l : Launch) (Z : State) (a0 : Array Value) (hw : ∀ d ∈ tables_1, d.before a0 Z = true) (ws : List Jvm.Cond) (ra : Addr) (ka : ClassId) (n : Nat) (cs : List Int32) (h0 : Heap) (n0 : Nat) (O0 : Old Z n0 h0) (SAs : Sta Z Z.heap "java/lang/StringUTF16" "$assertionsDisabled" "Z" (.int (1 : Int32))) (SHi : Sta Z Z.heap "java/lang/StringUTF16" "HI_BYTE_SHIFT" "I" (.int (0 : Int32))) (SLo : Sta Z Z.heap "java/lang/StringUTF16" "LO_BYTE_SHIFT" "I" (.int (8 : Int32))) (hn : n ≤ 4) (hl : cs.length = n) (Va : Arv Z h0 ra ka .char (Int32.ofNat n) (cs.map Value.int) (.int (0 : Int32))) :
    MetFree l (⟨"java/lang/StringUTF16", "toBytes", "([CII)[B"⟩ : MethodName) (head1 (Jvm.Cond.code (⟨"java/lang/StringUTF16", "toBytes", "([CII)[B"⟩ : MethodName) jdk_52_method_14_code 5 (some (.array .byte)) :: ws) ({ frames := 2, cells := 1, slots := 8, locals := 60 } : Room)) (fun a U => a = #[(.ref ra), (.int (0 : Int32)), (.int (Int32.ofNat n))] ∧ Z.Warmed39 U.vm ∧ U.heap = h0) (fun _ _ _ _ _ => True) (fun _ U o U' => ∃ v L, o = .returned v ∧ Q_rmTO Z n cs h0 n0 v U'.heap L ∧ FrameEnd U o U' L ({ frames := 2, cells := 1, slots := 8, locals := 60 } : Room).cells ({ frames := 2, cells := 1, slots := 8, locals := 60 } : Room).slots) := by
  refine MetFree.of_bodySF (plainFor_of_name pn_StringUTF16) hisR ?_
  intro p e s m args below meth c s₁ Bd hml0 hP hK
  obtain ⟨rfl, hZ, hh⟩ := hP
  have hx := Bd.exec
  have hby := Bd.bytes
  have hml : c.maxLocals = 5 := hml0
  have hown : s.vm.findClass "java/lang/StringUTF16" = some m.cls := findClass_of_methodNamed Bd.named
  have hnm := (name_of_methodNamed Bd.named Bd.method).1
  have X0 : Stand p l e ({ frames := 2, cells := 1, slots := 8, locals := 60 } : Room) s m #[(.ref ra), (.int (0 : Int32)), (.int (Int32.ofNat n))] below meth c s₁ [] 0 0 := Stand.of_body Bd
  have e0 : s₁.heap = h0 := by rw [← hh, Bd.state]; rfl
  have N0 := Fr.nil n0
  obtain ⟨S0, hS0⟩ : ∃ z, z = s₁.setTop (entryFrame m #[(.ref ra), (.int (0 : Int32)), (.int (Int32.ofNat n))] 5) := ⟨_, rfl⟩
  have k0 : Rch p e below S0 s₁ (mkF m 0 #[.val (.ref ra), .val (.int (0 : Int32)), .val (.int (Int32.ofNat n)), .unset, .unset] []) := fun t kq => hS0 ▸ castTop (ef_17 m ra (0 : Int32) (Int32.ofNat n)) kq
  have K0 : Keep h0 h0 [] := Keep.refl h0 _
  have k40 : Rch p e below S0 s₁ (mkF m 1 #[.val (.ref ra), .val (.int (0 : Int32)), .val (.int (Int32.ofNat n)), .unset, .unset] [(.int (Int32.ofNat n))]) := fun t h => k0 t (by
      show Steps p.tables e below (s₁.setTop (mkF m 0 #[.val (.ref ra), .val (.int (0 : Int32)), .val (.int (Int32.ofNat n)), .unset, .unset] [])) _
      refine XS.iloadN X0.here hx rfl (hb hby d17_0) rfl ?_
      show Steps p.tables e below (s₁.setTop (mkF m 1 #[.val (.ref ra), .val (.int (0 : Int32)), .val (.int (Int32.ofNat n)), .unset, .unset] [(.int (Int32.ofNat n))])) _
      exact h)
  obtain ⟨_, _, ⟨T41, L41, kk41, n41⟩, -, X41, ⟨Lc41, hQ41, l41, y41, z41⟩, st41⟩ := Jvm.LawKit.callS X0 hx (y := (⟨"java/lang/StringUTF16", "newBytesFor", "(I)[B"⟩ : MethodName)) hown (mvT hZ (hw _ (List.mem_of_getElem? (i := 76) rfl))) (mvT hZ (hw _ (List.mem_of_getElem? (i := 77) rfl))) (mvT hZ (hw _ (List.mem_of_getElem? (i := 22) rfl))) (mvT hZ (hw _ (List.mem_of_getElem? (i := 78) rfl))) (by decide) (backOf (W := 0) (rmNF l Z a0 hw [] n  h0 n0 O0 hn) hZ (hw _ (List.mem_of_getElem? (i := 78) rfl)) (hw _ (List.mem_of_getElem? (i := 22) rfl)) (by decide) (by decide)) (g := (mkF m 1 #[.val (.ref ra), .val (.int (0 : Int32)), .val (.int (Int32.ofNat n)), .unset, .unset] [(.int (Int32.ofNat n))])) rfl (by rw [hml]; rfl) (argsL := [(.int (Int32.ofNat n))]) (rest := []) (lenOf pd_16 rfl) rfl (by show 2 * 0 + _ ≤ _; exact Nat.le_of_eq rfl) (hb hby d17_1) (fun _ _ => ⟨rfl, e0, (by decide : 0 + 1 ≤ _), (by decide : 0 + 8 ≤ _)⟩)
  dsimp only [Pt.U, Pt.locs, Pt.cells, Pt.slots] at X41 l41 y41 z41 st41 hQ41
  subst l41 y41 z41
  obtain ⟨b41, kb41, rfl, Nq41, E41, z41, V41⟩ := hQ41
  have N41 := Fr.app N0 Nq41
  have k42 : Rch p e below S0 T41 (mkF m 4 #[.val (.ref ra), .val (.int (0 : Int32)), .val (.int (Int32.ofNat n)), .unset, .unset] [(.ref b41)]) := fun t h => k40 t (st41 t h)
  have ne_ra_b41 : ra ≠ b41 := own_ne Va.lt z41
  have ge_b41 : n0 ≤ b41 := own_ge O0 z41
  have sz_b41 : h0.size ≤ b41 := Nat.le_trans K0.1 z41
  have O43 := O0.ext E41
  have K44 := K0.ext E41
  replace Va := Va.ext E41
  have k45 : Rch p e below S0 T41 (mkF m 8 #[.val (.ref ra), .val (.int (0 : Int32)), .val (.int (Int32.ofNat n)), .val (.ref b41), .val (.int (0 : Int32))] []) := fun t h => k42 t (by
      show Steps p.tables e below (T41.setTop (mkF m 4 #[.val (.ref ra), .val (.int (0 : Int32)), .val (.int (Int32.ofNat n)), .unset, .unset] [(.ref b41)])) _
      refine XS.astoreN X41.here hx rfl (hb hby d17_4) rfl rfl (l' := #[.val (.ref ra), .val (.int (0 : Int32)), .val (.int (Int32.ofNat n)), .val (.ref b41), .unset]) rfl ?_
      show Steps p.tables e below (T41.setTop (mkF m 5 #[.val (.ref ra), .val (.int (0 : Int32)), .val (.int (Int32.ofNat n)), .val (.ref b41), .unset] [])) _
      refine XS.iconst X41.here hx rfl (hb hby d17_5) ?_
      show Steps p.tables e below (T41.setTop (mkF m 6 #[.val (.ref ra), .val (.int (0 : Int32)), .val (.int (Int32.ofNat n)), .val (.ref b41), .unset] [(.int (0 : Int32))])) _
      refine XS.istore X41.here hx rfl (hb hby d17_6) rfl (l' := #[.val (.ref ra), .val (.int (0 : Int32)), .val (.int (Int32.ofNat n)), .val (.ref b41), .val (.int (0 : Int32))]) rfl ?_
      show Steps p.tables e below (T41.setTop (mkF m 8 #[.val (.ref ra), .val (.int (0 : Int32)), .val (.int (Int32.ofNat n)), .val (.ref b41), .val (.int (0 : Int32))] [])) _
      exact h)
  have hz : (0 : Int32) = Int32.ofNat 0 := rfl
  replace V41 : Arv Z T41.heap b41 kb41 .byte (Int32.ofNat (2 * n)) (List.replicate (2 * n) (.int (0 : Int32))) (.int (0 : Int32)) := by
    have q := V41.pad (pad_rep [] (.int (0 : Int32)) (2 * n))
    rwa [List.nil_append] at q
  have loop : ∀ (j i : Nat), i + j = n → ∀ (T : State) (h1 : Heap) (lo : List Loc) (vs : List Value), Stand p l e ({ frames := 2, cells := 1, slots := 8, locals := 60 } : Room) s m #[(.ref ra), (.int (0 : Int32)), (.int (Int32.ofNat n))] below meth c T lo 1 8 → T.heap = h1 → Fr n0 lo → Old Z n0 h1 → Keep h0 h1 [] → (vs.length = 2 * n ∧ (∀ q, q < i → vs.getD (2 * q) (.int (0 : Int32)) = .int (own_lo (cs.getD q 0)) ∧ vs.getD (2 * q + 1) (.int (0 : Int32)) = .int (own_hi (cs.getD q 0)))) → Arv Z h1 b41 kb41 .byte (Int32.ofNat (2 * n)) vs (.int (0 : Int32)) → Arv Z h1 ra ka .char (Int32.ofNat n) (cs.map Value.int) (.int (0 : Int32)) → Rch p e below S0 T (mkF m 8 #[.val (.ref ra), .val (.int (Int32.ofNat i)), .val (.int (Int32.ofNat n)), .val (.ref b41), .val (.int (Int32.ofNat i))] []) →
      ∃ (T2 : State) (h2 : Heap) (lo2 : List Loc) (vs2 : List Value), Stand p l e ({ frames := 2, cells := 1, slots := 8, locals := 60 } : Room) s m #[(.ref ra), (.int (0 : Int32)), (.int (Int32.ofNat n))] below meth c T2 lo2 1 8 ∧ T2.heap = h2 ∧ Fr n0 lo2 ∧ Keep h0 h2 [] ∧ (vs2.length = 2 * n ∧ (∀ q, q < n → vs2.getD (2 * q) (.int (0 : Int32)) = .int (own_lo (cs.getD q 0)) ∧ vs2.getD (2 * q + 1) (.int (0 : Int32)) = .int (own_hi (cs.getD q 0)))) ∧ Arv Z h2 b41 kb41 .byte (Int32.ofNat (2 * n)) vs2 (.int (0 : Int32)) ∧ Rch p e below S0 T2 (mkF m 32 #[.val (.ref ra), .val (.int (Int32.ofNat n)), .val (.int (Int32.ofNat n)), .val (.ref b41), .val (.int (Int32.ofNat n))] []) := by
    intro j
    induction j with
    | zero =>
      intro i hi T h1 lo vs X eT NN OO KK hv Vd1 Va1 kk
      obtain rfl : i = n := by omega
      have k46 : Rch p e below S0 T (mkF m 32 #[.val (.ref ra), .val (.int (Int32.ofNat i)), .val (.int (Int32.ofNat i)), .val (.ref b41), .val (.int (Int32.ofNat i))] []) := fun t h => kk t (by
          show Steps p.tables e below (T.setTop (mkF m 8 #[.val (.ref ra), .val (.int (Int32.ofNat i)), .val (.int (Int32.ofNat i)), .val (.ref b41), .val (.int (Int32.ofNat i))] [])) _
          refine XS.iload X.here hx rfl (hb hby d17_8) rfl ?_
          show Steps p.tables e below (T.setTop (mkF m 10 #[.val (.ref ra), .val (.int (Int32.ofNat i)), .val (.int (Int32.ofNat i)), .val (.ref b41), .val (.int (Int32.ofNat i))] [(.int (Int32.ofNat i))])) _
          refine XS.iloadN X.here hx rfl (hb hby d17_10) rfl ?_
          show Steps p.tables e below (T.setTop (mkF m 11 #[.val (.ref ra), .val (.int (Int32.ofNat i)), .val (.int (Int32.ofNat i)), .val (.ref b41), .val (.int (Int32.ofNat i))] [(.int (Int32.ofNat i)), (.int (Int32.ofNat i))])) _
          refine XS.icmpYes X.here hx rfl (pc0 := 11) (pc' := 32) rfl (hb hby d17_11) rfl (flt ((fun q => Nat.lt_irrefl _ ((own_olt (by omega) (by omega)).mp q)) : ¬ ((Int32.ofNat i) < (Int32.ofNat i)))).2.1 (by decide) (by decide) ?_
          show Steps p.tables e below (T.setTop (mkF m 32 #[.val (.ref ra), .val (.int (Int32.ofNat i)), .val (.int (Int32.ofNat i)), .val (.ref b41), .val (.int (Int32.ofNat i))] [])) _
          exact h)
      exact ⟨_, _, _, _, X, eT, NN, KK, hv, Vd1, k46⟩
    | succ j ih =>
      intro i hi T h1 lo vs X eT NN OO KK hv Vd1 Va1 kk
      have k48 : Rch p e below S0 T (mkF m 19 #[.val (.ref ra), .val (.int (Int32.ofNat i)), .val (.int (Int32.ofNat n)), .val (.ref b41), .val (.int (Int32.ofNat i))] [(.int (Int32.ofNat i)), (.ref ra), (.int (Int32.ofNat i)), (.ref b41)]) := fun t h => kk t (by
          show Steps p.tables e below (T.setTop (mkF m 8 #[.val (.ref ra), .val (.int (Int32.ofNat i)), .val (.int (Int32.ofNat n)), .val (.ref b41), .val (.int (Int32.ofNat i))] [])) _
          refine XS.iload X.here hx rfl (hb hby d17_8) rfl ?_
          show Steps p.tables e below (T.setTop (mkF m 10 #[.val (.ref ra), .val (.int (Int32.ofNat i)), .val (.int (Int32.ofNat n)), .val (.ref b41), .val (.int (Int32.ofNat i))] [(.int (Int32.ofNat i))])) _
          refine XS.iloadN X.here hx rfl (hb hby d17_10) rfl ?_
          show Steps p.tables e below (T.setTop (mkF m 11 #[.val (.ref ra), .val (.int (Int32.ofNat i)), .val (.int (Int32.ofNat n)), .val (.ref b41), .val (.int (Int32.ofNat i))] [(.int (Int32.ofNat n)), (.int (Int32.ofNat i))])) _
          refine XS.icmpNo X.here hx rfl (hb hby d17_11) rfl (tlt (((own_olt (by omega) (by omega)).mpr (by omega)) : (Int32.ofNat i) < (Int32.ofNat n))).2.1 ?_
          show Steps p.tables e below (T.setTop (mkF m 14 #[.val (.ref ra), .val (.int (Int32.ofNat i)), .val (.int (Int32.ofNat n)), .val (.ref b41), .val (.int (Int32.ofNat i))] [])) _
          refine XS.aloadN X.here hx rfl (hb hby d17_14) rfl rfl ?_
          show Steps p.tables e below (T.setTop (mkF m 15 #[.val (.ref ra), .val (.int (Int32.ofNat i)), .val (.int (Int32.ofNat n)), .val (.ref b41), .val (.int (Int32.ofNat i))] [(.ref b41)])) _
          refine XS.iload X.here hx rfl (hb hby d17_15) rfl ?_
          show Steps p.tables e below (T.setTop (mkF m 17 #[.val (.ref ra), .val (.int (Int32.ofNat i)), .val (.int (Int32.ofNat n)), .val (.ref b41), .val (.int (Int32.ofNat i))] [(.int (Int32.ofNat i)), (.ref b41)])) _
          refine XS.aloadN X.here hx rfl (hb hby d17_17) rfl rfl ?_
          show Steps p.tables e below (T.setTop (mkF m 18 #[.val (.ref ra), .val (.int (Int32.ofNat i)), .val (.int (Int32.ofNat n)), .val (.ref b41), .val (.int (Int32.ofNat i))] [(.ref ra), (.int (Int32.ofNat i)), (.ref b41)])) _
          refine XS.iloadN X.here hx rfl (hb hby d17_18) rfl ?_
          show Steps p.tables e below (T.setTop (mkF m 19 #[.val (.ref ra), .val (.int (Int32.ofNat i)), .val (.int (Int32.ofNat n)), .val (.ref b41), .val (.int (Int32.ofNat i))] [(.int (Int32.ofNat i)), (.ref ra), (.int (Int32.ofNat i)), (.ref b41)])) _
          exact h)
      obtain ⟨cl47, Ar47, q47, Sz47, Ng47, Hs47, G47⟩ := id Va1
      have hin47 : ¬ ((Int32.ofNat i) < 0 ∨ cl47.slots.size ≤ ((Int32.ofNat i)).toNatClampNeg) := inb_of Sz47 (own_inb (by omega) (by omega))
      have hat47 : cl47.slots[((Int32.ofNat i)).toNatClampNeg]? = some (.int (cs.getD i 0)) := Hs47.at hin47 (by rw [(own_tn (by omega)).1]; exact own_at cs i 0)
      have k49 : Rch p e below S0 T (mkF m 20 #[.val (.ref ra), .val (.int (Int32.ofNat i)), .val (.int (Int32.ofNat n)), .val (.ref b41), .val (.int (Int32.ofNat i))] [(.int (cs.getD i 0)), (.int (Int32.ofNat i)), (.ref b41)]) := fun t h => k48 t (by
          show Steps p.tables e below (T.setTop (mkF m 19 #[.val (.ref ra), .val (.int (Int32.ofNat i)), .val (.int (Int32.ofNat n)), .val (.ref b41), .val (.int (Int32.ofNat i))] [(.int (Int32.ofNat i)), (.ref ra), (.int (Int32.ofNat i)), (.ref b41)])) _
          refine X.caload hx (j := (Int32.ofNat i)) (v := (.int (cs.getD i 0))) (by rw [eT]; exact Ar47.1) (State.isArrayOf_alike hZ.alike Ar47.2.1) Ar47.2.2 hin47 hat47 (g := (mkF m 19 #[.val (.ref ra), .val (.int (Int32.ofNat i)), .val (.int (Int32.ofNat n)), .val (.ref b41), .val (.int (Int32.ofNat i))] [(.int (Int32.ofNat i)), (.ref ra), (.int (Int32.ofNat i)), (.ref b41)])) rfl rfl (hb hby d17_19) _ ?_
          show Steps p.tables e below (T.setTop (mkF m 20 #[.val (.ref ra), .val (.int (Int32.ofNat i)), .val (.int (Int32.ofNat n)), .val (.ref b41), .val (.int (Int32.ofNat i))] [(.int (cs.getD i 0)), (.int (Int32.ofNat i)), (.ref b41)])) _
          exact h)
      obtain ⟨_, _, ⟨T50, L50, kk50, n50⟩, -, X50, ⟨Lc50, hQ50, l50, y50, z50⟩, st50⟩ := Jvm.LawKit.callS X hx (y := (⟨"java/lang/StringUTF16", "putChar", "([BII)V"⟩ : MethodName)) hown (mvT hZ (hw _ (List.mem_of_getElem? (i := 83) rfl))) (mvT hZ (hw _ (List.mem_of_getElem? (i := 84) rfl))) (mvT hZ (hw _ (List.mem_of_getElem? (i := 22) rfl))) (mvT hZ (hw _ (List.mem_of_getElem? (i := 85) rfl))) (by decide) (backOf (W := 0) (rmPC l Z a0 hw [] b41 i (cs.getD i 0) kb41 n vs h1 n0 OO SAs SHi SLo ge_b41 hn (by omega) hv.1 Vd1) hZ (hw _ (List.mem_of_getElem? (i := 85) rfl)) (hw _ (List.mem_of_getElem? (i := 22) rfl)) (by decide) (by decide)) (g := (mkF m 20 #[.val (.ref ra), .val (.int (Int32.ofNat i)), .val (.int (Int32.ofNat n)), .val (.ref b41), .val (.int (Int32.ofNat i))] [(.int (cs.getD i 0)), (.int (Int32.ofNat i)), (.ref b41)])) rfl (by rw [hml]; rfl) (argsL := [(.ref b41), (.int (Int32.ofNat i)), (.int (cs.getD i 0))]) (rest := []) (lenOf pd_18 rfl) rfl (by show 2 * 0 + _ ≤ _; exact Nat.le_of_eq rfl) (hb hby d17_20) (fun _ _ => ⟨rfl, eT, (by decide : 1 + 0 ≤ _), (by decide : 8 + 0 ≤ _)⟩)
      dsimp only [Pt.U, Pt.locs, Pt.cells, Pt.slots] at X50 l50 y50 z50 st50 hQ50
      subst l50 y50 z50
      obtain ⟨rfl, Nq50, K50, Vn50⟩ := hQ50
      have N50 := Fr.app NN Nq50
      have k51 : Rch p e below S0 T50 (mkF m 23 #[.val (.ref ra), .val (.int (Int32.ofNat i)), .val (.int (Int32.ofNat n)), .val (.ref b41), .val (.int (Int32.ofNat i))] []) := fun t h => k49 t (st50 t h)
      have O52 := OO.keep K50 (allS ge_b41 all0)
      have K53 := KK.trans K50 (allS (Or.inr sz_b41) all0)
      replace Va1 := Va1.keep K50 (ninS ne_ra_b41 nin0)
      have k54 : Rch p e below S0 T50 (mkF m 8 #[.val (.ref ra), .val (.int (Int32.ofNat (i + 1))), .val (.int (Int32.ofNat n)), .val (.ref b41), .val (.int (Int32.ofNat (i + 1)))] []) := fun t h => k51 t (by
          show Steps p.tables e below (T50.setTop (mkF m 23 #[.val (.ref ra), .val (.int (Int32.ofNat i)), .val (.int (Int32.ofNat n)), .val (.ref b41), .val (.int (Int32.ofNat i))] [])) _
          refine XS.iinc X50.here hx rfl (hb hby d17_23) rfl (l' := #[.val (.ref ra), .val (.int ((Int32.ofNat i) + (1 : Int32))), .val (.int (Int32.ofNat n)), .val (.ref b41), .val (.int (Int32.ofNat i))]) rfl ?_
          rw [own_inc (i := i) (by omega)]
          show Steps p.tables e below (T50.setTop (mkF m 26 #[.val (.ref ra), .val (.int (Int32.ofNat (i + 1))), .val (.int (Int32.ofNat n)), .val (.ref b41), .val (.int (Int32.ofNat i))] [])) _
          refine XS.iinc X50.here hx rfl (hb hby d17_26) rfl (l' := #[.val (.ref ra), .val (.int (Int32.ofNat (i + 1))), .val (.int (Int32.ofNat n)), .val (.ref b41), .val (.int ((Int32.ofNat i) + (1 : Int32)))]) rfl ?_
          rw [own_inc (i := i) (by omega)]
          show Steps p.tables e below (T50.setTop (mkF m 29 #[.val (.ref ra), .val (.int (Int32.ofNat (i + 1))), .val (.int (Int32.ofNat n)), .val (.ref b41), .val (.int (Int32.ofNat (i + 1)))] [])) _
          refine XS.goto X50.here hx rfl (pc0 := 29) (pc' := 8) rfl (hb hby d17_29) (by decide) (by decide) ?_
          show Steps p.tables e below (T50.setTop (mkF m 8 #[.val (.ref ra), .val (.int (Int32.ofNat (i + 1))), .val (.int (Int32.ofNat n)), .val (.ref b41), .val (.int (Int32.ofNat (i + 1)))] [])) _
          exact h)
      exact ih (i + 1) (by omega) _ _ _ _ X50 rfl N50 O52 K53 (own_step hv (by omega)) Vn50 Va1 k54
  obtain ⟨TL, hL, loL, vsL, XL, eL, NL, KL, hvL, VL, kL⟩ := loop n 0 (by omega) _ _ _ _ X41 rfl N41 O43 K44 ⟨by simp, fun q hq => absurd hq (Nat.not_lt_zero _)⟩ V41 Va k45
  have k55 : Rch p e below S0 TL (mkF m 33 #[.val (.ref ra), .val (.int (Int32.ofNat n)), .val (.int (Int32.ofNat n)), .val (.ref b41), .val (.int (Int32.ofNat n))] [(.ref b41)]) := fun t h => kL t (by
      show Steps p.tables e below (TL.setTop (mkF m 32 #[.val (.ref ra), .val (.int (Int32.ofNat n)), .val (.int (Int32.ofNat n)), .val (.ref b41), .val (.int (Int32.ofNat n))] [])) _
      refine XS.aloadN XL.here hx rfl (hb hby d17_32) rfl rfl ?_
      show Steps p.tables e below (TL.setTop (mkF m 33 #[.val (.ref ra), .val (.int (Int32.ofNat n)), .val (.int (Int32.ofNat n)), .val (.ref b41), .val (.int (Int32.ofNat n))] [(.ref b41)])) _
      exact h)
  obtain ⟨fs, hr, hrun, hended, hW, hsame⟩ := XL.leave (v := (some (.ref b41))) (fun h => by rw [Bd.returns] at h; cases h)
  refine ⟨_, _, ?_, hrun, hended, _, _, rfl, ?_, ⟨_, rfl⟩, hW, hsame.mono (by decide) (by decide)⟩
  · rw [← hS0]
    refine k55 _ ?_
    show Steps p.tables e below (TL.setTop (mkF m 33 #[.val (.ref ra), .val (.int (Int32.ofNat n)), .val (.int (Int32.ofNat n)), .val (.ref b41), .val (.int (Int32.ofNat n))] [(.ref b41)])) _
    jvm_step XL.here [XL.here.top, hx, (hb hby d17_33), XL.method', Bd.returns, Value.isRef, FieldType.isReference]
    first | (intro acts; rw [hr _ acts rfl rfl rfl]) | rw [hr _ _ rfl rfl rfl]
    exact Steps.refl _
  · show Q_rmTO Z n cs h0 n0 _ TL.heap _
    rw [eL]
    exact ⟨b41, kb41, vsL, rfl, NL, own_ext KL, sz_b41, hvL.1, hvL.2, VL⟩
def Q_rmC5 (Z : State) (rd : Addr) (k : Nat) (h0 : Heap) (n0 : Nat) (v : Option Value) (h : Heap) (L : List Loc) : Prop := v = some (.int (Int32.ofNat k)) ∧ Fr n0 L ∧ Keep h0 h [rd]
theorem ef_6 (m : MethodId) (x0 : Addr) (x1 : Int32) (x2 : Addr) (x3 : Int32) (x4 : Int32) : entryFrame m #[(.ref x0), (.int x1), (.ref x2), (.int x3), (.int x4)] 7 = mkF m 0 #[.val (.ref x0), .val (.int x1), .val (.ref x2), .val (.int x3), .val (.int x4), .unset, .unset] [] := by first | (simp [entryFrame, mkF, argsToLocals, Value.category]; done) | rfl
theorem d6_0 : decode jdk_52_method_21_code 0 = .ok (.iconst 0, 1) := by decide +kernel
theorem d6_1 : decode jdk_52_method_21_code 1 = .ok (.istore 5, 2) := by decide +kernel
theorem d6_3 : decode jdk_52_method_21_code 3 = .ok (.iload 5, 2) := by decide +kernel
theorem d6_5 : decode jdk_52_method_21_code 5 = .ok (.iload 4, 2) := by decide +kernel
theorem d6_7 : decode jdk_52_method_21_code 7 = .ok (.if_icmp .ge 37, 3) := by decide +kernel
theorem d6_10 : decode jdk_52_method_21_code 10 = .ok (.aload_n 0, 1) := by decide +kernel
theorem d6_11 : decode jdk_52_method_21_code 11 = .ok (.iload_n 1, 1) := by decide +kernel
theorem d6_12 : decode jdk_52_method_21_code 12 = .ok (.caload, 1) := by decide +kernel
theorem d6_13 : decode jdk_52_method_21_code 13 = .ok (.istore 6, 2) := by decide +kernel
theorem d6_15 : decode jdk_52_method_21_code 15 = .ok (.iload 6, 2) := by decide +kernel
theorem d6_17 : decode jdk_52_method_21_code 17 = .ok (.sipush 255, 3) := by decide +kernel
theorem d6_20 : decode jdk_52_method_21_code 20 = .ok (.if_icmp .le 6, 3) := by decide +kernel
theorem d6_23 : decode jdk_52_method_21_code 23 = .ok (.iload 5, 2) := by decide +kernel
theorem d6_26 : decode jdk_52_method_21_code 26 = .ok (.aload_n 2, 1) := by decide +kernel
theorem d6_27 : decode jdk_52_method_21_code 27 = .ok (.iload_n 3, 1) := by decide +kernel
theorem d6_28 : decode jdk_52_method_21_code 28 = .ok (.iload 6, 2) := by decide +kernel
theorem d6_30 : decode jdk_52_method_21_code 30 = .ok (.i2b, 1) := by decide +kernel
theorem d6_31 : decode jdk_52_method_21_code 31 = .ok (.bastore, 1) := by decide +kernel
theorem d6_32 : decode jdk_52_method_21_code 32 = .ok (.iinc 1 1, 3) := by decide +kernel
theorem d6_35 : decode jdk_52_method_21_code 35 = .ok (.iinc 3 1, 3) := by decide +kernel
theorem d6_38 : decode jdk_52_method_21_code 38 = .ok (.iinc 5 1, 3) := by decide +kernel
theorem d6_41 : decode jdk_52_method_21_code 41 = .ok (.goto (-38), 3) := by decide +kernel
theorem d6_25 : decode jdk_52_method_21_code 25 = .ok (.ireturn, 1) := by decide +kernel
set_option maxRecDepth 65536 in
set_option maxHeartbeats 40000000 in
theorem rmC5 (l : Launch) (Z : State) (a0 : Array Value) (hw : ∀ d ∈ tables_1, d.before a0 Z = true) (ws : List Jvm.Cond) (ra : Addr) (rd : Addr) (ka : ClassId) (kd : ClassId) (n : Nat) (cs : List Int32) (k : Nat) (h0 : Heap) (n0 : Nat) (O0 : Old Z n0 h0) (ge_rd : n0 ≤ rd) (ne_ra_rd : ra ≠ rd) (hn : n ≤ 4) (hl : cs.length = n) (hk : k < n) (hlow : ∀ i, i < k → ¬ (255 : Int32) < cs.getD i 0) (hhigh : (255 : Int32) < cs.getD k 0) (Va : Arv Z h0 ra ka .char (Int32.ofNat n) (cs.map Value.int) (.int (0 : Int32))) (Vd : Arv Z h0 rd kd .byte (Int32.ofNat n) (List.replicate n (.int (0 : Int32))) (.int (0 : Int32))) :
    MetFree l (⟨"java/lang/StringUTF16", "compress", "([CI[BII)I"⟩ : MethodName) (head1 (Jvm.Cond.code (⟨"java/lang/StringUTF16", "compress", "([CI[BII)I"⟩ : MethodName) jdk_52_method_21_code 7 (some .int) :: ws) ({ frames := 0, cells := 0, slots := 0, locals := 0 } : Room)) (fun a U => a = #[(.ref ra), (.int (0 : Int32)), (.ref rd), (.int (0 : Int32)), (.int (Int32.ofNat n))] ∧ Z.Warmed39 U.vm ∧ U.heap = h0) (fun _ _ _ _ _ => True) (fun _ U o U' => ∃ v L, o = .returned v ∧ Q_rmC5 Z rd k h0 n0 v U'.heap L ∧ FrameEnd U o U' L ({ frames := 0, cells := 0, slots := 0, locals := 0 } : Room).cells ({ frames := 0, cells := 0, slots := 0, locals := 0 } : Room).slots) := by
  refine MetFree.of_bodySF (plainFor_of_name pn_StringUTF16) hisR ?_
  intro p e s m args below meth c s₁ Bd hml0 hP hK
  obtain ⟨rfl, hZ, hh⟩ := hP
  have hx := Bd.exec
  have hby := Bd.bytes
  have hml : c.maxLocals = 7 := hml0
  have hown : s.vm.findClass "java/lang/StringUTF16" = some m.cls := findClass_of_methodNamed Bd.named
  have hnm := (name_of_methodNamed Bd.named Bd.method).1
  have X0 : Stand p l e ({ frames := 0, cells := 0, slots := 0, locals := 0 } : Room) s m #[(.ref ra), (.int (0 : Int32)), (.ref rd), (.int (0 : Int32)), (.int (Int32.ofNat n))] below meth c s₁ [] 0 0 := Stand.of_body Bd
  have e0 : s₁.heap = h0 := by rw [← hh, Bd.state]; rfl
  have N0 := Fr.nil n0
  obtain ⟨S0, hS0⟩ : ∃ z, z = s₁.setTop (entryFrame m #[(.ref ra), (.int (0 : Int32)), (.ref rd), (.int (0 : Int32)), (.int (Int32.ofNat n))] 7) := ⟨_, rfl⟩
  have k0 : Rch p e below S0 s₁ (mkF m 0 #[.val (.ref ra), .val (.int (0 : Int32)), .val (.ref rd), .val (.int (0 : Int32)), .val (.int (Int32.ofNat n)), .unset, .unset] []) := fun t kq => hS0 ▸ castTop (ef_6 m ra (0 : Int32) rd (0 : Int32) (Int32.ofNat n)) kq
  have K0 : Keep h0 h0 [rd] := Keep.refl h0 _
  have k56 : Rch p e below S0 s₁ (mkF m 3 #[.val (.ref ra), .val (.int (0 : Int32)), .val (.ref rd), .val (.int (0 : Int32)), .val (.int (Int32.ofNat n)), .val (.int (0 : Int32)), .unset] []) := fun t h => k0 t (by
      show Steps p.tables e below (s₁.setTop (mkF m 0 #[.val (.ref ra), .val (.int (0 : Int32)), .val (.ref rd), .val (.int (0 : Int32)), .val (.int (Int32.ofNat n)), .unset, .unset] [])) _
      refine XS.iconst X0.here hx rfl (hb hby d6_0) ?_
      show Steps p.tables e below (s₁.setTop (mkF m 1 #[.val (.ref ra), .val (.int (0 : Int32)), .val (.ref rd), .val (.int (0 : Int32)), .val (.int (Int32.ofNat n)), .unset, .unset] [(.int (0 : Int32))])) _
      refine XS.istore X0.here hx rfl (hb hby d6_1) rfl (l' := #[.val (.ref ra), .val (.int (0 : Int32)), .val (.ref rd), .val (.int (0 : Int32)), .val (.int (Int32.ofNat n)), .val (.int (0 : Int32)), .unset]) rfl ?_
      show Steps p.tables e below (s₁.setTop (mkF m 3 #[.val (.ref ra), .val (.int (0 : Int32)), .val (.ref rd), .val (.int (0 : Int32)), .val (.int (Int32.ofNat n)), .val (.int (0 : Int32)), .unset] [])) _
      exact h)
  have loop : ∀ (j i : Nat), i + j = k → ∀ (T : State) (h1 : Heap) (lo : List Loc) (s6 : Slot) (vs : List Value), Stand p l e ({ frames := 0, cells := 0, slots := 0, locals := 0 } : Room) s m #[(.ref ra), (.int (0 : Int32)), (.ref rd), (.int (0 : Int32)), (.int (Int32.ofNat n))] below meth c T lo 0 0 → T.heap = h1 → Fr n0 lo → Old Z n0 h1 → Keep h0 h1 [rd] → One s6 → vs.length = n → Arv Z h1 rd kd .byte (Int32.ofNat n) vs (.int (0 : Int32)) → Arv Z h1 ra ka .char (Int32.ofNat n) (cs.map Value.int) (.int (0 : Int32)) → Rch p e below S0 T (mkF m 3 #[.val (.ref ra), .val (.int (Int32.ofNat i)), .val (.ref rd), .val (.int (Int32.ofNat i)), .val (.int (Int32.ofNat n)), .val (.int (Int32.ofNat i)), s6] []) →
      ∃ (T2 : State) (h2 : Heap) (lo2 : List Loc), Stand p l e ({ frames := 0, cells := 0, slots := 0, locals := 0 } : Room) s m #[(.ref ra), (.int (0 : Int32)), (.ref rd), (.int (0 : Int32)), (.int (Int32.ofNat n))] below meth c T2 lo2 0 0 ∧ T2.heap = h2 ∧ Fr n0 lo2 ∧ Keep h0 h2 [rd] ∧ Rch p e below S0 T2 (mkF m 25 #[.val (.ref ra), .val (.int (Int32.ofNat k)), .val (.ref rd), .val (.int (Int32.ofNat k)), .val (.int (Int32.ofNat n)), .val (.int (Int32.ofNat k)), .val (.int (cs.getD k 0))] [(.int (Int32.ofNat k))]) := by
    intro j
    induction j with
    | zero =>
      intro i hi T h1 lo s6 vs X eT NN OO KK hs6 hvl Vd1 Va1 kk
      obtain rfl : i = k := by omega
      have k58 : Rch p e below S0 T (mkF m 12 #[.val (.ref ra), .val (.int (Int32.ofNat i)), .val (.ref rd), .val (.int (Int32.ofNat i)), .val (.int (Int32.ofNat n)), .val (.int (Int32.ofNat i)), s6] [(.int (Int32.ofNat i)), (.ref ra)]) := fun t h => kk t (by
          show Steps p.tables e below (T.setTop (mkF m 3 #[.val (.ref ra), .val (.int (Int32.ofNat i)), .val (.ref rd), .val (.int (Int32.ofNat i)), .val (.int (Int32.ofNat n)), .val (.int (Int32.ofNat i)), s6] [])) _
          refine XS.iload X.here hx rfl (hb hby d6_3) rfl ?_
          show Steps p.tables e below (T.setTop (mkF m 5 #[.val (.ref ra), .val (.int (Int32.ofNat i)), .val (.ref rd), .val (.int (Int32.ofNat i)), .val (.int (Int32.ofNat n)), .val (.int (Int32.ofNat i)), s6] [(.int (Int32.ofNat i))])) _
          refine XS.iload X.here hx rfl (hb hby d6_5) rfl ?_
          show Steps p.tables e below (T.setTop (mkF m 7 #[.val (.ref ra), .val (.int (Int32.ofNat i)), .val (.ref rd), .val (.int (Int32.ofNat i)), .val (.int (Int32.ofNat n)), .val (.int (Int32.ofNat i)), s6] [(.int (Int32.ofNat n)), (.int (Int32.ofNat i))])) _
          refine XS.icmpNo X.here hx rfl (hb hby d6_7) rfl (tlt (((own_olt (by omega) (by omega)).mpr (by omega)) : (Int32.ofNat i) < (Int32.ofNat n))).2.1 ?_
          show Steps p.tables e below (T.setTop (mkF m 10 #[.val (.ref ra), .val (.int (Int32.ofNat i)), .val (.ref rd), .val (.int (Int32.ofNat i)), .val (.int (Int32.ofNat n)), .val (.int (Int32.ofNat i)), s6] [])) _
          refine XS.aloadN X.here hx rfl (hb hby d6_10) rfl rfl ?_
          show Steps p.tables e below (T.setTop (mkF m 11 #[.val (.ref ra), .val (.int (Int32.ofNat i)), .val (.ref rd), .val (.int (Int32.ofNat i)), .val (.int (Int32.ofNat n)), .val (.int (Int32.ofNat i)), s6] [(.ref ra)])) _
          refine XS.iloadN X.here hx rfl (hb hby d6_11) rfl ?_
          show Steps p.tables e below (T.setTop (mkF m 12 #[.val (.ref ra), .val (.int (Int32.ofNat i)), .val (.ref rd), .val (.int (Int32.ofNat i)), .val (.int (Int32.ofNat n)), .val (.int (Int32.ofNat i)), s6] [(.int (Int32.ofNat i)), (.ref ra)])) _
          exact h)
      obtain ⟨cl57, Ar57, q57, Sz57, Ng57, Hs57, G57⟩ := id Va1
      have hin57 : ¬ ((Int32.ofNat i) < 0 ∨ cl57.slots.size ≤ ((Int32.ofNat i)).toNatClampNeg) := inb_of Sz57 (own_inb (by omega) (by omega))
      have hat57 : cl57.slots[((Int32.ofNat i)).toNatClampNeg]? = some (.int (cs.getD i 0)) := Hs57.at hin57 (by rw [(own_tn (by omega)).1]; exact own_at cs i 0)
      have k59 : Rch p e below S0 T (mkF m 25 #[.val (.ref ra), .val (.int (Int32.ofNat i)), .val (.ref rd), .val (.int (Int32.ofNat i)), .val (.int (Int32.ofNat n)), .val (.int (Int32.ofNat i)), .val (.int (cs.getD i 0))] [(.int (Int32.ofNat i))]) := fun t h => k58 t (by
          show Steps p.tables e below (T.setTop (mkF m 12 #[.val (.ref ra), .val (.int (Int32.ofNat i)), .val (.ref rd), .val (.int (Int32.ofNat i)), .val (.int (Int32.ofNat n)), .val (.int (Int32.ofNat i)), s6] [(.int (Int32.ofNat i)), (.ref ra)])) _
          refine X.caload hx (j := (Int32.ofNat i)) (v := (.int (cs.getD i 0))) (by rw [eT]; exact Ar57.1) (State.isArrayOf_alike hZ.alike Ar57.2.1) Ar57.2.2 hin57 hat57 (g := (mkF m 12 #[.val (.ref ra), .val (.int (Int32.ofNat i)), .val (.ref rd), .val (.int (Int32.ofNat i)), .val (.int (Int32.ofNat n)), .val (.int (Int32.ofNat i)), s6] [(.int (Int32.ofNat i)), (.ref ra)])) rfl rfl (hb hby d6_12) _ ?_
          show Steps p.tables e below (T.setTop (mkF m 13 #[.val (.ref ra), .val (.int (Int32.ofNat i)), .val (.ref rd), .val (.int (Int32.ofNat i)), .val (.int (Int32.ofNat n)), .val (.int (Int32.ofNat i)), s6] [(.int (cs.getD i 0))])) _
          refine XS.istoreS X.here hx rfl (hb hby d6_13) rfl rfl hs6 ?_
          show Steps p.tables e below (T.setTop (mkF m 15 #[.val (.ref ra), .val (.int (Int32.ofNat i)), .val (.ref rd), .val (.int (Int32.ofNat i)), .val (.int (Int32.ofNat n)), .val (.int (Int32.ofNat i)), .val (.int (cs.getD i 0))] [])) _
          refine XS.iload X.here hx rfl (hb hby d6_15) rfl ?_
          show Steps p.tables e below (T.setTop (mkF m 17 #[.val (.ref ra), .val (.int (Int32.ofNat i)), .val (.ref rd), .val (.int (Int32.ofNat i)), .val (.int (Int32.ofNat n)), .val (.int (Int32.ofNat i)), .val (.int (cs.getD i 0))] [(.int (cs.getD i 0))])) _
          refine XS.sipush X.here hx rfl (hb hby d6_17) ?_
          show Steps p.tables e below (T.setTop (mkF m 20 #[.val (.ref ra), .val (.int (Int32.ofNat i)), .val (.ref rd), .val (.int (Int32.ofNat i)), .val (.int (Int32.ofNat n)), .val (.int (Int32.ofNat i)), .val (.int (cs.getD i 0))] [(.int (255 : Int32)), (.int (cs.getD i 0))])) _
          refine XS.icmpNo X.here hx rfl (hb hby d6_20) rfl (tlt (hhigh : (255 : Int32) < (cs.getD i 0))).2.2.2 ?_
          show Steps p.tables e below (T.setTop (mkF m 23 #[.val (.ref ra), .val (.int (Int32.ofNat i)), .val (.ref rd), .val (.int (Int32.ofNat i)), .val (.int (Int32.ofNat n)), .val (.int (Int32.ofNat i)), .val (.int (cs.getD i 0))] [])) _
          refine XS.iload X.here hx rfl (hb hby d6_23) rfl ?_
          show Steps p.tables e below (T.setTop (mkF m 25 #[.val (.ref ra), .val (.int (Int32.ofNat i)), .val (.ref rd), .val (.int (Int32.ofNat i)), .val (.int (Int32.ofNat n)), .val (.int (Int32.ofNat i)), .val (.int (cs.getD i 0))] [(.int (Int32.ofNat i))])) _
          exact h)
      exact ⟨_, _, _, X, eT, NN, KK, k59⟩
    | succ j ih =>
      intro i hi T h1 lo s6 vs X eT NN OO KK hs6 hvl Vd1 Va1 kk
      have k61 : Rch p e below S0 T (mkF m 12 #[.val (.ref ra), .val (.int (Int32.ofNat i)), .val (.ref rd), .val (.int (Int32.ofNat i)), .val (.int (Int32.ofNat n)), .val (.int (Int32.ofNat i)), s6] [(.int (Int32.ofNat i)), (.ref ra)]) := fun t h => kk t (by
          show Steps p.tables e below (T.setTop (mkF m 3 #[.val (.ref ra), .val (.int (Int32.ofNat i)), .val (.ref rd), .val (.int (Int32.ofNat i)), .val (.int (Int32.ofNat n)), .val (.int (Int32.ofNat i)), s6] [])) _
          refine XS.iload X.here hx rfl (hb hby d6_3) rfl ?_
          show Steps p.tables e below (T.setTop (mkF m 5 #[.val (.ref ra), .val (.int (Int32.ofNat i)), .val (.ref rd), .val (.int (Int32.ofNat i)), .val (.int (Int32.ofNat n)), .val (.int (Int32.ofNat i)), s6] [(.int (Int32.ofNat i))])) _
          refine XS.iload X.here hx rfl (hb hby d6_5) rfl ?_
          show Steps p.tables e below (T.setTop (mkF m 7 #[.val (.ref ra), .val (.int (Int32.ofNat i)), .val (.ref rd), .val (.int (Int32.ofNat i)), .val (.int (Int32.ofNat n)), .val (.int (Int32.ofNat i)), s6] [(.int (Int32.ofNat n)), (.int (Int32.ofNat i))])) _
          refine XS.icmpNo X.here hx rfl (hb hby d6_7) rfl (tlt (((own_olt (by omega) (by omega)).mpr (by omega)) : (Int32.ofNat i) < (Int32.ofNat n))).2.1 ?_
          show Steps p.tables e below (T.setTop (mkF m 10 #[.val (.ref ra), .val (.int (Int32.ofNat i)), .val (.ref rd), .val (.int (Int32.ofNat i)), .val (.int (Int32.ofNat n)), .val (.int (Int32.ofNat i)), s6] [])) _
          refine XS.aloadN X.here hx rfl (hb hby d6_10) rfl rfl ?_
          show Steps p.tables e below (T.setTop (mkF m 11 #[.val (.ref ra), .val (.int (Int32.ofNat i)), .val (.ref rd), .val (.int (Int32.ofNat i)), .val (.int (Int32.ofNat n)), .val (.int (Int32.ofNat i)), s6] [(.ref ra)])) _
          refine XS.iloadN X.here hx rfl (hb hby d6_11) rfl ?_
          show Steps p.tables e below (T.setTop (mkF m 12 #[.val (.ref ra), .val (.int (Int32.ofNat i)), .val (.ref rd), .val (.int (Int32.ofNat i)), .val (.int (Int32.ofNat n)), .val (.int (Int32.ofNat i)), s6] [(.int (Int32.ofNat i)), (.ref ra)])) _
          exact h)
      obtain ⟨cl60, Ar60, q60, Sz60, Ng60, Hs60, G60⟩ := id Va1
      have hin60 : ¬ ((Int32.ofNat i) < 0 ∨ cl60.slots.size ≤ ((Int32.ofNat i)).toNatClampNeg) := inb_of Sz60 (own_inb (by omega) (by omega))
      have hat60 : cl60.slots[((Int32.ofNat i)).toNatClampNeg]? = some (.int (cs.getD i 0)) := Hs60.at hin60 (by rw [(own_tn (by omega)).1]; exact own_at cs i 0)
      have k63 : Rch p e below S0 T (mkF m 31 #[.val (.ref ra), .val (.int (Int32.ofNat i)), .val (.ref rd), .val (.int (Int32.ofNat i)), .val (.int (Int32.ofNat n)), .val (.int (Int32.ofNat i)), .val (.int (cs.getD i 0))] [(.int ((cs.getD i 0).toInt8.toInt32)), (.int (Int32.ofNat i)), (.ref rd)]) := fun t h => k61 t (by
          show Steps p.tables e below (T.setTop (mkF m 12 #[.val (.ref ra), .val (.int (Int32.ofNat i)), .val (.ref rd), .val (.int (Int32.ofNat i)), .val (.int (Int32.ofNat n)), .val (.int (Int32.ofNat i)), s6] [(.int (Int32.ofNat i)), (.ref ra)])) _
          refine X.caload hx (j := (Int32.ofNat i)) (v := (.int (cs.getD i 0))) (by rw [eT]; exact Ar60.1) (State.isArrayOf_alike hZ.alike Ar60.2.1) Ar60.2.2 hin60 hat60 (g := (mkF m 12 #[.val (.ref ra), .val (.int (Int32.ofNat i)), .val (.ref rd), .val (.int (Int32.ofNat i)), .val (.int (Int32.ofNat n)), .val (.int (Int32.ofNat i)), s6] [(.int (Int32.ofNat i)), (.ref ra)])) rfl rfl (hb hby d6_12) _ ?_
          show Steps p.tables e below (T.setTop (mkF m 13 #[.val (.ref ra), .val (.int (Int32.ofNat i)), .val (.ref rd), .val (.int (Int32.ofNat i)), .val (.int (Int32.ofNat n)), .val (.int (Int32.ofNat i)), s6] [(.int (cs.getD i 0))])) _
          refine XS.istoreS X.here hx rfl (hb hby d6_13) rfl rfl hs6 ?_
          show Steps p.tables e below (T.setTop (mkF m 15 #[.val (.ref ra), .val (.int (Int32.ofNat i)), .val (.ref rd), .val (.int (Int32.ofNat i)), .val (.int (Int32.ofNat n)), .val (.int (Int32.ofNat i)), .val (.int (cs.getD i 0))] [])) _
          refine XS.iload X.here hx rfl (hb hby d6_15) rfl ?_
          show Steps p.tables e below (T.setTop (mkF m 17 #[.val (.ref ra), .val (.int (Int32.ofNat i)), .val (.ref rd), .val (.int (Int32.ofNat i)), .val (.int (Int32.ofNat n)), .val (.int (Int32.ofNat i)), .val (.int (cs.getD i 0))] [(.int (cs.getD i 0))])) _
          refine XS.sipush X.here hx rfl (hb hby d6_17) ?_
          show Steps p.tables e below (T.setTop (mkF m 20 #[.val (.ref ra), .val (.int (Int32.ofNat i)), .val (.ref rd), .val (.int (Int32.ofNat i)), .val (.int (Int32.ofNat n)), .val (.int (Int32.ofNat i)), .val (.int (cs.getD i 0))] [(.int (255 : Int32)), (.int (cs.getD i 0))])) _
          refine XS.icmpYes X.here hx rfl (pc0 := 20) (pc' := 26) rfl (hb hby d6_20) rfl (flt ((hlow i (by omega)) : ¬ ((255 : Int32) < (cs.getD i 0)))).2.2.2 (by decide) (by decide) ?_
          show Steps p.tables e below (T.setTop (mkF m 26 #[.val (.ref ra), .val (.int (Int32.ofNat i)), .val (.ref rd), .val (.int (Int32.ofNat i)), .val (.int (Int32.ofNat n)), .val (.int (Int32.ofNat i)), .val (.int (cs.getD i 0))] [])) _
          refine XS.aloadN X.here hx rfl (hb hby d6_26) rfl rfl ?_
          show Steps p.tables e below (T.setTop (mkF m 27 #[.val (.ref ra), .val (.int (Int32.ofNat i)), .val (.ref rd), .val (.int (Int32.ofNat i)), .val (.int (Int32.ofNat n)), .val (.int (Int32.ofNat i)), .val (.int (cs.getD i 0))] [(.ref rd)])) _
          refine XS.iloadN X.here hx rfl (hb hby d6_27) rfl ?_
          show Steps p.tables e below (T.setTop (mkF m 28 #[.val (.ref ra), .val (.int (Int32.ofNat i)), .val (.ref rd), .val (.int (Int32.ofNat i)), .val (.int (Int32.ofNat n)), .val (.int (Int32.ofNat i)), .val (.int (cs.getD i 0))] [(.int (Int32.ofNat i)), (.ref rd)])) _
          refine XS.iload X.here hx rfl (hb hby d6_28) rfl ?_
          show Steps p.tables e below (T.setTop (mkF m 30 #[.val (.ref ra), .val (.int (Int32.ofNat i)), .val (.ref rd), .val (.int (Int32.ofNat i)), .val (.int (Int32.ofNat n)), .val (.int (Int32.ofNat i)), .val (.int (cs.getD i 0))] [(.int (cs.getD i 0)), (.int (Int32.ofNat i)), (.ref rd)])) _
          refine XS.i2b X.here hx rfl (hb hby d6_30) rfl ?_
          show Steps p.tables e below (T.setTop (mkF m 31 #[.val (.ref ra), .val (.int (Int32.ofNat i)), .val (.ref rd), .val (.int (Int32.ofNat i)), .val (.int (Int32.ofNat n)), .val (.int (Int32.ofNat i)), .val (.int (cs.getD i 0))] [(.int ((cs.getD i 0).toInt8.toInt32)), (.int (Int32.ofNat i)), (.ref rd)])) _
          exact h)
      obtain ⟨cl62, Ar62, q62, Sz62, Ng62, Hs62, G62⟩ := id Vd1
      have hin62 : ¬ ((Int32.ofNat i) < 0 ∨ cl62.slots.size ≤ ((Int32.ofNat i)).toNatClampNeg) := inb_of Sz62 (own_inb (by omega) (by omega))
      obtain ⟨T62, h62, X62, e62, W62, st62⟩ := stB X hx hZ eT Ar62 (j := (Int32.ofNat i)) hin62 (g := (mkF m 31 #[.val (.ref ra), .val (.int (Int32.ofNat i)), .val (.ref rd), .val (.int (Int32.ofNat i)), .val (.int (Int32.ofNat n)), .val (.int (Int32.ofNat i)), .val (.int (cs.getD i 0))] [(.int ((cs.getD i 0).toInt8.toInt32)), (.int (Int32.ofNat i)), (.ref rd)])) rfl rfl (hb hby d6_31)
      have k64 : Rch p e below S0 T62 (mkF m 32 #[.val (.ref ra), .val (.int (Int32.ofNat i)), .val (.ref rd), .val (.int (Int32.ofNat i)), .val (.int (Int32.ofNat n)), .val (.int (Int32.ofNat i)), .val (.int (cs.getD i 0))] []) := fun t h => k63 t (st62 t h)
      have N62 := Fr.snoc X62 NN ge_rd
      have Vd1' := Arv.set Ar62 q62 Sz62 Ng62 Hs62 G62 (fits_nar_byte _) W62 i (own_tn (by omega)).1 (by omega)
      replace Vd1 := Vd1'
      have O65 := OO.wr W62 ge_rd
      have K66 := KK.wr W62 (Or.inl (List.mem_of_getElem? (i := 0) rfl))
      replace Va1 := Va1.other W62 ne_ra_rd
      have k67 : Rch p e below S0 T62 (mkF m 3 #[.val (.ref ra), .val (.int (Int32.ofNat (i + 1))), .val (.ref rd), .val (.int (Int32.ofNat (i + 1))), .val (.int (Int32.ofNat n)), .val (.int (Int32.ofNat (i + 1))), .val (.int (cs.getD i 0))] []) := fun t h => k64 t (by
          show Steps p.tables e below (T62.setTop (mkF m 32 #[.val (.ref ra), .val (.int (Int32.ofNat i)), .val (.ref rd), .val (.int (Int32.ofNat i)), .val (.int (Int32.ofNat n)), .val (.int (Int32.ofNat i)), .val (.int (cs.getD i 0))] [])) _
          refine XS.iinc X62.here hx rfl (hb hby d6_32) rfl (l' := #[.val (.ref ra), .val (.int ((Int32.ofNat i) + (1 : Int32))), .val (.ref rd), .val (.int (Int32.ofNat i)), .val (.int (Int32.ofNat n)), .val (.int (Int32.ofNat i)), .val (.int (cs.getD i 0))]) rfl ?_
          rw [own_inc (i := i) (by omega)]
          show Steps p.tables e below (T62.setTop (mkF m 35 #[.val (.ref ra), .val (.int (Int32.ofNat (i + 1))), .val (.ref rd), .val (.int (Int32.ofNat i)), .val (.int (Int32.ofNat n)), .val (.int (Int32.ofNat i)), .val (.int (cs.getD i 0))] [])) _
          refine XS.iinc X62.here hx rfl (hb hby d6_35) rfl (l' := #[.val (.ref ra), .val (.int (Int32.ofNat (i + 1))), .val (.ref rd), .val (.int ((Int32.ofNat i) + (1 : Int32))), .val (.int (Int32.ofNat n)), .val (.int (Int32.ofNat i)), .val (.int (cs.getD i 0))]) rfl ?_
          rw [own_inc (i := i) (by omega)]
          show Steps p.tables e below (T62.setTop (mkF m 38 #[.val (.ref ra), .val (.int (Int32.ofNat (i + 1))), .val (.ref rd), .val (.int (Int32.ofNat (i + 1))), .val (.int (Int32.ofNat n)), .val (.int (Int32.ofNat i)), .val (.int (cs.getD i 0))] [])) _
          refine XS.iinc X62.here hx rfl (hb hby d6_38) rfl (l' := #[.val (.ref ra), .val (.int (Int32.ofNat (i + 1))), .val (.ref rd), .val (.int (Int32.ofNat (i + 1))), .val (.int (Int32.ofNat n)), .val (.int ((Int32.ofNat i) + (1 : Int32))), .val (.int (cs.getD i 0))]) rfl ?_
          rw [own_inc (i := i) (by omega)]
          show Steps p.tables e below (T62.setTop (mkF m 41 #[.val (.ref ra), .val (.int (Int32.ofNat (i + 1))), .val (.ref rd), .val (.int (Int32.ofNat (i + 1))), .val (.int (Int32.ofNat n)), .val (.int (Int32.ofNat (i + 1))), .val (.int (cs.getD i 0))] [])) _
          refine XS.goto X62.here hx rfl (pc0 := 41) (pc' := 3) rfl (hb hby d6_41) (by decide) (by decide) ?_
          show Steps p.tables e below (T62.setTop (mkF m 3 #[.val (.ref ra), .val (.int (Int32.ofNat (i + 1))), .val (.ref rd), .val (.int (Int32.ofNat (i + 1))), .val (.int (Int32.ofNat n)), .val (.int (Int32.ofNat (i + 1))), .val (.int (cs.getD i 0))] [])) _
          exact h)
      exact ih (i + 1) (by omega) _ _ _ _ _ X62 e62 N62 O65 K66 (One.val rfl) (by rw [List.length_set]; exact hvl) Vd1 Va1 k67
  obtain ⟨TL, hL, loL, XL, eL, NL, KL, kL⟩ := loop k 0 (by omega) _ _ _ _ _ X0 e0 N0 O0 K0 One.u (by simp) Vd Va k56
  obtain ⟨fs, hr, hrun, hended, hW, hsame⟩ := XL.leave (v := (some (.int (Int32.ofNat k)))) (fun h => by rw [Bd.returns] at h; cases h)
  refine ⟨_, _, ?_, hrun, hended, _, _, rfl, ?_, ⟨_, rfl⟩, hW, hsame.mono (by decide) (by decide)⟩
  · rw [← hS0]
    refine kL _ ?_
    show Steps p.tables e below (TL.setTop (mkF m 25 #[.val (.ref ra), .val (.int (Int32.ofNat k)), .val (.ref rd), .val (.int (Int32.ofNat k)), .val (.int (Int32.ofNat n)), .val (.int (Int32.ofNat k)), .val (.int (cs.getD k 0))] [(.int (Int32.ofNat k))])) _
    exact retI XL hx Bd.returns (hb hby d6_25) hr
  · show Q_rmC5 Z rd k h0 n0 _ TL.heap _
    rw [eL]
    exact ⟨rfl, NL, KL⟩
def Q_rmC3 (Z : State) (n : Nat) (h0 : Heap) (n0 : Nat) (v : Option Value) (h : Heap) (L : List Loc) : Prop := ∃ x kx vs, v = some (.ref x) ∧ Fr n0 L ∧ Ext h0 h ∧ h0.size ≤ x ∧ Arv Z h x kx .byte (Int32.ofNat (2 * n)) vs (.int (0 : Int32))
theorem ef_5 (m : MethodId) (x0 : Addr) (x1 : Int32) (x2 : Int32) : entryFrame m #[(.ref x0), (.int x1), (.int x2)] 6 = mkF m 0 #[.val (.ref x0), .val (.int x1), .val (.int x2), .unset, .unset, .unset] [] := by first | (simp [entryFrame, mkF, argsToLocals, Value.category]; done) | rfl
theorem d5_0 : decode jdk_52_method_16_code 0 = .ok (.iload_n 2, 1) := by decide +kernel
theorem d5_1 : decode jdk_52_method_16_code 1 = .ok (.newarray .byte, 2) := by decide +kernel
theorem d5_3 : decode jdk_52_method_16_code 3 = .ok (.astore_n 3, 1) := by decide +kernel
theorem d5_4 : decode jdk_52_method_16_code 4 = .ok (.aload_n 0, 1) := by decide +kernel
theorem d5_5 : decode jdk_52_method_16_code 5 = .ok (.iload_n 1, 1) := by decide +kernel
theorem d5_6 : decode jdk_52_method_16_code 6 = .ok (.aload_n 3, 1) := by decide +kernel
theorem d5_7 : decode jdk_52_method_16_code 7 = .ok (.iconst 0, 1) := by decide +kernel
theorem d5_8 : decode jdk_52_method_16_code 8 = .ok (.iload_n 2, 1) := by decide +kernel
theorem pd_5 : parseMethodDescriptor "([CI[BII)I" = some ⟨[(.array .char), .int, (.array .byte), .int, .int], some .int⟩ := by decide +kernel
theorem d5_9 : decode jdk_52_method_16_code 9 = .ok (.invokestatic 115, 3) := by decide +kernel
theorem d5_12 : decode jdk_52_method_16_code 12 = .ok (.istore 4, 2) := by decide +kernel
theorem d5_14 : decode jdk_52_method_16_code 14 = .ok (.iload 4, 2) := by decide +kernel
theorem d5_16 : decode jdk_52_method_16_code 16 = .ok (.iload_n 2, 1) := by decide +kernel
theorem d5_17 : decode jdk_52_method_16_code 17 = .ok (.if_icmp .eq 40, 3) := by decide +kernel
theorem d5_20 : decode jdk_52_method_16_code 20 = .ok (.aload_n 0, 1) := by decide +kernel
theorem d5_21 : decode jdk_52_method_16_code 21 = .ok (.iload_n 1, 1) := by decide +kernel
theorem d5_22 : decode jdk_52_method_16_code 22 = .ok (.iload_n 2, 1) := by decide +kernel
theorem pd_4 : parseMethodDescriptor "([CII)[B" = some ⟨[(.array .char), .int, .int], some (.array .byte)⟩ := by decide +kernel
theorem d5_23 : decode jdk_52_method_16_code 23 = .ok (.invokestatic 119, 3) := by decide +kernel
theorem d5_26 : decode jdk_52_method_16_code 26 = .ok (.astore 5, 2) := by decide +kernel
theorem d5_28 : decode jdk_52_method_16_code 28 = .ok (.aload 5, 2) := by decide +kernel
theorem d5_30 : decode jdk_52_method_16_code 30 = .ok (.iload 4, 2) := by decide +kernel
theorem pd_19 : parseMethodDescriptor "([BI)C" = some ⟨[(.array .byte), .int], some .char⟩ := by decide +kernel
theorem d5_32 : decode jdk_52_method_16_code 32 = .ok (.invokestatic 71, 3) := by decide +kernel
theorem d5_35 : decode jdk_52_method_16_code 35 = .ok (.sipush 255, 3) := by decide +kernel
theorem d5_38 : decode jdk_52_method_16_code 38 = .ok (.if_icmp .gt 16, 3) := by decide +kernel
theorem d5_54 : decode jdk_52_method_16_code 54 = .ok (.aload 5, 2) := by decide +kernel
theorem d5_56 : decode jdk_52_method_16_code 56 = .ok (.areturn, 1) := by decide +kernel
set_option maxRecDepth 65536 in
set_option maxHeartbeats 40000000 in
theorem rmC3 (l : Launch) (Z : State) (a0 : Array Value) (hw : ∀ d ∈ tables_1, d.before a0 Z = true) (ws : List Jvm.Cond) (ra : Addr) (ka : ClassId) (n : Nat) (cs : List Int32) (k : Nat) (h0 : Heap) (n0 : Nat) (O0 : Old Z n0 h0) (SAs : Sta Z Z.heap "java/lang/StringUTF16" "$assertionsDisabled" "Z" (.int (1 : Int32))) (SHi : Sta Z Z.heap "java/lang/StringUTF16" "HI_BYTE_SHIFT" "I" (.int (0 : Int32))) (SLo : Sta Z Z.heap "java/lang/StringUTF16" "LO_BYTE_SHIFT" "I" (.int (8 : Int32))) (hn : n ≤ 4) (hl : cs.length = n) (hk : k < n) (hlow : ∀ i, i < k → ¬ (255 : Int32) < cs.getD i 0) (hhigh : (255 : Int32) < cs.getD k 0) (hp : ∀ c ∈ cs, ¬ c < 0 ∧ ¬ (65535 : Int32) < c) (Va : Arv Z h0 ra ka .char (Int32.ofNat n) (cs.map Value.int) (.int (0 : Int32))) :
    MetFree l (⟨"java/lang/StringUTF16", "compress", "([CII)[B"⟩ : MethodName) (head1 (Jvm.Cond.code (⟨"java/lang/StringUTF16", "compress", "([CII)[B"⟩ : MethodName) jdk_52_method_16_code 6 (some (.array .byte)) :: ws) ({ frames := 3, cells := 2, slots := 12, locals := 100 } : Room)) (fun a U => a = #[(.ref ra), (.int (0 : Int32)), (.int (Int32.ofNat n))] ∧ Z.Warmed39 U.vm ∧ U.heap = h0) (fun _ _ _ _ _ => True) (fun _ U o U' => ∃ v L, o = .returned v ∧ Q_rmC3 Z n h0 n0 v U'.heap L ∧ FrameEnd U o U' L ({ frames := 3, cells := 2, slots := 12, locals := 100 } : Room).cells ({ frames := 3, cells := 2, slots := 12, locals := 100 } : Room).slots) := by
  refine MetFree.of_bodySF (plainFor_of_name pn_StringUTF16) hisR ?_
  intro p e s m args below meth c s₁ Bd hml0 hP hK
  obtain ⟨rfl, hZ, hh⟩ := hP
  have hx := Bd.exec
  have hby := Bd.bytes
  have hml : c.maxLocals = 6 := hml0
  have hown : s.vm.findClass "java/lang/StringUTF16" = some m.cls := findClass_of_methodNamed Bd.named
  have hnm := (name_of_methodNamed Bd.named Bd.method).1
  have X0 : Stand p l e ({ frames := 3, cells := 2, slots := 12, locals := 100 } : Room) s m #[(.ref ra), (.int (0 : Int32)), (.int (Int32.ofNat n))] below meth c s₁ [] 0 0 := Stand.of_body Bd
  have e0 : s₁.heap = h0 := by rw [← hh, Bd.state]; rfl
  have N0 := Fr.nil n0
  obtain ⟨S0, hS0⟩ : ∃ z, z = s₁.setTop (entryFrame m #[(.ref ra), (.int (0 : Int32)), (.int (Int32.ofNat n))] 6) := ⟨_, rfl⟩
  have k0 : Rch p e below S0 s₁ (mkF m 0 #[.val (.ref ra), .val (.int (0 : Int32)), .val (.int (Int32.ofNat n)), .unset, .unset, .unset] []) := fun t kq => hS0 ▸ castTop (ef_5 m ra (0 : Int32) (Int32.ofNat n)) kq
  have K0 : Keep h0 h0 [] := Keep.refl h0 _
  have k69 : Rch p e below S0 s₁ (mkF m 1 #[.val (.ref ra), .val (.int (0 : Int32)), .val (.int (Int32.ofNat n)), .unset, .unset, .unset] [(.int (Int32.ofNat n))]) := fun t h => k0 t (by
      show Steps p.tables e below (s₁.setTop (mkF m 0 #[.val (.ref ra), .val (.int (0 : Int32)), .val (.int (Int32.ofNat n)), .unset, .unset, .unset] [])) _
      refine XS.iloadN X0.here hx rfl (hb hby d5_0) rfl ?_
      show Steps p.tables e below (s₁.setTop (mkF m 1 #[.val (.ref ra), .val (.int (0 : Int32)), .val (.int (Int32.ofNat n)), .unset, .unset, .unset] [(.int (Int32.ofNat n))])) _
      exact h)
  obtain ⟨T68, h68, k68, X68, e68, E68, A68, st68⟩ := newP X0 hx hZ (hw _ (List.mem_of_getElem? (i := 24) rfl)) e0 (g := (mkF m 1 #[.val (.ref ra), .val (.int (0 : Int32)), .val (.int (Int32.ofNat n)), .unset, .unset, .unset] [(.int (Int32.ofNat n))])) rfl (hb hby d5_1) rfl (own_on0 (by omega)) (cap := 4) (by rw [(own_tn (by omega)).1]; omega) (by decide) (by decide) (by decide)
  obtain ⟨b68, g68⟩ : ∃ z, z = h0.size := ⟨_, rfl⟩
  rw [← g68] at A68 st68
  have k70 : Rch p e below S0 T68 (mkF m 3 #[.val (.ref ra), .val (.int (0 : Int32)), .val (.int (Int32.ofNat n)), .unset, .unset, .unset] [(.ref b68)]) := fun t h => k69 t (st68 t h)
  have ne_ra_b68 : ra ≠ b68 := own_ne Va.lt (Nat.le_of_eq g68.symm)
  have ge_b68 : n0 ≤ b68 := own_ge O0 (Nat.le_of_eq g68.symm)
  have sz_b68 : h0.size ≤ b68 := Nat.le_trans K0.1 (Nat.le_of_eq g68.symm)
  have O71 := O0.ext E68
  have K72 := K0.ext E68
  replace Va := Va.ext E68
  have V_b68 : Arv Z h68 b68 k68 .byte (Int32.ofNat n) [] (.int (0 : Int32)) := Arv.new A68 (own_on0 (by omega))
  have k73 : Rch p e below S0 T68 (mkF m 9 #[.val (.ref ra), .val (.int (0 : Int32)), .val (.int (Int32.ofNat n)), .val (.ref b68), .unset, .unset] [(.int (Int32.ofNat n)), (.int (0 : Int32)), (.ref b68), (.int (0 : Int32)), (.ref ra)]) := fun t h => k70 t (by
      show Steps p.tables e below (T68.setTop (mkF m 3 #[.val (.ref ra), .val (.int (0 : Int32)), .val (.int (Int32.ofNat n)), .unset, .unset, .unset] [(.ref b68)])) _
      refine XS.astoreN X68.here hx rfl (hb hby d5_3) rfl rfl (l' := #[.val (.ref ra), .val (.int (0 : Int32)), .val (.int (Int32.ofNat n)), .val (.ref b68), .unset, .unset]) rfl ?_
      show Steps p.tables e below (T68.setTop (mkF m 4 #[.val (.ref ra), .val (.int (0 : Int32)), .val (.int (Int32.ofNat n)), .val (.ref b68), .unset, .unset] [])) _
      refine XS.aloadN X68.here hx rfl (hb hby d5_4) rfl rfl ?_
      show Steps p.tables e below (T68.setTop (mkF m 5 #[.val (.ref ra), .val (.int (0 : Int32)), .val (.int (Int32.ofNat n)), .val (.ref b68), .unset, .unset] [(.ref ra)])) _
      refine XS.iloadN X68.here hx rfl (hb hby d5_5) rfl ?_
      show Steps p.tables e below (T68.setTop (mkF m 6 #[.val (.ref ra), .val (.int (0 : Int32)), .val (.int (Int32.ofNat n)), .val (.ref b68), .unset, .unset] [(.int (0 : Int32)), (.ref ra)])) _
      refine XS.aloadN X68.here hx rfl (hb hby d5_6) rfl rfl ?_
      show Steps p.tables e below (T68.setTop (mkF m 7 #[.val (.ref ra), .val (.int (0 : Int32)), .val (.int (Int32.ofNat n)), .val (.ref b68), .unset, .unset] [(.ref b68), (.int (0 : Int32)), (.ref ra)])) _
      refine XS.iconst X68.here hx rfl (hb hby d5_7) ?_
      show Steps p.tables e below (T68.setTop (mkF m 8 #[.val (.ref ra), .val (.int (0 : Int32)), .val (.int (Int32.ofNat n)), .val (.ref b68), .unset, .unset] [(.int (0 : Int32)), (.ref b68), (.int (0 : Int32)), (.ref ra)])) _
      refine XS.iloadN X68.here hx rfl (hb hby d5_8) rfl ?_
      show Steps p.tables e below (T68.setTop (mkF m 9 #[.val (.ref ra), .val (.int (0 : Int32)), .val (.int (Int32.ofNat n)), .val (.ref b68), .unset, .unset] [(.int (Int32.ofNat n)), (.int (0 : Int32)), (.ref b68), (.int (0 : Int32)), (.ref ra)])) _
      exact h)
  have Vp : Arv Z h68 b68 k68 .byte (Int32.ofNat n) (List.replicate n (.int (0 : Int32))) (.int (0 : Int32)) := by
    have q := V_b68.pad (pad_rep [] (.int (0 : Int32)) n)
    rwa [List.nil_append] at q
  obtain ⟨_, _, ⟨T74, L74, kk74, n74⟩, -, X74, ⟨Lc74, hQ74, l74, y74, z74⟩, st74⟩ := Jvm.LawKit.callS X68 hx (y := (⟨"java/lang/StringUTF16", "compress", "([CI[BII)I"⟩ : MethodName)) hown (mvT hZ (hw _ (List.mem_of_getElem? (i := 25) rfl))) (mvT hZ (hw _ (List.mem_of_getElem? (i := 26) rfl))) (mvT hZ (hw _ (List.mem_of_getElem? (i := 22) rfl))) (mvT hZ (hw _ (List.mem_of_getElem? (i := 27) rfl))) (by decide) (backOf (W := 0) (rmC5 l Z a0 hw [] ra b68 ka k68 n cs k h68 n0 O71 ge_b68 ne_ra_b68 hn hl hk hlow hhigh Va Vp) hZ (hw _ (List.mem_of_getElem? (i := 27) rfl)) (hw _ (List.mem_of_getElem? (i := 22) rfl)) (by decide) (by decide)) (g := (mkF m 9 #[.val (.ref ra), .val (.int (0 : Int32)), .val (.int (Int32.ofNat n)), .val (.ref b68), .unset, .unset] [(.int (Int32.ofNat n)), (.int (0 : Int32)), (.ref b68), (.int (0 : Int32)), (.ref ra)])) rfl (by rw [hml]; rfl) (argsL := [(.ref ra), (.int (0 : Int32)), (.ref b68), (.int (0 : Int32)), (.int (Int32.ofNat n))]) (rest := []) (lenOf pd_5 rfl) rfl (by show 2 * 0 + _ ≤ _; exact Nat.le_of_eq rfl) (hb hby d5_9) (fun _ _ => ⟨rfl, e68, (by decide : 1 + 0 ≤ _), (by decide : 4 + 0 ≤ _)⟩)
  dsimp only [Pt.U, Pt.locs, Pt.cells, Pt.slots] at X74 l74 y74 z74 st74 hQ74
  subst l74 y74 z74
  obtain ⟨rfl, Nq74, K74⟩ := hQ74
  have N74 := Fr.app N0 Nq74
  have k75 : Rch p e below S0 T74 (mkF m 12 #[.val (.ref ra), .val (.int (0 : Int32)), .val (.int (Int32.ofNat n)), .val (.ref b68), .unset, .unset] [(.int (Int32.ofNat k))]) := fun t h => k73 t (st74 t h)
  have O76 := O71.keep K74 (allS ge_b68 all0)
  have K77 := K72.trans K74 (allS (Or.inr sz_b68) all0)
  replace Va := Va.keep K74 (ninS ne_ra_b68 nin0)
  have k78 : Rch p e below S0 T74 (mkF m 23 #[.val (.ref ra), .val (.int (0 : Int32)), .val (.int (Int32.ofNat n)), .val (.ref b68), .val (.int (Int32.ofNat k)), .unset] [(.int (Int32.ofNat n)), (.int (0 : Int32)), (.ref ra)]) := fun t h => k75 t (by
      show Steps p.tables e below (T74.setTop (mkF m 12 #[.val (.ref ra), .val (.int (0 : Int32)), .val (.int (Int32.ofNat n)), .val (.ref b68), .unset, .unset] [(.int (Int32.ofNat k))])) _
      refine XS.istore X74.here hx rfl (hb hby d5_12) rfl (l' := #[.val (.ref ra), .val (.int (0 : Int32)), .val (.int (Int32.ofNat n)), .val (.ref b68), .val (.int (Int32.ofNat k)), .unset]) rfl ?_
      show Steps p.tables e below (T74.setTop (mkF m 14 #[.val (.ref ra), .val (.int (0 : Int32)), .val (.int (Int32.ofNat n)), .val (.ref b68), .val (.int (Int32.ofNat k)), .unset] [])) _
      refine XS.iload X74.here hx rfl (hb hby d5_14) rfl ?_
      show Steps p.tables e below (T74.setTop (mkF m 16 #[.val (.ref ra), .val (.int (0 : Int32)), .val (.int (Int32.ofNat n)), .val (.ref b68), .val (.int (Int32.ofNat k)), .unset] [(.int (Int32.ofNat k))])) _
      refine XS.iloadN X74.here hx rfl (hb hby d5_16) rfl ?_
      show Steps p.tables e below (T74.setTop (mkF m 17 #[.val (.ref ra), .val (.int (0 : Int32)), .val (.int (Int32.ofNat n)), .val (.ref b68), .val (.int (Int32.ofNat k)), .unset] [(.int (Int32.ofNat n)), (.int (Int32.ofNat k))])) _
      refine XS.icmpNo X74.here hx rfl (hb hby d5_17) rfl (feq ((fun q => by have := congrArg Int32.toInt q; rw [(own_tn (by omega)).2, (own_tn (by omega)).2] at this; omega) : ¬ ((Int32.ofNat k) = (Int32.ofNat n)))).1 ?_
      show Steps p.tables e below (T74.setTop (mkF m 20 #[.val (.ref ra), .val (.int (0 : Int32)), .val (.int (Int32.ofNat n)), .val (.ref b68), .val (.int (Int32.ofNat k)), .unset] [])) _
      refine XS.aloadN X74.here hx rfl (hb hby d5_20) rfl rfl ?_
      show Steps p.tables e below (T74.setTop (mkF m 21 #[.val (.ref ra), .val (.int (0 : Int32)), .val (.int (Int32.ofNat n)), .val (.ref b68), .val (.int (Int32.ofNat k)), .unset] [(.ref ra)])) _
      refine XS.iloadN X74.here hx rfl (hb hby d5_21) rfl ?_
      show Steps p.tables e below (T74.setTop (mkF m 22 #[.val (.ref ra), .val (.int (0 : Int32)), .val (.int (Int32.ofNat n)), .val (.ref b68), .val (.int (Int32.ofNat k)), .unset] [(.int (0 : Int32)), (.ref ra)])) _
      refine XS.iloadN X74.here hx rfl (hb hby d5_22) rfl ?_
      show Steps p.tables e below (T74.setTop (mkF m 23 #[.val (.ref ra), .val (.int (0 : Int32)), .val (.int (Int32.ofNat n)), .val (.ref b68), .val (.int (Int32.ofNat k)), .unset] [(.int (Int32.ofNat n)), (.int (0 : Int32)), (.ref ra)])) _
      exact h)
  obtain ⟨_, _, ⟨T79, L79, kk79, n79⟩, -, X79, ⟨Lc79, hQ79, l79, y79, z79⟩, st79⟩ := Jvm.LawKit.callS X74 hx (y := (⟨"java/lang/StringUTF16", "toBytes", "([CII)[B"⟩ : MethodName)) hown (mvT hZ (hw _ (List.mem_of_getElem? (i := 73) rfl))) (mvT hZ (hw _ (List.mem_of_getElem? (i := 74) rfl))) (mvT hZ (hw _ (List.mem_of_getElem? (i := 22) rfl))) (mvT hZ (hw _ (List.mem_of_getElem? (i := 75) rfl))) (by decide) (backOf (W := 0) (rmTO l Z a0 hw [] ra ka n cs T74.heap n0 O76 SAs SHi SLo hn hl Va) hZ (hw _ (List.mem_of_getElem? (i := 75) rfl)) (hw _ (List.mem_of_getElem? (i := 22) rfl)) (by decide) (by decide)) (g := (mkF m 23 #[.val (.ref ra), .val (.int (0 : Int32)), .val (.int (Int32.ofNat n)), .val (.ref b68), .val (.int (Int32.ofNat k)), .unset] [(.int (Int32.ofNat n)), (.int (0 : Int32)), (.ref ra)])) rfl (by rw [hml]; rfl) (argsL := [(.ref ra), (.int (0 : Int32)), (.int (Int32.ofNat n))]) (rest := []) (lenOf pd_4 rfl) rfl (by show 2 * 0 + _ ≤ _; exact Nat.le_of_eq rfl) (hb hby d5_23) (fun _ _ => ⟨rfl, rfl, (by decide : 1 + 1 ≤ _), (by decide : 4 + 8 ≤ _)⟩)
  dsimp only [Pt.U, Pt.locs, Pt.cells, Pt.slots] at X79 l79 y79 z79 st79 hQ79
  subst l79 y79 z79
  obtain ⟨b79, kb79, vs79, rfl, Nq79, E79, z79, hl79, hv79, V79⟩ := hQ79
  have N79 := Fr.app N74 Nq79
  have k80 : Rch p e below S0 T79 (mkF m 26 #[.val (.ref ra), .val (.int (0 : Int32)), .val (.int (Int32.ofNat n)), .val (.ref b68), .val (.int (Int32.ofNat k)), .unset] [(.ref b79)]) := fun t h => k78 t (st79 t h)
  have zz : h0.size ≤ b79 := Nat.le_trans K77.1 z79
  have O81 := O76.ext E79
  have K82 := K77.ext E79
  replace Va := Va.ext E79
  have k83 : Rch p e below S0 T79 (mkF m 32 #[.val (.ref ra), .val (.int (0 : Int32)), .val (.int (Int32.ofNat n)), .val (.ref b68), .val (.int (Int32.ofNat k)), .val (.ref b79)] [(.int (Int32.ofNat k)), (.ref b79)]) := fun t h => k80 t (by
      show Steps p.tables e below (T79.setTop (mkF m 26 #[.val (.ref ra), .val (.int (0 : Int32)), .val (.int (Int32.ofNat n)), .val (.ref b68), .val (.int (Int32.ofNat k)), .unset] [(.ref b79)])) _
      refine XS.astore X79.here hx rfl (hb hby d5_26) rfl rfl (l' := #[.val (.ref ra), .val (.int (0 : Int32)), .val (.int (Int32.ofNat n)), .val (.ref b68), .val (.int (Int32.ofNat k)), .val (.ref b79)]) rfl ?_
      show Steps p.tables e below (T79.setTop (mkF m 28 #[.val (.ref ra), .val (.int (0 : Int32)), .val (.int (Int32.ofNat n)), .val (.ref b68), .val (.int (Int32.ofNat k)), .val (.ref b79)] [])) _
      refine XS.aload X79.here hx rfl (hb hby d5_28) rfl rfl ?_
      show Steps p.tables e below (T79.setTop (mkF m 30 #[.val (.ref ra), .val (.int (0 : Int32)), .val (.int (Int32.ofNat n)), .val (.ref b68), .val (.int (Int32.ofNat k)), .val (.ref b79)] [(.ref b79)])) _
      refine XS.iload X79.here hx rfl (hb hby d5_30) rfl ?_
      show Steps p.tables e below (T79.setTop (mkF m 32 #[.val (.ref ra), .val (.int (0 : Int32)), .val (.int (Int32.ofNat n)), .val (.ref b68), .val (.int (Int32.ofNat k)), .val (.ref b79)] [(.int (Int32.ofNat k)), (.ref b79)])) _
      exact h)
  obtain ⟨_, _, ⟨T84, L84, kk84, n84⟩, -, X84, ⟨Lc84, hQ84, l84, y84, z84⟩, st84⟩ := Jvm.LawKit.callS X79 hx (y := (⟨"java/lang/StringUTF16", "getChar", "([BI)C"⟩ : MethodName)) hown (mvT hZ (hw _ (List.mem_of_getElem? (i := 89) rfl))) (mvT hZ (hw _ (List.mem_of_getElem? (i := 90) rfl))) (mvT hZ (hw _ (List.mem_of_getElem? (i := 22) rfl))) (mvT hZ (hw _ (List.mem_of_getElem? (i := 91) rfl))) (by decide) (backOf (W := 0) (rmGC l Z a0 hw [] b79 k kb79 n vs79 (cs.getD k 0) T79.heap n0 O81 SAs SHi SLo hn hk (own_memD cs _ hp k (by omega)) (hv79 k hk).1 (hv79 k hk).2 V79) hZ (hw _ (List.mem_of_getElem? (i := 91) rfl)) (hw _ (List.mem_of_getElem? (i := 22) rfl)) (by decide) (by decide)) (g := (mkF m 32 #[.val (.ref ra), .val (.int (0 : Int32)), .val (.int (Int32.ofNat n)), .val (.ref b68), .val (.int (Int32.ofNat k)), .val (.ref b79)] [(.int (Int32.ofNat k)), (.ref b79)])) rfl (by rw [hml]; rfl) (argsL := [(.ref b79), (.int (Int32.ofNat k))]) (rest := []) (lenOf pd_19 rfl) rfl (by show 2 * 0 + _ ≤ _; exact Nat.le_of_eq rfl) (hb hby d5_32) (fun _ _ => ⟨rfl, rfl, (by decide : 2 + 0 ≤ _), (by decide : 12 + 0 ≤ _)⟩)
  dsimp only [Pt.U, Pt.locs, Pt.cells, Pt.slots] at X84 l84 y84 z84 st84 hQ84
  subst l84 y84 z84
  obtain ⟨rfl, Nq84, hh84⟩ := hQ84
  have N84 := Fr.app N79 Nq84
  have k85 : Rch p e below S0 T84 (mkF m 35 #[.val (.ref ra), .val (.int (0 : Int32)), .val (.int (Int32.ofNat n)), .val (.ref b68), .val (.int (Int32.ofNat k)), .val (.ref b79)] [(.int (cs.getD k 0))]) := fun t h => k83 t (st84 t h)
  have k86 : Rch p e below S0 T84 (mkF m 56 #[.val (.ref ra), .val (.int (0 : Int32)), .val (.int (Int32.ofNat n)), .val (.ref b68), .val (.int (Int32.ofNat k)), .val (.ref b79)] [(.ref b79)]) := fun t h => k85 t (by
      show Steps p.tables e below (T84.setTop (mkF m 35 #[.val (.ref ra), .val (.int (0 : Int32)), .val (.int (Int32.ofNat n)), .val (.ref b68), .val (.int (Int32.ofNat k)), .val (.ref b79)] [(.int (cs.getD k 0))])) _
      refine XS.sipush X84.here hx rfl (hb hby d5_35) ?_
      show Steps p.tables e below (T84.setTop (mkF m 38 #[.val (.ref ra), .val (.int (0 : Int32)), .val (.int (Int32.ofNat n)), .val (.ref b68), .val (.int (Int32.ofNat k)), .val (.ref b79)] [(.int (255 : Int32)), (.int (cs.getD k 0))])) _
      refine XS.icmpYes X84.here hx rfl (pc0 := 38) (pc' := 54) rfl (hb hby d5_38) rfl (tlt (hhigh : (255 : Int32) < (cs.getD k 0))).2.2.1 (by decide) (by decide) ?_
      show Steps p.tables e below (T84.setTop (mkF m 54 #[.val (.ref ra), .val (.int (0 : Int32)), .val (.int (Int32.ofNat n)), .val (.ref b68), .val (.int (Int32.ofNat k)), .val (.ref b79)] [])) _
      refine XS.aload X84.here hx rfl (hb hby d5_54) rfl rfl ?_
      show Steps p.tables e below (T84.setTop (mkF m 56 #[.val (.ref ra), .val (.int (0 : Int32)), .val (.int (Int32.ofNat n)), .val (.ref b68), .val (.int (Int32.ofNat k)), .val (.ref b79)] [(.ref b79)])) _
      exact h)
  obtain ⟨fs, hr, hrun, hended, hW, hsame⟩ := X84.leave (v := (some (.ref b79))) (fun h => by rw [Bd.returns] at h; cases h)
  refine ⟨_, _, ?_, hrun, hended, _, _, rfl, ?_, ⟨_, rfl⟩, hW, hsame.mono (by decide) (by decide)⟩
  · rw [← hS0]
    refine k86 _ ?_
    show Steps p.tables e below (T84.setTop (mkF m 56 #[.val (.ref ra), .val (.int (0 : Int32)), .val (.int (Int32.ofNat n)), .val (.ref b68), .val (.int (Int32.ofNat k)), .val (.ref b79)] [(.ref b79)])) _
    jvm_step X84.here [X84.here.top, hx, (hb hby d5_56), X84.method', Bd.returns, Value.isRef, FieldType.isReference]
    first | (intro acts; rw [hr _ acts rfl rfl rfl]) | rw [hr _ _ rfl rfl rfl]
    exact Steps.refl _
  · show Q_rmC3 Z n h0 n0 _ T84.heap _
    rw [hh84]
    exact ⟨b79, kb79, vs79, rfl, N84, own_ext K82, zz, V79⟩
def Q_rmCL (Z : State)  (h0 : Heap) (n0 : Nat) (v : Option Value) (h : Heap) (L : List Loc) : Prop := v = some (.int (1 : Int32)) ∧ Fr n0 L ∧ h = h0
theorem ef_7 (m : MethodId) (x0 : Addr) (x1 : Int32) : entryFrame m #[(.ref x0), (.int x1)] 2 = mkF m 0 #[.val (.ref x0), .val (.int x1)] [] := by first | (simp [entryFrame, mkF, argsToLocals, Value.category]; done) | rfl
theorem d7_0 : decode jdk_52_method_15_code 0 = .ok (.iload_n 1, 1) := by decide +kernel
theorem d7_1 : decode jdk_52_method_15_code 1 = .ok (.aload_n 0, 1) := by decide +kernel
theorem d7_2 : decode jdk_52_method_15_code 2 = .ok (.arraylength, 1) := by decide +kernel
theorem d7_3 : decode jdk_52_method_15_code 3 = .ok (.isub, 1) := by decide +kernel
theorem d7_4 : decode jdk_52_method_15_code 4 = .ok (.bipush 31, 2) := by decide +kernel
theorem d7_6 : decode jdk_52_method_15_code 6 = .ok (.iushr, 1) := by decide +kernel
theorem d7_7 : decode jdk_52_method_15_code 7 = .ok (.i2b, 1) := by decide +kernel
theorem d7_8 : decode jdk_52_method_15_code 8 = .ok (.ireturn, 1) := by decide +kernel
set_option maxRecDepth 65536 in
set_option maxHeartbeats 40000000 in
theorem rmCL (l : Launch) (Z : State) (a0 : Array Value) (hw : ∀ d ∈ tables_1, d.before a0 Z = true) (ws : List Jvm.Cond) (rb : Addr) (kb : ClassId) (n : Nat) (vs : List Value) (h0 : Heap) (n0 : Nat) (O0 : Old Z n0 h0) (h1 : 0 < n) (hn : n ≤ 4) (Vb : Arv Z h0 rb kb .byte (Int32.ofNat (2 * n)) vs (.int (0 : Int32))) :
    MetFree l (⟨"java/lang/StringUTF16", "coderFromArrayLen", "([BI)B"⟩ : MethodName) (head1 (Jvm.Cond.code (⟨"java/lang/StringUTF16", "coderFromArrayLen", "([BI)B"⟩ : MethodName) jdk_52_method_15_code 2 (some .byte) :: ws) ({ frames := 0, cells := 0, slots := 0, locals := 0 } : Room)) (fun a U => a = #[(.ref rb), (.int (Int32.ofNat n))] ∧ Z.Warmed39 U.vm ∧ U.heap = h0) (fun _ _ _ _ _ => True) (fun _ U o U' => ∃ v L, o = .returned v ∧ Q_rmCL Z  h0 n0 v U'.heap L ∧ FrameEnd U o U' L ({ frames := 0, cells := 0, slots := 0, locals := 0 } : Room).cells ({ frames := 0, cells := 0, slots := 0, locals := 0 } : Room).slots) := by
  refine MetFree.of_bodySF (plainFor_of_name pn_StringUTF16) hisR ?_
  intro p e s m args below meth c s₁ Bd hml0 hP hK
  obtain ⟨rfl, hZ, hh⟩ := hP
  have hx := Bd.exec
  have hby := Bd.bytes
  have hml : c.maxLocals = 2 := hml0
  have hown : s.vm.findClass "java/lang/StringUTF16" = some m.cls := findClass_of_methodNamed Bd.named
  have hnm := (name_of_methodNamed Bd.named Bd.method).1
  have X0 : Stand p l e ({ frames := 0, cells := 0, slots := 0, locals := 0 } : Room) s m #[(.ref rb), (.int (Int32.ofNat n))] below meth c s₁ [] 0 0 := Stand.of_body Bd
  have e0 : s₁.heap = h0 := by rw [← hh, Bd.state]; rfl
  have N0 := Fr.nil n0
  obtain ⟨S0, hS0⟩ : ∃ z, z = s₁.setTop (entryFrame m #[(.ref rb), (.int (Int32.ofNat n))] 2) := ⟨_, rfl⟩
  have k0 : Rch p e below S0 s₁ (mkF m 0 #[.val (.ref rb), .val (.int (Int32.ofNat n))] []) := fun t kq => hS0 ▸ castTop (ef_7 m rb (Int32.ofNat n)) kq
  have k88 : Rch p e below S0 s₁ (mkF m 2 #[.val (.ref rb), .val (.int (Int32.ofNat n))] [(.ref rb), (.int (Int32.ofNat n))]) := fun t h => k0 t (by
      show Steps p.tables e below (s₁.setTop (mkF m 0 #[.val (.ref rb), .val (.int (Int32.ofNat n))] [])) _
      refine XS.iloadN X0.here hx rfl (hb hby d7_0) rfl ?_
      show Steps p.tables e below (s₁.setTop (mkF m 1 #[.val (.ref rb), .val (.int (Int32.ofNat n))] [(.int (Int32.ofNat n))])) _
      refine XS.aloadN X0.here hx rfl (hb hby d7_1) rfl rfl ?_
      show Steps p.tables e below (s₁.setTop (mkF m 2 #[.val (.ref rb), .val (.int (Int32.ofNat n))] [(.ref rb), (.int (Int32.ofNat n))])) _
      exact h)
  obtain ⟨cl87, Ar87, q87, Sz87, Ng87, Hs87, G87⟩ := id Vb
  have k89 : Rch p e below S0 s₁ (mkF m 8 #[.val (.ref rb), .val (.int (Int32.ofNat n))] [(.int (1 : Int32))]) := fun t h => k88 t (by
      show Steps p.tables e below (s₁.setTop (mkF m 2 #[.val (.ref rb), .val (.int (Int32.ofNat n))] [(.ref rb), (.int (Int32.ofNat n))])) _
      refine X0.arraylength hx (by rw [e0]; exact Ar87.1) (State.isArrayOf_alike hZ.alike Ar87.2.1) (g := (mkF m 2 #[.val (.ref rb), .val (.int (Int32.ofNat n))] [(.ref rb), (.int (Int32.ofNat n))])) rfl rfl (hb hby d7_2) _ ?_
      rw [len_of Sz87 Ng87]
      show Steps p.tables e below (s₁.setTop (mkF m 3 #[.val (.ref rb), .val (.int (Int32.ofNat n))] [(.int (Int32.ofNat (2 * n))), (.int (Int32.ofNat n))])) _
      refine XS.isub X0.here hx rfl (hb hby d7_3) rfl ?_
      show Steps p.tables e below (s₁.setTop (mkF m 4 #[.val (.ref rb), .val (.int (Int32.ofNat n))] [(.int ((Int32.ofNat n) - (Int32.ofNat (2 * n))))])) _
      refine XS.bipush X0.here hx rfl (hb hby d7_4) ?_
      show Steps p.tables e below (s₁.setTop (mkF m 6 #[.val (.ref rb), .val (.int (Int32.ofNat n))] [(.int (31 : Int32)), (.int ((Int32.ofNat n) - (Int32.ofNat (2 * n))))])) _
      refine XS.iushr X0.here hx rfl (hb hby d7_6) rfl ?_
      rw [own_coder h1 (by omega)]
      show Steps p.tables e below (s₁.setTop (mkF m 7 #[.val (.ref rb), .val (.int (Int32.ofNat n))] [(.int (1 : Int32))])) _
      refine XS.i2b X0.here hx rfl (hb hby d7_7) rfl ?_
      rw [(by decide : (1 : Int32).toInt8.toInt32 = 1)]
      show Steps p.tables e below (s₁.setTop (mkF m 8 #[.val (.ref rb), .val (.int (Int32.ofNat n))] [(.int (1 : Int32))])) _
      exact h)
  obtain ⟨fs, hr, hrun, hended, hW, hsame⟩ := X0.leave (v := (some (.int (nar .byte (1 : Int32))))) (fun h => by rw [Bd.returns] at h; cases h)
  refine ⟨_, _, ?_, hrun, hended, _, _, rfl, ?_, ⟨_, rfl⟩, hW, hsame.mono (by decide) (by decide)⟩
  · rw [← hS0]
    refine k89 _ ?_
    show Steps p.tables e below (s₁.setTop (mkF m 8 #[.val (.ref rb), .val (.int (Int32.ofNat n))] [(.int (1 : Int32))])) _
    exact retN X0 hx (t := .byte) Bd.returns (by simp) (hb hby d7_8) hr
  · show Q_rmCL Z  h0 n0 _ s₁.heap _
    rw [e0]
    exact ⟨rfl, N0, rfl⟩
def Q_rmU4 (Z : State) (a1 : Addr) (n : Nat) (h0 : Heap) (n0 : Nat) (v : Option Value) (h : Heap) (L : List Loc) : Prop := v = none ∧ Fr n0 L ∧ Keep h0 h [a1] ∧ ∃ t kt vs, Fld Z h a1 "java/lang/String" "value" "[B" (.ref t) ∧ Fld Z h a1 "java/lang/String" "coder" "B" (.int (1 : Int32)) ∧ Arv Z h t kt .byte (Int32.ofNat (2 * n)) vs (.int (0 : Int32))
theorem ef_3n (m : MethodId) (x0 : Addr) (x1 : Addr) (x2 : Int32) (x3 : Int32) : entryFrame m #[(.ref x0), (.ref x1), (.int x2), (.int x3), .null] 6 = mkF m 0 #[.val (.ref x0), .val (.ref x1), .val (.int x2), .val (.int x3), .val .null, .unset] [] := by first | (simp [entryFrame, mkF, argsToLocals, Value.category]; done) | rfl
theorem pn_String : plainName "java/lang/String" = true := by first | (simp [plainName, overriddenIn]; done) | decide +kernel
theorem d3_0 : decode jdk_42_method_149_code 0 = .ok (.aload_n 0, 1) := by decide +kernel
theorem d3_1 : decode jdk_42_method_149_code 1 = .ok (.invokespecial 1, 3) := by decide +kernel
theorem d3_4 : decode jdk_42_method_149_code 4 = .ok (.iload_n 3, 1) := by decide +kernel
theorem d3_5 : decode jdk_42_method_149_code 5 = .ok (.ifCond .ne 22, 3) := by decide +kernel
theorem d3_27 : decode jdk_42_method_149_code 27 = .ok (.getstatic 38, 3) := by decide +kernel
theorem d3_30 : decode jdk_42_method_149_code 30 = .ok (.ifCond .eq 28, 3) := by decide +kernel
theorem d3_33 : decode jdk_42_method_149_code 33 = .ok (.aload_n 1, 1) := by decide +kernel
theorem d3_34 : decode jdk_42_method_149_code 34 = .ok (.iload_n 2, 1) := by decide +kernel
theorem d3_35 : decode jdk_42_method_149_code 35 = .ok (.iload_n 3, 1) := by decide +kernel
theorem d3_36 : decode jdk_42_method_149_code 36 = .ok (.invokestatic 177, 3) := by decide +kernel
theorem d3_39 : decode jdk_42_method_149_code 39 = .ok (.astore 5, 2) := by decide +kernel
theorem d3_41 : decode jdk_42_method_149_code 41 = .ok (.aload_n 0, 1) := by decide +kernel
theorem d3_42 : decode jdk_42_method_149_code 42 = .ok (.aload 5, 2) := by decide +kernel
theorem d3_44 : decode jdk_42_method_149_code 44 = .ok (.iload_n 3, 1) := by decide +kernel
theorem pd_6 : parseMethodDescriptor "([BI)B" = some ⟨[(.array .byte), .int], some .byte⟩ := by decide +kernel
theorem d3_45 : decode jdk_42_method_149_code 45 = .ok (.invokestatic 47, 3) := by decide +kernel
theorem d3_48 : decode jdk_42_method_149_code 48 = .ok (.putfield 15, 3) := by decide +kernel
theorem d3_51 : decode jdk_42_method_149_code 51 = .ok (.aload_n 0, 1) := by decide +kernel
theorem d3_52 : decode jdk_42_method_149_code 52 = .ok (.aload 5, 2) := by decide +kernel
theorem d3_54 : decode jdk_42_method_149_code 54 = .ok (.putfield 9, 3) := by decide +kernel
theorem d3_57 : decode jdk_42_method_149_code 57 = .ok (.return_, 1) := by decide +kernel
set_option maxRecDepth 65536 in
set_option maxHeartbeats 40000000 in
theorem rmU4 (l : Launch) (Z : State) (a0 : Array Value) (hw : ∀ d ∈ tables_1, d.before a0 Z = true) (ws : List Jvm.Cond) (a1 : Addr) (ra : Addr) (ka : ClassId) (n : Nat) (cs : List Int32) (k : Nat) (zC : Int32) (h0 : Heap) (n0 : Nat) (O0 : Old Z n0 h0) (SAs : Sta Z Z.heap "java/lang/StringUTF16" "$assertionsDisabled" "Z" (.int (1 : Int32))) (SHi : Sta Z Z.heap "java/lang/StringUTF16" "HI_BYTE_SHIFT" "I" (.int (0 : Int32))) (SLo : Sta Z Z.heap "java/lang/StringUTF16" "LO_BYTE_SHIFT" "I" (.int (8 : Int32))) (SC : Sta Z Z.heap "java/lang/String" "COMPACT_STRINGS" "Z" (.int zC)) (hzC : ¬ zC = 0) (hn : n ≤ 4) (hl : cs.length = n) (hk : k < n) (hlow : ∀ i, i < k → ¬ (255 : Int32) < cs.getD i 0) (hhigh : (255 : Int32) < cs.getD k 0) (hp : ∀ c ∈ cs, ¬ c < 0 ∧ ¬ (65535 : Int32) < c) (ge_a1 : n0 ≤ a1) (E_a1 : Exa Z h0 a1 "java/lang/String") (F_a1_value : Fld Z h0 a1 "java/lang/String" "value" "[B" .null) (F_a1_coder : Fld Z h0 a1 "java/lang/String" "coder" "B" (.int (0 : Int32))) (ne_ra_a1 : ra ≠ a1) (Va : Arv Z h0 ra ka .char (Int32.ofNat n) (cs.map Value.int) (.int (0 : Int32))) :
    MetFree l (⟨"java/lang/String", "<init>", "([CIILjava/lang/Void;)V"⟩ : MethodName) (head1 (Jvm.Cond.code (⟨"java/lang/String", "<init>", "([CIILjava/lang/Void;)V"⟩ : MethodName) jdk_42_method_149_code 6 none :: ws) ({ frames := 4, cells := 2, slots := 12, locals := 140 } : Room)) (fun a U => a = #[(.ref a1), (.ref ra), (.int (0 : Int32)), (.int (Int32.ofNat n)), .null] ∧ Z.Warmed39 U.vm ∧ U.heap = h0) (fun _ _ _ _ _ => True) (fun _ U o U' => ∃ v L, o = .returned v ∧ Q_rmU4 Z a1 n h0 n0 v U'.heap L ∧ FrameEnd U o U' L ({ frames := 4, cells := 2, slots := 12, locals := 140 } : Room).cells ({ frames := 4, cells := 2, slots := 12, locals := 140 } : Room).slots) := by
  refine MetFree.of_bodySF (plainFor_of_name pn_String) hisR ?_
  intro p e s m args below meth c s₁ Bd hml0 hP hK
  obtain ⟨rfl, hZ, hh⟩ := hP
  have hx := Bd.exec
  have hby := Bd.bytes
  have hml : c.maxLocals = 6 := hml0
  have hown : s.vm.findClass "java/lang/String" = some m.cls := findClass_of_methodNamed Bd.named
  have hnm := (name_of_methodNamed Bd.named Bd.method).1
  have X0 : Stand p l e ({ frames := 4, cells := 2, slots := 12, locals := 140 } : Room) s m #[(.ref a1), (.ref ra), (.int (0 : Int32)), (.int (Int32.ofNat n)), .null] below meth c s₁ [] 0 0 := Stand.of_body Bd
  have e0 : s₁.heap = h0 := by rw [← hh, Bd.state]; rfl
  have N0 := Fr.nil n0
  obtain ⟨S0, hS0⟩ : ∃ z, z = s₁.setTop (entryFrame m #[(.ref a1), (.ref ra), (.int (0 : Int32)), (.int (Int32.ofNat n)), .null] 6) := ⟨_, rfl⟩
  have k0 : Rch p e below S0 s₁ (mkF m 0 #[.val (.ref a1), .val (.ref ra), .val (.int (0 : Int32)), .val (.int (Int32.ofNat n)), .val .null, .unset] []) := fun t kq => hS0 ▸ castTop (ef_3n m a1 ra (0 : Int32) (Int32.ofNat n)) kq
  have K0 : Keep h0 h0 [a1] := Keep.refl h0 _
  have k91 : Rch p e below S0 s₁ (mkF m 1 #[.val (.ref a1), .val (.ref ra), .val (.int (0 : Int32)), .val (.int (Int32.ofNat n)), .val .null, .unset] [(.ref a1)]) := fun t h => k0 t (by
      show Steps p.tables e below (s₁.setTop (mkF m 0 #[.val (.ref a1), .val (.ref ra), .val (.int (0 : Int32)), .val (.int (Int32.ofNat n)), .val .null, .unset] [])) _
      refine XS.aloadN X0.here hx rfl (hb hby d3_0) rfl rfl ?_
      show Steps p.tables e below (s₁.setTop (mkF m 1 #[.val (.ref a1), .val (.ref ra), .val (.int (0 : Int32)), .val (.int (Int32.ofNat n)), .val .null, .unset] [(.ref a1)])) _
      exact h)
  obtain ⟨T90, X90, e90, st90⟩ := initO X0 hx hZ hown (hw _ (List.mem_of_getElem? (i := 16) rfl)) (hw _ (List.mem_of_getElem? (i := 17) rfl)) (hw _ (List.mem_of_getElem? (i := 18) rfl)) e0 (g := (mkF m 1 #[.val (.ref a1), .val (.ref ra), .val (.int (0 : Int32)), .val (.int (Int32.ofNat n)), .val .null, .unset] [(.ref a1)])) rfl (by rw [hml]; rfl) rfl (hb hby d3_1) (by decide) (W := 0) (by show 2 * 0 + _ ≤ _; exact Nat.le_of_eq rfl) (by decide)
  have k92 : Rch p e below S0 T90 (mkF m 4 #[.val (.ref a1), .val (.ref ra), .val (.int (0 : Int32)), .val (.int (Int32.ofNat n)), .val .null, .unset] []) := fun t h => k91 t (st90 t h)
  have k94 : Rch p e below S0 T90 (mkF m 27 #[.val (.ref a1), .val (.ref ra), .val (.int (0 : Int32)), .val (.int (Int32.ofNat n)), .val .null, .unset] []) := fun t h => k92 t (by
      show Steps p.tables e below (T90.setTop (mkF m 4 #[.val (.ref a1), .val (.ref ra), .val (.int (0 : Int32)), .val (.int (Int32.ofNat n)), .val .null, .unset] [])) _
      refine XS.iloadN X90.here hx rfl (hb hby d3_4) rfl ?_
      show Steps p.tables e below (T90.setTop (mkF m 5 #[.val (.ref a1), .val (.ref ra), .val (.int (0 : Int32)), .val (.int (Int32.ofNat n)), .val .null, .unset] [(.int (Int32.ofNat n))])) _
      refine XS.ifYes X90.here hx rfl (pc0 := 5) (pc' := 27) rfl (hb hby d3_5) rfl ((if0 _ _).trans (feq ((fun q => by have := congrArg Int32.toInt q; rw [(own_tn (by omega)).2, show (0 : Int32).toInt = 0 from by decide] at this; omega) : ¬ ((Int32.ofNat n) = (0 : Int32)))).2) (by decide) (by decide) ?_
      show Steps p.tables e below (T90.setTop (mkF m 27 #[.val (.ref a1), .val (.ref ra), .val (.int (0 : Int32)), .val (.int (Int32.ofNat n)), .val .null, .unset] [])) _
      exact h)
  obtain ⟨T93, X93, e93, st93⟩ := getS2 X90 hx hZ hown (host := "") (Or.inl (hw _ (List.mem_of_getElem? (i := 19) rfl))) Via.refl e90 (SC.ext O0.2) (g := (mkF m 27 #[.val (.ref a1), .val (.ref ra), .val (.int (0 : Int32)), .val (.int (Int32.ofNat n)), .val .null, .unset] [])) rfl (hb hby d3_27)
  have k95 : Rch p e below S0 T93 (mkF m 30 #[.val (.ref a1), .val (.ref ra), .val (.int (0 : Int32)), .val (.int (Int32.ofNat n)), .val .null, .unset] [(.int zC)]) := fun t h => k94 t (st93 t h)
  have k96 : Rch p e below S0 T93 (mkF m 36 #[.val (.ref a1), .val (.ref ra), .val (.int (0 : Int32)), .val (.int (Int32.ofNat n)), .val .null, .unset] [(.int (Int32.ofNat n)), (.int (0 : Int32)), (.ref ra)]) := fun t h => k95 t (by
      show Steps p.tables e below (T93.setTop (mkF m 30 #[.val (.ref a1), .val (.ref ra), .val (.int (0 : Int32)), .val (.int (Int32.ofNat n)), .val .null, .unset] [(.int zC)])) _
      refine XS.ifNo X93.here hx rfl (hb hby d3_30) rfl ((if0 _ _).trans (feq (hzC : ¬ (zC = (0 : Int32)))).1) ?_
      show Steps p.tables e below (T93.setTop (mkF m 33 #[.val (.ref a1), .val (.ref ra), .val (.int (0 : Int32)), .val (.int (Int32.ofNat n)), .val .null, .unset] [])) _
      refine XS.aloadN X93.here hx rfl (hb hby d3_33) rfl rfl ?_
      show Steps p.tables e below (T93.setTop (mkF m 34 #[.val (.ref a1), .val (.ref ra), .val (.int (0 : Int32)), .val (.int (Int32.ofNat n)), .val .null, .unset] [(.ref ra)])) _
      refine XS.iloadN X93.here hx rfl (hb hby d3_34) rfl ?_
      show Steps p.tables e below (T93.setTop (mkF m 35 #[.val (.ref a1), .val (.ref ra), .val (.int (0 : Int32)), .val (.int (Int32.ofNat n)), .val .null, .unset] [(.int (0 : Int32)), (.ref ra)])) _
      refine XS.iloadN X93.here hx rfl (hb hby d3_35) rfl ?_
      show Steps p.tables e below (T93.setTop (mkF m 36 #[.val (.ref a1), .val (.ref ra), .val (.int (0 : Int32)), .val (.int (Int32.ofNat n)), .val .null, .unset] [(.int (Int32.ofNat n)), (.int (0 : Int32)), (.ref ra)])) _
      exact h)
  obtain ⟨_, _, ⟨T97, L97, kk97, n97⟩, -, X97, ⟨Lc97, hQ97, l97, y97, z97⟩, st97⟩ := Jvm.LawKit.callS X93 hx (y := (⟨"java/lang/StringUTF16", "compress", "([CII)[B"⟩ : MethodName)) hown (mvT hZ (hw _ (List.mem_of_getElem? (i := 20) rfl))) (mvT hZ (hw _ (List.mem_of_getElem? (i := 21) rfl))) (mvT hZ (hw _ (List.mem_of_getElem? (i := 22) rfl))) (mvT hZ (hw _ (List.mem_of_getElem? (i := 23) rfl))) (by decide) (backOf (W := 0) (rmC3 l Z a0 hw [] ra ka n cs k h0 n0 O0 SAs SHi SLo hn hl hk hlow hhigh hp Va) hZ (hw _ (List.mem_of_getElem? (i := 23) rfl)) (hw _ (List.mem_of_getElem? (i := 22) rfl)) (by decide) (by decide)) (g := (mkF m 36 #[.val (.ref a1), .val (.ref ra), .val (.int (0 : Int32)), .val (.int (Int32.ofNat n)), .val .null, .unset] [(.int (Int32.ofNat n)), (.int (0 : Int32)), (.ref ra)])) rfl (by rw [hml]; rfl) (argsL := [(.ref ra), (.int (0 : Int32)), (.int (Int32.ofNat n))]) (rest := []) (lenOf pd_4 rfl) rfl (by show 2 * 0 + _ ≤ _; exact Nat.le_of_eq rfl) (hb hby d3_36) (fun _ _ => ⟨rfl, e93, (by decide : 0 + 2 ≤ _), (by decide : 0 + 12 ≤ _)⟩)
  dsimp only [Pt.U, Pt.locs, Pt.cells, Pt.slots] at X97 l97 y97 z97 st97 hQ97
  subst l97 y97 z97
  obtain ⟨b97, kb97, vs97, rfl, Nq97, E97, z97, V97⟩ := hQ97
  have N97 := Fr.app N0 Nq97
  have k98 : Rch p e below S0 T97 (mkF m 39 #[.val (.ref a1), .val (.ref ra), .val (.int (0 : Int32)), .val (.int (Int32.ofNat n)), .val .null, .unset] [(.ref b97)]) := fun t h => k96 t (st97 t h)
  have ne_a1_b97 : a1 ≠ b97 := own_ne E_a1.lt z97
  have ne_ra_b97 : ra ≠ b97 := own_ne Va.lt z97
  have ge_b97 : n0 ≤ b97 := own_ge O0 z97
  have sz_b97 : h0.size ≤ b97 := Nat.le_trans K0.1 z97
  have O99 := O0.ext E97
  have K100 := K0.ext E97
  replace E_a1 := E_a1.ext E97
  replace F_a1_value := F_a1_value.ext E97
  replace F_a1_coder := F_a1_coder.ext E97
  replace Va := Va.ext E97
  have k101 : Rch p e below S0 T97 (mkF m 45 #[.val (.ref a1), .val (.ref ra), .val (.int (0 : Int32)), .val (.int (Int32.ofNat n)), .val .null, .val (.ref b97)] [(.int (Int32.ofNat n)), (.ref b97), (.ref a1)]) := fun t h => k98 t (by
      show Steps p.tables e below (T97.setTop (mkF m 39 #[.val (.ref a1), .val (.ref ra), .val (.int (0 : Int32)), .val (.int (Int32.ofNat n)), .val .null, .unset] [(.ref b97)])) _
      refine XS.astore X97.here hx rfl (hb hby d3_39) rfl rfl (l' := #[.val (.ref a1), .val (.ref ra), .val (.int (0 : Int32)), .val (.int (Int32.ofNat n)), .val .null, .val (.ref b97)]) rfl ?_
      show Steps p.tables e below (T97.setTop (mkF m 41 #[.val (.ref a1), .val (.ref ra), .val (.int (0 : Int32)), .val (.int (Int32.ofNat n)), .val .null, .val (.ref b97)] [])) _
      refine XS.aloadN X97.here hx rfl (hb hby d3_41) rfl rfl ?_
      show Steps p.tables e below (T97.setTop (mkF m 42 #[.val (.ref a1), .val (.ref ra), .val (.int (0 : Int32)), .val (.int (Int32.ofNat n)), .val .null, .val (.ref b97)] [(.ref a1)])) _
      refine XS.aload X97.here hx rfl (hb hby d3_42) rfl rfl ?_
      show Steps p.tables e below (T97.setTop (mkF m 44 #[.val (.ref a1), .val (.ref ra), .val (.int (0 : Int32)), .val (.int (Int32.ofNat n)), .val .null, .val (.ref b97)] [(.ref b97), (.ref a1)])) _
      refine XS.iloadN X97.here hx rfl (hb hby d3_44) rfl ?_
      show Steps p.tables e below (T97.setTop (mkF m 45 #[.val (.ref a1), .val (.ref ra), .val (.int (0 : Int32)), .val (.int (Int32.ofNat n)), .val .null, .val (.ref b97)] [(.int (Int32.ofNat n)), (.ref b97), (.ref a1)])) _
      exact h)
  obtain ⟨_, _, ⟨T102, L102, kk102, n102⟩, -, X102, ⟨Lc102, hQ102, l102, y102, z102⟩, st102⟩ := Jvm.LawKit.callS X97 hx (y := (⟨"java/lang/StringUTF16", "coderFromArrayLen", "([BI)B"⟩ : MethodName)) hown (mvT hZ (hw _ (List.mem_of_getElem? (i := 28) rfl))) (mvT hZ (hw _ (List.mem_of_getElem? (i := 29) rfl))) (mvT hZ (hw _ (List.mem_of_getElem? (i := 22) rfl))) (mvT hZ (hw _ (List.mem_of_getElem? (i := 30) rfl))) (by decide) (backOf (W := 1) (rmCL l Z a0 hw [] b97 kb97 n vs97 T97.heap n0 O99 (by omega) hn V97) hZ (hw _ (List.mem_of_getElem? (i := 30) rfl)) (hw _ (List.mem_of_getElem? (i := 22) rfl)) (by decide) (by decide)) (g := (mkF m 45 #[.val (.ref a1), .val (.ref ra), .val (.int (0 : Int32)), .val (.int (Int32.ofNat n)), .val .null, .val (.ref b97)] [(.int (Int32.ofNat n)), (.ref b97), (.ref a1)])) rfl (by rw [hml]; rfl) (argsL := [(.ref b97), (.int (Int32.ofNat n))]) (rest := [(.ref a1)]) (lenOf pd_6 rfl) rfl (by show 2 * 0 + _ ≤ _; exact Nat.le_of_eq rfl) (hb hby d3_45) (fun _ _ => ⟨rfl, rfl, (by decide : 2 + 0 ≤ _), (by decide : 12 + 0 ≤ _)⟩)
  dsimp only [Pt.U, Pt.locs, Pt.cells, Pt.slots] at X102 l102 y102 z102 st102 hQ102
  subst l102 y102 z102
  obtain ⟨rfl, Nq102, hh102⟩ := hQ102
  have N102 := Fr.app N97 Nq102
  have k103 : Rch p e below S0 T102 (mkF m 48 #[.val (.ref a1), .val (.ref ra), .val (.int (0 : Int32)), .val (.int (Int32.ofNat n)), .val .null, .val (.ref b97)] [(.int (1 : Int32)), (.ref a1)]) := fun t h => k101 t (st102 t h)
  obtain ⟨T104, h104, X104, e104, W104, st104⟩ := putFN X102 hx hZ hown (hw _ (List.mem_of_getElem? (i := 31) rfl)) Via.refl hh102 F_a1_coder E_a1 (Or.inr ⟨(hw _ (List.mem_of_getElem? (i := 32) rfl)), rfl, hnm⟩) (hw _ (List.mem_of_getElem? (i := 6) rfl)) (ty := .byte) (v' := (.int (1 : Int32))) (by decide) (by decide) (by decide) (g := (mkF m 48 #[.val (.ref a1), .val (.ref ra), .val (.int (0 : Int32)), .val (.int (Int32.ofNat n)), .val .null, .val (.ref b97)] [(.int (1 : Int32)), (.ref a1)])) rfl rfl (hb hby d3_48)
  have k105 : Rch p e below S0 T104 (mkF m 51 #[.val (.ref a1), .val (.ref ra), .val (.int (0 : Int32)), .val (.int (Int32.ofNat n)), .val .null, .val (.ref b97)] []) := fun t h => k103 t (st104 t h)
  have N104 := Fr.snoc X104 N102 ge_a1
  replace F_a1_coder := F_a1_coder.same W104
  have O106 := O99.wr W104 ge_a1
  have K107 := K100.wr W104 (Or.inl (List.mem_of_getElem? (i := 0) rfl))
  replace E_a1 := E_a1.wr W104
  replace F_a1_value := F_a1_value.other W104 (Or.inr (slot_ne (Or.inr (hw _ (List.mem_of_getElem? (i := 34) rfl))) (Or.inr (hw _ (List.mem_of_getElem? (i := 32) rfl))) (by decide) (t := (.array .byte)) (t' := .byte) (by decide) (by decide)))
  replace Va := Va.other W104 ne_ra_a1
  replace V97 := V97.other W104 (Ne.symm ne_a1_b97)
  have k109 : Rch p e below S0 T104 (mkF m 54 #[.val (.ref a1), .val (.ref ra), .val (.int (0 : Int32)), .val (.int (Int32.ofNat n)), .val .null, .val (.ref b97)] [(.ref b97), (.ref a1)]) := fun t h => k105 t (by
      show Steps p.tables e below (T104.setTop (mkF m 51 #[.val (.ref a1), .val (.ref ra), .val (.int (0 : Int32)), .val (.int (Int32.ofNat n)), .val .null, .val (.ref b97)] [])) _
      refine XS.aloadN X104.here hx rfl (hb hby d3_51) rfl rfl ?_
      show Steps p.tables e below (T104.setTop (mkF m 52 #[.val (.ref a1), .val (.ref ra), .val (.int (0 : Int32)), .val (.int (Int32.ofNat n)), .val .null, .val (.ref b97)] [(.ref a1)])) _
      refine XS.aload X104.here hx rfl (hb hby d3_52) rfl rfl ?_
      show Steps p.tables e below (T104.setTop (mkF m 54 #[.val (.ref a1), .val (.ref ra), .val (.int (0 : Int32)), .val (.int (Int32.ofNat n)), .val .null, .val (.ref b97)] [(.ref b97), (.ref a1)])) _
      exact h)
  obtain ⟨T108, h108, X108, e108, W108, st108⟩ := putF X104 hx hZ hown (host := "") (Or.inl (hw _ (List.mem_of_getElem? (i := 33) rfl))) Via.refl e104 F_a1_value E_a1 (Or.inr ⟨(hw _ (List.mem_of_getElem? (i := 34) rfl)), rfl, hnm⟩) (hw _ (List.mem_of_getElem? (i := 6) rfl)) (ty := (.array .byte)) (by decide) rfl rfl (g := (mkF m 54 #[.val (.ref a1), .val (.ref ra), .val (.int (0 : Int32)), .val (.int (Int32.ofNat n)), .val .null, .val (.ref b97)] [(.ref b97), (.ref a1)])) rfl rfl (hb hby d3_54)
  have k110 : Rch p e below S0 T108 (mkF m 57 #[.val (.ref a1), .val (.ref ra), .val (.int (0 : Int32)), .val (.int (Int32.ofNat n)), .val .null, .val (.ref b97)] []) := fun t h => k109 t (st108 t h)
  have N108 := Fr.snoc X108 N104 ge_a1
  replace F_a1_value := F_a1_value.same W108
  have O111 := O106.wr W108 ge_a1
  have K112 := K107.wr W108 (Or.inl (List.mem_of_getElem? (i := 0) rfl))
  replace E_a1 := E_a1.wr W108
  replace F_a1_coder := F_a1_coder.other W108 (Or.inr (slot_ne (Or.inr (hw _ (List.mem_of_getElem? (i := 32) rfl))) (Or.inr (hw _ (List.mem_of_getElem? (i := 34) rfl))) (by decide) (t := .byte) (t' := (.array .byte)) (by decide) (by decide)))
  replace Va := Va.other W108 ne_ra_a1
  replace V97 := V97.other W108 (Ne.symm ne_a1_b97)
  obtain ⟨fs, hr, hrun, hended, hW, hsame⟩ := X108.leave (v := none) (fun _ => rfl)
  refine ⟨_, _, ?_, hrun, hended, _, _, rfl, ?_, ⟨_, rfl⟩, hW, hsame.mono (by decide) (by decide)⟩
  · rw [← hS0]
    refine k110 _ ?_
    show Steps p.tables e below (T108.setTop (mkF m 57 #[.val (.ref a1), .val (.ref ra), .val (.int (0 : Int32)), .val (.int (Int32.ofNat n)), .val .null, .val (.ref b97)] [])) _
    exact X108.returnOut hx Bd.returns (hb hby d3_57) hr
  · show Q_rmU4 Z a1 n h0 n0 _ T108.heap _
    rw [e108]
    exact ⟨rfl, N108, K112, _, _, _, F_a1_value, F_a1_coder, V97⟩
def Q_rmU1 (Z : State) (a1 : Addr) (n : Nat) (h0 : Heap) (n0 : Nat) (v : Option Value) (h : Heap) (L : List Loc) : Prop := v = none ∧ Fr n0 L ∧ Keep h0 h [a1] ∧ ∃ t kt vs, Fld Z h a1 "java/lang/String" "value" "[B" (.ref t) ∧ Fld Z h a1 "java/lang/String" "coder" "B" (.int (1 : Int32)) ∧ Arv Z h t kt .byte (Int32.ofNat (2 * n)) vs (.int (0 : Int32))
theorem ef_2 (m : MethodId) (x0 : Addr) (x1 : Addr) : entryFrame m #[(.ref x0), (.ref x1)] 2 = mkF m 0 #[.val (.ref x0), .val (.ref x1)] [] := by first | (simp [entryFrame, mkF, argsToLocals, Value.category]; done) | rfl
theorem d2_0 : decode jdk_42_method_3_code 0 = .ok (.aload_n 0, 1) := by decide +kernel
theorem d2_1 : decode jdk_42_method_3_code 1 = .ok (.aload_n 1, 1) := by decide +kernel
theorem d2_2 : decode jdk_42_method_3_code 2 = .ok (.iconst 0, 1) := by decide +kernel
theorem d2_3 : decode jdk_42_method_3_code 3 = .ok (.aload_n 1, 1) := by decide +kernel
theorem d2_4 : decode jdk_42_method_3_code 4 = .ok (.arraylength, 1) := by decide +kernel
theorem d2_5 : decode jdk_42_method_3_code 5 = .ok (.aconst_null, 1) := by decide +kernel
theorem pd_2 : parseMethodDescriptor "([CIILjava/lang/Void;)V" = some ⟨[(.array .char), .int, .int, (.object "java/lang/Void")], none⟩ := by decide +kernel
theorem d2_6 : decode jdk_42_method_3_code 6 = .ok (.invokespecial 27, 3) := by decide +kernel
theorem d2_9 : decode jdk_42_method_3_code 9 = .ok (.return_, 1) := by decide +kernel
set_option maxRecDepth 65536 in
set_option maxHeartbeats 40000000 in
theorem rmU1 (l : Launch) (Z : State) (a0 : Array Value) (hw : ∀ d ∈ tables_1, d.before a0 Z = true) (ws : List Jvm.Cond) (a1 : Addr) (ra : Addr) (ka : ClassId) (n : Nat) (cs : List Int32) (k : Nat) (zC : Int32) (h0 : Heap) (n0 : Nat) (O0 : Old Z n0 h0) (SAs : Sta Z Z.heap "java/lang/StringUTF16" "$assertionsDisabled" "Z" (.int (1 : Int32))) (SHi : Sta Z Z.heap "java/lang/StringUTF16" "HI_BYTE_SHIFT" "I" (.int (0 : Int32))) (SLo : Sta Z Z.heap "java/lang/StringUTF16" "LO_BYTE_SHIFT" "I" (.int (8 : Int32))) (SC : Sta Z Z.heap "java/lang/String" "COMPACT_STRINGS" "Z" (.int zC)) (hzC : ¬ zC = 0) (hn : n ≤ 4) (hl : cs.length = n) (hk : k < n) (hlow : ∀ i, i < k → ¬ (255 : Int32) < cs.getD i 0) (hhigh : (255 : Int32) < cs.getD k 0) (hp : ∀ c ∈ cs, ¬ c < 0 ∧ ¬ (65535 : Int32) < c) (ge_a1 : n0 ≤ a1) (E_a1 : Exa Z h0 a1 "java/lang/String") (F_a1_value : Fld Z h0 a1 "java/lang/String" "value" "[B" .null) (F_a1_coder : Fld Z h0 a1 "java/lang/String" "coder" "B" (.int (0 : Int32))) (ne_ra_a1 : ra ≠ a1) (Va : Arv Z h0 ra ka .char (Int32.ofNat n) (cs.map Value.int) (.int (0 : Int32))) :
    MetFree l (⟨"java/lang/String", "<init>", "([C)V"⟩ : MethodName) (head1 (Jvm.Cond.code (⟨"java/lang/String", "<init>", "([C)V"⟩ : MethodName) jdk_42_method_3_code 2 none :: ws) ({ frames := 5, cells := 2, slots := 12, locals := 170 } : Room)) (fun a U => a = #[(.ref a1), (.ref ra)] ∧ Z.Warmed39 U.vm ∧ U.heap = h0) (fun _ _ _ _ _ => True) (fun _ U o U' => ∃ v L, o = .returned v ∧ Q_rmU1 Z a1 n h0 n0 v U'.heap L ∧ FrameEnd U o U' L ({ frames := 5, cells := 2, slots := 12, locals := 170 } : Room).cells ({ frames := 5, cells := 2, slots := 12, locals := 170 } : Room).slots) := by
  refine MetFree.of_bodySF (plainFor_of_name pn_String) hisR ?_
  intro p e s m args below meth c s₁ Bd hml0 hP hK
  obtain ⟨rfl, hZ, hh⟩ := hP
  have hx := Bd.exec
  have hby := Bd.bytes
  have hml : c.maxLocals = 2 := hml0
  have hown : s.vm.findClass "java/lang/String" = some m.cls := findClass_of_methodNamed Bd.named
  have hnm := (name_of_methodNamed Bd.named Bd.method).1
  have X0 : Stand p l e ({ frames := 5, cells := 2, slots := 12, locals := 170 } : Room) s m #[(.ref a1), (.ref ra)] below meth c s₁ [] 0 0 := Stand.of_body Bd
  have e0 : s₁.heap = h0 := by rw [← hh, Bd.state]; rfl
  have N0 := Fr.nil n0
  obtain ⟨S0, hS0⟩ : ∃ z, z = s₁.setTop (entryFrame m #[(.ref a1), (.ref ra)] 2) := ⟨_, rfl⟩
  have k0 : Rch p e below S0 s₁ (mkF m 0 #[.val (.ref a1), .val (.ref ra)] []) := fun t kq => hS0 ▸ castTop (ef_2 m a1 ra) kq
  have K0 : Keep h0 h0 [a1] := Keep.refl h0 _
  have k114 : Rch p e below S0 s₁ (mkF m 4 #[.val (.ref a1), .val (.ref ra)] [(.ref ra), (.int (0 : Int32)), (.ref ra), (.ref a1)]) := fun t h => k0 t (by
      show Steps p.tables e below (s₁.setTop (mkF m 0 #[.val (.ref a1), .val (.ref ra)] [])) _
      refine XS.aloadN X0.here hx rfl (hb hby d2_0) rfl rfl ?_
      show Steps p.tables e below (s₁.setTop (mkF m 1 #[.val (.ref a1), .val (.ref ra)] [(.ref a1)])) _
      refine XS.aloadN X0.here hx rfl (hb hby d2_1) rfl rfl ?_
      show Steps p.tables e below (s₁.setTop (mkF m 2 #[.val (.ref a1), .val (.ref ra)] [(.ref ra), (.ref a1)])) _
      refine XS.iconst X0.here hx rfl (hb hby d2_2) ?_
      show Steps p.tables e below (s₁.setTop (mkF m 3 #[.val (.ref a1), .val (.ref ra)] [(.int (0 : Int32)), (.ref ra), (.ref a1)])) _
      refine XS.aloadN X0.here hx rfl (hb hby d2_3) rfl rfl ?_
      show Steps p.tables e below (s₁.setTop (mkF m 4 #[.val (.ref a1), .val (.ref ra)] [(.ref ra), (.int (0 : Int32)), (.ref ra), (.ref a1)])) _
      exact h)
  obtain ⟨cl113, Ar113, q113, Sz113, Ng113, Hs113, G113⟩ := id Va
  have k115 : Rch p e below S0 s₁ (mkF m 6 #[.val (.ref a1), .val (.ref ra)] [.null, (.int (Int32.ofNat n)), (.int (0 : Int32)), (.ref ra), (.ref a1)]) := fun t h => k114 t (by
      show Steps p.tables e below (s₁.setTop (mkF m 4 #[.val (.ref a1), .val (.ref ra)] [(.ref ra), (.int (0 : Int32)), (.ref ra), (.ref a1)])) _
      refine X0.arraylength hx (by rw [e0]; exact Ar113.1) (State.isArrayOf_alike hZ.alike Ar113.2.1) (g := (mkF m 4 #[.val (.ref a1), .val (.ref ra)] [(.ref ra), (.int (0 : Int32)), (.ref ra), (.ref a1)])) rfl rfl (hb hby d2_4) _ ?_
      rw [len_of Sz113 Ng113]
      show Steps p.tables e below (s₁.setTop (mkF m 5 #[.val (.ref a1), .val (.ref ra)] [(.int (Int32.ofNat n)), (.int (0 : Int32)), (.ref ra), (.ref a1)])) _
      refine XS.aconstNull X0.here hx rfl (hb hby d2_5) ?_
      show Steps p.tables e below (s₁.setTop (mkF m 6 #[.val (.ref a1), .val (.ref ra)] [.null, (.int (Int32.ofNat n)), (.int (0 : Int32)), (.ref ra), (.ref a1)])) _
      exact h)
  obtain ⟨_, _, ⟨T116, L116, kk116, n116⟩, -, X116, ⟨Lc116, hQ116, l116, y116, z116⟩, st116⟩ := X0.specialBack hx (y := (⟨"java/lang/String", "<init>", "([CIILjava/lang/Void;)V"⟩ : MethodName)) rfl hown (mvT hZ (hw _ (List.mem_of_getElem? (i := 12) rfl))) (mvT hZ (hw _ (List.mem_of_getElem? (i := 13) rfl))) (mvT hZ (hw _ (List.mem_of_getElem? (i := 15) rfl))) (by decide) (backOf (W := 0) (rmU4 l Z a0 hw [] a1 ra ka n cs k zC h0 n0 O0 SAs SHi SLo SC hzC hn hl hk hlow hhigh hp ge_a1 E_a1 F_a1_value F_a1_coder ne_ra_a1 Va) hZ (hw _ (List.mem_of_getElem? (i := 15) rfl)) (hw _ (List.mem_of_getElem? (i := 7) rfl)) (by decide) (by decide)) (g := (mkF m 6 #[.val (.ref a1), .val (.ref ra)] [.null, (.int (Int32.ofNat n)), (.int (0 : Int32)), (.ref ra), (.ref a1)])) rfl (by rw [hml]; rfl) (Steps.refl _) (a := a1) (argsL := [(.ref ra), (.int (0 : Int32)), (.int (Int32.ofNat n)), .null]) (rest := []) (lenOf pd_2 rfl) rfl (by show 2 * 0 + _ ≤ _; exact Nat.le_of_eq rfl) (hb hby d2_6) (fun _ _ => ⟨rfl, e0, (by decide : 0 + 2 ≤ _), (by decide : 0 + 12 ≤ _)⟩)
  dsimp only [Pt.U, Pt.locs, Pt.cells, Pt.slots] at X116 l116 y116 z116 st116 hQ116
  subst l116 y116 z116
  obtain ⟨rfl, Nq116, K116, t116, kt116, vs116, Fv116, Fc116, At116⟩ := hQ116
  have N116 := Fr.app N0 Nq116
  have k117 : Rch p e below S0 T116 (mkF m 9 #[.val (.ref a1), .val (.ref ra)] []) := fun t h => k115 t (st116.trans h)
  have O118 := O0.keep K116 (allS ge_a1 all0)
  have K119 := K0.trans K116 (allS (Or.inl (List.mem_of_getElem? (i := 0) rfl)) all0)
  replace E_a1 := E_a1.keep K116
  replace Va := Va.keep K116 (ninS ne_ra_a1 nin0)
  obtain ⟨fs, hr, hrun, hended, hW, hsame⟩ := X116.leave (v := none) (fun _ => rfl)
  refine ⟨_, _, ?_, hrun, hended, _, _, rfl, ?_, ⟨_, rfl⟩, hW, hsame.mono (by decide) (by decide)⟩
  · rw [← hS0]
    refine k117 _ ?_
    show Steps p.tables e below (T116.setTop (mkF m 9 #[.val (.ref a1), .val (.ref ra)] [])) _
    exact X116.returnOut hx Bd.returns (hb hby d2_9) hr
  · show Q_rmU1 Z a1 n h0 n0 _ T116.heap _
    exact ⟨rfl, N116, K119, _, _, _, Fv116, Fc116, At116⟩
def Q_rmCE (Z : State)  (h0 : Heap) (n0 : Nat) (v : Option Value) (h : Heap) (L : List Loc) : Prop := v = some (.int (1 : Int32)) ∧ Fr n0 L ∧ h = h0
theorem ef_9 (m : MethodId) (x0 : Int32) : entryFrame m #[(.int x0)] 1 = mkF m 0 #[.val (.int x0)] [] := by first | (simp [entryFrame, mkF, argsToLocals, Value.category]; done) | rfl
theorem pn_StringLatin1 : plainName "java/lang/StringLatin1" = true := by first | (simp [plainName, overriddenIn]; done) | decide +kernel
theorem d9_0 : decode jdk_43_method_3_code 0 = .ok (.iload_n 0, 1) := by decide +kernel
theorem d9_1 : decode jdk_43_method_3_code 1 = .ok (.sipush 255, 3) := by decide +kernel
theorem d9_4 : decode jdk_43_method_3_code 4 = .ok (.if_icmp .gt 7, 3) := by decide +kernel
theorem d9_7 : decode jdk_43_method_3_code 7 = .ok (.iconst 1, 1) := by decide +kernel
theorem d9_8 : decode jdk_43_method_3_code 8 = .ok (.goto 4, 3) := by decide +kernel
theorem d9_12 : decode jdk_43_method_3_code 12 = .ok (.ireturn, 1) := by decide +kernel
set_option maxRecDepth 65536 in
set_option maxHeartbeats 40000000 in
theorem rmCE (l : Launch) (Z : State) (a0 : Array Value) (hw : ∀ d ∈ tables_1, d.before a0 Z = true) (ws : List Jvm.Cond) (p1 : Int32) (h0 : Heap) (n0 : Nat) (O0 : Old Z n0 h0) (hq : ¬ ((255 : Int32) < p1)) :
    MetFree l (⟨"java/lang/StringLatin1", "canEncode", "(C)Z"⟩ : MethodName) (head1 (Jvm.Cond.code (⟨"java/lang/StringLatin1", "canEncode", "(C)Z"⟩ : MethodName) jdk_43_method_3_code 1 (some .boolean) :: ws) ({ frames := 0, cells := 0, slots := 0, locals := 0 } : Room)) (fun a U => a = #[(.int p1)] ∧ Z.Warmed39 U.vm ∧ U.heap = h0) (fun _ _ _ _ _ => True) (fun _ U o U' => ∃ v L, o = .returned v ∧ Q_rmCE Z  h0 n0 v U'.heap L ∧ FrameEnd U o U' L ({ frames := 0, cells := 0, slots := 0, locals := 0 } : Room).cells ({ frames := 0, cells := 0, slots := 0, locals := 0 } : Room).slots) := by
  refine MetFree.of_bodySF (plainFor_of_name pn_StringLatin1) hisR ?_
  intro p e s m args below meth c s₁ Bd hml0 hP hK
  obtain ⟨rfl, hZ, hh⟩ := hP
  have hx := Bd.exec
  have hby := Bd.bytes
  have hml : c.maxLocals = 1 := hml0
  have hown : s.vm.findClass "java/lang/StringLatin1" = some m.cls := findClass_of_methodNamed Bd.named
  have hnm := (name_of_methodNamed Bd.named Bd.method).1
  have X0 : Stand p l e ({ frames := 0, cells := 0, slots := 0, locals := 0 } : Room) s m #[(.int p1)] below meth c s₁ [] 0 0 := Stand.of_body Bd
  have e0 : s₁.heap = h0 := by rw [← hh, Bd.state]; rfl
  have N0 := Fr.nil n0
  obtain ⟨S0, hS0⟩ : ∃ z, z = s₁.setTop (entryFrame m #[(.int p1)] 1) := ⟨_, rfl⟩
  have k0 : Rch p e below S0 s₁ (mkF m 0 #[.val (.int p1)] []) := fun t kq => hS0 ▸ castTop (ef_9 m p1) kq
  have k120 : Rch p e below S0 s₁ (mkF m 12 #[.val (.int p1)] [(.int (1 : Int32))]) := fun t h => k0 t (by
      show Steps p.tables e below (s₁.setTop (mkF m 0 #[.val (.int p1)] [])) _
      refine XS.iloadN X0.here hx rfl (hb hby d9_0) rfl ?_
      show Steps p.tables e below (s₁.setTop (mkF m 1 #[.val (.int p1)] [(.int p1)])) _
      refine XS.sipush X0.here hx rfl (hb hby d9_1) ?_
      show Steps p.tables e below (s₁.setTop (mkF m 4 #[.val (.int p1)] [(.int (255 : Int32)), (.int p1)])) _
      refine XS.icmpNo X0.here hx rfl (hb hby d9_4) rfl (flt (hq : ¬ ((255 : Int32) < p1))).2.2.1 ?_
      show Steps p.tables e below (s₁.setTop (mkF m 7 #[.val (.int p1)] [])) _
      refine XS.iconst X0.here hx rfl (hb hby d9_7) ?_
      show Steps p.tables e below (s₁.setTop (mkF m 8 #[.val (.int p1)] [(.int (1 : Int32))])) _
      refine XS.goto X0.here hx rfl (pc0 := 8) (pc' := 12) rfl (hb hby d9_8) (by decide) (by decide) ?_
      show Steps p.tables e below (s₁.setTop (mkF m 12 #[.val (.int p1)] [(.int (1 : Int32))])) _
      exact h)
  obtain ⟨fs, hr, hrun, hended, hW, hsame⟩ := X0.leave (v := (some (.int (1 : Int32)))) (fun h => by rw [Bd.returns] at h; cases h)
  refine ⟨_, _, ?_, hrun, hended, _, _, rfl, ?_, ⟨_, rfl⟩, hW, hsame.mono (by decide) (by decide)⟩
  · rw [← hS0]
    refine k120 _ ?_
    show Steps p.tables e below (s₁.setTop (mkF m 12 #[.val (.int p1)] [(.int (1 : Int32))])) _
    exact retN X0 hx (t := .boolean) Bd.returns (by simp) (hb hby d9_12) hr
  · show Q_rmCE Z  h0 n0 _ s₁.heap _
    rw [e0]
    exact ⟨rfl, N0, rfl⟩
def Q_rmTB (Z : State) (p1 : Int32) (h0 : Heap) (n0 : Nat) (v : Option Value) (h : Heap) (L : List Loc) : Prop := ∃ x kx, v = some (.ref x) ∧ Fr n0 L ∧ Ext h0 h ∧ h0.size ≤ x ∧ Arv Z h x kx .byte (1 : Int32) [.int (nar .byte (p1.toInt8.toInt32))] (.int (0 : Int32))
theorem ef_10 (m : MethodId) (x0 : Int32) : entryFrame m #[(.int x0)] 1 = mkF m 0 #[.val (.int x0)] [] := by first | (simp [entryFrame, mkF, argsToLocals, Value.category]; done) | rfl
theorem d10_0 : decode jdk_43_method_46_code 0 = .ok (.iconst 1, 1) := by decide +kernel
theorem d10_1 : decode jdk_43_method_46_code 1 = .ok (.newarray .byte, 2) := by decide +kernel
theorem d10_3 : decode jdk_43_method_46_code 3 = .ok (.dup, 1) := by decide +kernel
theorem d10_4 : decode jdk_43_method_46_code 4 = .ok (.iconst 0, 1) := by decide +kernel
theorem d10_5 : decode jdk_43_method_46_code 5 = .ok (.iload_n 0, 1) := by decide +kernel
theorem d10_6 : decode jdk_43_method_46_code 6 = .ok (.i2b, 1) := by decide +kernel
theorem d10_7 : decode jdk_43_method_46_code 7 = .ok (.bastore, 1) := by decide +kernel
theorem d10_8 : decode jdk_43_method_46_code 8 = .ok (.areturn, 1) := by decide +kernel
set_option maxRecDepth 65536 in
set_option maxHeartbeats 40000000 in
theorem rmTB (l : Launch) (Z : State) (a0 : Array Value) (hw : ∀ d ∈ tables_1, d.before a0 Z = true) (ws : List Jvm.Cond) (p1 : Int32) (h0 : Heap) (n0 : Nat) (O0 : Old Z n0 h0) :
    MetFree l (⟨"java/lang/StringLatin1", "toBytes", "(C)[B"⟩ : MethodName) (head1 (Jvm.Cond.code (⟨"java/lang/StringLatin1", "toBytes", "(C)[B"⟩ : MethodName) jdk_43_method_46_code 1 (some (.array .byte)) :: ws) ({ frames := 0, cells := 1, slots := 1, locals := 0 } : Room)) (fun a U => a = #[(.int p1)] ∧ Z.Warmed39 U.vm ∧ U.heap = h0) (fun _ _ _ _ _ => True) (fun _ U o U' => ∃ v L, o = .returned v ∧ Q_rmTB Z p1 h0 n0 v U'.heap L ∧ FrameEnd U o U' L ({ frames := 0, cells := 1, slots := 1, locals := 0 } : Room).cells ({ frames := 0, cells := 1, slots := 1, locals := 0 } : Room).slots) := by
  refine MetFree.of_bodySF (plainFor_of_name pn_StringLatin1) hisR ?_
  intro p e s m args below meth c s₁ Bd hml0 hP hK
  obtain ⟨rfl, hZ, hh⟩ := hP
  have hx := Bd.exec
  have hby := Bd.bytes
  have hml : c.maxLocals = 1 := hml0
  have hown : s.vm.findClass "java/lang/StringLatin1" = some m.cls := findClass_of_methodNamed Bd.named
  have hnm := (name_of_methodNamed Bd.named Bd.method).1
  have X0 : Stand p l e ({ frames := 0, cells := 1, slots := 1, locals := 0 } : Room) s m #[(.int p1)] below meth c s₁ [] 0 0 := Stand.of_body Bd
  have e0 : s₁.heap = h0 := by rw [← hh, Bd.state]; rfl
  have N0 := Fr.nil n0
  obtain ⟨S0, hS0⟩ : ∃ z, z = s₁.setTop (entryFrame m #[(.int p1)] 1) := ⟨_, rfl⟩
  have k0 : Rch p e below S0 s₁ (mkF m 0 #[.val (.int p1)] []) := fun t kq => hS0 ▸ castTop (ef_10 m p1) kq
  have K0 : Keep h0 h0 [] := Keep.refl h0 _
  have k122 : Rch p e below S0 s₁ (mkF m 1 #[.val (.int p1)] [(.int (1 : Int32))]) := fun t h => k0 t (by
      show Steps p.tables e below (s₁.setTop (mkF m 0 #[.val (.int p1)] [])) _
      refine XS.iconst X0.here hx rfl (hb hby d10_0) ?_
      show Steps p.tables e below (s₁.setTop (mkF m 1 #[.val (.int p1)] [(.int (1 : Int32))])) _
      exact h)
  obtain ⟨T121, h121, k121, X121, e121, E121, A121, st121⟩ := newP X0 hx hZ (hw _ (List.mem_of_getElem? (i := 24) rfl)) e0 (g := (mkF m 1 #[.val (.int p1)] [(.int (1 : Int32))])) rfl (hb hby d10_1) rfl (by decide) (cap := 1) (by decide) (by decide) (by decide) (by decide)
  obtain ⟨b121, g121⟩ : ∃ z, z = h0.size := ⟨_, rfl⟩
  rw [← g121] at A121 st121
  have k123 : Rch p e below S0 T121 (mkF m 3 #[.val (.int p1)] [(.ref b121)]) := fun t h => k122 t (st121 t h)
  have ge_b121 : n0 ≤ b121 := own_ge O0 (Nat.le_of_eq g121.symm)
  have sz_b121 : h0.size ≤ b121 := Nat.le_trans K0.1 (Nat.le_of_eq g121.symm)
  have O124 := O0.ext E121
  have K125 := K0.ext E121
  have V_b121 : Arv Z h121 b121 k121 .byte (1 : Int32) [(.int (0 : Int32))] (.int (0 : Int32)) := (Arv.new A121 (by decide)).pad (pad_rep [] (.int (0 : Int32)) 1)
  have k127 : Rch p e below S0 T121 (mkF m 7 #[.val (.int p1)] [(.int (p1.toInt8.toInt32)), (.int (0 : Int32)), (.ref b121), (.ref b121)]) := fun t h => k123 t (by
      show Steps p.tables e below (T121.setTop (mkF m 3 #[.val (.int p1)] [(.ref b121)])) _
      refine XS.dup X121.here hx rfl (hb hby d10_3) rfl rfl ?_
      show Steps p.tables e below (T121.setTop (mkF m 4 #[.val (.int p1)] [(.ref b121), (.ref b121)])) _
      refine XS.iconst X121.here hx rfl (hb hby d10_4) ?_
      show Steps p.tables e below (T121.setTop (mkF m 5 #[.val (.int p1)] [(.int (0 : Int32)), (.ref b121), (.ref b121)])) _
      refine XS.iloadN X121.here hx rfl (hb hby d10_5) rfl ?_
      show Steps p.tables e below (T121.setTop (mkF m 6 #[.val (.int p1)] [(.int p1), (.int (0 : Int32)), (.ref b121), (.ref b121)])) _
      refine XS.i2b X121.here hx rfl (hb hby d10_6) rfl ?_
      show Steps p.tables e below (T121.setTop (mkF m 7 #[.val (.int p1)] [(.int (p1.toInt8.toInt32)), (.int (0 : Int32)), (.ref b121), (.ref b121)])) _
      exact h)
  obtain ⟨cl126, Ar126, q126, Sz126, Ng126, Hs126, G126⟩ := id V_b121
  have hin126 : ¬ ((0 : Int32) < 0 ∨ cl126.slots.size ≤ ((0 : Int32)).toNatClampNeg) := inb_of Sz126 ⟨by decide, by decide⟩
  obtain ⟨T126, h126, X126, e126, W126, st126⟩ := stB X121 hx hZ e121 Ar126 (j := (0 : Int32)) hin126 (g := (mkF m 7 #[.val (.int p1)] [(.int (p1.toInt8.toInt32)), (.int (0 : Int32)), (.ref b121), (.ref b121)])) rfl rfl (hb hby d10_7)
  have k128 : Rch p e below S0 T126 (mkF m 8 #[.val (.int p1)] [(.ref b121)]) := fun t h => k127 t (st126 t h)
  have N126 := Fr.snoc X126 N0 ge_b121
  have V_b121' := Arv.set Ar126 q126 Sz126 Ng126 Hs126 G126 (fits_nar_byte _) W126 0 rfl (Nat.le_of_ble_eq_true rfl)
  replace V_b121 : Arv Z h126 b121 k121 .byte (1 : Int32) [(.int (nar .byte (p1.toInt8.toInt32)))] (.int (0 : Int32)) := V_b121'
  have O129 := O124.wr W126 ge_b121
  have K130 := K125.wr W126 (Or.inr sz_b121)
  obtain ⟨fs, hr, hrun, hended, hW, hsame⟩ := X126.leave (v := (some (.ref b121))) (fun h => by rw [Bd.returns] at h; cases h)
  refine ⟨_, _, ?_, hrun, hended, _, _, rfl, ?_, ⟨_, rfl⟩, hW, hsame.mono (by decide) (by decide)⟩
  · rw [← hS0]
    refine k128 _ ?_
    show Steps p.tables e below (T126.setTop (mkF m 8 #[.val (.int p1)] [(.ref b121)])) _
    jvm_step X126.here [X126.here.top, hx, (hb hby d10_8), X126.method', Bd.returns, Value.isRef, FieldType.isReference]
    first | (intro acts; rw [hr _ acts rfl rfl rfl]) | rw [hr _ _ rfl rfl rfl]
    exact Steps.refl _
  · show Q_rmTB Z p1 h0 n0 _ T126.heap _
    rw [e126]
    exact ⟨b121, k121, rfl, N126, own_ext K130, sz_b121, V_b121⟩
def Q_rmBB (Z : State) (a1 : Addr) (a2 : Addr) (h0 : Heap) (n0 : Nat) (v : Option Value) (h : Heap) (L : List Loc) : Prop := v = none ∧ Fr n0 L ∧ Keep h0 h [a1] ∧ Fld Z h a1 "java/lang/String" "value" "[B" (.ref a2) ∧ Fld Z h a1 "java/lang/String" "coder" "B" (.int (0 : Int32))
theorem ef_11 (m : MethodId) (x0 : Addr) (x1 : Addr) (x2 : Int32) : entryFrame m #[(.ref x0), (.ref x1), (.int x2)] 3 = mkF m 0 #[.val (.ref x0), .val (.ref x1), .val (.int x2)] [] := by first | (simp [entryFrame, mkF, argsToLocals, Value.category]; done) | rfl
theorem d11_0 : decode jdk_42_method_151_code 0 = .ok (.aload_n 0, 1) := by decide +kernel
theorem d11_1 : decode jdk_42_method_151_code 1 = .ok (.invokespecial 1, 3) := by decide +kernel
theorem d11_4 : decode jdk_42_method_151_code 4 = .ok (.aload_n 0, 1) := by decide +kernel
theorem d11_5 : decode jdk_42_method_151_code 5 = .ok (.aload_n 1, 1) := by decide +kernel
theorem d11_6 : decode jdk_42_method_151_code 6 = .ok (.putfield 9, 3) := by decide +kernel
theorem d11_9 : decode jdk_42_method_151_code 9 = .ok (.aload_n 0, 1) := by decide +kernel
theorem d11_10 : decode jdk_42_method_151_code 10 = .ok (.iload_n 2, 1) := by decide +kernel
theorem d11_11 : decode jdk_42_method_151_code 11 = .ok (.putfield 15, 3) := by decide +kernel
theorem d11_14 : decode jdk_42_method_151_code 14 = .ok (.return_, 1) := by decide +kernel
set_option maxRecDepth 65536 in
set_option maxHeartbeats 40000000 in
theorem rmBB (l : Launch) (Z : State) (a0 : Array Value) (hw : ∀ d ∈ tables_1, d.before a0 Z = true) (ws : List Jvm.Cond) (a1 : Addr) (a2 : Addr) (h0 : Heap) (n0 : Nat) (O0 : Old Z n0 h0) (ge_a1 : n0 ≤ a1) (E_a1 : Exa Z h0 a1 "java/lang/String") (F_a1_value : Fld Z h0 a1 "java/lang/String" "value" "[B" .null) (F_a1_coder : Fld Z h0 a1 "java/lang/String" "coder" "B" (.int (0 : Int32))) :
    MetFree l (⟨"java/lang/String", "<init>", "([BB)V"⟩ : MethodName) (head1 (Jvm.Cond.code (⟨"java/lang/String", "<init>", "([BB)V"⟩ : MethodName) jdk_42_method_151_code 3 none :: ws) ({ frames := 1, cells := 0, slots := 0, locals := 24 } : Room)) (fun a U => a = #[(.ref a1), (.ref a2), (.int (0 : Int32))] ∧ Z.Warmed39 U.vm ∧ U.heap = h0) (fun _ _ _ _ _ => True) (fun _ U o U' => ∃ v L, o = .returned v ∧ Q_rmBB Z a1 a2 h0 n0 v U'.heap L ∧ FrameEnd U o U' L ({ frames := 1, cells := 0, slots := 0, locals := 24 } : Room).cells ({ frames := 1, cells := 0, slots := 0, locals := 24 } : Room).slots) := by
  refine MetFree.of_bodySF (plainFor_of_name pn_String) hisR ?_
  intro p e s m args below meth c s₁ Bd hml0 hP hK
  obtain ⟨rfl, hZ, hh⟩ := hP
  have hx := Bd.exec
  have hby := Bd.bytes
  have hml : c.maxLocals = 3 := hml0
  have hown : s.vm.findClass "java/lang/String" = some m.cls := findClass_of_methodNamed Bd.named
  have hnm := (name_of_methodNamed Bd.named Bd.method).1
  have X0 : Stand p l e ({ frames := 1, cells := 0, slots := 0, locals := 24 } : Room) s m #[(.ref a1), (.ref a2), (.int (0 : Int32))] below meth c s₁ [] 0 0 := Stand.of_body Bd
  have e0 : s₁.heap = h0 := by rw [← hh, Bd.state]; rfl
  have N0 := Fr.nil n0
  obtain ⟨S0, hS0⟩ : ∃ z, z = s₁.setTop (entryFrame m #[(.ref a1), (.ref a2), (.int (0 : Int32))] 3) := ⟨_, rfl⟩
  have k0 : Rch p e below S0 s₁ (mkF m 0 #[.val (.ref a1), .val (.ref a2), .val (.int (0 : Int32))] []) := fun t kq => hS0 ▸ castTop (ef_11 m a1 a2 (0 : Int32)) kq
  have K0 : Keep h0 h0 [a1] := Keep.refl h0 _
  have k132 : Rch p e below S0 s₁ (mkF m 1 #[.val (.ref a1), .val (.ref a2), .val (.int (0 : Int32))] [(.ref a1)]) := fun t h => k0 t (by
      show Steps p.tables e below (s₁.setTop (mkF m 0 #[.val (.ref a1), .val (.ref a2), .val (.int (0 : Int32))] [])) _
      refine XS.aloadN X0.here hx rfl (hb hby d11_0) rfl rfl ?_
      show Steps p.tables e below (s₁.setTop (mkF m 1 #[.val (.ref a1), .val (.ref a2), .val (.int (0 : Int32))] [(.ref a1)])) _
      exact h)
  obtain ⟨T131, X131, e131, st131⟩ := initO X0 hx hZ hown (hw _ (List.mem_of_getElem? (i := 16) rfl)) (hw _ (List.mem_of_getElem? (i := 17) rfl)) (hw _ (List.mem_of_getElem? (i := 18) rfl)) e0 (g := (mkF m 1 #[.val (.ref a1), .val (.ref a2), .val (.int (0 : Int32))] [(.ref a1)])) rfl (by rw [hml]; rfl) rfl (hb hby d11_1) (by decide) (W := 0) (by show 2 * 0 + _ ≤ _; exact Nat.le_of_eq rfl) (by decide)
  have k133 : Rch p e below S0 T131 (mkF m 4 #[.val (.ref a1), .val (.ref a2), .val (.int (0 : Int32))] []) := fun t h => k132 t (st131 t h)
  have k135 : Rch p e below S0 T131 (mkF m 6 #[.val (.ref a1), .val (.ref a2), .val (.int (0 : Int32))] [(.ref a2), (.ref a1)]) := fun t h => k133 t (by
      show Steps p.tables e below (T131.setTop (mkF m 4 #[.val (.ref a1), .val (.ref a2), .val (.int (0 : Int32))] [])) _
      refine XS.aloadN X131.here hx rfl (hb hby d11_4) rfl rfl ?_
      show Steps p.tables e below (T131.setTop (mkF m 5 #[.val (.ref a1), .val (.ref a2), .val (.int (0 : Int32))] [(.ref a1)])) _
      refine XS.aloadN X131.here hx rfl (hb hby d11_5) rfl rfl ?_
      show Steps p.tables e below (T131.setTop (mkF m 6 #[.val (.ref a1), .val (.ref a2), .val (.int (0 : Int32))] [(.ref a2), (.ref a1)])) _
      exact h)
  obtain ⟨T134, h134, X134, e134, W134, st134⟩ := putF X131 hx hZ hown (host := "") (Or.inl (hw _ (List.mem_of_getElem? (i := 33) rfl))) Via.refl e131 F_a1_value E_a1 (Or.inr ⟨(hw _ (List.mem_of_getElem? (i := 34) rfl)), rfl, hnm⟩) (hw _ (List.mem_of_getElem? (i := 6) rfl)) (ty := (.array .byte)) (by decide) rfl rfl (g := (mkF m 6 #[.val (.ref a1), .val (.ref a2), .val (.int (0 : Int32))] [(.ref a2), (.ref a1)])) rfl rfl (hb hby d11_6)
  have k136 : Rch p e below S0 T134 (mkF m 9 #[.val (.ref a1), .val (.ref a2), .val (.int (0 : Int32))] []) := fun t h => k135 t (st134 t h)
  have N134 := Fr.snoc X134 N0 ge_a1
  replace F_a1_value := F_a1_value.same W134
  have O137 := O0.wr W134 ge_a1
  have K138 := K0.wr W134 (Or.inl (List.mem_of_getElem? (i := 0) rfl))
  replace E_a1 := E_a1.wr W134
  replace F_a1_coder := F_a1_coder.other W134 (Or.inr (slot_ne (Or.inr (hw _ (List.mem_of_getElem? (i := 32) rfl))) (Or.inr (hw _ (List.mem_of_getElem? (i := 34) rfl))) (by decide) (t := .byte) (t' := (.array .byte)) (by decide) (by decide)))
  have k140 : Rch p e below S0 T134 (mkF m 11 #[.val (.ref a1), .val (.ref a2), .val (.int (0 : Int32))] [(.int (0 : Int32)), (.ref a1)]) := fun t h => k136 t (by
      show Steps p.tables e below (T134.setTop (mkF m 9 #[.val (.ref a1), .val (.ref a2), .val (.int (0 : Int32))] [])) _
      refine XS.aloadN X134.here hx rfl (hb hby d11_9) rfl rfl ?_
      show Steps p.tables e below (T134.setTop (mkF m 10 #[.val (.ref a1), .val (.ref a2), .val (.int (0 : Int32))] [(.ref a1)])) _
      refine XS.iloadN X134.here hx rfl (hb hby d11_10) rfl ?_
      show Steps p.tables e below (T134.setTop (mkF m 11 #[.val (.ref a1), .val (.ref a2), .val (.int (0 : Int32))] [(.int (0 : Int32)), (.ref a1)])) _
      exact h)
  obtain ⟨T139, h139, X139, e139, W139, st139⟩ := putFN X134 hx hZ hown (hw _ (List.mem_of_getElem? (i := 31) rfl)) Via.refl e134 F_a1_coder E_a1 (Or.inr ⟨(hw _ (List.mem_of_getElem? (i := 32) rfl)), rfl, hnm⟩) (hw _ (List.mem_of_getElem? (i := 6) rfl)) (ty := .byte) (v' := (.int (0 : Int32))) (by decide) (by decide) (by decide) (g := (mkF m 11 #[.val (.ref a1), .val (.ref a2), .val (.int (0 : Int32))] [(.int (0 : Int32)), (.ref a1)])) rfl rfl (hb hby d11_11)
  have k141 : Rch p e below S0 T139 (mkF m 14 #[.val (.ref a1), .val (.ref a2), .val (.int (0 : Int32))] []) := fun t h => k140 t (st139 t h)
  have N139 := Fr.snoc X139 N134 ge_a1
  replace F_a1_coder := F_a1_coder.same W139
  have O142 := O137.wr W139 ge_a1
  have K143 := K138.wr W139 (Or.inl (List.mem_of_getElem? (i := 0) rfl))
  replace E_a1 := E_a1.wr W139
  replace F_a1_value := F_a1_value.other W139 (Or.inr (slot_ne (Or.inr (hw _ (List.mem_of_getElem? (i := 34) rfl))) (Or.inr (hw _ (List.mem_of_getElem? (i := 32) rfl))) (by decide) (t := (.array .byte)) (t' := .byte) (by decide) (by decide)))
  obtain ⟨fs, hr, hrun, hended, hW, hsame⟩ := X139.leave (v := none) (fun _ => rfl)
  refine ⟨_, _, ?_, hrun, hended, _, _, rfl, ?_, ⟨_, rfl⟩, hW, hsame.mono (by decide) (by decide)⟩
  · rw [← hS0]
    refine k141 _ ?_
    show Steps p.tables e below (T139.setTop (mkF m 14 #[.val (.ref a1), .val (.ref a2), .val (.int (0 : Int32))] [])) _
    exact X139.returnOut hx Bd.returns (hb hby d11_14) hr
  · show Q_rmBB Z a1 a2 h0 n0 _ T139.heap _
    rw [e139]
    exact ⟨rfl, N139, K143, F_a1_value, F_a1_coder⟩
def Q_rmVO (Z : State)  (h0 : Heap) (n0 : Nat) (v : Option Value) (h : Heap) (L : List Loc) : Prop := ∃ x, v = some (.ref x) ∧ Fr n0 L ∧ Ext h0 h ∧ h0.size ≤ x ∧ Exa Z h x "java/lang/String"
theorem ef_8 (m : MethodId) (x0 : Int32) : entryFrame m #[(.int x0)] 1 = mkF m 0 #[.val (.int x0)] [] := by first | (simp [entryFrame, mkF, argsToLocals, Value.category]; done) | rfl
theorem d8_0 : decode jdk_42_method_139_code 0 = .ok (.getstatic 38, 3) := by decide +kernel
theorem d8_3 : decode jdk_42_method_139_code 3 = .ok (.ifCond .eq 23, 3) := by decide +kernel
theorem d8_6 : decode jdk_42_method_139_code 6 = .ok (.iload_n 0, 1) := by decide +kernel
theorem pd_8 : parseMethodDescriptor "(C)Z" = some ⟨[.char], some .boolean⟩ := by decide +kernel
theorem d8_7 : decode jdk_42_method_139_code 7 = .ok (.invokestatic 1015, 3) := by decide +kernel
theorem d8_10 : decode jdk_42_method_139_code 10 = .ok (.ifCond .eq 16, 3) := by decide +kernel
theorem d8_13 : decode jdk_42_method_139_code 13 = .ok (.new 10, 3) := by decide +kernel
theorem d8_16 : decode jdk_42_method_139_code 16 = .ok (.dup, 1) := by decide +kernel
theorem d8_17 : decode jdk_42_method_139_code 17 = .ok (.iload_n 0, 1) := by decide +kernel
theorem pd_9 : parseMethodDescriptor "(C)[B" = some ⟨[.char], some (.array .byte)⟩ := by decide +kernel
theorem d8_18 : decode jdk_42_method_139_code 18 = .ok (.invokestatic 1018, 3) := by decide +kernel
theorem d8_21 : decode jdk_42_method_139_code 21 = .ok (.iconst 0, 1) := by decide +kernel
theorem pd_10 : parseMethodDescriptor "([BB)V" = some ⟨[(.array .byte), .byte], none⟩ := by decide +kernel
theorem d8_22 : decode jdk_42_method_139_code 22 = .ok (.invokespecial 209, 3) := by decide +kernel
theorem d8_25 : decode jdk_42_method_139_code 25 = .ok (.areturn, 1) := by decide +kernel
set_option maxRecDepth 65536 in
set_option maxHeartbeats 40000000 in
theorem rmVO (l : Launch) (Z : State) (a0 : Array Value) (hw : ∀ d ∈ tables_1, d.before a0 Z = true) (ws : List Jvm.Cond) (p1 : Int32) (zC : Int32) (h0 : Heap) (n0 : Nat) (O0 : Old Z n0 h0) (SC : Sta Z Z.heap "java/lang/String" "COMPACT_STRINGS" "Z" (.int zC)) (hzC : ¬ zC = 0) (hq : ¬ ((255 : Int32) < p1)) :
    MetFree l (⟨"java/lang/String", "valueOf", "(C)Ljava/lang/String;"⟩ : MethodName) (head1 (Jvm.Cond.code (⟨"java/lang/String", "valueOf", "(C)Ljava/lang/String;"⟩ : MethodName) jdk_42_method_139_code 1 (some (.object "java/lang/String")) :: ws) ({ frames := 2, cells := 2, slots := 5, locals := 50 } : Room)) (fun a U => a = #[(.int p1)] ∧ Z.Warmed39 U.vm ∧ U.heap = h0) (fun _ _ _ _ _ => True) (fun _ U o U' => ∃ v L, o = .returned v ∧ Q_rmVO Z  h0 n0 v U'.heap L ∧ FrameEnd U o U' L ({ frames := 2, cells := 2, slots := 5, locals := 50 } : Room).cells ({ frames := 2, cells := 2, slots := 5, locals := 50 } : Room).slots) := by
  refine MetFree.of_bodySF (plainFor_of_name pn_String) hisR ?_
  intro p e s m args below meth c s₁ Bd hml0 hP hK
  obtain ⟨rfl, hZ, hh⟩ := hP
  have hx := Bd.exec
  have hby := Bd.bytes
  have hml : c.maxLocals = 1 := hml0
  have hown : s.vm.findClass "java/lang/String" = some m.cls := findClass_of_methodNamed Bd.named
  have hnm := (name_of_methodNamed Bd.named Bd.method).1
  have X0 : Stand p l e ({ frames := 2, cells := 2, slots := 5, locals := 50 } : Room) s m #[(.int p1)] below meth c s₁ [] 0 0 := Stand.of_body Bd
  have e0 : s₁.heap = h0 := by rw [← hh, Bd.state]; rfl
  have N0 := Fr.nil n0
  obtain ⟨S0, hS0⟩ : ∃ z, z = s₁.setTop (entryFrame m #[(.int p1)] 1) := ⟨_, rfl⟩
  have k0 : Rch p e below S0 s₁ (mkF m 0 #[.val (.int p1)] []) := fun t kq => hS0 ▸ castTop (ef_8 m p1) kq
  have K0 : Keep h0 h0 [] := Keep.refl h0 _
  obtain ⟨T144, X144, e144, st144⟩ := getS2 X0 hx hZ hown (host := "") (Or.inl (hw _ (List.mem_of_getElem? (i := 19) rfl))) Via.refl e0 (SC.ext O0.2) (g := (mkF m 0 #[.val (.int p1)] [])) rfl (hb hby d8_0)
  have k145 : Rch p e below S0 T144 (mkF m 3 #[.val (.int p1)] [(.int zC)]) := fun t h => k0 t (st144 t h)
  have k146 : Rch p e below S0 T144 (mkF m 7 #[.val (.int p1)] [(.int p1)]) := fun t h => k145 t (by
      show Steps p.tables e below (T144.setTop (mkF m 3 #[.val (.int p1)] [(.int zC)])) _
      refine XS.ifNo X144.here hx rfl (hb hby d8_3) rfl ((if0 _ _).trans (feq (hzC : ¬ (zC = (0 : Int32)))).1) ?_
      show Steps p.tables e below (T144.setTop (mkF m 6 #[.val (.int p1)] [])) _
      refine XS.iloadN X144.here hx rfl (hb hby d8_6) rfl ?_
      show Steps p.tables e below (T144.setTop (mkF m 7 #[.val (.int p1)] [(.int p1)])) _
      exact h)
  obtain ⟨_, _, ⟨T147, L147, kk147, n147⟩, -, X147, ⟨Lc147, hQ147, l147, y147, z147⟩, st147⟩ := Jvm.LawKit.callS X144 hx (y := (⟨"java/lang/StringLatin1", "canEncode", "(C)Z"⟩ : MethodName)) hown (mvT hZ (hw _ (List.mem_of_getElem? (i := 38) rfl))) (mvT hZ (hw _ (List.mem_of_getElem? (i := 39) rfl))) (mvT hZ (hw _ (List.mem_of_getElem? (i := 40) rfl))) (mvT hZ (hw _ (List.mem_of_getElem? (i := 41) rfl))) (by decide) (backOf (W := 0) (rmCE l Z a0 hw [] p1  h0 n0 O0 hq) hZ (hw _ (List.mem_of_getElem? (i := 41) rfl)) (hw _ (List.mem_of_getElem? (i := 40) rfl)) (by decide) (by decide)) (g := (mkF m 7 #[.val (.int p1)] [(.int p1)])) rfl (by rw [hml]; rfl) (argsL := [(.int p1)]) (rest := []) (lenOf pd_8 rfl) rfl (by show 2 * 0 + _ ≤ _; exact Nat.le_of_eq rfl) (hb hby d8_7) (fun _ _ => ⟨rfl, e144, (by decide : 0 + 0 ≤ _), (by decide : 0 + 0 ≤ _)⟩)
  dsimp only [Pt.U, Pt.locs, Pt.cells, Pt.slots] at X147 l147 y147 z147 st147 hQ147
  subst l147 y147 z147
  obtain ⟨rfl, Nq147, hh147⟩ := hQ147
  have N147 := Fr.app N0 Nq147
  have k148 : Rch p e below S0 T147 (mkF m 10 #[.val (.int p1)] [(.int (1 : Int32))]) := fun t h => k146 t (st147 t h)
  have k150 : Rch p e below S0 T147 (mkF m 13 #[.val (.int p1)] []) := fun t h => k148 t (by
      show Steps p.tables e below (T147.setTop (mkF m 10 #[.val (.int p1)] [(.int (1 : Int32))])) _
      refine XS.ifNo X147.here hx rfl (hb hby d8_10) rfl ((if0 _ _).trans (feq (by decide : ¬ ((1 : Int32) = (0 : Int32)))).1) ?_
      show Steps p.tables e below (T147.setTop (mkF m 13 #[.val (.int p1)] [])) _
      exact h)
  obtain ⟨T149, h149, X149, e149, E149, A149, D149, -, st149⟩ := newO X147 hx hZ hown (hw _ (List.mem_of_getElem? (i := 42) rfl)) (hw _ (List.mem_of_getElem? (i := 6) rfl)) (hw _ (List.mem_of_getElem? (i := 7) rfl)) hh147 (g := (mkF m 13 #[.val (.int p1)] [])) rfl (hb hby d8_13) (by decide) (by decide)
  obtain ⟨b149, g149⟩ : ∃ z, z = h0.size := ⟨_, rfl⟩
  rw [← g149] at A149 D149 st149
  have k151 : Rch p e below S0 T149 (mkF m 16 #[.val (.int p1)] [(.ref b149)]) := fun t h => k150 t (st149 t h)
  have ge_b149 : n0 ≤ b149 := own_ge O0 (Nat.le_of_eq g149.symm)
  have sz_b149 : h0.size ≤ b149 := Nat.le_trans K0.1 (Nat.le_of_eq g149.symm)
  have O152 := O0.ext E149
  have K153 := K0.ext E149
  have E_b149 := A149
  have F_b149_coder : Fld Z h149 b149 "java/lang/String" "coder" "B" (.int (0 : Int32)) := D149 (Or.inr (hw _ (List.mem_of_getElem? (i := 32) rfl))) (ty := .byte) (by decide)
  have F_b149_value : Fld Z h149 b149 "java/lang/String" "value" "[B" .null := D149 (Or.inr (hw _ (List.mem_of_getElem? (i := 34) rfl))) (ty := (.array .byte)) (by decide)
  have k154 : Rch p e below S0 T149 (mkF m 18 #[.val (.int p1)] [(.int p1), (.ref b149), (.ref b149)]) := fun t h => k151 t (by
      show Steps p.tables e below (T149.setTop (mkF m 16 #[.val (.int p1)] [(.ref b149)])) _
      refine XS.dup X149.here hx rfl (hb hby d8_16) rfl rfl ?_
      show Steps p.tables e below (T149.setTop (mkF m 17 #[.val (.int p1)] [(.ref b149), (.ref b149)])) _
      refine XS.iloadN X149.here hx rfl (hb hby d8_17) rfl ?_
      show Steps p.tables e below (T149.setTop (mkF m 18 #[.val (.int p1)] [(.int p1), (.ref b149), (.ref b149)])) _
      exact h)
  obtain ⟨_, _, ⟨T155, L155, kk155, n155⟩, -, X155, ⟨Lc155, hQ155, l155, y155, z155⟩, st155⟩ := Jvm.LawKit.callS X149 hx (y := (⟨"java/lang/StringLatin1", "toBytes", "(C)[B"⟩ : MethodName)) hown (mvT hZ (hw _ (List.mem_of_getElem? (i := 43) rfl))) (mvT hZ (hw _ (List.mem_of_getElem? (i := 44) rfl))) (mvT hZ (hw _ (List.mem_of_getElem? (i := 40) rfl))) (mvT hZ (hw _ (List.mem_of_getElem? (i := 45) rfl))) (by decide) (backOf (W := 2) (rmTB l Z a0 hw [] p1  h149 n0 O152 ) hZ (hw _ (List.mem_of_getElem? (i := 45) rfl)) (hw _ (List.mem_of_getElem? (i := 40) rfl)) (by decide) (by decide)) (g := (mkF m 18 #[.val (.int p1)] [(.int p1), (.ref b149), (.ref b149)])) rfl (by rw [hml]; rfl) (argsL := [(.int p1)]) (rest := [(.ref b149), (.ref b149)]) (lenOf pd_9 rfl) rfl (by show 2 * 0 + _ ≤ _; exact Nat.le_of_eq rfl) (hb hby d8_18) (fun _ _ => ⟨rfl, e149, (by decide : 1 + 1 ≤ _), (by decide : 4 + 1 ≤ _)⟩)
  dsimp only [Pt.U, Pt.locs, Pt.cells, Pt.slots] at X155 l155 y155 z155 st155 hQ155
  subst l155 y155 z155
  obtain ⟨b155, kb155, rfl, Nq155, E155, z155, V155⟩ := hQ155
  have N155 := Fr.app N147 Nq155
  have k156 : Rch p e below S0 T155 (mkF m 21 #[.val (.int p1)] [(.ref b155), (.ref b149), (.ref b149)]) := fun t h => k154 t (st155 t h)
  have ne_b149_b155 : b149 ≠ b155 := own_ne E_b149.lt z155
  have ge_b155 : n0 ≤ b155 := own_ge O152 z155
  have sz_b155 : h0.size ≤ b155 := Nat.le_trans K153.1 z155
  have O157 := O152.ext E155
  have K158 := K153.ext E155
  replace E_b149 := E_b149.ext E155
  replace F_b149_coder := F_b149_coder.ext E155
  replace F_b149_value := F_b149_value.ext E155
  have k159 : Rch p e below S0 T155 (mkF m 22 #[.val (.int p1)] [(.int (0 : Int32)), (.ref b155), (.ref b149), (.ref b149)]) := fun t h => k156 t (by
      show Steps p.tables e below (T155.setTop (mkF m 21 #[.val (.int p1)] [(.ref b155), (.ref b149), (.ref b149)])) _
      refine XS.iconst X155.here hx rfl (hb hby d8_21) ?_
      show Steps p.tables e below (T155.setTop (mkF m 22 #[.val (.int p1)] [(.int (0 : Int32)), (.ref b155), (.ref b149), (.ref b149)])) _
      exact h)
  obtain ⟨_, _, ⟨T160, L160, kk160, n160⟩, -, X160, ⟨Lc160, hQ160, l160, y160, z160⟩, st160⟩ := X155.specialBack hx (y := (⟨"java/lang/String", "<init>", "([BB)V"⟩ : MethodName)) rfl hown (mvT hZ (hw _ (List.mem_of_getElem? (i := 46) rfl))) (mvT hZ (hw _ (List.mem_of_getElem? (i := 47) rfl))) (mvT hZ (hw _ (List.mem_of_getElem? (i := 48) rfl))) (by decide) (backOf (W := 1) (rmBB l Z a0 hw [] b149 b155  T155.heap n0 O157 ge_b149 E_b149 F_b149_value F_b149_coder) hZ (hw _ (List.mem_of_getElem? (i := 48) rfl)) (hw _ (List.mem_of_getElem? (i := 7) rfl)) (by decide) (by decide)) (g := (mkF m 22 #[.val (.int p1)] [(.int (0 : Int32)), (.ref b155), (.ref b149), (.ref b149)])) rfl (by rw [hml]; rfl) (Steps.refl _) (a := b149) (argsL := [(.ref b155), (.int (0 : Int32))]) (rest := [(.ref b149)]) (lenOf pd_10 rfl) rfl (by show 2 * 0 + _ ≤ _; exact Nat.le_of_eq rfl) (hb hby d8_22) (fun _ _ => ⟨rfl, rfl, (by decide : 2 + 0 ≤ _), (by decide : 5 + 0 ≤ _)⟩)
  dsimp only [Pt.U, Pt.locs, Pt.cells, Pt.slots] at X160 l160 y160 z160 st160 hQ160
  subst l160 y160 z160
  obtain ⟨rfl, Nq160, K160, Fv160, Fc160⟩ := hQ160
  have N160 := Fr.app N155 Nq160
  have k161 : Rch p e below S0 T160 (mkF m 25 #[.val (.int p1)] [(.ref b149)]) := fun t h => k159 t (st160.trans h)
  have O162 := O157.keep K160 (allS ge_b149 all0)
  have K163 := K158.trans K160 (allS (Or.inr sz_b149) all0)
  replace E_b149 := E_b149.keep K160
  replace V155 := V155.keep K160 (ninS (Ne.symm ne_b149_b155) nin0)
  obtain ⟨fs, hr, hrun, hended, hW, hsame⟩ := X160.leave (v := (some (.ref b149))) (fun h => by rw [Bd.returns] at h; cases h)
  refine ⟨_, _, ?_, hrun, hended, _, _, rfl, ?_, ⟨_, rfl⟩, hW, hsame.mono (by decide) (by decide)⟩
  · rw [← hS0]
    refine k161 _ ?_
    show Steps p.tables e below (T160.setTop (mkF m 25 #[.val (.int p1)] [(.ref b149)])) _
    jvm_step X160.here [X160.here.top, hx, (hb hby d8_25), X160.method', Bd.returns, Value.isRef, FieldType.isReference]
    first | (intro acts; rw [hr _ acts rfl rfl rfl]) | rw [hr _ _ rfl rfl rfl]
    exact Steps.refl _
  · show Q_rmVO Z  h0 n0 _ T160.heap _
    exact ⟨b149, rfl, N160, own_ext K163, sz_b149, E_b149⟩
def Q_rmIE (Z : State)  (h0 : Heap) (n0 : Nat) (v : Option Value) (h : Heap) (L : List Loc) : Prop := v = some (.int (0 : Int32)) ∧ Fr n0 L ∧ h = h0
theorem ef_14 (m : MethodId) (x0 : Addr) : entryFrame m #[(.ref x0)] 1 = mkF m 0 #[.val (.ref x0)] [] := by first | (simp [entryFrame, mkF, argsToLocals, Value.category]; done) | rfl
theorem d14_0 : decode jdk_42_method_55_code 0 = .ok (.aload_n 0, 1) := by decide +kernel
theorem d14_1 : decode jdk_42_method_55_code 1 = .ok (.getfield 9, 3) := by decide +kernel
theorem d14_4 : decode jdk_42_method_55_code 4 = .ok (.arraylength, 1) := by decide +kernel
theorem d14_5 : decode jdk_42_method_55_code 5 = .ok (.ifCond .ne 7, 3) := by decide +kernel
theorem d14_12 : decode jdk_42_method_55_code 12 = .ok (.iconst 0, 1) := by decide +kernel
theorem d14_13 : decode jdk_42_method_55_code 13 = .ok (.ireturn, 1) := by decide +kernel
set_option maxRecDepth 65536 in
set_option maxHeartbeats 40000000 in
theorem rmIE (l : Launch) (Z : State) (a0 : Array Value) (hw : ∀ d ∈ tables_1, d.before a0 Z = true) (ws : List Jvm.Cond) (a1 : Addr) (tt : Addr) (kt : ClassId) (N2 : Int32) (vs : List Value) (h0 : Heap) (n0 : Nat) (O0 : Old Z n0 h0) (Fv : Fld Z h0 a1 "java/lang/String" "value" "[B" (.ref tt)) (Vt : Arv Z h0 tt kt .byte N2 vs (.int (0 : Int32))) (hq : ¬ (N2 = 0)) :
    MetFree l (⟨"java/lang/String", "isEmpty", "()Z"⟩ : MethodName) (head1 (Jvm.Cond.code (⟨"java/lang/String", "isEmpty", "()Z"⟩ : MethodName) jdk_42_method_55_code 1 (some .boolean) :: ws) ({ frames := 0, cells := 0, slots := 0, locals := 0 } : Room)) (fun a U => a = #[(.ref a1)] ∧ Z.Warmed39 U.vm ∧ U.heap = h0) (fun _ _ _ _ _ => True) (fun _ U o U' => ∃ v L, o = .returned v ∧ Q_rmIE Z  h0 n0 v U'.heap L ∧ FrameEnd U o U' L ({ frames := 0, cells := 0, slots := 0, locals := 0 } : Room).cells ({ frames := 0, cells := 0, slots := 0, locals := 0 } : Room).slots) := by
  refine MetFree.of_bodySF (plainFor_of_name pn_String) hisR ?_
  intro p e s m args below meth c s₁ Bd hml0 hP hK
  obtain ⟨rfl, hZ, hh⟩ := hP
  have hx := Bd.exec
  have hby := Bd.bytes
  have hml : c.maxLocals = 1 := hml0
  have hown : s.vm.findClass "java/lang/String" = some m.cls := findClass_of_methodNamed Bd.named
  have hnm := (name_of_methodNamed Bd.named Bd.method).1
  have X0 : Stand p l e ({ frames := 0, cells := 0, slots := 0, locals := 0 } : Room) s m #[(.ref a1)] below meth c s₁ [] 0 0 := Stand.of_body Bd
  have e0 : s₁.heap = h0 := by rw [← hh, Bd.state]; rfl
  have N0 := Fr.nil n0
  obtain ⟨S0, hS0⟩ : ∃ z, z = s₁.setTop (entryFrame m #[(.ref a1)] 1) := ⟨_, rfl⟩
  have k0 : Rch p e below S0 s₁ (mkF m 0 #[.val (.ref a1)] []) := fun t kq => hS0 ▸ castTop (ef_14 m a1) kq
  have k165 : Rch p e below S0 s₁ (mkF m 1 #[.val (.ref a1)] [(.ref a1)]) := fun t h => k0 t (by
      show Steps p.tables e below (s₁.setTop (mkF m 0 #[.val (.ref a1)] [])) _
      refine XS.aloadN X0.here hx rfl (hb hby d14_0) rfl rfl ?_
      show Steps p.tables e below (s₁.setTop (mkF m 1 #[.val (.ref a1)] [(.ref a1)])) _
      exact h)
  obtain ⟨T164, X164, e164, st164⟩ := getF X0 hx hZ hown (host := "") (Or.inl (hw _ (List.mem_of_getElem? (i := 33) rfl))) Via.refl e0 Fv (g := (mkF m 1 #[.val (.ref a1)] [(.ref a1)])) rfl rfl (hb hby d14_1)
  have k166 : Rch p e below S0 T164 (mkF m 4 #[.val (.ref a1)] [(.ref tt)]) := fun t h => k165 t (st164 t h)
  obtain ⟨cl167, Ar167, q167, Sz167, Ng167, Hs167, G167⟩ := id Vt
  have k168 : Rch p e below S0 T164 (mkF m 13 #[.val (.ref a1)] [(.int (0 : Int32))]) := fun t h => k166 t (by
      show Steps p.tables e below (T164.setTop (mkF m 4 #[.val (.ref a1)] [(.ref tt)])) _
      refine X164.arraylength hx (by rw [e164]; exact Ar167.1) (State.isArrayOf_alike hZ.alike Ar167.2.1) (g := (mkF m 4 #[.val (.ref a1)] [(.ref tt)])) rfl rfl (hb hby d14_4) _ ?_
      rw [len_of Sz167 Ng167]
      show Steps p.tables e below (T164.setTop (mkF m 5 #[.val (.ref a1)] [(.int N2)])) _
      refine XS.ifYes X164.here hx rfl (pc0 := 5) (pc' := 12) rfl (hb hby d14_5) rfl ((if0 _ _).trans (feq (hq : ¬ (N2 = (0 : Int32)))).2) (by decide) (by decide) ?_
      show Steps p.tables e below (T164.setTop (mkF m 12 #[.val (.ref a1)] [])) _
      refine XS.iconst X164.here hx rfl (hb hby d14_12) ?_
      show Steps p.tables e below (T164.setTop (mkF m 13 #[.val (.ref a1)] [(.int (0 : Int32))])) _
      exact h)
  obtain ⟨fs, hr, hrun, hended, hW, hsame⟩ := X164.leave (v := (some (.int (0 : Int32)))) (fun h => by rw [Bd.returns] at h; cases h)
  refine ⟨_, _, ?_, hrun, hended, _, _, rfl, ?_, ⟨_, rfl⟩, hW, hsame.mono (by decide) (by decide)⟩
  · rw [← hS0]
    refine k168 _ ?_
    show Steps p.tables e below (T164.setTop (mkF m 13 #[.val (.ref a1)] [(.int (0 : Int32))])) _
    exact retN X164 hx (t := .boolean) Bd.returns (by simp) (hb hby d14_13) hr
  · show Q_rmIE Z  h0 n0 _ T164.heap _
    rw [e164]
    exact ⟨rfl, N0, rfl⟩
def Q_rmCO (Z : State) (cd : Int32) (h0 : Heap) (n0 : Nat) (v : Option Value) (h : Heap) (L : List Loc) : Prop := v = some (.int (nar .byte cd)) ∧ Fr n0 L ∧ h = h0
theorem ef_16 (m : MethodId) (x0 : Addr) : entryFrame m #[(.ref x0)] 1 = mkF m 0 #[.val (.ref x0)] [] := by first | (simp [entryFrame, mkF, argsToLocals, Value.category]; done) | rfl
theorem d16_0 : decode jdk_42_method_152_code 0 = .ok (.getstatic 38, 3) := by decide +kernel
theorem d16_3 : decode jdk_42_method_152_code 3 = .ok (.ifCond .eq 10, 3) := by decide +kernel
theorem d16_6 : decode jdk_42_method_152_code 6 = .ok (.aload_n 0, 1) := by decide +kernel
theorem d16_7 : decode jdk_42_method_152_code 7 = .ok (.getfield 15, 3) := by decide +kernel
theorem d16_10 : decode jdk_42_method_152_code 10 = .ok (.goto 4, 3) := by decide +kernel
theorem d16_14 : decode jdk_42_method_152_code 14 = .ok (.ireturn, 1) := by decide +kernel
set_option maxRecDepth 65536 in
set_option maxHeartbeats 40000000 in
theorem rmCO (l : Launch) (Z : State) (a0 : Array Value) (hw : ∀ d ∈ tables_1, d.before a0 Z = true) (ws : List Jvm.Cond) (a1 : Addr) (cd : Int32) (zC : Int32) (h0 : Heap) (n0 : Nat) (O0 : Old Z n0 h0) (SC : Sta Z Z.heap "java/lang/String" "COMPACT_STRINGS" "Z" (.int zC)) (hzC : ¬ zC = 0) (Fc : Fld Z h0 a1 "java/lang/String" "coder" "B" (.int cd)) :
    MetFree l (⟨"java/lang/String", "coder", "()B"⟩ : MethodName) (head1 (Jvm.Cond.code (⟨"java/lang/String", "coder", "()B"⟩ : MethodName) jdk_42_method_152_code 1 (some .byte) :: ws) ({ frames := 0, cells := 0, slots := 0, locals := 0 } : Room)) (fun a U => a = #[(.ref a1)] ∧ Z.Warmed39 U.vm ∧ U.heap = h0) (fun _ _ _ _ _ => True) (fun _ U o U' => ∃ v L, o = .returned v ∧ Q_rmCO Z cd h0 n0 v U'.heap L ∧ FrameEnd U o U' L ({ frames := 0, cells := 0, slots := 0, locals := 0 } : Room).cells ({ frames := 0, cells := 0, slots := 0, locals := 0 } : Room).slots) := by
  refine MetFree.of_bodySF (plainFor_of_name pn_String) hisR ?_
  intro p e s m args below meth c s₁ Bd hml0 hP hK
  obtain ⟨rfl, hZ, hh⟩ := hP
  have hx := Bd.exec
  have hby := Bd.bytes
  have hml : c.maxLocals = 1 := hml0
  have hown : s.vm.findClass "java/lang/String" = some m.cls := findClass_of_methodNamed Bd.named
  have hnm := (name_of_methodNamed Bd.named Bd.method).1
  have X0 : Stand p l e ({ frames := 0, cells := 0, slots := 0, locals := 0 } : Room) s m #[(.ref a1)] below meth c s₁ [] 0 0 := Stand.of_body Bd
  have e0 : s₁.heap = h0 := by rw [← hh, Bd.state]; rfl
  have N0 := Fr.nil n0
  obtain ⟨S0, hS0⟩ : ∃ z, z = s₁.setTop (entryFrame m #[(.ref a1)] 1) := ⟨_, rfl⟩
  have k0 : Rch p e below S0 s₁ (mkF m 0 #[.val (.ref a1)] []) := fun t kq => hS0 ▸ castTop (ef_16 m a1) kq
  obtain ⟨T169, X169, e169, st169⟩ := getS2 X0 hx hZ hown (host := "") (Or.inl (hw _ (List.mem_of_getElem? (i := 19) rfl))) Via.refl e0 (SC.ext O0.2) (g := (mkF m 0 #[.val (.ref a1)] [])) rfl (hb hby d16_0)
  have k170 : Rch p e below S0 T169 (mkF m 3 #[.val (.ref a1)] [(.int zC)]) := fun t h => k0 t (st169 t h)
  have k172 : Rch p e below S0 T169 (mkF m 7 #[.val (.ref a1)] [(.ref a1)]) := fun t h => k170 t (by
      show Steps p.tables e below (T169.setTop (mkF m 3 #[.val (.ref a1)] [(.int zC)])) _
      refine XS.ifNo X169.here hx rfl (hb hby d16_3) rfl ((if0 _ _).trans (feq (hzC : ¬ (zC = (0 : Int32)))).1) ?_
      show Steps p.tables e below (T169.setTop (mkF m 6 #[.val (.ref a1)] [])) _
      refine XS.aloadN X169.here hx rfl (hb hby d16_6) rfl rfl ?_
      show Steps p.tables e below (T169.setTop (mkF m 7 #[.val (.ref a1)] [(.ref a1)])) _
      exact h)
  obtain ⟨T171, X171, e171, st171⟩ := getF X169 hx hZ hown (host := "") (Or.inl (hw _ (List.mem_of_getElem? (i := 31) rfl))) Via.refl e169 Fc (g := (mkF m 7 #[.val (.ref a1)] [(.ref a1)])) rfl rfl (hb hby d16_7)
  have k173 : Rch p e below S0 T171 (mkF m 10 #[.val (.ref a1)] [(.int cd)]) := fun t h => k172 t (st171 t h)
  have k174 : Rch p e below S0 T171 (mkF m 14 #[.val (.ref a1)] [(.int cd)]) := fun t h => k173 t (by
      show Steps p.tables e below (T171.setTop (mkF m 10 #[.val (.ref a1)] [(.int cd)])) _
      refine XS.goto X171.here hx rfl (pc0 := 10) (pc' := 14) rfl (hb hby d16_10) (by decide) (by decide) ?_
      show Steps p.tables e below (T171.setTop (mkF m 14 #[.val (.ref a1)] [(.int cd)])) _
      exact h)
  obtain ⟨fs, hr, hrun, hended, hW, hsame⟩ := X171.leave (v := (some (.int (nar .byte cd)))) (fun h => by rw [Bd.returns] at h; cases h)
  refine ⟨_, _, ?_, hrun, hended, _, _, rfl, ?_, ⟨_, rfl⟩, hW, hsame.mono (by decide) (by decide)⟩
  · rw [← hS0]
    refine k174 _ ?_
    show Steps p.tables e below (T171.setTop (mkF m 14 #[.val (.ref a1)] [(.int cd)])) _
    exact retN X171 hx (t := .byte) Bd.returns (by simp) (hb hby d16_14) hr
  · show Q_rmCO Z cd h0 n0 _ T171.heap _
    rw [e171]
    exact ⟨rfl, N0, rfl⟩
def Q_rmLE (Z : State) (LN : Int32) (h0 : Heap) (n0 : Nat) (v : Option Value) (h : Heap) (L : List Loc) : Prop := v = some (.int LN) ∧ Fr n0 L ∧ h = h0
theorem ef_15 (m : MethodId) (x0 : Addr) : entryFrame m #[(.ref x0)] 1 = mkF m 0 #[.val (.ref x0)] [] := by first | (simp [entryFrame, mkF, argsToLocals, Value.category]; done) | rfl
theorem d15_0 : decode jdk_42_method_54_code 0 = .ok (.aload_n 0, 1) := by decide +kernel
theorem d15_1 : decode jdk_42_method_54_code 1 = .ok (.getfield 9, 3) := by decide +kernel
theorem d15_4 : decode jdk_42_method_54_code 4 = .ok (.arraylength, 1) := by decide +kernel
theorem d15_5 : decode jdk_42_method_54_code 5 = .ok (.aload_n 0, 1) := by decide +kernel
theorem pd_15 : parseMethodDescriptor "()B" = some ⟨[], some .byte⟩ := by decide +kernel
theorem d15_6 : decode jdk_42_method_54_code 6 = .ok (.invokevirtual 335, 3) := by decide +kernel
theorem d15_9 : decode jdk_42_method_54_code 9 = .ok (.ishr, 1) := by decide +kernel
theorem d15_10 : decode jdk_42_method_54_code 10 = .ok (.ireturn, 1) := by decide +kernel
set_option maxRecDepth 65536 in
set_option maxHeartbeats 40000000 in
theorem rmLE (l : Launch) (Z : State) (a0 : Array Value) (hw : ∀ d ∈ tables_1, d.before a0 Z = true) (ws : List Jvm.Cond) (a1 : Addr) (tt : Addr) (kt : ClassId) (N2 : Int32) (vs : List Value) (cd : Int32) (zC : Int32) (LN : Int32) (h0 : Heap) (n0 : Nat) (O0 : Old Z n0 h0) (SC : Sta Z Z.heap "java/lang/String" "COMPACT_STRINGS" "Z" (.int zC)) (hzC : ¬ zC = 0) (Ex : Exa Z h0 a1 "java/lang/String") (Fv : Fld Z h0 a1 "java/lang/String" "value" "[B" (.ref tt)) (Fc : Fld Z h0 a1 "java/lang/String" "coder" "B" (.int cd)) (Vt : Arv Z h0 tt kt .byte N2 vs (.int (0 : Int32))) (hL : (N2 >>> (nar .byte cd &&& 31)) = LN) :
    MetFree l (⟨"java/lang/String", "length", "()I"⟩ : MethodName) (head1 (Jvm.Cond.code (⟨"java/lang/String", "length", "()I"⟩ : MethodName) jdk_42_method_54_code 1 (some .int) :: ws) ({ frames := 1, cells := 0, slots := 0, locals := 20 } : Room)) (fun a U => a = #[(.ref a1)] ∧ Z.Warmed39 U.vm ∧ U.heap = h0) (fun _ _ _ _ _ => True) (fun _ U o U' => ∃ v L, o = .returned v ∧ Q_rmLE Z LN h0 n0 v U'.heap L ∧ FrameEnd U o U' L ({ frames := 1, cells := 0, slots := 0, locals := 20 } : Room).cells ({ frames := 1, cells := 0, slots := 0, locals := 20 } : Room).slots) := by
  refine MetFree.of_bodySF (plainFor_of_name pn_String) hisR ?_
  intro p e s m args below meth c s₁ Bd hml0 hP hK
  obtain ⟨rfl, hZ, hh⟩ := hP
  have hx := Bd.exec
  have hby := Bd.bytes
  have hml : c.maxLocals = 1 := hml0
  have hown : s.vm.findClass "java/lang/String" = some m.cls := findClass_of_methodNamed Bd.named
  have hnm := (name_of_methodNamed Bd.named Bd.method).1
  have X0 : Stand p l e ({ frames := 1, cells := 0, slots := 0, locals := 20 } : Room) s m #[(.ref a1)] below meth c s₁ [] 0 0 := Stand.of_body Bd
  have e0 : s₁.heap = h0 := by rw [← hh, Bd.state]; rfl
  have N0 := Fr.nil n0
  obtain ⟨S0, hS0⟩ : ∃ z, z = s₁.setTop (entryFrame m #[(.ref a1)] 1) := ⟨_, rfl⟩
  have k0 : Rch p e below S0 s₁ (mkF m 0 #[.val (.ref a1)] []) := fun t kq => hS0 ▸ castTop (ef_15 m a1) kq
  have k176 : Rch p e below S0 s₁ (mkF m 1 #[.val (.ref a1)] [(.ref a1)]) := fun t h => k0 t (by
      show Steps p.tables e below (s₁.setTop (mkF m 0 #[.val (.ref a1)] [])) _
      refine XS.aloadN X0.here hx rfl (hb hby d15_0) rfl rfl ?_
      show Steps p.tables e below (s₁.setTop (mkF m 1 #[.val (.ref a1)] [(.ref a1)])) _
      exact h)
  obtain ⟨T175, X175, e175, st175⟩ := getF X0 hx hZ hown (host := "") (Or.inl (hw _ (List.mem_of_getElem? (i := 33) rfl))) Via.refl e0 Fv (g := (mkF m 1 #[.val (.ref a1)] [(.ref a1)])) rfl rfl (hb hby d15_1)
  have k177 : Rch p e below S0 T175 (mkF m 4 #[.val (.ref a1)] [(.ref tt)]) := fun t h => k176 t (st175 t h)
  obtain ⟨cl178, Ar178, q178, Sz178, Ng178, Hs178, G178⟩ := id Vt
  have k179 : Rch p e below S0 T175 (mkF m 6 #[.val (.ref a1)] [(.ref a1), (.int N2)]) := fun t h => k177 t (by
      show Steps p.tables e below (T175.setTop (mkF m 4 #[.val (.ref a1)] [(.ref tt)])) _
      refine X175.arraylength hx (by rw [e175]; exact Ar178.1) (State.isArrayOf_alike hZ.alike Ar178.2.1) (g := (mkF m 4 #[.val (.ref a1)] [(.ref tt)])) rfl rfl (hb hby d15_4) _ ?_
      rw [len_of Sz178 Ng178]
      show Steps p.tables e below (T175.setTop (mkF m 5 #[.val (.ref a1)] [(.int N2)])) _
      refine XS.aloadN X175.here hx rfl (hb hby d15_5) rfl rfl ?_
      show Steps p.tables e below (T175.setTop (mkF m 6 #[.val (.ref a1)] [(.ref a1), (.int N2)])) _
      exact h)
  obtain ⟨cq180, kq180, q180a, q180b, q180c⟩ := isOf hZ e175 Ex
  obtain ⟨_, _, ⟨T180, L180, kk180, n180⟩, -, X180, ⟨Lc180, hQ180, l180, y180, z180⟩, st180⟩ := X175.virtualBack hx (y := (⟨"java/lang/String", "coder", "()B"⟩ : MethodName)) (z := (⟨"java/lang/String", "coder", "()B"⟩ : MethodName)) hown (mvT hZ (hw _ (List.mem_of_getElem? (i := 67) rfl))) (mvT hZ (hw _ (List.mem_of_getElem? (i := 68) rfl))) (notFace_of_selects (args := #[]) (mvT hZ (hw _ (List.mem_of_getElem? (i := 70) rfl)))) (mvT hZ (hw _ (List.mem_of_getElem? (i := 70) rfl))) (mvT hZ (hw _ (List.mem_of_getElem? (i := 69) rfl))) (by decide) (backOf (W := 1) (rmCO l Z a0 hw [] a1 cd zC h0 n0 O0 SC hzC Fc) hZ (hw _ (List.mem_of_getElem? (i := 71) rfl)) (hw _ (List.mem_of_getElem? (i := 7) rfl)) (by decide) (by decide)) q180a q180c (g := (mkF m 6 #[.val (.ref a1)] [(.ref a1), (.int N2)])) rfl (by rw [hml]; rfl) (Steps.refl _) (argsL := []) (rest := [(.int N2)]) (lenOf pd_15 rfl) rfl (by show 2 * 0 + _ ≤ _; exact Nat.le_of_eq rfl) (hb hby d15_6) (fun _ _ => ⟨rfl, e175, (by decide : 0 + 0 ≤ _), (by decide : 0 + 0 ≤ _)⟩)
  dsimp only [Pt.U, Pt.locs, Pt.cells, Pt.slots] at X180 l180 y180 z180 st180 hQ180
  subst l180 y180 z180
  obtain ⟨rfl, Nq180, hh180⟩ := hQ180
  have N180 := Fr.app N0 Nq180
  have k181 : Rch p e below S0 T180 (mkF m 9 #[.val (.ref a1)] [(.int (nar .byte cd)), (.int N2)]) := fun t h => k179 t (st180.trans h)
  have k182 : Rch p e below S0 T180 (mkF m 10 #[.val (.ref a1)] [(.int LN)]) := fun t h => k181 t (by
      show Steps p.tables e below (T180.setTop (mkF m 9 #[.val (.ref a1)] [(.int (nar .byte cd)), (.int N2)])) _
      refine XS.ishr X180.here hx rfl (hb hby d15_9) rfl ?_
      rw [hL]
      show Steps p.tables e below (T180.setTop (mkF m 10 #[.val (.ref a1)] [(.int LN)])) _
      exact h)
  obtain ⟨fs, hr, hrun, hended, hW, hsame⟩ := X180.leave (v := (some (.int LN))) (fun h => by rw [Bd.returns] at h; cases h)
  refine ⟨_, _, ?_, hrun, hended, _, _, rfl, ?_, ⟨_, rfl⟩, hW, hsame.mono (by decide) (by decide)⟩
  · rw [← hS0]
    refine k182 _ ?_
    show Steps p.tables e below (T180.setTop (mkF m 10 #[.val (.ref a1)] [(.int LN)])) _
    exact retI X180 hx Bd.returns (hb hby d15_10) hr
  · show Q_rmLE Z LN h0 n0 _ T180.heap _
    rw [hh180]
    exact ⟨rfl, N180, rfl⟩
theorem own_i2cr (x : Int32) : ¬ x.toUInt32.toUInt16.toUInt32.toInt32 < 0 ∧ ¬ (65535 : Int32) < x.toUInt32.toUInt16.toUInt32.toInt32 := by
  have q := c_i2c x
  have h0 : (0 : Int32).toInt = 0 := by decide
  have h1 : (65535 : Int32).toInt = 65535 := by decide
  constructor <;> rw [Int32.lt_iff_toInt_lt] <;> omega
def Q_rmK1l (Z : State)  (h0 : Heap) (n0 : Nat) (v : Option Value) (h : Heap) (L : List Loc) : Prop := ∃ x t kt vs cd N2, v = some (.ref x) ∧ Fr n0 L ∧ Ext h0 h ∧ h0.size ≤ x ∧ Exa Z h x "java/lang/String" ∧ Fld Z h x "java/lang/String" "value" "[B" (.ref t) ∧ Fld Z h x "java/lang/String" "coder" "B" (.int cd) ∧ Arv Z h t kt .byte N2 vs (.int (0 : Int32)) ∧ ((cd = 0 ∧ N2 = (1 : Int32)) ∨ (cd = 1 ∧ N2 = (2 : Int32)))
theorem ef_1 (m : MethodId) (x0 : Int32) (x1 : Int32) (x2 : Int32) (x3 : Int32) (x4 : Int32) : entryFrame m #[(.int x0), (.int x1), (.int x2), (.int x3), (.int x4)] 5 = mkF m 0 #[.val (.int x0), .val (.int x1), .val (.int x2), .val (.int x3), .val (.int x4)] [] := by first | (simp [entryFrame, mkF, argsToLocals, Value.category]; done) | rfl
theorem pn_ComponentCheckLengthPinLaw : plainName "com/example/remodel/remodel/ComponentCheckLengthPinLaw" = true := by first | (simp [plainName, overriddenIn]; done) | decide +kernel
theorem d1_0 : decode method_2_code 0 = .ok (.iload_n 0, 1) := by decide +kernel
theorem d1_1 : decode method_2_code 1 = .ok (.iconst 1, 1) := by decide +kernel
theorem d1_2 : decode method_2_code 2 = .ok (.if_icmp .ne 18, 3) := by decide +kernel
theorem d1_5 : decode method_2_code 5 = .ok (.new 7, 3) := by decide +kernel
theorem d1_8 : decode method_2_code 8 = .ok (.dup, 1) := by decide +kernel
theorem d1_9 : decode method_2_code 9 = .ok (.iconst 1, 1) := by decide +kernel
theorem d1_10 : decode method_2_code 10 = .ok (.newarray .char, 2) := by decide +kernel
theorem d1_12 : decode method_2_code 12 = .ok (.dup, 1) := by decide +kernel
theorem d1_13 : decode method_2_code 13 = .ok (.iconst 0, 1) := by decide +kernel
theorem d1_14 : decode method_2_code 14 = .ok (.iload_n 1, 1) := by decide +kernel
theorem d1_15 : decode method_2_code 15 = .ok (.castore, 1) := by decide +kernel
theorem pd_1 : parseMethodDescriptor "([C)V" = some ⟨[(.array .char)], none⟩ := by decide +kernel
theorem d1_16 : decode method_2_code 16 = .ok (.invokespecial 9, 3) := by decide +kernel
theorem d1_19 : decode method_2_code 19 = .ok (.areturn, 1) := by decide +kernel
set_option maxRecDepth 65536 in
set_option maxHeartbeats 40000000 in
theorem rmK1l (l : Launch) (Z : State) (a0 : Array Value) (hw : ∀ d ∈ tables_1, d.before a0 Z = true) (ws : List Jvm.Cond) (c0 : Int32) (c1 : Int32) (c2 : Int32) (c3 : Int32) (zC : Int32) (h0 : Heap) (n0 : Nat) (O0 : Old Z n0 h0) (SAs : Sta Z Z.heap "java/lang/StringUTF16" "$assertionsDisabled" "Z" (.int (1 : Int32))) (SHi : Sta Z Z.heap "java/lang/StringUTF16" "HI_BYTE_SHIFT" "I" (.int (0 : Int32))) (SLo : Sta Z Z.heap "java/lang/StringUTF16" "LO_BYTE_SHIFT" "I" (.int (8 : Int32))) (SC : Sta Z Z.heap "java/lang/String" "COMPACT_STRINGS" "Z" (.int zC)) (hzC : ¬ zC = 0) (hc0 : ¬ c0 < 0 ∧ ¬ (65535 : Int32) < c0) (hc1 : ¬ c1 < 0 ∧ ¬ (65535 : Int32) < c1) (hc2 : ¬ c2 < 0 ∧ ¬ (65535 : Int32) < c2) (hc3 : ¬ c3 < 0 ∧ ¬ (65535 : Int32) < c3) (hall : ∀ c ∈ ([c0] : List Int32), ¬ (255 : Int32) < c) :
    MetFree l (⟨"com/example/remodel/remodel/ComponentCheckLengthPinLaw", "make", "(ICCCC)Ljava/lang/String;"⟩ : MethodName) (head1 (Jvm.Cond.code (⟨"com/example/remodel/remodel/ComponentCheckLengthPinLaw", "make", "(ICCCC)Ljava/lang/String;"⟩ : MethodName) method_2_code 5 (some (.object "java/lang/String")) :: ws) ({ frames := 6, cells := 4, slots := 20, locals := 190 } : Room)) (fun a U => a = #[(.int (1 : Int32)), (.int c0), (.int c1), (.int c2), (.int c3)] ∧ Z.Warmed39 U.vm ∧ U.heap = h0) (fun _ _ _ _ _ => True) (fun _ U o U' => ∃ v L, o = .returned v ∧ Q_rmK1l Z  h0 n0 v U'.heap L ∧ FrameEnd U o U' L ({ frames := 6, cells := 4, slots := 20, locals := 190 } : Room).cells ({ frames := 6, cells := 4, slots := 20, locals := 190 } : Room).slots) := by
  refine MetFree.of_bodySF (plainFor_of_name pn_ComponentCheckLengthPinLaw) hisR ?_
  intro p e s m args below meth c s₁ Bd hml0 hP hK
  obtain ⟨rfl, hZ, hh⟩ := hP
  have hx := Bd.exec
  have hby := Bd.bytes
  have hml : c.maxLocals = 5 := hml0
  have hown : s.vm.findClass "com/example/remodel/remodel/ComponentCheckLengthPinLaw" = some m.cls := findClass_of_methodNamed Bd.named
  have hnm := (name_of_methodNamed Bd.named Bd.method).1
  have X0 : Stand p l e ({ frames := 6, cells := 4, slots := 20, locals := 190 } : Room) s m #[(.int (1 : Int32)), (.int c0), (.int c1), (.int c2), (.int c3)] below meth c s₁ [] 0 0 := Stand.of_body Bd
  have e0 : s₁.heap = h0 := by rw [← hh, Bd.state]; rfl
  have N0 := Fr.nil n0
  obtain ⟨S0, hS0⟩ : ∃ z, z = s₁.setTop (entryFrame m #[(.int (1 : Int32)), (.int c0), (.int c1), (.int c2), (.int c3)] 5) := ⟨_, rfl⟩
  have k0 : Rch p e below S0 s₁ (mkF m 0 #[.val (.int (1 : Int32)), .val (.int c0), .val (.int c1), .val (.int c2), .val (.int c3)] []) := fun t kq => hS0 ▸ castTop (ef_1 m (1 : Int32) c0 c1 c2 c3) kq
  have K0 : Keep h0 h0 [] := Keep.refl h0 _
  have hpp : ∀ c ∈ ([c0] : List Int32), ¬ c < 0 ∧ ¬ (65535 : Int32) < c := by
    intro c hc
    simp only [List.mem_cons, List.not_mem_nil, or_false] at hc
    rcases hc with rfl
    · exact hc0
  have k184 : Rch p e below S0 s₁ (mkF m 5 #[.val (.int (1 : Int32)), .val (.int c0), .val (.int c1), .val (.int c2), .val (.int c3)] []) := fun t h => k0 t (by
      show Steps p.tables e below (s₁.setTop (mkF m 0 #[.val (.int (1 : Int32)), .val (.int c0), .val (.int c1), .val (.int c2), .val (.int c3)] [])) _
      refine XS.iloadN X0.here hx rfl (hb hby d1_0) rfl ?_
      show Steps p.tables e below (s₁.setTop (mkF m 1 #[.val (.int (1 : Int32)), .val (.int c0), .val (.int c1), .val (.int c2), .val (.int c3)] [(.int (1 : Int32))])) _
      refine XS.iconst X0.here hx rfl (hb hby d1_1) ?_
      show Steps p.tables e below (s₁.setTop (mkF m 2 #[.val (.int (1 : Int32)), .val (.int c0), .val (.int c1), .val (.int c2), .val (.int c3)] [(.int (1 : Int32)), (.int (1 : Int32))])) _
      refine XS.icmpNo X0.here hx rfl (hb hby d1_2) rfl (teq (by decide : (1 : Int32) = (1 : Int32))).2 ?_
      show Steps p.tables e below (s₁.setTop (mkF m 5 #[.val (.int (1 : Int32)), .val (.int c0), .val (.int c1), .val (.int c2), .val (.int c3)] [])) _
      exact h)
  obtain ⟨T183, h183, X183, e183, E183, A183, D183, -, st183⟩ := newO X0 hx hZ hown (hw _ (List.mem_of_getElem? (i := 5) rfl)) (hw _ (List.mem_of_getElem? (i := 6) rfl)) (hw _ (List.mem_of_getElem? (i := 7) rfl)) e0 (g := (mkF m 5 #[.val (.int (1 : Int32)), .val (.int c0), .val (.int c1), .val (.int c2), .val (.int c3)] [])) rfl (hb hby d1_5) (by decide) (by decide)
  obtain ⟨b183, g183⟩ : ∃ z, z = h0.size := ⟨_, rfl⟩
  rw [← g183] at A183 D183 st183
  have k185 : Rch p e below S0 T183 (mkF m 8 #[.val (.int (1 : Int32)), .val (.int c0), .val (.int c1), .val (.int c2), .val (.int c3)] [(.ref b183)]) := fun t h => k184 t (st183 t h)
  have ge_b183 : n0 ≤ b183 := own_ge O0 (Nat.le_of_eq g183.symm)
  have sz_b183 : h0.size ≤ b183 := Nat.le_trans K0.1 (Nat.le_of_eq g183.symm)
  have O186 := O0.ext E183
  have K187 := K0.ext E183
  have E_b183 := A183
  have F_b183_coder : Fld Z h183 b183 "java/lang/String" "coder" "B" (.int (0 : Int32)) := D183 (Or.inr (hw _ (List.mem_of_getElem? (i := 32) rfl))) (ty := .byte) (by decide)
  have F_b183_value : Fld Z h183 b183 "java/lang/String" "value" "[B" .null := D183 (Or.inr (hw _ (List.mem_of_getElem? (i := 34) rfl))) (ty := (.array .byte)) (by decide)
  have k189 : Rch p e below S0 T183 (mkF m 10 #[.val (.int (1 : Int32)), .val (.int c0), .val (.int c1), .val (.int c2), .val (.int c3)] [(.int (1 : Int32)), (.ref b183), (.ref b183)]) := fun t h => k185 t (by
      show Steps p.tables e below (T183.setTop (mkF m 8 #[.val (.int (1 : Int32)), .val (.int c0), .val (.int c1), .val (.int c2), .val (.int c3)] [(.ref b183)])) _
      refine XS.dup X183.here hx rfl (hb hby d1_8) rfl rfl ?_
      show Steps p.tables e below (T183.setTop (mkF m 9 #[.val (.int (1 : Int32)), .val (.int c0), .val (.int c1), .val (.int c2), .val (.int c3)] [(.ref b183), (.ref b183)])) _
      refine XS.iconst X183.here hx rfl (hb hby d1_9) ?_
      show Steps p.tables e below (T183.setTop (mkF m 10 #[.val (.int (1 : Int32)), .val (.int c0), .val (.int c1), .val (.int c2), .val (.int c3)] [(.int (1 : Int32)), (.ref b183), (.ref b183)])) _
      exact h)
  obtain ⟨T188, h188, k188, X188, e188, E188, A188, st188⟩ := newP X183 hx hZ (hw _ (List.mem_of_getElem? (i := 8) rfl)) e183 (g := (mkF m 10 #[.val (.int (1 : Int32)), .val (.int c0), .val (.int c1), .val (.int c2), .val (.int c3)] [(.int (1 : Int32)), (.ref b183), (.ref b183)])) rfl (hb hby d1_10) rfl (by decide) (cap := 1) (by decide) (by decide) (by decide) (by decide)
  obtain ⟨b188, g188⟩ : ∃ z, z = h183.size := ⟨_, rfl⟩
  rw [← g188] at A188 st188
  have k190 : Rch p e below S0 T188 (mkF m 12 #[.val (.int (1 : Int32)), .val (.int c0), .val (.int c1), .val (.int c2), .val (.int c3)] [(.ref b188), (.ref b183), (.ref b183)]) := fun t h => k189 t (st188 t h)
  have ne_b183_b188 : b183 ≠ b188 := own_ne E_b183.lt (Nat.le_of_eq g188.symm)
  have ge_b188 : n0 ≤ b188 := own_ge O186 (Nat.le_of_eq g188.symm)
  have sz_b188 : h0.size ≤ b188 := Nat.le_trans K187.1 (Nat.le_of_eq g188.symm)
  have O191 := O186.ext E188
  have K192 := K187.ext E188
  replace E_b183 := E_b183.ext E188
  replace F_b183_coder := F_b183_coder.ext E188
  replace F_b183_value := F_b183_value.ext E188
  have V_b188 : Arv Z h188 b188 k188 .char (1 : Int32) [(.int (0 : Int32))] (.int (0 : Int32)) := (Arv.new A188 (by decide)).pad (pad_rep [] (.int (0 : Int32)) 1)
  have k194 : Rch p e below S0 T188 (mkF m 15 #[.val (.int (1 : Int32)), .val (.int c0), .val (.int c1), .val (.int c2), .val (.int c3)] [(.int c0), (.int (0 : Int32)), (.ref b188), (.ref b188), (.ref b183), (.ref b183)]) := fun t h => k190 t (by
      show Steps p.tables e below (T188.setTop (mkF m 12 #[.val (.int (1 : Int32)), .val (.int c0), .val (.int c1), .val (.int c2), .val (.int c3)] [(.ref b188), (.ref b183), (.ref b183)])) _
      refine XS.dup X188.here hx rfl (hb hby d1_12) rfl rfl ?_
      show Steps p.tables e below (T188.setTop (mkF m 13 #[.val (.int (1 : Int32)), .val (.int c0), .val (.int c1), .val (.int c2), .val (.int c3)] [(.ref b188), (.ref b188), (.ref b183), (.ref b183)])) _
      refine XS.iconst X188.here hx rfl (hb hby d1_13) ?_
      show Steps p.tables e below (T188.setTop (mkF m 14 #[.val (.int (1 : Int32)), .val (.int c0), .val (.int c1), .val (.int c2), .val (.int c3)] [(.int (0 : Int32)), (.ref b188), (.ref b188), (.ref b183), (.ref b183)])) _
      refine XS.iloadN X188.here hx rfl (hb hby d1_14) rfl ?_
      show Steps p.tables e below (T188.setTop (mkF m 15 #[.val (.int (1 : Int32)), .val (.int c0), .val (.int c1), .val (.int c2), .val (.int c3)] [(.int c0), (.int (0 : Int32)), (.ref b188), (.ref b188), (.ref b183), (.ref b183)])) _
      exact h)
  obtain ⟨cl193, Ar193, q193, Sz193, Ng193, Hs193, G193⟩ := id V_b188
  have hin193 : ¬ ((0 : Int32) < 0 ∨ cl193.slots.size ≤ ((0 : Int32)).toNatClampNeg) := inb_of Sz193 ⟨by decide, by decide⟩
  obtain ⟨T193, h193, X193, e193, W193, st193⟩ := stC X188 hx hZ e188 Ar193 (j := (0 : Int32)) hin193 (g := (mkF m 15 #[.val (.int (1 : Int32)), .val (.int c0), .val (.int c1), .val (.int c2), .val (.int c3)] [(.int c0), (.int (0 : Int32)), (.ref b188), (.ref b188), (.ref b183), (.ref b183)])) rfl rfl (hb hby d1_15)
  have k195 : Rch p e below S0 T193 (mkF m 16 #[.val (.int (1 : Int32)), .val (.int c0), .val (.int c1), .val (.int c2), .val (.int c3)] [(.ref b188), (.ref b183), (.ref b183)]) := fun t h => k194 t (st193 t h)
  have N193 := Fr.snoc X193 N0 ge_b188
  have V_b188' := Arv.set Ar193 q193 Sz193 Ng193 Hs193 G193 (fits_nar_char _) W193 0 rfl (Nat.le_of_ble_eq_true rfl)
  replace V_b188 : Arv Z h193 b188 k188 .char (1 : Int32) [(.int c0)] (.int (0 : Int32)) := (by have q := V_b188'; rw [(own_narc c0 hc0).1] at q; exact q)
  have O196 := O191.wr W193 ge_b188
  have K197 := K192.wr W193 (Or.inr sz_b188)
  replace E_b183 := E_b183.wr W193
  replace F_b183_coder := F_b183_coder.other W193 (Or.inl ne_b183_b188)
  replace F_b183_value := F_b183_value.other W193 (Or.inl ne_b183_b188)
  have hws : ∀ d ∈ StrChars.Road.words, d.before a0 Z = true := fun d hd => hw d ((by decide +kernel : ∀ d ∈ StrChars.Road.words, d ∈ tables_1) d hd)
  have hp : ∀ c ∈ ([c0] : List Int32), ¬ c < 0 ∧ ¬ (255 : Int32) < c := fun c hc => ⟨(hpp c hc).1, hall c hc⟩
  obtain ⟨_, _, ⟨T198, L198, kk198, n198⟩, -, X198, ⟨Lc198, hQ198, l198, y198, z198⟩, st198⟩ := X193.specialBack hx (y := (⟨"java/lang/String", "<init>", "([C)V"⟩ : MethodName)) rfl hown (mvT hZ (hw _ (List.mem_of_getElem? (i := 9) rfl))) (mvT hZ (hw _ (List.mem_of_getElem? (i := 10) rfl))) (mvT hZ (hw _ (List.mem_of_getElem? (i := 11) rfl))) (by decide) (StrChars.Road.backV (W := 1) hZ hws (kI := 4) (hw _ (List.mem_of_getElem? (i := 6) rfl)) (cs := [c0]) (bs := [c0].map (fun c => c.toInt8.toInt32)) (n := 1) ge_b183 (own_le O196) E_b183 F_b183_value F_b183_coder V_b188 (SC.ext O196.2) hzC rfl rfl (by decide) (by decide) hp rfl (by decide) (by decide)) (g := (mkF m 16 #[.val (.int (1 : Int32)), .val (.int c0), .val (.int c1), .val (.int c2), .val (.int c3)] [(.ref b188), (.ref b183), (.ref b183)])) rfl (by rw [hml]; rfl) (Steps.refl _) (a := b183) (argsL := [(.ref b188)]) (rest := [(.ref b183)]) (lenOf pd_1 rfl) rfl (by show 2 * 0 + _ ≤ _; exact Nat.le_of_eq rfl) (hb hby d1_16) (fun _ _ => ⟨rfl, e193, (by decide : 2 + 1 ≤ _), (by decide : 5 + 1 ≤ _)⟩)
  dsimp only [Pt.U, Pt.locs, Pt.cells, Pt.slots] at X198 l198 y198 z198 st198 hQ198
  subst l198 y198 z198
  obtain ⟨rfl, Nq198, K198, Eb198, Cb198, t198, kb198, u198, v198, ww198, Vb198, Ab198⟩ := hQ198
  have N198 := Fr.app N193 Nq198
  have k199 : Rch p e below S0 T198 (mkF m 19 #[.val (.int (1 : Int32)), .val (.int c0), .val (.int c1), .val (.int c2), .val (.int c3)] [(.ref b183)]) := fun t h => k195 t (st198.trans h)
  have O200 := O196.keep K198 (allS ge_b183 all0)
  have K201 := K197.trans K198 (allS (Or.inr sz_b183) all0)
  replace E_b183 := E_b183.keep K198
  replace V_b188 := V_b188.keep K198 (ninS (Ne.symm ne_b183_b188) nin0)
  obtain ⟨fs, hr, hrun, hended, hW, hsame⟩ := X198.leave (v := (some (.ref b183))) (fun h => by rw [Bd.returns] at h; cases h)
  refine ⟨_, _, ?_, hrun, hended, _, _, rfl, ?_, ⟨_, rfl⟩, hW, hsame.mono (by decide) (by decide)⟩
  · rw [← hS0]
    refine k199 _ ?_
    show Steps p.tables e below (T198.setTop (mkF m 19 #[.val (.int (1 : Int32)), .val (.int c0), .val (.int c1), .val (.int c2), .val (.int c3)] [(.ref b183)])) _
    jvm_step X198.here [X198.here.top, hx, (hb hby d1_19), X198.method', Bd.returns, Value.isRef, FieldType.isReference]
    first | (intro acts; rw [hr _ acts rfl rfl rfl]) | rw [hr _ _ rfl rfl rfl]
    exact Steps.refl _
  · show Q_rmK1l Z  h0 n0 _ T198.heap _
    exact ⟨b183, _, _, _, _, _, rfl, N198, own_ext K201, sz_b183, E_b183, Vb198, Cb198, Ab198, Or.inl ⟨rfl, rfl⟩⟩
def Q_rmK1u (Z : State)  (h0 : Heap) (n0 : Nat) (v : Option Value) (h : Heap) (L : List Loc) : Prop := ∃ x t kt vs cd N2, v = some (.ref x) ∧ Fr n0 L ∧ Ext h0 h ∧ h0.size ≤ x ∧ Exa Z h x "java/lang/String" ∧ Fld Z h x "java/lang/String" "value" "[B" (.ref t) ∧ Fld Z h x "java/lang/String" "coder" "B" (.int cd) ∧ Arv Z h t kt .byte N2 vs (.int (0 : Int32)) ∧ ((cd = 0 ∧ N2 = (1 : Int32)) ∨ (cd = 1 ∧ N2 = (2 : Int32)))
set_option maxRecDepth 65536 in
set_option maxHeartbeats 40000000 in
theorem rmK1u (l : Launch) (Z : State) (a0 : Array Value) (hw : ∀ d ∈ tables_1, d.before a0 Z = true) (ws : List Jvm.Cond) (c0 : Int32) (c1 : Int32) (c2 : Int32) (c3 : Int32) (zC : Int32) (h0 : Heap) (n0 : Nat) (O0 : Old Z n0 h0) (SAs : Sta Z Z.heap "java/lang/StringUTF16" "$assertionsDisabled" "Z" (.int (1 : Int32))) (SHi : Sta Z Z.heap "java/lang/StringUTF16" "HI_BYTE_SHIFT" "I" (.int (0 : Int32))) (SLo : Sta Z Z.heap "java/lang/StringUTF16" "LO_BYTE_SHIFT" "I" (.int (8 : Int32))) (SC : Sta Z Z.heap "java/lang/String" "COMPACT_STRINGS" "Z" (.int zC)) (hzC : ¬ zC = 0) (hc0 : ¬ c0 < 0 ∧ ¬ (65535 : Int32) < c0) (hc1 : ¬ c1 < 0 ∧ ¬ (65535 : Int32) < c1) (hc2 : ¬ c2 < 0 ∧ ¬ (65535 : Int32) < c2) (hc3 : ¬ c3 < 0 ∧ ¬ (65535 : Int32) < c3) (hex : ∃ c ∈ ([c0] : List Int32), (255 : Int32) < c) :
    MetFree l (⟨"com/example/remodel/remodel/ComponentCheckLengthPinLaw", "make", "(ICCCC)Ljava/lang/String;"⟩ : MethodName) (head1 (Jvm.Cond.code (⟨"com/example/remodel/remodel/ComponentCheckLengthPinLaw", "make", "(ICCCC)Ljava/lang/String;"⟩ : MethodName) method_2_code 5 (some (.object "java/lang/String")) :: ws) ({ frames := 6, cells := 4, slots := 20, locals := 190 } : Room)) (fun a U => a = #[(.int (1 : Int32)), (.int c0), (.int c1), (.int c2), (.int c3)] ∧ Z.Warmed39 U.vm ∧ U.heap = h0) (fun _ _ _ _ _ => True) (fun _ U o U' => ∃ v L, o = .returned v ∧ Q_rmK1u Z  h0 n0 v U'.heap L ∧ FrameEnd U o U' L ({ frames := 6, cells := 4, slots := 20, locals := 190 } : Room).cells ({ frames := 6, cells := 4, slots := 20, locals := 190 } : Room).slots) := by
  refine MetFree.of_bodySF (plainFor_of_name pn_ComponentCheckLengthPinLaw) hisR ?_
  intro p e s m args below meth c s₁ Bd hml0 hP hK
  obtain ⟨rfl, hZ, hh⟩ := hP
  have hx := Bd.exec
  have hby := Bd.bytes
  have hml : c.maxLocals = 5 := hml0
  have hown : s.vm.findClass "com/example/remodel/remodel/ComponentCheckLengthPinLaw" = some m.cls := findClass_of_methodNamed Bd.named
  have hnm := (name_of_methodNamed Bd.named Bd.method).1
  have X0 : Stand p l e ({ frames := 6, cells := 4, slots := 20, locals := 190 } : Room) s m #[(.int (1 : Int32)), (.int c0), (.int c1), (.int c2), (.int c3)] below meth c s₁ [] 0 0 := Stand.of_body Bd
  have e0 : s₁.heap = h0 := by rw [← hh, Bd.state]; rfl
  have N0 := Fr.nil n0
  obtain ⟨S0, hS0⟩ : ∃ z, z = s₁.setTop (entryFrame m #[(.int (1 : Int32)), (.int c0), (.int c1), (.int c2), (.int c3)] 5) := ⟨_, rfl⟩
  have k0 : Rch p e below S0 s₁ (mkF m 0 #[.val (.int (1 : Int32)), .val (.int c0), .val (.int c1), .val (.int c2), .val (.int c3)] []) := fun t kq => hS0 ▸ castTop (ef_1 m (1 : Int32) c0 c1 c2 c3) kq
  have K0 : Keep h0 h0 [] := Keep.refl h0 _
  have hpp : ∀ c ∈ ([c0] : List Int32), ¬ c < 0 ∧ ¬ (65535 : Int32) < c := by
    intro c hc
    simp only [List.mem_cons, List.not_mem_nil, or_false] at hc
    rcases hc with rfl
    · exact hc0
  obtain ⟨kF, hkF, hlowF, hhighF⟩ := own_first [c0] hex
  have k203 : Rch p e below S0 s₁ (mkF m 5 #[.val (.int (1 : Int32)), .val (.int c0), .val (.int c1), .val (.int c2), .val (.int c3)] []) := fun t h => k0 t (by
      show Steps p.tables e below (s₁.setTop (mkF m 0 #[.val (.int (1 : Int32)), .val (.int c0), .val (.int c1), .val (.int c2), .val (.int c3)] [])) _
      refine XS.iloadN X0.here hx rfl (hb hby d1_0) rfl ?_
      show Steps p.tables e below (s₁.setTop (mkF m 1 #[.val (.int (1 : Int32)), .val (.int c0), .val (.int c1), .val (.int c2), .val (.int c3)] [(.int (1 : Int32))])) _
      refine XS.iconst X0.here hx rfl (hb hby d1_1) ?_
      show Steps p.tables e below (s₁.setTop (mkF m 2 #[.val (.int (1 : Int32)), .val (.int c0), .val (.int c1), .val (.int c2), .val (.int c3)] [(.int (1 : Int32)), (.int (1 : Int32))])) _
      refine XS.icmpNo X0.here hx rfl (hb hby d1_2) rfl (teq (by decide : (1 : Int32) = (1 : Int32))).2 ?_
      show Steps p.tables e below (s₁.setTop (mkF m 5 #[.val (.int (1 : Int32)), .val (.int c0), .val (.int c1), .val (.int c2), .val (.int c3)] [])) _
      exact h)
  obtain ⟨T202, h202, X202, e202, E202, A202, D202, -, st202⟩ := newO X0 hx hZ hown (hw _ (List.mem_of_getElem? (i := 5) rfl)) (hw _ (List.mem_of_getElem? (i := 6) rfl)) (hw _ (List.mem_of_getElem? (i := 7) rfl)) e0 (g := (mkF m 5 #[.val (.int (1 : Int32)), .val (.int c0), .val (.int c1), .val (.int c2), .val (.int c3)] [])) rfl (hb hby d1_5) (by decide) (by decide)
  obtain ⟨b202, g202⟩ : ∃ z, z = h0.size := ⟨_, rfl⟩
  rw [← g202] at A202 D202 st202
  have k204 : Rch p e below S0 T202 (mkF m 8 #[.val (.int (1 : Int32)), .val (.int c0), .val (.int c1), .val (.int c2), .val (.int c3)] [(.ref b202)]) := fun t h => k203 t (st202 t h)
  have ge_b202 : n0 ≤ b202 := own_ge O0 (Nat.le_of_eq g202.symm)
  have sz_b202 : h0.size ≤ b202 := Nat.le_trans K0.1 (Nat.le_of_eq g202.symm)
  have O205 := O0.ext E202
  have K206 := K0.ext E202
  have E_b202 := A202
  have F_b202_coder : Fld Z h202 b202 "java/lang/String" "coder" "B" (.int (0 : Int32)) := D202 (Or.inr (hw _ (List.mem_of_getElem? (i := 32) rfl))) (ty := .byte) (by decide)
  have F_b202_value : Fld Z h202 b202 "java/lang/String" "value" "[B" .null := D202 (Or.inr (hw _ (List.mem_of_getElem? (i := 34) rfl))) (ty := (.array .byte)) (by decide)
  have k208 : Rch p e below S0 T202 (mkF m 10 #[.val (.int (1 : Int32)), .val (.int c0), .val (.int c1), .val (.int c2), .val (.int c3)] [(.int (1 : Int32)), (.ref b202), (.ref b202)]) := fun t h => k204 t (by
      show Steps p.tables e below (T202.setTop (mkF m 8 #[.val (.int (1 : Int32)), .val (.int c0), .val (.int c1), .val (.int c2), .val (.int c3)] [(.ref b202)])) _
      refine XS.dup X202.here hx rfl (hb hby d1_8) rfl rfl ?_
      show Steps p.tables e below (T202.setTop (mkF m 9 #[.val (.int (1 : Int32)), .val (.int c0), .val (.int c1), .val (.int c2), .val (.int c3)] [(.ref b202), (.ref b202)])) _
      refine XS.iconst X202.here hx rfl (hb hby d1_9) ?_
      show Steps p.tables e below (T202.setTop (mkF m 10 #[.val (.int (1 : Int32)), .val (.int c0), .val (.int c1), .val (.int c2), .val (.int c3)] [(.int (1 : Int32)), (.ref b202), (.ref b202)])) _
      exact h)
  obtain ⟨T207, h207, k207, X207, e207, E207, A207, st207⟩ := newP X202 hx hZ (hw _ (List.mem_of_getElem? (i := 8) rfl)) e202 (g := (mkF m 10 #[.val (.int (1 : Int32)), .val (.int c0), .val (.int c1), .val (.int c2), .val (.int c3)] [(.int (1 : Int32)), (.ref b202), (.ref b202)])) rfl (hb hby d1_10) rfl (by decide) (cap := 1) (by decide) (by decide) (by decide) (by decide)
  obtain ⟨b207, g207⟩ : ∃ z, z = h202.size := ⟨_, rfl⟩
  rw [← g207] at A207 st207
  have k209 : Rch p e below S0 T207 (mkF m 12 #[.val (.int (1 : Int32)), .val (.int c0), .val (.int c1), .val (.int c2), .val (.int c3)] [(.ref b207), (.ref b202), (.ref b202)]) := fun t h => k208 t (st207 t h)
  have ne_b202_b207 : b202 ≠ b207 := own_ne E_b202.lt (Nat.le_of_eq g207.symm)
  have ge_b207 : n0 ≤ b207 := own_ge O205 (Nat.le_of_eq g207.symm)
  have sz_b207 : h0.size ≤ b207 := Nat.le_trans K206.1 (Nat.le_of_eq g207.symm)
  have O210 := O205.ext E207
  have K211 := K206.ext E207
  replace E_b202 := E_b202.ext E207
  replace F_b202_coder := F_b202_coder.ext E207
  replace F_b202_value := F_b202_value.ext E207
  have V_b207 : Arv Z h207 b207 k207 .char (1 : Int32) [(.int (0 : Int32))] (.int (0 : Int32)) := (Arv.new A207 (by decide)).pad (pad_rep [] (.int (0 : Int32)) 1)
  have k213 : Rch p e below S0 T207 (mkF m 15 #[.val (.int (1 : Int32)), .val (.int c0), .val (.int c1), .val (.int c2), .val (.int c3)] [(.int c0), (.int (0 : Int32)), (.ref b207), (.ref b207), (.ref b202), (.ref b202)]) := fun t h => k209 t (by
      show Steps p.tables e below (T207.setTop (mkF m 12 #[.val (.int (1 : Int32)), .val (.int c0), .val (.int c1), .val (.int c2), .val (.int c3)] [(.ref b207), (.ref b202), (.ref b202)])) _
      refine XS.dup X207.here hx rfl (hb hby d1_12) rfl rfl ?_
      show Steps p.tables e below (T207.setTop (mkF m 13 #[.val (.int (1 : Int32)), .val (.int c0), .val (.int c1), .val (.int c2), .val (.int c3)] [(.ref b207), (.ref b207), (.ref b202), (.ref b202)])) _
      refine XS.iconst X207.here hx rfl (hb hby d1_13) ?_
      show Steps p.tables e below (T207.setTop (mkF m 14 #[.val (.int (1 : Int32)), .val (.int c0), .val (.int c1), .val (.int c2), .val (.int c3)] [(.int (0 : Int32)), (.ref b207), (.ref b207), (.ref b202), (.ref b202)])) _
      refine XS.iloadN X207.here hx rfl (hb hby d1_14) rfl ?_
      show Steps p.tables e below (T207.setTop (mkF m 15 #[.val (.int (1 : Int32)), .val (.int c0), .val (.int c1), .val (.int c2), .val (.int c3)] [(.int c0), (.int (0 : Int32)), (.ref b207), (.ref b207), (.ref b202), (.ref b202)])) _
      exact h)
  obtain ⟨cl212, Ar212, q212, Sz212, Ng212, Hs212, G212⟩ := id V_b207
  have hin212 : ¬ ((0 : Int32) < 0 ∨ cl212.slots.size ≤ ((0 : Int32)).toNatClampNeg) := inb_of Sz212 ⟨by decide, by decide⟩
  obtain ⟨T212, h212, X212, e212, W212, st212⟩ := stC X207 hx hZ e207 Ar212 (j := (0 : Int32)) hin212 (g := (mkF m 15 #[.val (.int (1 : Int32)), .val (.int c0), .val (.int c1), .val (.int c2), .val (.int c3)] [(.int c0), (.int (0 : Int32)), (.ref b207), (.ref b207), (.ref b202), (.ref b202)])) rfl rfl (hb hby d1_15)
  have k214 : Rch p e below S0 T212 (mkF m 16 #[.val (.int (1 : Int32)), .val (.int c0), .val (.int c1), .val (.int c2), .val (.int c3)] [(.ref b207), (.ref b202), (.ref b202)]) := fun t h => k213 t (st212 t h)
  have N212 := Fr.snoc X212 N0 ge_b207
  have V_b207' := Arv.set Ar212 q212 Sz212 Ng212 Hs212 G212 (fits_nar_char _) W212 0 rfl (Nat.le_of_ble_eq_true rfl)
  replace V_b207 : Arv Z h212 b207 k207 .char (1 : Int32) [(.int c0)] (.int (0 : Int32)) := (by have q := V_b207'; rw [(own_narc c0 hc0).1] at q; exact q)
  have O215 := O210.wr W212 ge_b207
  have K216 := K211.wr W212 (Or.inr sz_b207)
  replace E_b202 := E_b202.wr W212
  replace F_b202_coder := F_b202_coder.other W212 (Or.inl ne_b202_b207)
  replace F_b202_value := F_b202_value.other W212 (Or.inl ne_b202_b207)
  obtain ⟨_, _, ⟨T217, L217, kk217, n217⟩, -, X217, ⟨Lc217, hQ217, l217, y217, z217⟩, st217⟩ := X212.specialBack hx (y := (⟨"java/lang/String", "<init>", "([C)V"⟩ : MethodName)) rfl hown (mvT hZ (hw _ (List.mem_of_getElem? (i := 9) rfl))) (mvT hZ (hw _ (List.mem_of_getElem? (i := 10) rfl))) (mvT hZ (hw _ (List.mem_of_getElem? (i := 11) rfl))) (by decide) (backOf (W := 1) (rmU1 l Z a0 hw [] b202 b207 k207 1 ([c0]) kF zC h212 n0 O215 SAs SHi SLo SC hzC (by decide) rfl hkF hlowF hhighF hpp ge_b202 E_b202 F_b202_value F_b202_coder (Ne.symm ne_b202_b207) V_b207) hZ (hw _ (List.mem_of_getElem? (i := 11) rfl)) (hw _ (List.mem_of_getElem? (i := 7) rfl)) (by decide) (by decide)) (g := (mkF m 16 #[.val (.int (1 : Int32)), .val (.int c0), .val (.int c1), .val (.int c2), .val (.int c3)] [(.ref b207), (.ref b202), (.ref b202)])) rfl (by rw [hml]; rfl) (Steps.refl _) (a := b202) (argsL := [(.ref b207)]) (rest := [(.ref b202)]) (lenOf pd_1 rfl) rfl (by show 2 * 0 + _ ≤ _; exact Nat.le_of_eq rfl) (hb hby d1_16) (fun _ _ => ⟨rfl, e212, (by decide : 2 + 2 ≤ _), (by decide : 5 + 12 ≤ _)⟩)
  dsimp only [Pt.U, Pt.locs, Pt.cells, Pt.slots] at X217 l217 y217 z217 st217 hQ217
  subst l217 y217 z217
  obtain ⟨rfl, Nq217, K217, t217, kt217, vs217, Fv217, Fc217, At217⟩ := hQ217
  have N217 := Fr.app N212 Nq217
  have k218 : Rch p e below S0 T217 (mkF m 19 #[.val (.int (1 : Int32)), .val (.int c0), .val (.int c1), .val (.int c2), .val (.int c3)] [(.ref b202)]) := fun t h => k214 t (st217.trans h)
  have O219 := O215.keep K217 (allS ge_b202 all0)
  have K220 := K216.trans K217 (allS (Or.inr sz_b202) all0)
  replace E_b202 := E_b202.keep K217
  replace V_b207 := V_b207.keep K217 (ninS (Ne.symm ne_b202_b207) nin0)
  obtain ⟨fs, hr, hrun, hended, hW, hsame⟩ := X217.leave (v := (some (.ref b202))) (fun h => by rw [Bd.returns] at h; cases h)
  refine ⟨_, _, ?_, hrun, hended, _, _, rfl, ?_, ⟨_, rfl⟩, hW, hsame.mono (by decide) (by decide)⟩
  · rw [← hS0]
    refine k218 _ ?_
    show Steps p.tables e below (T217.setTop (mkF m 19 #[.val (.int (1 : Int32)), .val (.int c0), .val (.int c1), .val (.int c2), .val (.int c3)] [(.ref b202)])) _
    jvm_step X217.here [X217.here.top, hx, (hb hby d1_19), X217.method', Bd.returns, Value.isRef, FieldType.isReference]
    first | (intro acts; rw [hr _ acts rfl rfl rfl]) | rw [hr _ _ rfl rfl rfl]
    exact Steps.refl _
  · show Q_rmK1u Z  h0 n0 _ T217.heap _
    exact ⟨b202, _, _, _, _, _, rfl, N217, own_ext K220, sz_b202, E_b202, Fv217, Fc217, At217, Or.inr ⟨rfl, rfl⟩⟩
theorem rmK1 (l : Launch) (Z : State) (a0 : Array Value) (hw : ∀ d ∈ tables_1, d.before a0 Z = true) (ws : List Jvm.Cond) (c0 c1 c2 c3 zC : Int32) (h0 : Heap) (n0 : Nat) (O0 : Old Z n0 h0) (SAs : Sta Z Z.heap "java/lang/StringUTF16" "$assertionsDisabled" "Z" (.int (1 : Int32))) (SHi : Sta Z Z.heap "java/lang/StringUTF16" "HI_BYTE_SHIFT" "I" (.int (0 : Int32))) (SLo : Sta Z Z.heap "java/lang/StringUTF16" "LO_BYTE_SHIFT" "I" (.int (8 : Int32))) (SC : Sta Z Z.heap "java/lang/String" "COMPACT_STRINGS" "Z" (.int zC)) (hzC : ¬ zC = 0) (hc0 : ¬ c0 < 0 ∧ ¬ (65535 : Int32) < c0) (hc1 : ¬ c1 < 0 ∧ ¬ (65535 : Int32) < c1) (hc2 : ¬ c2 < 0 ∧ ¬ (65535 : Int32) < c2) (hc3 : ¬ c3 < 0 ∧ ¬ (65535 : Int32) < c3) :
    MetFree l (⟨"com/example/remodel/remodel/ComponentCheckLengthPinLaw", "make", "(ICCCC)Ljava/lang/String;"⟩ : MethodName) (head1 (Jvm.Cond.code (⟨"com/example/remodel/remodel/ComponentCheckLengthPinLaw", "make", "(ICCCC)Ljava/lang/String;"⟩ : MethodName) method_2_code 5 (some (.object "java/lang/String")) :: ws) ({ frames := 6, cells := 4, slots := 20, locals := 190 } : Room)) (fun a U => a = #[(.int (1 : Int32)), (.int c0), (.int c1), (.int c2), (.int c3)] ∧ Z.Warmed39 U.vm ∧ U.heap = h0) (fun _ _ _ _ _ => True) (fun _ U o U' => ∃ v L, o = .returned v ∧ Q_rmK1l Z h0 n0 v U'.heap L ∧ FrameEnd U o U' L ({ frames := 6, cells := 4, slots := 20, locals := 190 } : Room).cells ({ frames := 6, cells := 4, slots := 20, locals := 190 } : Room).slots) := by
  by_cases hex : ∃ c ∈ ([c0] : List Int32), (255 : Int32) < c
  · exact rmK1u l Z a0 hw ws c0 c1 c2 c3 zC h0 n0 O0 SAs SHi SLo SC hzC hc0 hc1 hc2 hc3 hex
  · exact rmK1l l Z a0 hw ws c0 c1 c2 c3 zC h0 n0 O0 SAs SHi SLo SC hzC hc0 hc1 hc2 hc3 (fun c hc q => hex ⟨c, hc, q⟩)
def Q_rmK2l (Z : State)  (h0 : Heap) (n0 : Nat) (v : Option Value) (h : Heap) (L : List Loc) : Prop := ∃ x t kt vs cd N2, v = some (.ref x) ∧ Fr n0 L ∧ Ext h0 h ∧ h0.size ≤ x ∧ Exa Z h x "java/lang/String" ∧ Fld Z h x "java/lang/String" "value" "[B" (.ref t) ∧ Fld Z h x "java/lang/String" "coder" "B" (.int cd) ∧ Arv Z h t kt .byte N2 vs (.int (0 : Int32)) ∧ ((cd = 0 ∧ N2 = (2 : Int32)) ∨ (cd = 1 ∧ N2 = (4 : Int32)))
theorem d1_20 : decode method_2_code 20 = .ok (.iload_n 0, 1) := by decide +kernel
theorem d1_21 : decode method_2_code 21 = .ok (.iconst 2, 1) := by decide +kernel
theorem d1_22 : decode method_2_code 22 = .ok (.if_icmp .ne 22, 3) := by decide +kernel
theorem d1_25 : decode method_2_code 25 = .ok (.new 7, 3) := by decide +kernel
theorem d1_28 : decode method_2_code 28 = .ok (.dup, 1) := by decide +kernel
theorem d1_29 : decode method_2_code 29 = .ok (.iconst 2, 1) := by decide +kernel
theorem d1_30 : decode method_2_code 30 = .ok (.newarray .char, 2) := by decide +kernel
theorem d1_32 : decode method_2_code 32 = .ok (.dup, 1) := by decide +kernel
theorem d1_33 : decode method_2_code 33 = .ok (.iconst 0, 1) := by decide +kernel
theorem d1_34 : decode method_2_code 34 = .ok (.iload_n 1, 1) := by decide +kernel
theorem d1_35 : decode method_2_code 35 = .ok (.castore, 1) := by decide +kernel
theorem d1_36 : decode method_2_code 36 = .ok (.dup, 1) := by decide +kernel
theorem d1_37 : decode method_2_code 37 = .ok (.iconst 1, 1) := by decide +kernel
theorem d1_38 : decode method_2_code 38 = .ok (.iload_n 2, 1) := by decide +kernel
theorem d1_39 : decode method_2_code 39 = .ok (.castore, 1) := by decide +kernel
theorem d1_40 : decode method_2_code 40 = .ok (.invokespecial 9, 3) := by decide +kernel
theorem d1_43 : decode method_2_code 43 = .ok (.areturn, 1) := by decide +kernel
set_option maxRecDepth 65536 in
set_option maxHeartbeats 40000000 in
theorem rmK2l (l : Launch) (Z : State) (a0 : Array Value) (hw : ∀ d ∈ tables_1, d.before a0 Z = true) (ws : List Jvm.Cond) (c0 : Int32) (c1 : Int32) (c2 : Int32) (c3 : Int32) (zC : Int32) (h0 : Heap) (n0 : Nat) (O0 : Old Z n0 h0) (SAs : Sta Z Z.heap "java/lang/StringUTF16" "$assertionsDisabled" "Z" (.int (1 : Int32))) (SHi : Sta Z Z.heap "java/lang/StringUTF16" "HI_BYTE_SHIFT" "I" (.int (0 : Int32))) (SLo : Sta Z Z.heap "java/lang/StringUTF16" "LO_BYTE_SHIFT" "I" (.int (8 : Int32))) (SC : Sta Z Z.heap "java/lang/String" "COMPACT_STRINGS" "Z" (.int zC)) (hzC : ¬ zC = 0) (hc0 : ¬ c0 < 0 ∧ ¬ (65535 : Int32) < c0) (hc1 : ¬ c1 < 0 ∧ ¬ (65535 : Int32) < c1) (hc2 : ¬ c2 < 0 ∧ ¬ (65535 : Int32) < c2) (hc3 : ¬ c3 < 0 ∧ ¬ (65535 : Int32) < c3) (hall : ∀ c ∈ ([c0, c1] : List Int32), ¬ (255 : Int32) < c) :
    MetFree l (⟨"com/example/remodel/remodel/ComponentCheckLengthPinLaw", "make", "(ICCCC)Ljava/lang/String;"⟩ : MethodName) (head1 (Jvm.Cond.code (⟨"com/example/remodel/remodel/ComponentCheckLengthPinLaw", "make", "(ICCCC)Ljava/lang/String;"⟩ : MethodName) method_2_code 5 (some (.object "java/lang/String")) :: ws) ({ frames := 6, cells := 4, slots := 20, locals := 190 } : Room)) (fun a U => a = #[(.int (2 : Int32)), (.int c0), (.int c1), (.int c2), (.int c3)] ∧ Z.Warmed39 U.vm ∧ U.heap = h0) (fun _ _ _ _ _ => True) (fun _ U o U' => ∃ v L, o = .returned v ∧ Q_rmK2l Z  h0 n0 v U'.heap L ∧ FrameEnd U o U' L ({ frames := 6, cells := 4, slots := 20, locals := 190 } : Room).cells ({ frames := 6, cells := 4, slots := 20, locals := 190 } : Room).slots) := by
  refine MetFree.of_bodySF (plainFor_of_name pn_ComponentCheckLengthPinLaw) hisR ?_
  intro p e s m args below meth c s₁ Bd hml0 hP hK
  obtain ⟨rfl, hZ, hh⟩ := hP
  have hx := Bd.exec
  have hby := Bd.bytes
  have hml : c.maxLocals = 5 := hml0
  have hown : s.vm.findClass "com/example/remodel/remodel/ComponentCheckLengthPinLaw" = some m.cls := findClass_of_methodNamed Bd.named
  have hnm := (name_of_methodNamed Bd.named Bd.method).1
  have X0 : Stand p l e ({ frames := 6, cells := 4, slots := 20, locals := 190 } : Room) s m #[(.int (2 : Int32)), (.int c0), (.int c1), (.int c2), (.int c3)] below meth c s₁ [] 0 0 := Stand.of_body Bd
  have e0 : s₁.heap = h0 := by rw [← hh, Bd.state]; rfl
  have N0 := Fr.nil n0
  obtain ⟨S0, hS0⟩ : ∃ z, z = s₁.setTop (entryFrame m #[(.int (2 : Int32)), (.int c0), (.int c1), (.int c2), (.int c3)] 5) := ⟨_, rfl⟩
  have k0 : Rch p e below S0 s₁ (mkF m 0 #[.val (.int (2 : Int32)), .val (.int c0), .val (.int c1), .val (.int c2), .val (.int c3)] []) := fun t kq => hS0 ▸ castTop (ef_1 m (2 : Int32) c0 c1 c2 c3) kq
  have K0 : Keep h0 h0 [] := Keep.refl h0 _
  have hpp : ∀ c ∈ ([c0, c1] : List Int32), ¬ c < 0 ∧ ¬ (65535 : Int32) < c := by
    intro c hc
    simp only [List.mem_cons, List.not_mem_nil, or_false] at hc
    rcases hc with rfl | rfl
    · exact hc0
    · exact hc1
  have k222 : Rch p e below S0 s₁ (mkF m 25 #[.val (.int (2 : Int32)), .val (.int c0), .val (.int c1), .val (.int c2), .val (.int c3)] []) := fun t h => k0 t (by
      show Steps p.tables e below (s₁.setTop (mkF m 0 #[.val (.int (2 : Int32)), .val (.int c0), .val (.int c1), .val (.int c2), .val (.int c3)] [])) _
      refine XS.iloadN X0.here hx rfl (hb hby d1_0) rfl ?_
      show Steps p.tables e below (s₁.setTop (mkF m 1 #[.val (.int (2 : Int32)), .val (.int c0), .val (.int c1), .val (.int c2), .val (.int c3)] [(.int (2 : Int32))])) _
      refine XS.iconst X0.here hx rfl (hb hby d1_1) ?_
      show Steps p.tables e below (s₁.setTop (mkF m 2 #[.val (.int (2 : Int32)), .val (.int c0), .val (.int c1), .val (.int c2), .val (.int c3)] [(.int (1 : Int32)), (.int (2 : Int32))])) _
      refine XS.icmpYes X0.here hx rfl (pc0 := 2) (pc' := 20) rfl (hb hby d1_2) rfl (feq (by decide : ¬ ((2 : Int32) = (1 : Int32)))).2 (by decide) (by decide) ?_
      show Steps p.tables e below (s₁.setTop (mkF m 20 #[.val (.int (2 : Int32)), .val (.int c0), .val (.int c1), .val (.int c2), .val (.int c3)] [])) _
      refine XS.iloadN X0.here hx rfl (hb hby d1_20) rfl ?_
      show Steps p.tables e below (s₁.setTop (mkF m 21 #[.val (.int (2 : Int32)), .val (.int c0), .val (.int c1), .val (.int c2), .val (.int c3)] [(.int (2 : Int32))])) _
      refine XS.iconst X0.here hx rfl (hb hby d1_21) ?_
      show Steps p.tables e below (s₁.setTop (mkF m 22 #[.val (.int (2 : Int32)), .val (.int c0), .val (.int c1), .val (.int c2), .val (.int c3)] [(.int (2 : Int32)), (.int (2 : Int32))])) _
      refine XS.icmpNo X0.here hx rfl (hb hby d1_22) rfl (teq (by decide : (2 : Int32) = (2 : Int32))).2 ?_
      show Steps p.tables e below (s₁.setTop (mkF m 25 #[.val (.int (2 : Int32)), .val (.int c0), .val (.int c1), .val (.int c2), .val (.int c3)] [])) _
      exact h)
  obtain ⟨T221, h221, X221, e221, E221, A221, D221, -, st221⟩ := newO X0 hx hZ hown (hw _ (List.mem_of_getElem? (i := 5) rfl)) (hw _ (List.mem_of_getElem? (i := 6) rfl)) (hw _ (List.mem_of_getElem? (i := 7) rfl)) e0 (g := (mkF m 25 #[.val (.int (2 : Int32)), .val (.int c0), .val (.int c1), .val (.int c2), .val (.int c3)] [])) rfl (hb hby d1_25) (by decide) (by decide)
  obtain ⟨b221, g221⟩ : ∃ z, z = h0.size := ⟨_, rfl⟩
  rw [← g221] at A221 D221 st221
  have k223 : Rch p e below S0 T221 (mkF m 28 #[.val (.int (2 : Int32)), .val (.int c0), .val (.int c1), .val (.int c2), .val (.int c3)] [(.ref b221)]) := fun t h => k222 t (st221 t h)
  have ge_b221 : n0 ≤ b221 := own_ge O0 (Nat.le_of_eq g221.symm)
  have sz_b221 : h0.size ≤ b221 := Nat.le_trans K0.1 (Nat.le_of_eq g221.symm)
  have O224 := O0.ext E221
  have K225 := K0.ext E221
  have E_b221 := A221
  have F_b221_coder : Fld Z h221 b221 "java/lang/String" "coder" "B" (.int (0 : Int32)) := D221 (Or.inr (hw _ (List.mem_of_getElem? (i := 32) rfl))) (ty := .byte) (by decide)
  have F_b221_value : Fld Z h221 b221 "java/lang/String" "value" "[B" .null := D221 (Or.inr (hw _ (List.mem_of_getElem? (i := 34) rfl))) (ty := (.array .byte)) (by decide)
  have k227 : Rch p e below S0 T221 (mkF m 30 #[.val (.int (2 : Int32)), .val (.int c0), .val (.int c1), .val (.int c2), .val (.int c3)] [(.int (2 : Int32)), (.ref b221), (.ref b221)]) := fun t h => k223 t (by
      show Steps p.tables e below (T221.setTop (mkF m 28 #[.val (.int (2 : Int32)), .val (.int c0), .val (.int c1), .val (.int c2), .val (.int c3)] [(.ref b221)])) _
      refine XS.dup X221.here hx rfl (hb hby d1_28) rfl rfl ?_
      show Steps p.tables e below (T221.setTop (mkF m 29 #[.val (.int (2 : Int32)), .val (.int c0), .val (.int c1), .val (.int c2), .val (.int c3)] [(.ref b221), (.ref b221)])) _
      refine XS.iconst X221.here hx rfl (hb hby d1_29) ?_
      show Steps p.tables e below (T221.setTop (mkF m 30 #[.val (.int (2 : Int32)), .val (.int c0), .val (.int c1), .val (.int c2), .val (.int c3)] [(.int (2 : Int32)), (.ref b221), (.ref b221)])) _
      exact h)
  obtain ⟨T226, h226, k226, X226, e226, E226, A226, st226⟩ := newP X221 hx hZ (hw _ (List.mem_of_getElem? (i := 8) rfl)) e221 (g := (mkF m 30 #[.val (.int (2 : Int32)), .val (.int c0), .val (.int c1), .val (.int c2), .val (.int c3)] [(.int (2 : Int32)), (.ref b221), (.ref b221)])) rfl (hb hby d1_30) rfl (by decide) (cap := 2) (by decide) (by decide) (by decide) (by decide)
  obtain ⟨b226, g226⟩ : ∃ z, z = h221.size := ⟨_, rfl⟩
  rw [← g226] at A226 st226
  have k228 : Rch p e below S0 T226 (mkF m 32 #[.val (.int (2 : Int32)), .val (.int c0), .val (.int c1), .val (.int c2), .val (.int c3)] [(.ref b226), (.ref b221), (.ref b221)]) := fun t h => k227 t (st226 t h)
  have ne_b221_b226 : b221 ≠ b226 := own_ne E_b221.lt (Nat.le_of_eq g226.symm)
  have ge_b226 : n0 ≤ b226 := own_ge O224 (Nat.le_of_eq g226.symm)
  have sz_b226 : h0.size ≤ b226 := Nat.le_trans K225.1 (Nat.le_of_eq g226.symm)
  have O229 := O224.ext E226
  have K230 := K225.ext E226
  replace E_b221 := E_b221.ext E226
  replace F_b221_coder := F_b221_coder.ext E226
  replace F_b221_value := F_b221_value.ext E226
  have V_b226 : Arv Z h226 b226 k226 .char (2 : Int32) [(.int (0 : Int32)), (.int (0 : Int32))] (.int (0 : Int32)) := (Arv.new A226 (by decide)).pad (pad_rep [] (.int (0 : Int32)) 2)
  have k232 : Rch p e below S0 T226 (mkF m 35 #[.val (.int (2 : Int32)), .val (.int c0), .val (.int c1), .val (.int c2), .val (.int c3)] [(.int c0), (.int (0 : Int32)), (.ref b226), (.ref b226), (.ref b221), (.ref b221)]) := fun t h => k228 t (by
      show Steps p.tables e below (T226.setTop (mkF m 32 #[.val (.int (2 : Int32)), .val (.int c0), .val (.int c1), .val (.int c2), .val (.int c3)] [(.ref b226), (.ref b221), (.ref b221)])) _
      refine XS.dup X226.here hx rfl (hb hby d1_32) rfl rfl ?_
      show Steps p.tables e below (T226.setTop (mkF m 33 #[.val (.int (2 : Int32)), .val (.int c0), .val (.int c1), .val (.int c2), .val (.int c3)] [(.ref b226), (.ref b226), (.ref b221), (.ref b221)])) _
      refine XS.iconst X226.here hx rfl (hb hby d1_33) ?_
      show Steps p.tables e below (T226.setTop (mkF m 34 #[.val (.int (2 : Int32)), .val (.int c0), .val (.int c1), .val (.int c2), .val (.int c3)] [(.int (0 : Int32)), (.ref b226), (.ref b226), (.ref b221), (.ref b221)])) _
      refine XS.iloadN X226.here hx rfl (hb hby d1_34) rfl ?_
      show Steps p.tables e below (T226.setTop (mkF m 35 #[.val (.int (2 : Int32)), .val (.int c0), .val (.int c1), .val (.int c2), .val (.int c3)] [(.int c0), (.int (0 : Int32)), (.ref b226), (.ref b226), (.ref b221), (.ref b221)])) _
      exact h)
  obtain ⟨cl231, Ar231, q231, Sz231, Ng231, Hs231, G231⟩ := id V_b226
  have hin231 : ¬ ((0 : Int32) < 0 ∨ cl231.slots.size ≤ ((0 : Int32)).toNatClampNeg) := inb_of Sz231 ⟨by decide, by decide⟩
  obtain ⟨T231, h231, X231, e231, W231, st231⟩ := stC X226 hx hZ e226 Ar231 (j := (0 : Int32)) hin231 (g := (mkF m 35 #[.val (.int (2 : Int32)), .val (.int c0), .val (.int c1), .val (.int c2), .val (.int c3)] [(.int c0), (.int (0 : Int32)), (.ref b226), (.ref b226), (.ref b221), (.ref b221)])) rfl rfl (hb hby d1_35)
  have k233 : Rch p e below S0 T231 (mkF m 36 #[.val (.int (2 : Int32)), .val (.int c0), .val (.int c1), .val (.int c2), .val (.int c3)] [(.ref b226), (.ref b221), (.ref b221)]) := fun t h => k232 t (st231 t h)
  have N231 := Fr.snoc X231 N0 ge_b226
  have V_b226' := Arv.set Ar231 q231 Sz231 Ng231 Hs231 G231 (fits_nar_char _) W231 0 rfl (Nat.le_of_ble_eq_true rfl)
  replace V_b226 : Arv Z h231 b226 k226 .char (2 : Int32) [(.int c0), (.int (0 : Int32))] (.int (0 : Int32)) := (by have q := V_b226'; rw [(own_narc c0 hc0).1] at q; exact q)
  have O234 := O229.wr W231 ge_b226
  have K235 := K230.wr W231 (Or.inr sz_b226)
  replace E_b221 := E_b221.wr W231
  replace F_b221_coder := F_b221_coder.other W231 (Or.inl ne_b221_b226)
  replace F_b221_value := F_b221_value.other W231 (Or.inl ne_b221_b226)
  have k237 : Rch p e below S0 T231 (mkF m 39 #[.val (.int (2 : Int32)), .val (.int c0), .val (.int c1), .val (.int c2), .val (.int c3)] [(.int c1), (.int (1 : Int32)), (.ref b226), (.ref b226), (.ref b221), (.ref b221)]) := fun t h => k233 t (by
      show Steps p.tables e below (T231.setTop (mkF m 36 #[.val (.int (2 : Int32)), .val (.int c0), .val (.int c1), .val (.int c2), .val (.int c3)] [(.ref b226), (.ref b221), (.ref b221)])) _
      refine XS.dup X231.here hx rfl (hb hby d1_36) rfl rfl ?_
      show Steps p.tables e below (T231.setTop (mkF m 37 #[.val (.int (2 : Int32)), .val (.int c0), .val (.int c1), .val (.int c2), .val (.int c3)] [(.ref b226), (.ref b226), (.ref b221), (.ref b221)])) _
      refine XS.iconst X231.here hx rfl (hb hby d1_37) ?_
      show Steps p.tables e below (T231.setTop (mkF m 38 #[.val (.int (2 : Int32)), .val (.int c0), .val (.int c1), .val (.int c2), .val (.int c3)] [(.int (1 : Int32)), (.ref b226), (.ref b226), (.ref b221), (.ref b221)])) _
      refine XS.iloadN X231.here hx rfl (hb hby d1_38) rfl ?_
      show Steps p.tables e below (T231.setTop (mkF m 39 #[.val (.int (2 : Int32)), .val (.int c0), .val (.int c1), .val (.int c2), .val (.int c3)] [(.int c1), (.int (1 : Int32)), (.ref b226), (.ref b226), (.ref b221), (.ref b221)])) _
      exact h)
  obtain ⟨cl236, Ar236, q236, Sz236, Ng236, Hs236, G236⟩ := id V_b226
  have hin236 : ¬ ((1 : Int32) < 0 ∨ cl236.slots.size ≤ ((1 : Int32)).toNatClampNeg) := inb_of Sz236 ⟨by decide, by decide⟩
  obtain ⟨T236, h236, X236, e236, W236, st236⟩ := stC X231 hx hZ e231 Ar236 (j := (1 : Int32)) hin236 (g := (mkF m 39 #[.val (.int (2 : Int32)), .val (.int c0), .val (.int c1), .val (.int c2), .val (.int c3)] [(.int c1), (.int (1 : Int32)), (.ref b226), (.ref b226), (.ref b221), (.ref b221)])) rfl rfl (hb hby d1_39)
  have k238 : Rch p e below S0 T236 (mkF m 40 #[.val (.int (2 : Int32)), .val (.int c0), .val (.int c1), .val (.int c2), .val (.int c3)] [(.ref b226), (.ref b221), (.ref b221)]) := fun t h => k237 t (st236 t h)
  have N236 := Fr.snoc X236 N231 ge_b226
  have V_b226' := Arv.set Ar236 q236 Sz236 Ng236 Hs236 G236 (fits_nar_char _) W236 1 rfl (Nat.le_of_ble_eq_true rfl)
  replace V_b226 : Arv Z h236 b226 k226 .char (2 : Int32) [(.int c0), (.int c1)] (.int (0 : Int32)) := (by have q := V_b226'; rw [(own_narc c1 hc1).1] at q; exact q)
  have O239 := O234.wr W236 ge_b226
  have K240 := K235.wr W236 (Or.inr sz_b226)
  replace E_b221 := E_b221.wr W236
  replace F_b221_coder := F_b221_coder.other W236 (Or.inl ne_b221_b226)
  replace F_b221_value := F_b221_value.other W236 (Or.inl ne_b221_b226)
  have hws : ∀ d ∈ StrChars.Road.words, d.before a0 Z = true := fun d hd => hw d ((by decide +kernel : ∀ d ∈ StrChars.Road.words, d ∈ tables_1) d hd)
  have hp : ∀ c ∈ ([c0, c1] : List Int32), ¬ c < 0 ∧ ¬ (255 : Int32) < c := fun c hc => ⟨(hpp c hc).1, hall c hc⟩
  obtain ⟨_, _, ⟨T241, L241, kk241, n241⟩, -, X241, ⟨Lc241, hQ241, l241, y241, z241⟩, st241⟩ := X236.specialBack hx (y := (⟨"java/lang/String", "<init>", "([C)V"⟩ : MethodName)) rfl hown (mvT hZ (hw _ (List.mem_of_getElem? (i := 9) rfl))) (mvT hZ (hw _ (List.mem_of_getElem? (i := 10) rfl))) (mvT hZ (hw _ (List.mem_of_getElem? (i := 11) rfl))) (by decide) (StrChars.Road.backV (W := 1) hZ hws (kI := 4) (hw _ (List.mem_of_getElem? (i := 6) rfl)) (cs := [c0, c1]) (bs := [c0, c1].map (fun c => c.toInt8.toInt32)) (n := 2) ge_b221 (own_le O239) E_b221 F_b221_value F_b221_coder V_b226 (SC.ext O239.2) hzC rfl rfl (by decide) (by decide) hp rfl (by decide) (by decide)) (g := (mkF m 40 #[.val (.int (2 : Int32)), .val (.int c0), .val (.int c1), .val (.int c2), .val (.int c3)] [(.ref b226), (.ref b221), (.ref b221)])) rfl (by rw [hml]; rfl) (Steps.refl _) (a := b221) (argsL := [(.ref b226)]) (rest := [(.ref b221)]) (lenOf pd_1 rfl) rfl (by show 2 * 0 + _ ≤ _; exact Nat.le_of_eq rfl) (hb hby d1_40) (fun _ _ => ⟨rfl, e236, (by decide : 2 + 1 ≤ _), (by decide : 6 + 2 ≤ _)⟩)
  dsimp only [Pt.U, Pt.locs, Pt.cells, Pt.slots] at X241 l241 y241 z241 st241 hQ241
  subst l241 y241 z241
  obtain ⟨rfl, Nq241, K241, Eb241, Cb241, t241, kb241, u241, v241, ww241, Vb241, Ab241⟩ := hQ241
  have N241 := Fr.app N236 Nq241
  have k242 : Rch p e below S0 T241 (mkF m 43 #[.val (.int (2 : Int32)), .val (.int c0), .val (.int c1), .val (.int c2), .val (.int c3)] [(.ref b221)]) := fun t h => k238 t (st241.trans h)
  have O243 := O239.keep K241 (allS ge_b221 all0)
  have K244 := K240.trans K241 (allS (Or.inr sz_b221) all0)
  replace E_b221 := E_b221.keep K241
  replace V_b226 := V_b226.keep K241 (ninS (Ne.symm ne_b221_b226) nin0)
  obtain ⟨fs, hr, hrun, hended, hW, hsame⟩ := X241.leave (v := (some (.ref b221))) (fun h => by rw [Bd.returns] at h; cases h)
  refine ⟨_, _, ?_, hrun, hended, _, _, rfl, ?_, ⟨_, rfl⟩, hW, hsame.mono (by decide) (by decide)⟩
  · rw [← hS0]
    refine k242 _ ?_
    show Steps p.tables e below (T241.setTop (mkF m 43 #[.val (.int (2 : Int32)), .val (.int c0), .val (.int c1), .val (.int c2), .val (.int c3)] [(.ref b221)])) _
    jvm_step X241.here [X241.here.top, hx, (hb hby d1_43), X241.method', Bd.returns, Value.isRef, FieldType.isReference]
    first | (intro acts; rw [hr _ acts rfl rfl rfl]) | rw [hr _ _ rfl rfl rfl]
    exact Steps.refl _
  · show Q_rmK2l Z  h0 n0 _ T241.heap _
    exact ⟨b221, _, _, _, _, _, rfl, N241, own_ext K244, sz_b221, E_b221, Vb241, Cb241, Ab241, Or.inl ⟨rfl, rfl⟩⟩
def Q_rmK2u (Z : State)  (h0 : Heap) (n0 : Nat) (v : Option Value) (h : Heap) (L : List Loc) : Prop := ∃ x t kt vs cd N2, v = some (.ref x) ∧ Fr n0 L ∧ Ext h0 h ∧ h0.size ≤ x ∧ Exa Z h x "java/lang/String" ∧ Fld Z h x "java/lang/String" "value" "[B" (.ref t) ∧ Fld Z h x "java/lang/String" "coder" "B" (.int cd) ∧ Arv Z h t kt .byte N2 vs (.int (0 : Int32)) ∧ ((cd = 0 ∧ N2 = (2 : Int32)) ∨ (cd = 1 ∧ N2 = (4 : Int32)))
set_option maxRecDepth 65536 in
set_option maxHeartbeats 40000000 in
theorem rmK2u (l : Launch) (Z : State) (a0 : Array Value) (hw : ∀ d ∈ tables_1, d.before a0 Z = true) (ws : List Jvm.Cond) (c0 : Int32) (c1 : Int32) (c2 : Int32) (c3 : Int32) (zC : Int32) (h0 : Heap) (n0 : Nat) (O0 : Old Z n0 h0) (SAs : Sta Z Z.heap "java/lang/StringUTF16" "$assertionsDisabled" "Z" (.int (1 : Int32))) (SHi : Sta Z Z.heap "java/lang/StringUTF16" "HI_BYTE_SHIFT" "I" (.int (0 : Int32))) (SLo : Sta Z Z.heap "java/lang/StringUTF16" "LO_BYTE_SHIFT" "I" (.int (8 : Int32))) (SC : Sta Z Z.heap "java/lang/String" "COMPACT_STRINGS" "Z" (.int zC)) (hzC : ¬ zC = 0) (hc0 : ¬ c0 < 0 ∧ ¬ (65535 : Int32) < c0) (hc1 : ¬ c1 < 0 ∧ ¬ (65535 : Int32) < c1) (hc2 : ¬ c2 < 0 ∧ ¬ (65535 : Int32) < c2) (hc3 : ¬ c3 < 0 ∧ ¬ (65535 : Int32) < c3) (hex : ∃ c ∈ ([c0, c1] : List Int32), (255 : Int32) < c) :
    MetFree l (⟨"com/example/remodel/remodel/ComponentCheckLengthPinLaw", "make", "(ICCCC)Ljava/lang/String;"⟩ : MethodName) (head1 (Jvm.Cond.code (⟨"com/example/remodel/remodel/ComponentCheckLengthPinLaw", "make", "(ICCCC)Ljava/lang/String;"⟩ : MethodName) method_2_code 5 (some (.object "java/lang/String")) :: ws) ({ frames := 6, cells := 4, slots := 20, locals := 190 } : Room)) (fun a U => a = #[(.int (2 : Int32)), (.int c0), (.int c1), (.int c2), (.int c3)] ∧ Z.Warmed39 U.vm ∧ U.heap = h0) (fun _ _ _ _ _ => True) (fun _ U o U' => ∃ v L, o = .returned v ∧ Q_rmK2u Z  h0 n0 v U'.heap L ∧ FrameEnd U o U' L ({ frames := 6, cells := 4, slots := 20, locals := 190 } : Room).cells ({ frames := 6, cells := 4, slots := 20, locals := 190 } : Room).slots) := by
  refine MetFree.of_bodySF (plainFor_of_name pn_ComponentCheckLengthPinLaw) hisR ?_
  intro p e s m args below meth c s₁ Bd hml0 hP hK
  obtain ⟨rfl, hZ, hh⟩ := hP
  have hx := Bd.exec
  have hby := Bd.bytes
  have hml : c.maxLocals = 5 := hml0
  have hown : s.vm.findClass "com/example/remodel/remodel/ComponentCheckLengthPinLaw" = some m.cls := findClass_of_methodNamed Bd.named
  have hnm := (name_of_methodNamed Bd.named Bd.method).1
  have X0 : Stand p l e ({ frames := 6, cells := 4, slots := 20, locals := 190 } : Room) s m #[(.int (2 : Int32)), (.int c0), (.int c1), (.int c2), (.int c3)] below meth c s₁ [] 0 0 := Stand.of_body Bd
  have e0 : s₁.heap = h0 := by rw [← hh, Bd.state]; rfl
  have N0 := Fr.nil n0
  obtain ⟨S0, hS0⟩ : ∃ z, z = s₁.setTop (entryFrame m #[(.int (2 : Int32)), (.int c0), (.int c1), (.int c2), (.int c3)] 5) := ⟨_, rfl⟩
  have k0 : Rch p e below S0 s₁ (mkF m 0 #[.val (.int (2 : Int32)), .val (.int c0), .val (.int c1), .val (.int c2), .val (.int c3)] []) := fun t kq => hS0 ▸ castTop (ef_1 m (2 : Int32) c0 c1 c2 c3) kq
  have K0 : Keep h0 h0 [] := Keep.refl h0 _
  have hpp : ∀ c ∈ ([c0, c1] : List Int32), ¬ c < 0 ∧ ¬ (65535 : Int32) < c := by
    intro c hc
    simp only [List.mem_cons, List.not_mem_nil, or_false] at hc
    rcases hc with rfl | rfl
    · exact hc0
    · exact hc1
  obtain ⟨kF, hkF, hlowF, hhighF⟩ := own_first [c0, c1] hex
  have k246 : Rch p e below S0 s₁ (mkF m 25 #[.val (.int (2 : Int32)), .val (.int c0), .val (.int c1), .val (.int c2), .val (.int c3)] []) := fun t h => k0 t (by
      show Steps p.tables e below (s₁.setTop (mkF m 0 #[.val (.int (2 : Int32)), .val (.int c0), .val (.int c1), .val (.int c2), .val (.int c3)] [])) _
      refine XS.iloadN X0.here hx rfl (hb hby d1_0) rfl ?_
      show Steps p.tables e below (s₁.setTop (mkF m 1 #[.val (.int (2 : Int32)), .val (.int c0), .val (.int c1), .val (.int c2), .val (.int c3)] [(.int (2 : Int32))])) _
      refine XS.iconst X0.here hx rfl (hb hby d1_1) ?_
      show Steps p.tables e below (s₁.setTop (mkF m 2 #[.val (.int (2 : Int32)), .val (.int c0), .val (.int c1), .val (.int c2), .val (.int c3)] [(.int (1 : Int32)), (.int (2 : Int32))])) _
      refine XS.icmpYes X0.here hx rfl (pc0 := 2) (pc' := 20) rfl (hb hby d1_2) rfl (feq (by decide : ¬ ((2 : Int32) = (1 : Int32)))).2 (by decide) (by decide) ?_
      show Steps p.tables e below (s₁.setTop (mkF m 20 #[.val (.int (2 : Int32)), .val (.int c0), .val (.int c1), .val (.int c2), .val (.int c3)] [])) _
      refine XS.iloadN X0.here hx rfl (hb hby d1_20) rfl ?_
      show Steps p.tables e below (s₁.setTop (mkF m 21 #[.val (.int (2 : Int32)), .val (.int c0), .val (.int c1), .val (.int c2), .val (.int c3)] [(.int (2 : Int32))])) _
      refine XS.iconst X0.here hx rfl (hb hby d1_21) ?_
      show Steps p.tables e below (s₁.setTop (mkF m 22 #[.val (.int (2 : Int32)), .val (.int c0), .val (.int c1), .val (.int c2), .val (.int c3)] [(.int (2 : Int32)), (.int (2 : Int32))])) _
      refine XS.icmpNo X0.here hx rfl (hb hby d1_22) rfl (teq (by decide : (2 : Int32) = (2 : Int32))).2 ?_
      show Steps p.tables e below (s₁.setTop (mkF m 25 #[.val (.int (2 : Int32)), .val (.int c0), .val (.int c1), .val (.int c2), .val (.int c3)] [])) _
      exact h)
  obtain ⟨T245, h245, X245, e245, E245, A245, D245, -, st245⟩ := newO X0 hx hZ hown (hw _ (List.mem_of_getElem? (i := 5) rfl)) (hw _ (List.mem_of_getElem? (i := 6) rfl)) (hw _ (List.mem_of_getElem? (i := 7) rfl)) e0 (g := (mkF m 25 #[.val (.int (2 : Int32)), .val (.int c0), .val (.int c1), .val (.int c2), .val (.int c3)] [])) rfl (hb hby d1_25) (by decide) (by decide)
  obtain ⟨b245, g245⟩ : ∃ z, z = h0.size := ⟨_, rfl⟩
  rw [← g245] at A245 D245 st245
  have k247 : Rch p e below S0 T245 (mkF m 28 #[.val (.int (2 : Int32)), .val (.int c0), .val (.int c1), .val (.int c2), .val (.int c3)] [(.ref b245)]) := fun t h => k246 t (st245 t h)
  have ge_b245 : n0 ≤ b245 := own_ge O0 (Nat.le_of_eq g245.symm)
  have sz_b245 : h0.size ≤ b245 := Nat.le_trans K0.1 (Nat.le_of_eq g245.symm)
  have O248 := O0.ext E245
  have K249 := K0.ext E245
  have E_b245 := A245
  have F_b245_coder : Fld Z h245 b245 "java/lang/String" "coder" "B" (.int (0 : Int32)) := D245 (Or.inr (hw _ (List.mem_of_getElem? (i := 32) rfl))) (ty := .byte) (by decide)
  have F_b245_value : Fld Z h245 b245 "java/lang/String" "value" "[B" .null := D245 (Or.inr (hw _ (List.mem_of_getElem? (i := 34) rfl))) (ty := (.array .byte)) (by decide)
  have k251 : Rch p e below S0 T245 (mkF m 30 #[.val (.int (2 : Int32)), .val (.int c0), .val (.int c1), .val (.int c2), .val (.int c3)] [(.int (2 : Int32)), (.ref b245), (.ref b245)]) := fun t h => k247 t (by
      show Steps p.tables e below (T245.setTop (mkF m 28 #[.val (.int (2 : Int32)), .val (.int c0), .val (.int c1), .val (.int c2), .val (.int c3)] [(.ref b245)])) _
      refine XS.dup X245.here hx rfl (hb hby d1_28) rfl rfl ?_
      show Steps p.tables e below (T245.setTop (mkF m 29 #[.val (.int (2 : Int32)), .val (.int c0), .val (.int c1), .val (.int c2), .val (.int c3)] [(.ref b245), (.ref b245)])) _
      refine XS.iconst X245.here hx rfl (hb hby d1_29) ?_
      show Steps p.tables e below (T245.setTop (mkF m 30 #[.val (.int (2 : Int32)), .val (.int c0), .val (.int c1), .val (.int c2), .val (.int c3)] [(.int (2 : Int32)), (.ref b245), (.ref b245)])) _
      exact h)
  obtain ⟨T250, h250, k250, X250, e250, E250, A250, st250⟩ := newP X245 hx hZ (hw _ (List.mem_of_getElem? (i := 8) rfl)) e245 (g := (mkF m 30 #[.val (.int (2 : Int32)), .val (.int c0), .val (.int c1), .val (.int c2), .val (.int c3)] [(.int (2 : Int32)), (.ref b245), (.ref b245)])) rfl (hb hby d1_30) rfl (by decide) (cap := 2) (by decide) (by decide) (by decide) (by decide)
  obtain ⟨b250, g250⟩ : ∃ z, z = h245.size := ⟨_, rfl⟩
  rw [← g250] at A250 st250
  have k252 : Rch p e below S0 T250 (mkF m 32 #[.val (.int (2 : Int32)), .val (.int c0), .val (.int c1), .val (.int c2), .val (.int c3)] [(.ref b250), (.ref b245), (.ref b245)]) := fun t h => k251 t (st250 t h)
  have ne_b245_b250 : b245 ≠ b250 := own_ne E_b245.lt (Nat.le_of_eq g250.symm)
  have ge_b250 : n0 ≤ b250 := own_ge O248 (Nat.le_of_eq g250.symm)
  have sz_b250 : h0.size ≤ b250 := Nat.le_trans K249.1 (Nat.le_of_eq g250.symm)
  have O253 := O248.ext E250
  have K254 := K249.ext E250
  replace E_b245 := E_b245.ext E250
  replace F_b245_coder := F_b245_coder.ext E250
  replace F_b245_value := F_b245_value.ext E250
  have V_b250 : Arv Z h250 b250 k250 .char (2 : Int32) [(.int (0 : Int32)), (.int (0 : Int32))] (.int (0 : Int32)) := (Arv.new A250 (by decide)).pad (pad_rep [] (.int (0 : Int32)) 2)
  have k256 : Rch p e below S0 T250 (mkF m 35 #[.val (.int (2 : Int32)), .val (.int c0), .val (.int c1), .val (.int c2), .val (.int c3)] [(.int c0), (.int (0 : Int32)), (.ref b250), (.ref b250), (.ref b245), (.ref b245)]) := fun t h => k252 t (by
      show Steps p.tables e below (T250.setTop (mkF m 32 #[.val (.int (2 : Int32)), .val (.int c0), .val (.int c1), .val (.int c2), .val (.int c3)] [(.ref b250), (.ref b245), (.ref b245)])) _
      refine XS.dup X250.here hx rfl (hb hby d1_32) rfl rfl ?_
      show Steps p.tables e below (T250.setTop (mkF m 33 #[.val (.int (2 : Int32)), .val (.int c0), .val (.int c1), .val (.int c2), .val (.int c3)] [(.ref b250), (.ref b250), (.ref b245), (.ref b245)])) _
      refine XS.iconst X250.here hx rfl (hb hby d1_33) ?_
      show Steps p.tables e below (T250.setTop (mkF m 34 #[.val (.int (2 : Int32)), .val (.int c0), .val (.int c1), .val (.int c2), .val (.int c3)] [(.int (0 : Int32)), (.ref b250), (.ref b250), (.ref b245), (.ref b245)])) _
      refine XS.iloadN X250.here hx rfl (hb hby d1_34) rfl ?_
      show Steps p.tables e below (T250.setTop (mkF m 35 #[.val (.int (2 : Int32)), .val (.int c0), .val (.int c1), .val (.int c2), .val (.int c3)] [(.int c0), (.int (0 : Int32)), (.ref b250), (.ref b250), (.ref b245), (.ref b245)])) _
      exact h)
  obtain ⟨cl255, Ar255, q255, Sz255, Ng255, Hs255, G255⟩ := id V_b250
  have hin255 : ¬ ((0 : Int32) < 0 ∨ cl255.slots.size ≤ ((0 : Int32)).toNatClampNeg) := inb_of Sz255 ⟨by decide, by decide⟩
  obtain ⟨T255, h255, X255, e255, W255, st255⟩ := stC X250 hx hZ e250 Ar255 (j := (0 : Int32)) hin255 (g := (mkF m 35 #[.val (.int (2 : Int32)), .val (.int c0), .val (.int c1), .val (.int c2), .val (.int c3)] [(.int c0), (.int (0 : Int32)), (.ref b250), (.ref b250), (.ref b245), (.ref b245)])) rfl rfl (hb hby d1_35)
  have k257 : Rch p e below S0 T255 (mkF m 36 #[.val (.int (2 : Int32)), .val (.int c0), .val (.int c1), .val (.int c2), .val (.int c3)] [(.ref b250), (.ref b245), (.ref b245)]) := fun t h => k256 t (st255 t h)
  have N255 := Fr.snoc X255 N0 ge_b250
  have V_b250' := Arv.set Ar255 q255 Sz255 Ng255 Hs255 G255 (fits_nar_char _) W255 0 rfl (Nat.le_of_ble_eq_true rfl)
  replace V_b250 : Arv Z h255 b250 k250 .char (2 : Int32) [(.int c0), (.int (0 : Int32))] (.int (0 : Int32)) := (by have q := V_b250'; rw [(own_narc c0 hc0).1] at q; exact q)
  have O258 := O253.wr W255 ge_b250
  have K259 := K254.wr W255 (Or.inr sz_b250)
  replace E_b245 := E_b245.wr W255
  replace F_b245_coder := F_b245_coder.other W255 (Or.inl ne_b245_b250)
  replace F_b245_value := F_b245_value.other W255 (Or.inl ne_b245_b250)
  have k261 : Rch p e below S0 T255 (mkF m 39 #[.val (.int (2 : Int32)), .val (.int c0), .val (.int c1), .val (.int c2), .val (.int c3)] [(.int c1), (.int (1 : Int32)), (.ref b250), (.ref b250), (.ref b245), (.ref b245)]) := fun t h => k257 t (by
      show Steps p.tables e below (T255.setTop (mkF m 36 #[.val (.int (2 : Int32)), .val (.int c0), .val (.int c1), .val (.int c2), .val (.int c3)] [(.ref b250), (.ref b245), (.ref b245)])) _
      refine XS.dup X255.here hx rfl (hb hby d1_36) rfl rfl ?_
      show Steps p.tables e below (T255.setTop (mkF m 37 #[.val (.int (2 : Int32)), .val (.int c0), .val (.int c1), .val (.int c2), .val (.int c3)] [(.ref b250), (.ref b250), (.ref b245), (.ref b245)])) _
      refine XS.iconst X255.here hx rfl (hb hby d1_37) ?_
      show Steps p.tables e below (T255.setTop (mkF m 38 #[.val (.int (2 : Int32)), .val (.int c0), .val (.int c1), .val (.int c2), .val (.int c3)] [(.int (1 : Int32)), (.ref b250), (.ref b250), (.ref b245), (.ref b245)])) _
      refine XS.iloadN X255.here hx rfl (hb hby d1_38) rfl ?_
      show Steps p.tables e below (T255.setTop (mkF m 39 #[.val (.int (2 : Int32)), .val (.int c0), .val (.int c1), .val (.int c2), .val (.int c3)] [(.int c1), (.int (1 : Int32)), (.ref b250), (.ref b250), (.ref b245), (.ref b245)])) _
      exact h)
  obtain ⟨cl260, Ar260, q260, Sz260, Ng260, Hs260, G260⟩ := id V_b250
  have hin260 : ¬ ((1 : Int32) < 0 ∨ cl260.slots.size ≤ ((1 : Int32)).toNatClampNeg) := inb_of Sz260 ⟨by decide, by decide⟩
  obtain ⟨T260, h260, X260, e260, W260, st260⟩ := stC X255 hx hZ e255 Ar260 (j := (1 : Int32)) hin260 (g := (mkF m 39 #[.val (.int (2 : Int32)), .val (.int c0), .val (.int c1), .val (.int c2), .val (.int c3)] [(.int c1), (.int (1 : Int32)), (.ref b250), (.ref b250), (.ref b245), (.ref b245)])) rfl rfl (hb hby d1_39)
  have k262 : Rch p e below S0 T260 (mkF m 40 #[.val (.int (2 : Int32)), .val (.int c0), .val (.int c1), .val (.int c2), .val (.int c3)] [(.ref b250), (.ref b245), (.ref b245)]) := fun t h => k261 t (st260 t h)
  have N260 := Fr.snoc X260 N255 ge_b250
  have V_b250' := Arv.set Ar260 q260 Sz260 Ng260 Hs260 G260 (fits_nar_char _) W260 1 rfl (Nat.le_of_ble_eq_true rfl)
  replace V_b250 : Arv Z h260 b250 k250 .char (2 : Int32) [(.int c0), (.int c1)] (.int (0 : Int32)) := (by have q := V_b250'; rw [(own_narc c1 hc1).1] at q; exact q)
  have O263 := O258.wr W260 ge_b250
  have K264 := K259.wr W260 (Or.inr sz_b250)
  replace E_b245 := E_b245.wr W260
  replace F_b245_coder := F_b245_coder.other W260 (Or.inl ne_b245_b250)
  replace F_b245_value := F_b245_value.other W260 (Or.inl ne_b245_b250)
  obtain ⟨_, _, ⟨T265, L265, kk265, n265⟩, -, X265, ⟨Lc265, hQ265, l265, y265, z265⟩, st265⟩ := X260.specialBack hx (y := (⟨"java/lang/String", "<init>", "([C)V"⟩ : MethodName)) rfl hown (mvT hZ (hw _ (List.mem_of_getElem? (i := 9) rfl))) (mvT hZ (hw _ (List.mem_of_getElem? (i := 10) rfl))) (mvT hZ (hw _ (List.mem_of_getElem? (i := 11) rfl))) (by decide) (backOf (W := 1) (rmU1 l Z a0 hw [] b245 b250 k250 2 ([c0, c1]) kF zC h260 n0 O263 SAs SHi SLo SC hzC (by decide) rfl hkF hlowF hhighF hpp ge_b245 E_b245 F_b245_value F_b245_coder (Ne.symm ne_b245_b250) V_b250) hZ (hw _ (List.mem_of_getElem? (i := 11) rfl)) (hw _ (List.mem_of_getElem? (i := 7) rfl)) (by decide) (by decide)) (g := (mkF m 40 #[.val (.int (2 : Int32)), .val (.int c0), .val (.int c1), .val (.int c2), .val (.int c3)] [(.ref b250), (.ref b245), (.ref b245)])) rfl (by rw [hml]; rfl) (Steps.refl _) (a := b245) (argsL := [(.ref b250)]) (rest := [(.ref b245)]) (lenOf pd_1 rfl) rfl (by show 2 * 0 + _ ≤ _; exact Nat.le_of_eq rfl) (hb hby d1_40) (fun _ _ => ⟨rfl, e260, (by decide : 2 + 2 ≤ _), (by decide : 6 + 12 ≤ _)⟩)
  dsimp only [Pt.U, Pt.locs, Pt.cells, Pt.slots] at X265 l265 y265 z265 st265 hQ265
  subst l265 y265 z265
  obtain ⟨rfl, Nq265, K265, t265, kt265, vs265, Fv265, Fc265, At265⟩ := hQ265
  have N265 := Fr.app N260 Nq265
  have k266 : Rch p e below S0 T265 (mkF m 43 #[.val (.int (2 : Int32)), .val (.int c0), .val (.int c1), .val (.int c2), .val (.int c3)] [(.ref b245)]) := fun t h => k262 t (st265.trans h)
  have O267 := O263.keep K265 (allS ge_b245 all0)
  have K268 := K264.trans K265 (allS (Or.inr sz_b245) all0)
  replace E_b245 := E_b245.keep K265
  replace V_b250 := V_b250.keep K265 (ninS (Ne.symm ne_b245_b250) nin0)
  obtain ⟨fs, hr, hrun, hended, hW, hsame⟩ := X265.leave (v := (some (.ref b245))) (fun h => by rw [Bd.returns] at h; cases h)
  refine ⟨_, _, ?_, hrun, hended, _, _, rfl, ?_, ⟨_, rfl⟩, hW, hsame.mono (by decide) (by decide)⟩
  · rw [← hS0]
    refine k266 _ ?_
    show Steps p.tables e below (T265.setTop (mkF m 43 #[.val (.int (2 : Int32)), .val (.int c0), .val (.int c1), .val (.int c2), .val (.int c3)] [(.ref b245)])) _
    jvm_step X265.here [X265.here.top, hx, (hb hby d1_43), X265.method', Bd.returns, Value.isRef, FieldType.isReference]
    first | (intro acts; rw [hr _ acts rfl rfl rfl]) | rw [hr _ _ rfl rfl rfl]
    exact Steps.refl _
  · show Q_rmK2u Z  h0 n0 _ T265.heap _
    exact ⟨b245, _, _, _, _, _, rfl, N265, own_ext K268, sz_b245, E_b245, Fv265, Fc265, At265, Or.inr ⟨rfl, rfl⟩⟩
theorem rmK2 (l : Launch) (Z : State) (a0 : Array Value) (hw : ∀ d ∈ tables_1, d.before a0 Z = true) (ws : List Jvm.Cond) (c0 c1 c2 c3 zC : Int32) (h0 : Heap) (n0 : Nat) (O0 : Old Z n0 h0) (SAs : Sta Z Z.heap "java/lang/StringUTF16" "$assertionsDisabled" "Z" (.int (1 : Int32))) (SHi : Sta Z Z.heap "java/lang/StringUTF16" "HI_BYTE_SHIFT" "I" (.int (0 : Int32))) (SLo : Sta Z Z.heap "java/lang/StringUTF16" "LO_BYTE_SHIFT" "I" (.int (8 : Int32))) (SC : Sta Z Z.heap "java/lang/String" "COMPACT_STRINGS" "Z" (.int zC)) (hzC : ¬ zC = 0) (hc0 : ¬ c0 < 0 ∧ ¬ (65535 : Int32) < c0) (hc1 : ¬ c1 < 0 ∧ ¬ (65535 : Int32) < c1) (hc2 : ¬ c2 < 0 ∧ ¬ (65535 : Int32) < c2) (hc3 : ¬ c3 < 0 ∧ ¬ (65535 : Int32) < c3) :
    MetFree l (⟨"com/example/remodel/remodel/ComponentCheckLengthPinLaw", "make", "(ICCCC)Ljava/lang/String;"⟩ : MethodName) (head1 (Jvm.Cond.code (⟨"com/example/remodel/remodel/ComponentCheckLengthPinLaw", "make", "(ICCCC)Ljava/lang/String;"⟩ : MethodName) method_2_code 5 (some (.object "java/lang/String")) :: ws) ({ frames := 6, cells := 4, slots := 20, locals := 190 } : Room)) (fun a U => a = #[(.int (2 : Int32)), (.int c0), (.int c1), (.int c2), (.int c3)] ∧ Z.Warmed39 U.vm ∧ U.heap = h0) (fun _ _ _ _ _ => True) (fun _ U o U' => ∃ v L, o = .returned v ∧ Q_rmK2l Z h0 n0 v U'.heap L ∧ FrameEnd U o U' L ({ frames := 6, cells := 4, slots := 20, locals := 190 } : Room).cells ({ frames := 6, cells := 4, slots := 20, locals := 190 } : Room).slots) := by
  by_cases hex : ∃ c ∈ ([c0, c1] : List Int32), (255 : Int32) < c
  · exact rmK2u l Z a0 hw ws c0 c1 c2 c3 zC h0 n0 O0 SAs SHi SLo SC hzC hc0 hc1 hc2 hc3 hex
  · exact rmK2l l Z a0 hw ws c0 c1 c2 c3 zC h0 n0 O0 SAs SHi SLo SC hzC hc0 hc1 hc2 hc3 (fun c hc q => hex ⟨c, hc, q⟩)
def Q_rmK3l (Z : State)  (h0 : Heap) (n0 : Nat) (v : Option Value) (h : Heap) (L : List Loc) : Prop := ∃ x t kt vs cd N2, v = some (.ref x) ∧ Fr n0 L ∧ Ext h0 h ∧ h0.size ≤ x ∧ Exa Z h x "java/lang/String" ∧ Fld Z h x "java/lang/String" "value" "[B" (.ref t) ∧ Fld Z h x "java/lang/String" "coder" "B" (.int cd) ∧ Arv Z h t kt .byte N2 vs (.int (0 : Int32)) ∧ ((cd = 0 ∧ N2 = (3 : Int32)) ∨ (cd = 1 ∧ N2 = (6 : Int32)))
theorem d1_44 : decode method_2_code 44 = .ok (.iload_n 0, 1) := by decide +kernel
theorem d1_45 : decode method_2_code 45 = .ok (.iconst 3, 1) := by decide +kernel
theorem d1_46 : decode method_2_code 46 = .ok (.if_icmp .ne 26, 3) := by decide +kernel
theorem d1_49 : decode method_2_code 49 = .ok (.new 7, 3) := by decide +kernel
theorem d1_52 : decode method_2_code 52 = .ok (.dup, 1) := by decide +kernel
theorem d1_53 : decode method_2_code 53 = .ok (.iconst 3, 1) := by decide +kernel
theorem d1_54 : decode method_2_code 54 = .ok (.newarray .char, 2) := by decide +kernel
theorem d1_56 : decode method_2_code 56 = .ok (.dup, 1) := by decide +kernel
theorem d1_57 : decode method_2_code 57 = .ok (.iconst 0, 1) := by decide +kernel
theorem d1_58 : decode method_2_code 58 = .ok (.iload_n 1, 1) := by decide +kernel
theorem d1_59 : decode method_2_code 59 = .ok (.castore, 1) := by decide +kernel
theorem d1_60 : decode method_2_code 60 = .ok (.dup, 1) := by decide +kernel
theorem d1_61 : decode method_2_code 61 = .ok (.iconst 1, 1) := by decide +kernel
theorem d1_62 : decode method_2_code 62 = .ok (.iload_n 2, 1) := by decide +kernel
theorem d1_63 : decode method_2_code 63 = .ok (.castore, 1) := by decide +kernel
theorem d1_64 : decode method_2_code 64 = .ok (.dup, 1) := by decide +kernel
theorem d1_65 : decode method_2_code 65 = .ok (.iconst 2, 1) := by decide +kernel
theorem d1_66 : decode method_2_code 66 = .ok (.iload_n 3, 1) := by decide +kernel
theorem d1_67 : decode method_2_code 67 = .ok (.castore, 1) := by decide +kernel
theorem d1_68 : decode method_2_code 68 = .ok (.invokespecial 9, 3) := by decide +kernel
theorem d1_71 : decode method_2_code 71 = .ok (.areturn, 1) := by decide +kernel
set_option maxRecDepth 65536 in
set_option maxHeartbeats 40000000 in
theorem rmK3l (l : Launch) (Z : State) (a0 : Array Value) (hw : ∀ d ∈ tables_1, d.before a0 Z = true) (ws : List Jvm.Cond) (c0 : Int32) (c1 : Int32) (c2 : Int32) (c3 : Int32) (zC : Int32) (h0 : Heap) (n0 : Nat) (O0 : Old Z n0 h0) (SAs : Sta Z Z.heap "java/lang/StringUTF16" "$assertionsDisabled" "Z" (.int (1 : Int32))) (SHi : Sta Z Z.heap "java/lang/StringUTF16" "HI_BYTE_SHIFT" "I" (.int (0 : Int32))) (SLo : Sta Z Z.heap "java/lang/StringUTF16" "LO_BYTE_SHIFT" "I" (.int (8 : Int32))) (SC : Sta Z Z.heap "java/lang/String" "COMPACT_STRINGS" "Z" (.int zC)) (hzC : ¬ zC = 0) (hc0 : ¬ c0 < 0 ∧ ¬ (65535 : Int32) < c0) (hc1 : ¬ c1 < 0 ∧ ¬ (65535 : Int32) < c1) (hc2 : ¬ c2 < 0 ∧ ¬ (65535 : Int32) < c2) (hc3 : ¬ c3 < 0 ∧ ¬ (65535 : Int32) < c3) (hall : ∀ c ∈ ([c0, c1, c2] : List Int32), ¬ (255 : Int32) < c) :
    MetFree l (⟨"com/example/remodel/remodel/ComponentCheckLengthPinLaw", "make", "(ICCCC)Ljava/lang/String;"⟩ : MethodName) (head1 (Jvm.Cond.code (⟨"com/example/remodel/remodel/ComponentCheckLengthPinLaw", "make", "(ICCCC)Ljava/lang/String;"⟩ : MethodName) method_2_code 5 (some (.object "java/lang/String")) :: ws) ({ frames := 6, cells := 4, slots := 20, locals := 190 } : Room)) (fun a U => a = #[(.int (3 : Int32)), (.int c0), (.int c1), (.int c2), (.int c3)] ∧ Z.Warmed39 U.vm ∧ U.heap = h0) (fun _ _ _ _ _ => True) (fun _ U o U' => ∃ v L, o = .returned v ∧ Q_rmK3l Z  h0 n0 v U'.heap L ∧ FrameEnd U o U' L ({ frames := 6, cells := 4, slots := 20, locals := 190 } : Room).cells ({ frames := 6, cells := 4, slots := 20, locals := 190 } : Room).slots) := by
  refine MetFree.of_bodySF (plainFor_of_name pn_ComponentCheckLengthPinLaw) hisR ?_
  intro p e s m args below meth c s₁ Bd hml0 hP hK
  obtain ⟨rfl, hZ, hh⟩ := hP
  have hx := Bd.exec
  have hby := Bd.bytes
  have hml : c.maxLocals = 5 := hml0
  have hown : s.vm.findClass "com/example/remodel/remodel/ComponentCheckLengthPinLaw" = some m.cls := findClass_of_methodNamed Bd.named
  have hnm := (name_of_methodNamed Bd.named Bd.method).1
  have X0 : Stand p l e ({ frames := 6, cells := 4, slots := 20, locals := 190 } : Room) s m #[(.int (3 : Int32)), (.int c0), (.int c1), (.int c2), (.int c3)] below meth c s₁ [] 0 0 := Stand.of_body Bd
  have e0 : s₁.heap = h0 := by rw [← hh, Bd.state]; rfl
  have N0 := Fr.nil n0
  obtain ⟨S0, hS0⟩ : ∃ z, z = s₁.setTop (entryFrame m #[(.int (3 : Int32)), (.int c0), (.int c1), (.int c2), (.int c3)] 5) := ⟨_, rfl⟩
  have k0 : Rch p e below S0 s₁ (mkF m 0 #[.val (.int (3 : Int32)), .val (.int c0), .val (.int c1), .val (.int c2), .val (.int c3)] []) := fun t kq => hS0 ▸ castTop (ef_1 m (3 : Int32) c0 c1 c2 c3) kq
  have K0 : Keep h0 h0 [] := Keep.refl h0 _
  have hpp : ∀ c ∈ ([c0, c1, c2] : List Int32), ¬ c < 0 ∧ ¬ (65535 : Int32) < c := by
    intro c hc
    simp only [List.mem_cons, List.not_mem_nil, or_false] at hc
    rcases hc with rfl | rfl | rfl
    · exact hc0
    · exact hc1
    · exact hc2
  have k270 : Rch p e below S0 s₁ (mkF m 49 #[.val (.int (3 : Int32)), .val (.int c0), .val (.int c1), .val (.int c2), .val (.int c3)] []) := fun t h => k0 t (by
      show Steps p.tables e below (s₁.setTop (mkF m 0 #[.val (.int (3 : Int32)), .val (.int c0), .val (.int c1), .val (.int c2), .val (.int c3)] [])) _
      refine XS.iloadN X0.here hx rfl (hb hby d1_0) rfl ?_
      show Steps p.tables e below (s₁.setTop (mkF m 1 #[.val (.int (3 : Int32)), .val (.int c0), .val (.int c1), .val (.int c2), .val (.int c3)] [(.int (3 : Int32))])) _
      refine XS.iconst X0.here hx rfl (hb hby d1_1) ?_
      show Steps p.tables e below (s₁.setTop (mkF m 2 #[.val (.int (3 : Int32)), .val (.int c0), .val (.int c1), .val (.int c2), .val (.int c3)] [(.int (1 : Int32)), (.int (3 : Int32))])) _
      refine XS.icmpYes X0.here hx rfl (pc0 := 2) (pc' := 20) rfl (hb hby d1_2) rfl (feq (by decide : ¬ ((3 : Int32) = (1 : Int32)))).2 (by decide) (by decide) ?_
      show Steps p.tables e below (s₁.setTop (mkF m 20 #[.val (.int (3 : Int32)), .val (.int c0), .val (.int c1), .val (.int c2), .val (.int c3)] [])) _
      refine XS.iloadN X0.here hx rfl (hb hby d1_20) rfl ?_
      show Steps p.tables e below (s₁.setTop (mkF m 21 #[.val (.int (3 : Int32)), .val (.int c0), .val (.int c1), .val (.int c2), .val (.int c3)] [(.int (3 : Int32))])) _
      refine XS.iconst X0.here hx rfl (hb hby d1_21) ?_
      show Steps p.tables e below (s₁.setTop (mkF m 22 #[.val (.int (3 : Int32)), .val (.int c0), .val (.int c1), .val (.int c2), .val (.int c3)] [(.int (2 : Int32)), (.int (3 : Int32))])) _
      refine XS.icmpYes X0.here hx rfl (pc0 := 22) (pc' := 44) rfl (hb hby d1_22) rfl (feq (by decide : ¬ ((3 : Int32) = (2 : Int32)))).2 (by decide) (by decide) ?_
      show Steps p.tables e below (s₁.setTop (mkF m 44 #[.val (.int (3 : Int32)), .val (.int c0), .val (.int c1), .val (.int c2), .val (.int c3)] [])) _
      refine XS.iloadN X0.here hx rfl (hb hby d1_44) rfl ?_
      show Steps p.tables e below (s₁.setTop (mkF m 45 #[.val (.int (3 : Int32)), .val (.int c0), .val (.int c1), .val (.int c2), .val (.int c3)] [(.int (3 : Int32))])) _
      refine XS.iconst X0.here hx rfl (hb hby d1_45) ?_
      show Steps p.tables e below (s₁.setTop (mkF m 46 #[.val (.int (3 : Int32)), .val (.int c0), .val (.int c1), .val (.int c2), .val (.int c3)] [(.int (3 : Int32)), (.int (3 : Int32))])) _
      refine XS.icmpNo X0.here hx rfl (hb hby d1_46) rfl (teq (by decide : (3 : Int32) = (3 : Int32))).2 ?_
      show Steps p.tables e below (s₁.setTop (mkF m 49 #[.val (.int (3 : Int32)), .val (.int c0), .val (.int c1), .val (.int c2), .val (.int c3)] [])) _
      exact h)
  obtain ⟨T269, h269, X269, e269, E269, A269, D269, -, st269⟩ := newO X0 hx hZ hown (hw _ (List.mem_of_getElem? (i := 5) rfl)) (hw _ (List.mem_of_getElem? (i := 6) rfl)) (hw _ (List.mem_of_getElem? (i := 7) rfl)) e0 (g := (mkF m 49 #[.val (.int (3 : Int32)), .val (.int c0), .val (.int c1), .val (.int c2), .val (.int c3)] [])) rfl (hb hby d1_49) (by decide) (by decide)
  obtain ⟨b269, g269⟩ : ∃ z, z = h0.size := ⟨_, rfl⟩
  rw [← g269] at A269 D269 st269
  have k271 : Rch p e below S0 T269 (mkF m 52 #[.val (.int (3 : Int32)), .val (.int c0), .val (.int c1), .val (.int c2), .val (.int c3)] [(.ref b269)]) := fun t h => k270 t (st269 t h)
  have ge_b269 : n0 ≤ b269 := own_ge O0 (Nat.le_of_eq g269.symm)
  have sz_b269 : h0.size ≤ b269 := Nat.le_trans K0.1 (Nat.le_of_eq g269.symm)
  have O272 := O0.ext E269
  have K273 := K0.ext E269
  have E_b269 := A269
  have F_b269_coder : Fld Z h269 b269 "java/lang/String" "coder" "B" (.int (0 : Int32)) := D269 (Or.inr (hw _ (List.mem_of_getElem? (i := 32) rfl))) (ty := .byte) (by decide)
  have F_b269_value : Fld Z h269 b269 "java/lang/String" "value" "[B" .null := D269 (Or.inr (hw _ (List.mem_of_getElem? (i := 34) rfl))) (ty := (.array .byte)) (by decide)
  have k275 : Rch p e below S0 T269 (mkF m 54 #[.val (.int (3 : Int32)), .val (.int c0), .val (.int c1), .val (.int c2), .val (.int c3)] [(.int (3 : Int32)), (.ref b269), (.ref b269)]) := fun t h => k271 t (by
      show Steps p.tables e below (T269.setTop (mkF m 52 #[.val (.int (3 : Int32)), .val (.int c0), .val (.int c1), .val (.int c2), .val (.int c3)] [(.ref b269)])) _
      refine XS.dup X269.here hx rfl (hb hby d1_52) rfl rfl ?_
      show Steps p.tables e below (T269.setTop (mkF m 53 #[.val (.int (3 : Int32)), .val (.int c0), .val (.int c1), .val (.int c2), .val (.int c3)] [(.ref b269), (.ref b269)])) _
      refine XS.iconst X269.here hx rfl (hb hby d1_53) ?_
      show Steps p.tables e below (T269.setTop (mkF m 54 #[.val (.int (3 : Int32)), .val (.int c0), .val (.int c1), .val (.int c2), .val (.int c3)] [(.int (3 : Int32)), (.ref b269), (.ref b269)])) _
      exact h)
  obtain ⟨T274, h274, k274, X274, e274, E274, A274, st274⟩ := newP X269 hx hZ (hw _ (List.mem_of_getElem? (i := 8) rfl)) e269 (g := (mkF m 54 #[.val (.int (3 : Int32)), .val (.int c0), .val (.int c1), .val (.int c2), .val (.int c3)] [(.int (3 : Int32)), (.ref b269), (.ref b269)])) rfl (hb hby d1_54) rfl (by decide) (cap := 3) (by decide) (by decide) (by decide) (by decide)
  obtain ⟨b274, g274⟩ : ∃ z, z = h269.size := ⟨_, rfl⟩
  rw [← g274] at A274 st274
  have k276 : Rch p e below S0 T274 (mkF m 56 #[.val (.int (3 : Int32)), .val (.int c0), .val (.int c1), .val (.int c2), .val (.int c3)] [(.ref b274), (.ref b269), (.ref b269)]) := fun t h => k275 t (st274 t h)
  have ne_b269_b274 : b269 ≠ b274 := own_ne E_b269.lt (Nat.le_of_eq g274.symm)
  have ge_b274 : n0 ≤ b274 := own_ge O272 (Nat.le_of_eq g274.symm)
  have sz_b274 : h0.size ≤ b274 := Nat.le_trans K273.1 (Nat.le_of_eq g274.symm)
  have O277 := O272.ext E274
  have K278 := K273.ext E274
  replace E_b269 := E_b269.ext E274
  replace F_b269_coder := F_b269_coder.ext E274
  replace F_b269_value := F_b269_value.ext E274
  have V_b274 : Arv Z h274 b274 k274 .char (3 : Int32) [(.int (0 : Int32)), (.int (0 : Int32)), (.int (0 : Int32))] (.int (0 : Int32)) := (Arv.new A274 (by decide)).pad (pad_rep [] (.int (0 : Int32)) 3)
  have k280 : Rch p e below S0 T274 (mkF m 59 #[.val (.int (3 : Int32)), .val (.int c0), .val (.int c1), .val (.int c2), .val (.int c3)] [(.int c0), (.int (0 : Int32)), (.ref b274), (.ref b274), (.ref b269), (.ref b269)]) := fun t h => k276 t (by
      show Steps p.tables e below (T274.setTop (mkF m 56 #[.val (.int (3 : Int32)), .val (.int c0), .val (.int c1), .val (.int c2), .val (.int c3)] [(.ref b274), (.ref b269), (.ref b269)])) _
      refine XS.dup X274.here hx rfl (hb hby d1_56) rfl rfl ?_
      show Steps p.tables e below (T274.setTop (mkF m 57 #[.val (.int (3 : Int32)), .val (.int c0), .val (.int c1), .val (.int c2), .val (.int c3)] [(.ref b274), (.ref b274), (.ref b269), (.ref b269)])) _
      refine XS.iconst X274.here hx rfl (hb hby d1_57) ?_
      show Steps p.tables e below (T274.setTop (mkF m 58 #[.val (.int (3 : Int32)), .val (.int c0), .val (.int c1), .val (.int c2), .val (.int c3)] [(.int (0 : Int32)), (.ref b274), (.ref b274), (.ref b269), (.ref b269)])) _
      refine XS.iloadN X274.here hx rfl (hb hby d1_58) rfl ?_
      show Steps p.tables e below (T274.setTop (mkF m 59 #[.val (.int (3 : Int32)), .val (.int c0), .val (.int c1), .val (.int c2), .val (.int c3)] [(.int c0), (.int (0 : Int32)), (.ref b274), (.ref b274), (.ref b269), (.ref b269)])) _
      exact h)
  obtain ⟨cl279, Ar279, q279, Sz279, Ng279, Hs279, G279⟩ := id V_b274
  have hin279 : ¬ ((0 : Int32) < 0 ∨ cl279.slots.size ≤ ((0 : Int32)).toNatClampNeg) := inb_of Sz279 ⟨by decide, by decide⟩
  obtain ⟨T279, h279, X279, e279, W279, st279⟩ := stC X274 hx hZ e274 Ar279 (j := (0 : Int32)) hin279 (g := (mkF m 59 #[.val (.int (3 : Int32)), .val (.int c0), .val (.int c1), .val (.int c2), .val (.int c3)] [(.int c0), (.int (0 : Int32)), (.ref b274), (.ref b274), (.ref b269), (.ref b269)])) rfl rfl (hb hby d1_59)
  have k281 : Rch p e below S0 T279 (mkF m 60 #[.val (.int (3 : Int32)), .val (.int c0), .val (.int c1), .val (.int c2), .val (.int c3)] [(.ref b274), (.ref b269), (.ref b269)]) := fun t h => k280 t (st279 t h)
  have N279 := Fr.snoc X279 N0 ge_b274
  have V_b274' := Arv.set Ar279 q279 Sz279 Ng279 Hs279 G279 (fits_nar_char _) W279 0 rfl (Nat.le_of_ble_eq_true rfl)
  replace V_b274 : Arv Z h279 b274 k274 .char (3 : Int32) [(.int c0), (.int (0 : Int32)), (.int (0 : Int32))] (.int (0 : Int32)) := (by have q := V_b274'; rw [(own_narc c0 hc0).1] at q; exact q)
  have O282 := O277.wr W279 ge_b274
  have K283 := K278.wr W279 (Or.inr sz_b274)
  replace E_b269 := E_b269.wr W279
  replace F_b269_coder := F_b269_coder.other W279 (Or.inl ne_b269_b274)
  replace F_b269_value := F_b269_value.other W279 (Or.inl ne_b269_b274)
  have k285 : Rch p e below S0 T279 (mkF m 63 #[.val (.int (3 : Int32)), .val (.int c0), .val (.int c1), .val (.int c2), .val (.int c3)] [(.int c1), (.int (1 : Int32)), (.ref b274), (.ref b274), (.ref b269), (.ref b269)]) := fun t h => k281 t (by
      show Steps p.tables e below (T279.setTop (mkF m 60 #[.val (.int (3 : Int32)), .val (.int c0), .val (.int c1), .val (.int c2), .val (.int c3)] [(.ref b274), (.ref b269), (.ref b269)])) _
      refine XS.dup X279.here hx rfl (hb hby d1_60) rfl rfl ?_
      show Steps p.tables e below (T279.setTop (mkF m 61 #[.val (.int (3 : Int32)), .val (.int c0), .val (.int c1), .val (.int c2), .val (.int c3)] [(.ref b274), (.ref b274), (.ref b269), (.ref b269)])) _
      refine XS.iconst X279.here hx rfl (hb hby d1_61) ?_
      show Steps p.tables e below (T279.setTop (mkF m 62 #[.val (.int (3 : Int32)), .val (.int c0), .val (.int c1), .val (.int c2), .val (.int c3)] [(.int (1 : Int32)), (.ref b274), (.ref b274), (.ref b269), (.ref b269)])) _
      refine XS.iloadN X279.here hx rfl (hb hby d1_62) rfl ?_
      show Steps p.tables e below (T279.setTop (mkF m 63 #[.val (.int (3 : Int32)), .val (.int c0), .val (.int c1), .val (.int c2), .val (.int c3)] [(.int c1), (.int (1 : Int32)), (.ref b274), (.ref b274), (.ref b269), (.ref b269)])) _
      exact h)
  obtain ⟨cl284, Ar284, q284, Sz284, Ng284, Hs284, G284⟩ := id V_b274
  have hin284 : ¬ ((1 : Int32) < 0 ∨ cl284.slots.size ≤ ((1 : Int32)).toNatClampNeg) := inb_of Sz284 ⟨by decide, by decide⟩
  obtain ⟨T284, h284, X284, e284, W284, st284⟩ := stC X279 hx hZ e279 Ar284 (j := (1 : Int32)) hin284 (g := (mkF m 63 #[.val (.int (3 : Int32)), .val (.int c0), .val (.int c1), .val (.int c2), .val (.int c3)] [(.int c1), (.int (1 : Int32)), (.ref b274), (.ref b274), (.ref b269), (.ref b269)])) rfl rfl (hb hby d1_63)
  have k286 : Rch p e below S0 T284 (mkF m 64 #[.val (.int (3 : Int32)), .val (.int c0), .val (.int c1), .val (.int c2), .val (.int c3)] [(.ref b274), (.ref b269), (.ref b269)]) := fun t h => k285 t (st284 t h)
  have N284 := Fr.snoc X284 N279 ge_b274
  have V_b274' := Arv.set Ar284 q284 Sz284 Ng284 Hs284 G284 (fits_nar_char _) W284 1 rfl (Nat.le_of_ble_eq_true rfl)
  replace V_b274 : Arv Z h284 b274 k274 .char (3 : Int32) [(.int c0), (.int c1), (.int (0 : Int32))] (.int (0 : Int32)) := (by have q := V_b274'; rw [(own_narc c1 hc1).1] at q; exact q)
  have O287 := O282.wr W284 ge_b274
  have K288 := K283.wr W284 (Or.inr sz_b274)
  replace E_b269 := E_b269.wr W284
  replace F_b269_coder := F_b269_coder.other W284 (Or.inl ne_b269_b274)
  replace F_b269_value := F_b269_value.other W284 (Or.inl ne_b269_b274)
  have k290 : Rch p e below S0 T284 (mkF m 67 #[.val (.int (3 : Int32)), .val (.int c0), .val (.int c1), .val (.int c2), .val (.int c3)] [(.int c2), (.int (2 : Int32)), (.ref b274), (.ref b274), (.ref b269), (.ref b269)]) := fun t h => k286 t (by
      show Steps p.tables e below (T284.setTop (mkF m 64 #[.val (.int (3 : Int32)), .val (.int c0), .val (.int c1), .val (.int c2), .val (.int c3)] [(.ref b274), (.ref b269), (.ref b269)])) _
      refine XS.dup X284.here hx rfl (hb hby d1_64) rfl rfl ?_
      show Steps p.tables e below (T284.setTop (mkF m 65 #[.val (.int (3 : Int32)), .val (.int c0), .val (.int c1), .val (.int c2), .val (.int c3)] [(.ref b274), (.ref b274), (.ref b269), (.ref b269)])) _
      refine XS.iconst X284.here hx rfl (hb hby d1_65) ?_
      show Steps p.tables e below (T284.setTop (mkF m 66 #[.val (.int (3 : Int32)), .val (.int c0), .val (.int c1), .val (.int c2), .val (.int c3)] [(.int (2 : Int32)), (.ref b274), (.ref b274), (.ref b269), (.ref b269)])) _
      refine XS.iloadN X284.here hx rfl (hb hby d1_66) rfl ?_
      show Steps p.tables e below (T284.setTop (mkF m 67 #[.val (.int (3 : Int32)), .val (.int c0), .val (.int c1), .val (.int c2), .val (.int c3)] [(.int c2), (.int (2 : Int32)), (.ref b274), (.ref b274), (.ref b269), (.ref b269)])) _
      exact h)
  obtain ⟨cl289, Ar289, q289, Sz289, Ng289, Hs289, G289⟩ := id V_b274
  have hin289 : ¬ ((2 : Int32) < 0 ∨ cl289.slots.size ≤ ((2 : Int32)).toNatClampNeg) := inb_of Sz289 ⟨by decide, by decide⟩
  obtain ⟨T289, h289, X289, e289, W289, st289⟩ := stC X284 hx hZ e284 Ar289 (j := (2 : Int32)) hin289 (g := (mkF m 67 #[.val (.int (3 : Int32)), .val (.int c0), .val (.int c1), .val (.int c2), .val (.int c3)] [(.int c2), (.int (2 : Int32)), (.ref b274), (.ref b274), (.ref b269), (.ref b269)])) rfl rfl (hb hby d1_67)
  have k291 : Rch p e below S0 T289 (mkF m 68 #[.val (.int (3 : Int32)), .val (.int c0), .val (.int c1), .val (.int c2), .val (.int c3)] [(.ref b274), (.ref b269), (.ref b269)]) := fun t h => k290 t (st289 t h)
  have N289 := Fr.snoc X289 N284 ge_b274
  have V_b274' := Arv.set Ar289 q289 Sz289 Ng289 Hs289 G289 (fits_nar_char _) W289 2 rfl (Nat.le_of_ble_eq_true rfl)
  replace V_b274 : Arv Z h289 b274 k274 .char (3 : Int32) [(.int c0), (.int c1), (.int c2)] (.int (0 : Int32)) := (by have q := V_b274'; rw [(own_narc c2 hc2).1] at q; exact q)
  have O292 := O287.wr W289 ge_b274
  have K293 := K288.wr W289 (Or.inr sz_b274)
  replace E_b269 := E_b269.wr W289
  replace F_b269_coder := F_b269_coder.other W289 (Or.inl ne_b269_b274)
  replace F_b269_value := F_b269_value.other W289 (Or.inl ne_b269_b274)
  have hws : ∀ d ∈ StrChars.Road.words, d.before a0 Z = true := fun d hd => hw d ((by decide +kernel : ∀ d ∈ StrChars.Road.words, d ∈ tables_1) d hd)
  have hp : ∀ c ∈ ([c0, c1, c2] : List Int32), ¬ c < 0 ∧ ¬ (255 : Int32) < c := fun c hc => ⟨(hpp c hc).1, hall c hc⟩
  obtain ⟨_, _, ⟨T294, L294, kk294, n294⟩, -, X294, ⟨Lc294, hQ294, l294, y294, z294⟩, st294⟩ := X289.specialBack hx (y := (⟨"java/lang/String", "<init>", "([C)V"⟩ : MethodName)) rfl hown (mvT hZ (hw _ (List.mem_of_getElem? (i := 9) rfl))) (mvT hZ (hw _ (List.mem_of_getElem? (i := 10) rfl))) (mvT hZ (hw _ (List.mem_of_getElem? (i := 11) rfl))) (by decide) (StrChars.Road.backV (W := 1) hZ hws (kI := 4) (hw _ (List.mem_of_getElem? (i := 6) rfl)) (cs := [c0, c1, c2]) (bs := [c0, c1, c2].map (fun c => c.toInt8.toInt32)) (n := 3) ge_b269 (own_le O292) E_b269 F_b269_value F_b269_coder V_b274 (SC.ext O292.2) hzC rfl rfl (by decide) (by decide) hp rfl (by decide) (by decide)) (g := (mkF m 68 #[.val (.int (3 : Int32)), .val (.int c0), .val (.int c1), .val (.int c2), .val (.int c3)] [(.ref b274), (.ref b269), (.ref b269)])) rfl (by rw [hml]; rfl) (Steps.refl _) (a := b269) (argsL := [(.ref b274)]) (rest := [(.ref b269)]) (lenOf pd_1 rfl) rfl (by show 2 * 0 + _ ≤ _; exact Nat.le_of_eq rfl) (hb hby d1_68) (fun _ _ => ⟨rfl, e289, (by decide : 2 + 1 ≤ _), (by decide : 7 + 3 ≤ _)⟩)
  dsimp only [Pt.U, Pt.locs, Pt.cells, Pt.slots] at X294 l294 y294 z294 st294 hQ294
  subst l294 y294 z294
  obtain ⟨rfl, Nq294, K294, Eb294, Cb294, t294, kb294, u294, v294, ww294, Vb294, Ab294⟩ := hQ294
  have N294 := Fr.app N289 Nq294
  have k295 : Rch p e below S0 T294 (mkF m 71 #[.val (.int (3 : Int32)), .val (.int c0), .val (.int c1), .val (.int c2), .val (.int c3)] [(.ref b269)]) := fun t h => k291 t (st294.trans h)
  have O296 := O292.keep K294 (allS ge_b269 all0)
  have K297 := K293.trans K294 (allS (Or.inr sz_b269) all0)
  replace E_b269 := E_b269.keep K294
  replace V_b274 := V_b274.keep K294 (ninS (Ne.symm ne_b269_b274) nin0)
  obtain ⟨fs, hr, hrun, hended, hW, hsame⟩ := X294.leave (v := (some (.ref b269))) (fun h => by rw [Bd.returns] at h; cases h)
  refine ⟨_, _, ?_, hrun, hended, _, _, rfl, ?_, ⟨_, rfl⟩, hW, hsame.mono (by decide) (by decide)⟩
  · rw [← hS0]
    refine k295 _ ?_
    show Steps p.tables e below (T294.setTop (mkF m 71 #[.val (.int (3 : Int32)), .val (.int c0), .val (.int c1), .val (.int c2), .val (.int c3)] [(.ref b269)])) _
    jvm_step X294.here [X294.here.top, hx, (hb hby d1_71), X294.method', Bd.returns, Value.isRef, FieldType.isReference]
    first | (intro acts; rw [hr _ acts rfl rfl rfl]) | rw [hr _ _ rfl rfl rfl]
    exact Steps.refl _
  · show Q_rmK3l Z  h0 n0 _ T294.heap _
    exact ⟨b269, _, _, _, _, _, rfl, N294, own_ext K297, sz_b269, E_b269, Vb294, Cb294, Ab294, Or.inl ⟨rfl, rfl⟩⟩
def Q_rmK3u (Z : State)  (h0 : Heap) (n0 : Nat) (v : Option Value) (h : Heap) (L : List Loc) : Prop := ∃ x t kt vs cd N2, v = some (.ref x) ∧ Fr n0 L ∧ Ext h0 h ∧ h0.size ≤ x ∧ Exa Z h x "java/lang/String" ∧ Fld Z h x "java/lang/String" "value" "[B" (.ref t) ∧ Fld Z h x "java/lang/String" "coder" "B" (.int cd) ∧ Arv Z h t kt .byte N2 vs (.int (0 : Int32)) ∧ ((cd = 0 ∧ N2 = (3 : Int32)) ∨ (cd = 1 ∧ N2 = (6 : Int32)))
set_option maxRecDepth 65536 in
set_option maxHeartbeats 40000000 in
theorem rmK3u (l : Launch) (Z : State) (a0 : Array Value) (hw : ∀ d ∈ tables_1, d.before a0 Z = true) (ws : List Jvm.Cond) (c0 : Int32) (c1 : Int32) (c2 : Int32) (c3 : Int32) (zC : Int32) (h0 : Heap) (n0 : Nat) (O0 : Old Z n0 h0) (SAs : Sta Z Z.heap "java/lang/StringUTF16" "$assertionsDisabled" "Z" (.int (1 : Int32))) (SHi : Sta Z Z.heap "java/lang/StringUTF16" "HI_BYTE_SHIFT" "I" (.int (0 : Int32))) (SLo : Sta Z Z.heap "java/lang/StringUTF16" "LO_BYTE_SHIFT" "I" (.int (8 : Int32))) (SC : Sta Z Z.heap "java/lang/String" "COMPACT_STRINGS" "Z" (.int zC)) (hzC : ¬ zC = 0) (hc0 : ¬ c0 < 0 ∧ ¬ (65535 : Int32) < c0) (hc1 : ¬ c1 < 0 ∧ ¬ (65535 : Int32) < c1) (hc2 : ¬ c2 < 0 ∧ ¬ (65535 : Int32) < c2) (hc3 : ¬ c3 < 0 ∧ ¬ (65535 : Int32) < c3) (hex : ∃ c ∈ ([c0, c1, c2] : List Int32), (255 : Int32) < c) :
    MetFree l (⟨"com/example/remodel/remodel/ComponentCheckLengthPinLaw", "make", "(ICCCC)Ljava/lang/String;"⟩ : MethodName) (head1 (Jvm.Cond.code (⟨"com/example/remodel/remodel/ComponentCheckLengthPinLaw", "make", "(ICCCC)Ljava/lang/String;"⟩ : MethodName) method_2_code 5 (some (.object "java/lang/String")) :: ws) ({ frames := 6, cells := 4, slots := 20, locals := 190 } : Room)) (fun a U => a = #[(.int (3 : Int32)), (.int c0), (.int c1), (.int c2), (.int c3)] ∧ Z.Warmed39 U.vm ∧ U.heap = h0) (fun _ _ _ _ _ => True) (fun _ U o U' => ∃ v L, o = .returned v ∧ Q_rmK3u Z  h0 n0 v U'.heap L ∧ FrameEnd U o U' L ({ frames := 6, cells := 4, slots := 20, locals := 190 } : Room).cells ({ frames := 6, cells := 4, slots := 20, locals := 190 } : Room).slots) := by
  refine MetFree.of_bodySF (plainFor_of_name pn_ComponentCheckLengthPinLaw) hisR ?_
  intro p e s m args below meth c s₁ Bd hml0 hP hK
  obtain ⟨rfl, hZ, hh⟩ := hP
  have hx := Bd.exec
  have hby := Bd.bytes
  have hml : c.maxLocals = 5 := hml0
  have hown : s.vm.findClass "com/example/remodel/remodel/ComponentCheckLengthPinLaw" = some m.cls := findClass_of_methodNamed Bd.named
  have hnm := (name_of_methodNamed Bd.named Bd.method).1
  have X0 : Stand p l e ({ frames := 6, cells := 4, slots := 20, locals := 190 } : Room) s m #[(.int (3 : Int32)), (.int c0), (.int c1), (.int c2), (.int c3)] below meth c s₁ [] 0 0 := Stand.of_body Bd
  have e0 : s₁.heap = h0 := by rw [← hh, Bd.state]; rfl
  have N0 := Fr.nil n0
  obtain ⟨S0, hS0⟩ : ∃ z, z = s₁.setTop (entryFrame m #[(.int (3 : Int32)), (.int c0), (.int c1), (.int c2), (.int c3)] 5) := ⟨_, rfl⟩
  have k0 : Rch p e below S0 s₁ (mkF m 0 #[.val (.int (3 : Int32)), .val (.int c0), .val (.int c1), .val (.int c2), .val (.int c3)] []) := fun t kq => hS0 ▸ castTop (ef_1 m (3 : Int32) c0 c1 c2 c3) kq
  have K0 : Keep h0 h0 [] := Keep.refl h0 _
  have hpp : ∀ c ∈ ([c0, c1, c2] : List Int32), ¬ c < 0 ∧ ¬ (65535 : Int32) < c := by
    intro c hc
    simp only [List.mem_cons, List.not_mem_nil, or_false] at hc
    rcases hc with rfl | rfl | rfl
    · exact hc0
    · exact hc1
    · exact hc2
  obtain ⟨kF, hkF, hlowF, hhighF⟩ := own_first [c0, c1, c2] hex
  have k299 : Rch p e below S0 s₁ (mkF m 49 #[.val (.int (3 : Int32)), .val (.int c0), .val (.int c1), .val (.int c2), .val (.int c3)] []) := fun t h => k0 t (by
      show Steps p.tables e below (s₁.setTop (mkF m 0 #[.val (.int (3 : Int32)), .val (.int c0), .val (.int c1), .val (.int c2), .val (.int c3)] [])) _
      refine XS.iloadN X0.here hx rfl (hb hby d1_0) rfl ?_
      show Steps p.tables e below (s₁.setTop (mkF m 1 #[.val (.int (3 : Int32)), .val (.int c0), .val (.int c1), .val (.int c2), .val (.int c3)] [(.int (3 : Int32))])) _
      refine XS.iconst X0.here hx rfl (hb hby d1_1) ?_
      show Steps p.tables e below (s₁.setTop (mkF m 2 #[.val (.int (3 : Int32)), .val (.int c0), .val (.int c1), .val (.int c2), .val (.int c3)] [(.int (1 : Int32)), (.int (3 : Int32))])) _
      refine XS.icmpYes X0.here hx rfl (pc0 := 2) (pc' := 20) rfl (hb hby d1_2) rfl (feq (by decide : ¬ ((3 : Int32) = (1 : Int32)))).2 (by decide) (by decide) ?_
      show Steps p.tables e below (s₁.setTop (mkF m 20 #[.val (.int (3 : Int32)), .val (.int c0), .val (.int c1), .val (.int c2), .val (.int c3)] [])) _
      refine XS.iloadN X0.here hx rfl (hb hby d1_20) rfl ?_
      show Steps p.tables e below (s₁.setTop (mkF m 21 #[.val (.int (3 : Int32)), .val (.int c0), .val (.int c1), .val (.int c2), .val (.int c3)] [(.int (3 : Int32))])) _
      refine XS.iconst X0.here hx rfl (hb hby d1_21) ?_
      show Steps p.tables e below (s₁.setTop (mkF m 22 #[.val (.int (3 : Int32)), .val (.int c0), .val (.int c1), .val (.int c2), .val (.int c3)] [(.int (2 : Int32)), (.int (3 : Int32))])) _
      refine XS.icmpYes X0.here hx rfl (pc0 := 22) (pc' := 44) rfl (hb hby d1_22) rfl (feq (by decide : ¬ ((3 : Int32) = (2 : Int32)))).2 (by decide) (by decide) ?_
      show Steps p.tables e below (s₁.setTop (mkF m 44 #[.val (.int (3 : Int32)), .val (.int c0), .val (.int c1), .val (.int c2), .val (.int c3)] [])) _
      refine XS.iloadN X0.here hx rfl (hb hby d1_44) rfl ?_
      show Steps p.tables e below (s₁.setTop (mkF m 45 #[.val (.int (3 : Int32)), .val (.int c0), .val (.int c1), .val (.int c2), .val (.int c3)] [(.int (3 : Int32))])) _
      refine XS.iconst X0.here hx rfl (hb hby d1_45) ?_
      show Steps p.tables e below (s₁.setTop (mkF m 46 #[.val (.int (3 : Int32)), .val (.int c0), .val (.int c1), .val (.int c2), .val (.int c3)] [(.int (3 : Int32)), (.int (3 : Int32))])) _
      refine XS.icmpNo X0.here hx rfl (hb hby d1_46) rfl (teq (by decide : (3 : Int32) = (3 : Int32))).2 ?_
      show Steps p.tables e below (s₁.setTop (mkF m 49 #[.val (.int (3 : Int32)), .val (.int c0), .val (.int c1), .val (.int c2), .val (.int c3)] [])) _
      exact h)
  obtain ⟨T298, h298, X298, e298, E298, A298, D298, -, st298⟩ := newO X0 hx hZ hown (hw _ (List.mem_of_getElem? (i := 5) rfl)) (hw _ (List.mem_of_getElem? (i := 6) rfl)) (hw _ (List.mem_of_getElem? (i := 7) rfl)) e0 (g := (mkF m 49 #[.val (.int (3 : Int32)), .val (.int c0), .val (.int c1), .val (.int c2), .val (.int c3)] [])) rfl (hb hby d1_49) (by decide) (by decide)
  obtain ⟨b298, g298⟩ : ∃ z, z = h0.size := ⟨_, rfl⟩
  rw [← g298] at A298 D298 st298
  have k300 : Rch p e below S0 T298 (mkF m 52 #[.val (.int (3 : Int32)), .val (.int c0), .val (.int c1), .val (.int c2), .val (.int c3)] [(.ref b298)]) := fun t h => k299 t (st298 t h)
  have ge_b298 : n0 ≤ b298 := own_ge O0 (Nat.le_of_eq g298.symm)
  have sz_b298 : h0.size ≤ b298 := Nat.le_trans K0.1 (Nat.le_of_eq g298.symm)
  have O301 := O0.ext E298
  have K302 := K0.ext E298
  have E_b298 := A298
  have F_b298_coder : Fld Z h298 b298 "java/lang/String" "coder" "B" (.int (0 : Int32)) := D298 (Or.inr (hw _ (List.mem_of_getElem? (i := 32) rfl))) (ty := .byte) (by decide)
  have F_b298_value : Fld Z h298 b298 "java/lang/String" "value" "[B" .null := D298 (Or.inr (hw _ (List.mem_of_getElem? (i := 34) rfl))) (ty := (.array .byte)) (by decide)
  have k304 : Rch p e below S0 T298 (mkF m 54 #[.val (.int (3 : Int32)), .val (.int c0), .val (.int c1), .val (.int c2), .val (.int c3)] [(.int (3 : Int32)), (.ref b298), (.ref b298)]) := fun t h => k300 t (by
      show Steps p.tables e below (T298.setTop (mkF m 52 #[.val (.int (3 : Int32)), .val (.int c0), .val (.int c1), .val (.int c2), .val (.int c3)] [(.ref b298)])) _
      refine XS.dup X298.here hx rfl (hb hby d1_52) rfl rfl ?_
      show Steps p.tables e below (T298.setTop (mkF m 53 #[.val (.int (3 : Int32)), .val (.int c0), .val (.int c1), .val (.int c2), .val (.int c3)] [(.ref b298), (.ref b298)])) _
      refine XS.iconst X298.here hx rfl (hb hby d1_53) ?_
      show Steps p.tables e below (T298.setTop (mkF m 54 #[.val (.int (3 : Int32)), .val (.int c0), .val (.int c1), .val (.int c2), .val (.int c3)] [(.int (3 : Int32)), (.ref b298), (.ref b298)])) _
      exact h)
  obtain ⟨T303, h303, k303, X303, e303, E303, A303, st303⟩ := newP X298 hx hZ (hw _ (List.mem_of_getElem? (i := 8) rfl)) e298 (g := (mkF m 54 #[.val (.int (3 : Int32)), .val (.int c0), .val (.int c1), .val (.int c2), .val (.int c3)] [(.int (3 : Int32)), (.ref b298), (.ref b298)])) rfl (hb hby d1_54) rfl (by decide) (cap := 3) (by decide) (by decide) (by decide) (by decide)
  obtain ⟨b303, g303⟩ : ∃ z, z = h298.size := ⟨_, rfl⟩
  rw [← g303] at A303 st303
  have k305 : Rch p e below S0 T303 (mkF m 56 #[.val (.int (3 : Int32)), .val (.int c0), .val (.int c1), .val (.int c2), .val (.int c3)] [(.ref b303), (.ref b298), (.ref b298)]) := fun t h => k304 t (st303 t h)
  have ne_b298_b303 : b298 ≠ b303 := own_ne E_b298.lt (Nat.le_of_eq g303.symm)
  have ge_b303 : n0 ≤ b303 := own_ge O301 (Nat.le_of_eq g303.symm)
  have sz_b303 : h0.size ≤ b303 := Nat.le_trans K302.1 (Nat.le_of_eq g303.symm)
  have O306 := O301.ext E303
  have K307 := K302.ext E303
  replace E_b298 := E_b298.ext E303
  replace F_b298_coder := F_b298_coder.ext E303
  replace F_b298_value := F_b298_value.ext E303
  have V_b303 : Arv Z h303 b303 k303 .char (3 : Int32) [(.int (0 : Int32)), (.int (0 : Int32)), (.int (0 : Int32))] (.int (0 : Int32)) := (Arv.new A303 (by decide)).pad (pad_rep [] (.int (0 : Int32)) 3)
  have k309 : Rch p e below S0 T303 (mkF m 59 #[.val (.int (3 : Int32)), .val (.int c0), .val (.int c1), .val (.int c2), .val (.int c3)] [(.int c0), (.int (0 : Int32)), (.ref b303), (.ref b303), (.ref b298), (.ref b298)]) := fun t h => k305 t (by
      show Steps p.tables e below (T303.setTop (mkF m 56 #[.val (.int (3 : Int32)), .val (.int c0), .val (.int c1), .val (.int c2), .val (.int c3)] [(.ref b303), (.ref b298), (.ref b298)])) _
      refine XS.dup X303.here hx rfl (hb hby d1_56) rfl rfl ?_
      show Steps p.tables e below (T303.setTop (mkF m 57 #[.val (.int (3 : Int32)), .val (.int c0), .val (.int c1), .val (.int c2), .val (.int c3)] [(.ref b303), (.ref b303), (.ref b298), (.ref b298)])) _
      refine XS.iconst X303.here hx rfl (hb hby d1_57) ?_
      show Steps p.tables e below (T303.setTop (mkF m 58 #[.val (.int (3 : Int32)), .val (.int c0), .val (.int c1), .val (.int c2), .val (.int c3)] [(.int (0 : Int32)), (.ref b303), (.ref b303), (.ref b298), (.ref b298)])) _
      refine XS.iloadN X303.here hx rfl (hb hby d1_58) rfl ?_
      show Steps p.tables e below (T303.setTop (mkF m 59 #[.val (.int (3 : Int32)), .val (.int c0), .val (.int c1), .val (.int c2), .val (.int c3)] [(.int c0), (.int (0 : Int32)), (.ref b303), (.ref b303), (.ref b298), (.ref b298)])) _
      exact h)
  obtain ⟨cl308, Ar308, q308, Sz308, Ng308, Hs308, G308⟩ := id V_b303
  have hin308 : ¬ ((0 : Int32) < 0 ∨ cl308.slots.size ≤ ((0 : Int32)).toNatClampNeg) := inb_of Sz308 ⟨by decide, by decide⟩
  obtain ⟨T308, h308, X308, e308, W308, st308⟩ := stC X303 hx hZ e303 Ar308 (j := (0 : Int32)) hin308 (g := (mkF m 59 #[.val (.int (3 : Int32)), .val (.int c0), .val (.int c1), .val (.int c2), .val (.int c3)] [(.int c0), (.int (0 : Int32)), (.ref b303), (.ref b303), (.ref b298), (.ref b298)])) rfl rfl (hb hby d1_59)
  have k310 : Rch p e below S0 T308 (mkF m 60 #[.val (.int (3 : Int32)), .val (.int c0), .val (.int c1), .val (.int c2), .val (.int c3)] [(.ref b303), (.ref b298), (.ref b298)]) := fun t h => k309 t (st308 t h)
  have N308 := Fr.snoc X308 N0 ge_b303
  have V_b303' := Arv.set Ar308 q308 Sz308 Ng308 Hs308 G308 (fits_nar_char _) W308 0 rfl (Nat.le_of_ble_eq_true rfl)
  replace V_b303 : Arv Z h308 b303 k303 .char (3 : Int32) [(.int c0), (.int (0 : Int32)), (.int (0 : Int32))] (.int (0 : Int32)) := (by have q := V_b303'; rw [(own_narc c0 hc0).1] at q; exact q)
  have O311 := O306.wr W308 ge_b303
  have K312 := K307.wr W308 (Or.inr sz_b303)
  replace E_b298 := E_b298.wr W308
  replace F_b298_coder := F_b298_coder.other W308 (Or.inl ne_b298_b303)
  replace F_b298_value := F_b298_value.other W308 (Or.inl ne_b298_b303)
  have k314 : Rch p e below S0 T308 (mkF m 63 #[.val (.int (3 : Int32)), .val (.int c0), .val (.int c1), .val (.int c2), .val (.int c3)] [(.int c1), (.int (1 : Int32)), (.ref b303), (.ref b303), (.ref b298), (.ref b298)]) := fun t h => k310 t (by
      show Steps p.tables e below (T308.setTop (mkF m 60 #[.val (.int (3 : Int32)), .val (.int c0), .val (.int c1), .val (.int c2), .val (.int c3)] [(.ref b303), (.ref b298), (.ref b298)])) _
      refine XS.dup X308.here hx rfl (hb hby d1_60) rfl rfl ?_
      show Steps p.tables e below (T308.setTop (mkF m 61 #[.val (.int (3 : Int32)), .val (.int c0), .val (.int c1), .val (.int c2), .val (.int c3)] [(.ref b303), (.ref b303), (.ref b298), (.ref b298)])) _
      refine XS.iconst X308.here hx rfl (hb hby d1_61) ?_
      show Steps p.tables e below (T308.setTop (mkF m 62 #[.val (.int (3 : Int32)), .val (.int c0), .val (.int c1), .val (.int c2), .val (.int c3)] [(.int (1 : Int32)), (.ref b303), (.ref b303), (.ref b298), (.ref b298)])) _
      refine XS.iloadN X308.here hx rfl (hb hby d1_62) rfl ?_
      show Steps p.tables e below (T308.setTop (mkF m 63 #[.val (.int (3 : Int32)), .val (.int c0), .val (.int c1), .val (.int c2), .val (.int c3)] [(.int c1), (.int (1 : Int32)), (.ref b303), (.ref b303), (.ref b298), (.ref b298)])) _
      exact h)
  obtain ⟨cl313, Ar313, q313, Sz313, Ng313, Hs313, G313⟩ := id V_b303
  have hin313 : ¬ ((1 : Int32) < 0 ∨ cl313.slots.size ≤ ((1 : Int32)).toNatClampNeg) := inb_of Sz313 ⟨by decide, by decide⟩
  obtain ⟨T313, h313, X313, e313, W313, st313⟩ := stC X308 hx hZ e308 Ar313 (j := (1 : Int32)) hin313 (g := (mkF m 63 #[.val (.int (3 : Int32)), .val (.int c0), .val (.int c1), .val (.int c2), .val (.int c3)] [(.int c1), (.int (1 : Int32)), (.ref b303), (.ref b303), (.ref b298), (.ref b298)])) rfl rfl (hb hby d1_63)
  have k315 : Rch p e below S0 T313 (mkF m 64 #[.val (.int (3 : Int32)), .val (.int c0), .val (.int c1), .val (.int c2), .val (.int c3)] [(.ref b303), (.ref b298), (.ref b298)]) := fun t h => k314 t (st313 t h)
  have N313 := Fr.snoc X313 N308 ge_b303
  have V_b303' := Arv.set Ar313 q313 Sz313 Ng313 Hs313 G313 (fits_nar_char _) W313 1 rfl (Nat.le_of_ble_eq_true rfl)
  replace V_b303 : Arv Z h313 b303 k303 .char (3 : Int32) [(.int c0), (.int c1), (.int (0 : Int32))] (.int (0 : Int32)) := (by have q := V_b303'; rw [(own_narc c1 hc1).1] at q; exact q)
  have O316 := O311.wr W313 ge_b303
  have K317 := K312.wr W313 (Or.inr sz_b303)
  replace E_b298 := E_b298.wr W313
  replace F_b298_coder := F_b298_coder.other W313 (Or.inl ne_b298_b303)
  replace F_b298_value := F_b298_value.other W313 (Or.inl ne_b298_b303)
  have k319 : Rch p e below S0 T313 (mkF m 67 #[.val (.int (3 : Int32)), .val (.int c0), .val (.int c1), .val (.int c2), .val (.int c3)] [(.int c2), (.int (2 : Int32)), (.ref b303), (.ref b303), (.ref b298), (.ref b298)]) := fun t h => k315 t (by
      show Steps p.tables e below (T313.setTop (mkF m 64 #[.val (.int (3 : Int32)), .val (.int c0), .val (.int c1), .val (.int c2), .val (.int c3)] [(.ref b303), (.ref b298), (.ref b298)])) _
      refine XS.dup X313.here hx rfl (hb hby d1_64) rfl rfl ?_
      show Steps p.tables e below (T313.setTop (mkF m 65 #[.val (.int (3 : Int32)), .val (.int c0), .val (.int c1), .val (.int c2), .val (.int c3)] [(.ref b303), (.ref b303), (.ref b298), (.ref b298)])) _
      refine XS.iconst X313.here hx rfl (hb hby d1_65) ?_
      show Steps p.tables e below (T313.setTop (mkF m 66 #[.val (.int (3 : Int32)), .val (.int c0), .val (.int c1), .val (.int c2), .val (.int c3)] [(.int (2 : Int32)), (.ref b303), (.ref b303), (.ref b298), (.ref b298)])) _
      refine XS.iloadN X313.here hx rfl (hb hby d1_66) rfl ?_
      show Steps p.tables e below (T313.setTop (mkF m 67 #[.val (.int (3 : Int32)), .val (.int c0), .val (.int c1), .val (.int c2), .val (.int c3)] [(.int c2), (.int (2 : Int32)), (.ref b303), (.ref b303), (.ref b298), (.ref b298)])) _
      exact h)
  obtain ⟨cl318, Ar318, q318, Sz318, Ng318, Hs318, G318⟩ := id V_b303
  have hin318 : ¬ ((2 : Int32) < 0 ∨ cl318.slots.size ≤ ((2 : Int32)).toNatClampNeg) := inb_of Sz318 ⟨by decide, by decide⟩
  obtain ⟨T318, h318, X318, e318, W318, st318⟩ := stC X313 hx hZ e313 Ar318 (j := (2 : Int32)) hin318 (g := (mkF m 67 #[.val (.int (3 : Int32)), .val (.int c0), .val (.int c1), .val (.int c2), .val (.int c3)] [(.int c2), (.int (2 : Int32)), (.ref b303), (.ref b303), (.ref b298), (.ref b298)])) rfl rfl (hb hby d1_67)
  have k320 : Rch p e below S0 T318 (mkF m 68 #[.val (.int (3 : Int32)), .val (.int c0), .val (.int c1), .val (.int c2), .val (.int c3)] [(.ref b303), (.ref b298), (.ref b298)]) := fun t h => k319 t (st318 t h)
  have N318 := Fr.snoc X318 N313 ge_b303
  have V_b303' := Arv.set Ar318 q318 Sz318 Ng318 Hs318 G318 (fits_nar_char _) W318 2 rfl (Nat.le_of_ble_eq_true rfl)
  replace V_b303 : Arv Z h318 b303 k303 .char (3 : Int32) [(.int c0), (.int c1), (.int c2)] (.int (0 : Int32)) := (by have q := V_b303'; rw [(own_narc c2 hc2).1] at q; exact q)
  have O321 := O316.wr W318 ge_b303
  have K322 := K317.wr W318 (Or.inr sz_b303)
  replace E_b298 := E_b298.wr W318
  replace F_b298_coder := F_b298_coder.other W318 (Or.inl ne_b298_b303)
  replace F_b298_value := F_b298_value.other W318 (Or.inl ne_b298_b303)
  obtain ⟨_, _, ⟨T323, L323, kk323, n323⟩, -, X323, ⟨Lc323, hQ323, l323, y323, z323⟩, st323⟩ := X318.specialBack hx (y := (⟨"java/lang/String", "<init>", "([C)V"⟩ : MethodName)) rfl hown (mvT hZ (hw _ (List.mem_of_getElem? (i := 9) rfl))) (mvT hZ (hw _ (List.mem_of_getElem? (i := 10) rfl))) (mvT hZ (hw _ (List.mem_of_getElem? (i := 11) rfl))) (by decide) (backOf (W := 1) (rmU1 l Z a0 hw [] b298 b303 k303 3 ([c0, c1, c2]) kF zC h318 n0 O321 SAs SHi SLo SC hzC (by decide) rfl hkF hlowF hhighF hpp ge_b298 E_b298 F_b298_value F_b298_coder (Ne.symm ne_b298_b303) V_b303) hZ (hw _ (List.mem_of_getElem? (i := 11) rfl)) (hw _ (List.mem_of_getElem? (i := 7) rfl)) (by decide) (by decide)) (g := (mkF m 68 #[.val (.int (3 : Int32)), .val (.int c0), .val (.int c1), .val (.int c2), .val (.int c3)] [(.ref b303), (.ref b298), (.ref b298)])) rfl (by rw [hml]; rfl) (Steps.refl _) (a := b298) (argsL := [(.ref b303)]) (rest := [(.ref b298)]) (lenOf pd_1 rfl) rfl (by show 2 * 0 + _ ≤ _; exact Nat.le_of_eq rfl) (hb hby d1_68) (fun _ _ => ⟨rfl, e318, (by decide : 2 + 2 ≤ _), (by decide : 7 + 12 ≤ _)⟩)
  dsimp only [Pt.U, Pt.locs, Pt.cells, Pt.slots] at X323 l323 y323 z323 st323 hQ323
  subst l323 y323 z323
  obtain ⟨rfl, Nq323, K323, t323, kt323, vs323, Fv323, Fc323, At323⟩ := hQ323
  have N323 := Fr.app N318 Nq323
  have k324 : Rch p e below S0 T323 (mkF m 71 #[.val (.int (3 : Int32)), .val (.int c0), .val (.int c1), .val (.int c2), .val (.int c3)] [(.ref b298)]) := fun t h => k320 t (st323.trans h)
  have O325 := O321.keep K323 (allS ge_b298 all0)
  have K326 := K322.trans K323 (allS (Or.inr sz_b298) all0)
  replace E_b298 := E_b298.keep K323
  replace V_b303 := V_b303.keep K323 (ninS (Ne.symm ne_b298_b303) nin0)
  obtain ⟨fs, hr, hrun, hended, hW, hsame⟩ := X323.leave (v := (some (.ref b298))) (fun h => by rw [Bd.returns] at h; cases h)
  refine ⟨_, _, ?_, hrun, hended, _, _, rfl, ?_, ⟨_, rfl⟩, hW, hsame.mono (by decide) (by decide)⟩
  · rw [← hS0]
    refine k324 _ ?_
    show Steps p.tables e below (T323.setTop (mkF m 71 #[.val (.int (3 : Int32)), .val (.int c0), .val (.int c1), .val (.int c2), .val (.int c3)] [(.ref b298)])) _
    jvm_step X323.here [X323.here.top, hx, (hb hby d1_71), X323.method', Bd.returns, Value.isRef, FieldType.isReference]
    first | (intro acts; rw [hr _ acts rfl rfl rfl]) | rw [hr _ _ rfl rfl rfl]
    exact Steps.refl _
  · show Q_rmK3u Z  h0 n0 _ T323.heap _
    exact ⟨b298, _, _, _, _, _, rfl, N323, own_ext K326, sz_b298, E_b298, Fv323, Fc323, At323, Or.inr ⟨rfl, rfl⟩⟩
theorem rmK3 (l : Launch) (Z : State) (a0 : Array Value) (hw : ∀ d ∈ tables_1, d.before a0 Z = true) (ws : List Jvm.Cond) (c0 c1 c2 c3 zC : Int32) (h0 : Heap) (n0 : Nat) (O0 : Old Z n0 h0) (SAs : Sta Z Z.heap "java/lang/StringUTF16" "$assertionsDisabled" "Z" (.int (1 : Int32))) (SHi : Sta Z Z.heap "java/lang/StringUTF16" "HI_BYTE_SHIFT" "I" (.int (0 : Int32))) (SLo : Sta Z Z.heap "java/lang/StringUTF16" "LO_BYTE_SHIFT" "I" (.int (8 : Int32))) (SC : Sta Z Z.heap "java/lang/String" "COMPACT_STRINGS" "Z" (.int zC)) (hzC : ¬ zC = 0) (hc0 : ¬ c0 < 0 ∧ ¬ (65535 : Int32) < c0) (hc1 : ¬ c1 < 0 ∧ ¬ (65535 : Int32) < c1) (hc2 : ¬ c2 < 0 ∧ ¬ (65535 : Int32) < c2) (hc3 : ¬ c3 < 0 ∧ ¬ (65535 : Int32) < c3) :
    MetFree l (⟨"com/example/remodel/remodel/ComponentCheckLengthPinLaw", "make", "(ICCCC)Ljava/lang/String;"⟩ : MethodName) (head1 (Jvm.Cond.code (⟨"com/example/remodel/remodel/ComponentCheckLengthPinLaw", "make", "(ICCCC)Ljava/lang/String;"⟩ : MethodName) method_2_code 5 (some (.object "java/lang/String")) :: ws) ({ frames := 6, cells := 4, slots := 20, locals := 190 } : Room)) (fun a U => a = #[(.int (3 : Int32)), (.int c0), (.int c1), (.int c2), (.int c3)] ∧ Z.Warmed39 U.vm ∧ U.heap = h0) (fun _ _ _ _ _ => True) (fun _ U o U' => ∃ v L, o = .returned v ∧ Q_rmK3l Z h0 n0 v U'.heap L ∧ FrameEnd U o U' L ({ frames := 6, cells := 4, slots := 20, locals := 190 } : Room).cells ({ frames := 6, cells := 4, slots := 20, locals := 190 } : Room).slots) := by
  by_cases hex : ∃ c ∈ ([c0, c1, c2] : List Int32), (255 : Int32) < c
  · exact rmK3u l Z a0 hw ws c0 c1 c2 c3 zC h0 n0 O0 SAs SHi SLo SC hzC hc0 hc1 hc2 hc3 hex
  · exact rmK3l l Z a0 hw ws c0 c1 c2 c3 zC h0 n0 O0 SAs SHi SLo SC hzC hc0 hc1 hc2 hc3 (fun c hc q => hex ⟨c, hc, q⟩)
def Q_rmK4l (Z : State)  (h0 : Heap) (n0 : Nat) (v : Option Value) (h : Heap) (L : List Loc) : Prop := ∃ x t kt vs cd N2, v = some (.ref x) ∧ Fr n0 L ∧ Ext h0 h ∧ h0.size ≤ x ∧ Exa Z h x "java/lang/String" ∧ Fld Z h x "java/lang/String" "value" "[B" (.ref t) ∧ Fld Z h x "java/lang/String" "coder" "B" (.int cd) ∧ Arv Z h t kt .byte N2 vs (.int (0 : Int32)) ∧ ((cd = 0 ∧ N2 = (4 : Int32)) ∨ (cd = 1 ∧ N2 = (8 : Int32)))
theorem d1_72 : decode method_2_code 72 = .ok (.new 7, 3) := by decide +kernel
theorem d1_75 : decode method_2_code 75 = .ok (.dup, 1) := by decide +kernel
theorem d1_76 : decode method_2_code 76 = .ok (.iconst 4, 1) := by decide +kernel
theorem d1_77 : decode method_2_code 77 = .ok (.newarray .char, 2) := by decide +kernel
theorem d1_79 : decode method_2_code 79 = .ok (.dup, 1) := by decide +kernel
theorem d1_80 : decode method_2_code 80 = .ok (.iconst 0, 1) := by decide +kernel
theorem d1_81 : decode method_2_code 81 = .ok (.iload_n 1, 1) := by decide +kernel
theorem d1_82 : decode method_2_code 82 = .ok (.castore, 1) := by decide +kernel
theorem d1_83 : decode method_2_code 83 = .ok (.dup, 1) := by decide +kernel
theorem d1_84 : decode method_2_code 84 = .ok (.iconst 1, 1) := by decide +kernel
theorem d1_85 : decode method_2_code 85 = .ok (.iload_n 2, 1) := by decide +kernel
theorem d1_86 : decode method_2_code 86 = .ok (.castore, 1) := by decide +kernel
theorem d1_87 : decode method_2_code 87 = .ok (.dup, 1) := by decide +kernel
theorem d1_88 : decode method_2_code 88 = .ok (.iconst 2, 1) := by decide +kernel
theorem d1_89 : decode method_2_code 89 = .ok (.iload_n 3, 1) := by decide +kernel
theorem d1_90 : decode method_2_code 90 = .ok (.castore, 1) := by decide +kernel
theorem d1_91 : decode method_2_code 91 = .ok (.dup, 1) := by decide +kernel
theorem d1_92 : decode method_2_code 92 = .ok (.iconst 3, 1) := by decide +kernel
theorem d1_93 : decode method_2_code 93 = .ok (.iload 4, 2) := by decide +kernel
theorem d1_95 : decode method_2_code 95 = .ok (.castore, 1) := by decide +kernel
theorem d1_96 : decode method_2_code 96 = .ok (.invokespecial 9, 3) := by decide +kernel
theorem d1_99 : decode method_2_code 99 = .ok (.areturn, 1) := by decide +kernel
set_option maxRecDepth 65536 in
set_option maxHeartbeats 40000000 in
theorem rmK4l (l : Launch) (Z : State) (a0 : Array Value) (hw : ∀ d ∈ tables_1, d.before a0 Z = true) (ws : List Jvm.Cond) (c0 : Int32) (c1 : Int32) (c2 : Int32) (c3 : Int32) (zC : Int32) (h0 : Heap) (n0 : Nat) (O0 : Old Z n0 h0) (SAs : Sta Z Z.heap "java/lang/StringUTF16" "$assertionsDisabled" "Z" (.int (1 : Int32))) (SHi : Sta Z Z.heap "java/lang/StringUTF16" "HI_BYTE_SHIFT" "I" (.int (0 : Int32))) (SLo : Sta Z Z.heap "java/lang/StringUTF16" "LO_BYTE_SHIFT" "I" (.int (8 : Int32))) (SC : Sta Z Z.heap "java/lang/String" "COMPACT_STRINGS" "Z" (.int zC)) (hzC : ¬ zC = 0) (hc0 : ¬ c0 < 0 ∧ ¬ (65535 : Int32) < c0) (hc1 : ¬ c1 < 0 ∧ ¬ (65535 : Int32) < c1) (hc2 : ¬ c2 < 0 ∧ ¬ (65535 : Int32) < c2) (hc3 : ¬ c3 < 0 ∧ ¬ (65535 : Int32) < c3) (hall : ∀ c ∈ ([c0, c1, c2, c3] : List Int32), ¬ (255 : Int32) < c) :
    MetFree l (⟨"com/example/remodel/remodel/ComponentCheckLengthPinLaw", "make", "(ICCCC)Ljava/lang/String;"⟩ : MethodName) (head1 (Jvm.Cond.code (⟨"com/example/remodel/remodel/ComponentCheckLengthPinLaw", "make", "(ICCCC)Ljava/lang/String;"⟩ : MethodName) method_2_code 5 (some (.object "java/lang/String")) :: ws) ({ frames := 6, cells := 4, slots := 20, locals := 190 } : Room)) (fun a U => a = #[(.int (4 : Int32)), (.int c0), (.int c1), (.int c2), (.int c3)] ∧ Z.Warmed39 U.vm ∧ U.heap = h0) (fun _ _ _ _ _ => True) (fun _ U o U' => ∃ v L, o = .returned v ∧ Q_rmK4l Z  h0 n0 v U'.heap L ∧ FrameEnd U o U' L ({ frames := 6, cells := 4, slots := 20, locals := 190 } : Room).cells ({ frames := 6, cells := 4, slots := 20, locals := 190 } : Room).slots) := by
  refine MetFree.of_bodySF (plainFor_of_name pn_ComponentCheckLengthPinLaw) hisR ?_
  intro p e s m args below meth c s₁ Bd hml0 hP hK
  obtain ⟨rfl, hZ, hh⟩ := hP
  have hx := Bd.exec
  have hby := Bd.bytes
  have hml : c.maxLocals = 5 := hml0
  have hown : s.vm.findClass "com/example/remodel/remodel/ComponentCheckLengthPinLaw" = some m.cls := findClass_of_methodNamed Bd.named
  have hnm := (name_of_methodNamed Bd.named Bd.method).1
  have X0 : Stand p l e ({ frames := 6, cells := 4, slots := 20, locals := 190 } : Room) s m #[(.int (4 : Int32)), (.int c0), (.int c1), (.int c2), (.int c3)] below meth c s₁ [] 0 0 := Stand.of_body Bd
  have e0 : s₁.heap = h0 := by rw [← hh, Bd.state]; rfl
  have N0 := Fr.nil n0
  obtain ⟨S0, hS0⟩ : ∃ z, z = s₁.setTop (entryFrame m #[(.int (4 : Int32)), (.int c0), (.int c1), (.int c2), (.int c3)] 5) := ⟨_, rfl⟩
  have k0 : Rch p e below S0 s₁ (mkF m 0 #[.val (.int (4 : Int32)), .val (.int c0), .val (.int c1), .val (.int c2), .val (.int c3)] []) := fun t kq => hS0 ▸ castTop (ef_1 m (4 : Int32) c0 c1 c2 c3) kq
  have K0 : Keep h0 h0 [] := Keep.refl h0 _
  have hpp : ∀ c ∈ ([c0, c1, c2, c3] : List Int32), ¬ c < 0 ∧ ¬ (65535 : Int32) < c := by
    intro c hc
    simp only [List.mem_cons, List.not_mem_nil, or_false] at hc
    rcases hc with rfl | rfl | rfl | rfl
    · exact hc0
    · exact hc1
    · exact hc2
    · exact hc3
  have k328 : Rch p e below S0 s₁ (mkF m 72 #[.val (.int (4 : Int32)), .val (.int c0), .val (.int c1), .val (.int c2), .val (.int c3)] []) := fun t h => k0 t (by
      show Steps p.tables e below (s₁.setTop (mkF m 0 #[.val (.int (4 : Int32)), .val (.int c0), .val (.int c1), .val (.int c2), .val (.int c3)] [])) _
      refine XS.iloadN X0.here hx rfl (hb hby d1_0) rfl ?_
      show Steps p.tables e below (s₁.setTop (mkF m 1 #[.val (.int (4 : Int32)), .val (.int c0), .val (.int c1), .val (.int c2), .val (.int c3)] [(.int (4 : Int32))])) _
      refine XS.iconst X0.here hx rfl (hb hby d1_1) ?_
      show Steps p.tables e below (s₁.setTop (mkF m 2 #[.val (.int (4 : Int32)), .val (.int c0), .val (.int c1), .val (.int c2), .val (.int c3)] [(.int (1 : Int32)), (.int (4 : Int32))])) _
      refine XS.icmpYes X0.here hx rfl (pc0 := 2) (pc' := 20) rfl (hb hby d1_2) rfl (feq (by decide : ¬ ((4 : Int32) = (1 : Int32)))).2 (by decide) (by decide) ?_
      show Steps p.tables e below (s₁.setTop (mkF m 20 #[.val (.int (4 : Int32)), .val (.int c0), .val (.int c1), .val (.int c2), .val (.int c3)] [])) _
      refine XS.iloadN X0.here hx rfl (hb hby d1_20) rfl ?_
      show Steps p.tables e below (s₁.setTop (mkF m 21 #[.val (.int (4 : Int32)), .val (.int c0), .val (.int c1), .val (.int c2), .val (.int c3)] [(.int (4 : Int32))])) _
      refine XS.iconst X0.here hx rfl (hb hby d1_21) ?_
      show Steps p.tables e below (s₁.setTop (mkF m 22 #[.val (.int (4 : Int32)), .val (.int c0), .val (.int c1), .val (.int c2), .val (.int c3)] [(.int (2 : Int32)), (.int (4 : Int32))])) _
      refine XS.icmpYes X0.here hx rfl (pc0 := 22) (pc' := 44) rfl (hb hby d1_22) rfl (feq (by decide : ¬ ((4 : Int32) = (2 : Int32)))).2 (by decide) (by decide) ?_
      show Steps p.tables e below (s₁.setTop (mkF m 44 #[.val (.int (4 : Int32)), .val (.int c0), .val (.int c1), .val (.int c2), .val (.int c3)] [])) _
      refine XS.iloadN X0.here hx rfl (hb hby d1_44) rfl ?_
      show Steps p.tables e below (s₁.setTop (mkF m 45 #[.val (.int (4 : Int32)), .val (.int c0), .val (.int c1), .val (.int c2), .val (.int c3)] [(.int (4 : Int32))])) _
      refine XS.iconst X0.here hx rfl (hb hby d1_45) ?_
      show Steps p.tables e below (s₁.setTop (mkF m 46 #[.val (.int (4 : Int32)), .val (.int c0), .val (.int c1), .val (.int c2), .val (.int c3)] [(.int (3 : Int32)), (.int (4 : Int32))])) _
      refine XS.icmpYes X0.here hx rfl (pc0 := 46) (pc' := 72) rfl (hb hby d1_46) rfl (feq (by decide : ¬ ((4 : Int32) = (3 : Int32)))).2 (by decide) (by decide) ?_
      show Steps p.tables e below (s₁.setTop (mkF m 72 #[.val (.int (4 : Int32)), .val (.int c0), .val (.int c1), .val (.int c2), .val (.int c3)] [])) _
      exact h)
  obtain ⟨T327, h327, X327, e327, E327, A327, D327, -, st327⟩ := newO X0 hx hZ hown (hw _ (List.mem_of_getElem? (i := 5) rfl)) (hw _ (List.mem_of_getElem? (i := 6) rfl)) (hw _ (List.mem_of_getElem? (i := 7) rfl)) e0 (g := (mkF m 72 #[.val (.int (4 : Int32)), .val (.int c0), .val (.int c1), .val (.int c2), .val (.int c3)] [])) rfl (hb hby d1_72) (by decide) (by decide)
  obtain ⟨b327, g327⟩ : ∃ z, z = h0.size := ⟨_, rfl⟩
  rw [← g327] at A327 D327 st327
  have k329 : Rch p e below S0 T327 (mkF m 75 #[.val (.int (4 : Int32)), .val (.int c0), .val (.int c1), .val (.int c2), .val (.int c3)] [(.ref b327)]) := fun t h => k328 t (st327 t h)
  have ge_b327 : n0 ≤ b327 := own_ge O0 (Nat.le_of_eq g327.symm)
  have sz_b327 : h0.size ≤ b327 := Nat.le_trans K0.1 (Nat.le_of_eq g327.symm)
  have O330 := O0.ext E327
  have K331 := K0.ext E327
  have E_b327 := A327
  have F_b327_coder : Fld Z h327 b327 "java/lang/String" "coder" "B" (.int (0 : Int32)) := D327 (Or.inr (hw _ (List.mem_of_getElem? (i := 32) rfl))) (ty := .byte) (by decide)
  have F_b327_value : Fld Z h327 b327 "java/lang/String" "value" "[B" .null := D327 (Or.inr (hw _ (List.mem_of_getElem? (i := 34) rfl))) (ty := (.array .byte)) (by decide)
  have k333 : Rch p e below S0 T327 (mkF m 77 #[.val (.int (4 : Int32)), .val (.int c0), .val (.int c1), .val (.int c2), .val (.int c3)] [(.int (4 : Int32)), (.ref b327), (.ref b327)]) := fun t h => k329 t (by
      show Steps p.tables e below (T327.setTop (mkF m 75 #[.val (.int (4 : Int32)), .val (.int c0), .val (.int c1), .val (.int c2), .val (.int c3)] [(.ref b327)])) _
      refine XS.dup X327.here hx rfl (hb hby d1_75) rfl rfl ?_
      show Steps p.tables e below (T327.setTop (mkF m 76 #[.val (.int (4 : Int32)), .val (.int c0), .val (.int c1), .val (.int c2), .val (.int c3)] [(.ref b327), (.ref b327)])) _
      refine XS.iconst X327.here hx rfl (hb hby d1_76) ?_
      show Steps p.tables e below (T327.setTop (mkF m 77 #[.val (.int (4 : Int32)), .val (.int c0), .val (.int c1), .val (.int c2), .val (.int c3)] [(.int (4 : Int32)), (.ref b327), (.ref b327)])) _
      exact h)
  obtain ⟨T332, h332, k332, X332, e332, E332, A332, st332⟩ := newP X327 hx hZ (hw _ (List.mem_of_getElem? (i := 8) rfl)) e327 (g := (mkF m 77 #[.val (.int (4 : Int32)), .val (.int c0), .val (.int c1), .val (.int c2), .val (.int c3)] [(.int (4 : Int32)), (.ref b327), (.ref b327)])) rfl (hb hby d1_77) rfl (by decide) (cap := 4) (by decide) (by decide) (by decide) (by decide)
  obtain ⟨b332, g332⟩ : ∃ z, z = h327.size := ⟨_, rfl⟩
  rw [← g332] at A332 st332
  have k334 : Rch p e below S0 T332 (mkF m 79 #[.val (.int (4 : Int32)), .val (.int c0), .val (.int c1), .val (.int c2), .val (.int c3)] [(.ref b332), (.ref b327), (.ref b327)]) := fun t h => k333 t (st332 t h)
  have ne_b327_b332 : b327 ≠ b332 := own_ne E_b327.lt (Nat.le_of_eq g332.symm)
  have ge_b332 : n0 ≤ b332 := own_ge O330 (Nat.le_of_eq g332.symm)
  have sz_b332 : h0.size ≤ b332 := Nat.le_trans K331.1 (Nat.le_of_eq g332.symm)
  have O335 := O330.ext E332
  have K336 := K331.ext E332
  replace E_b327 := E_b327.ext E332
  replace F_b327_coder := F_b327_coder.ext E332
  replace F_b327_value := F_b327_value.ext E332
  have V_b332 : Arv Z h332 b332 k332 .char (4 : Int32) [(.int (0 : Int32)), (.int (0 : Int32)), (.int (0 : Int32)), (.int (0 : Int32))] (.int (0 : Int32)) := (Arv.new A332 (by decide)).pad (pad_rep [] (.int (0 : Int32)) 4)
  have k338 : Rch p e below S0 T332 (mkF m 82 #[.val (.int (4 : Int32)), .val (.int c0), .val (.int c1), .val (.int c2), .val (.int c3)] [(.int c0), (.int (0 : Int32)), (.ref b332), (.ref b332), (.ref b327), (.ref b327)]) := fun t h => k334 t (by
      show Steps p.tables e below (T332.setTop (mkF m 79 #[.val (.int (4 : Int32)), .val (.int c0), .val (.int c1), .val (.int c2), .val (.int c3)] [(.ref b332), (.ref b327), (.ref b327)])) _
      refine XS.dup X332.here hx rfl (hb hby d1_79) rfl rfl ?_
      show Steps p.tables e below (T332.setTop (mkF m 80 #[.val (.int (4 : Int32)), .val (.int c0), .val (.int c1), .val (.int c2), .val (.int c3)] [(.ref b332), (.ref b332), (.ref b327), (.ref b327)])) _
      refine XS.iconst X332.here hx rfl (hb hby d1_80) ?_
      show Steps p.tables e below (T332.setTop (mkF m 81 #[.val (.int (4 : Int32)), .val (.int c0), .val (.int c1), .val (.int c2), .val (.int c3)] [(.int (0 : Int32)), (.ref b332), (.ref b332), (.ref b327), (.ref b327)])) _
      refine XS.iloadN X332.here hx rfl (hb hby d1_81) rfl ?_
      show Steps p.tables e below (T332.setTop (mkF m 82 #[.val (.int (4 : Int32)), .val (.int c0), .val (.int c1), .val (.int c2), .val (.int c3)] [(.int c0), (.int (0 : Int32)), (.ref b332), (.ref b332), (.ref b327), (.ref b327)])) _
      exact h)
  obtain ⟨cl337, Ar337, q337, Sz337, Ng337, Hs337, G337⟩ := id V_b332
  have hin337 : ¬ ((0 : Int32) < 0 ∨ cl337.slots.size ≤ ((0 : Int32)).toNatClampNeg) := inb_of Sz337 ⟨by decide, by decide⟩
  obtain ⟨T337, h337, X337, e337, W337, st337⟩ := stC X332 hx hZ e332 Ar337 (j := (0 : Int32)) hin337 (g := (mkF m 82 #[.val (.int (4 : Int32)), .val (.int c0), .val (.int c1), .val (.int c2), .val (.int c3)] [(.int c0), (.int (0 : Int32)), (.ref b332), (.ref b332), (.ref b327), (.ref b327)])) rfl rfl (hb hby d1_82)
  have k339 : Rch p e below S0 T337 (mkF m 83 #[.val (.int (4 : Int32)), .val (.int c0), .val (.int c1), .val (.int c2), .val (.int c3)] [(.ref b332), (.ref b327), (.ref b327)]) := fun t h => k338 t (st337 t h)
  have N337 := Fr.snoc X337 N0 ge_b332
  have V_b332' := Arv.set Ar337 q337 Sz337 Ng337 Hs337 G337 (fits_nar_char _) W337 0 rfl (Nat.le_of_ble_eq_true rfl)
  replace V_b332 : Arv Z h337 b332 k332 .char (4 : Int32) [(.int c0), (.int (0 : Int32)), (.int (0 : Int32)), (.int (0 : Int32))] (.int (0 : Int32)) := (by have q := V_b332'; rw [(own_narc c0 hc0).1] at q; exact q)
  have O340 := O335.wr W337 ge_b332
  have K341 := K336.wr W337 (Or.inr sz_b332)
  replace E_b327 := E_b327.wr W337
  replace F_b327_coder := F_b327_coder.other W337 (Or.inl ne_b327_b332)
  replace F_b327_value := F_b327_value.other W337 (Or.inl ne_b327_b332)
  have k343 : Rch p e below S0 T337 (mkF m 86 #[.val (.int (4 : Int32)), .val (.int c0), .val (.int c1), .val (.int c2), .val (.int c3)] [(.int c1), (.int (1 : Int32)), (.ref b332), (.ref b332), (.ref b327), (.ref b327)]) := fun t h => k339 t (by
      show Steps p.tables e below (T337.setTop (mkF m 83 #[.val (.int (4 : Int32)), .val (.int c0), .val (.int c1), .val (.int c2), .val (.int c3)] [(.ref b332), (.ref b327), (.ref b327)])) _
      refine XS.dup X337.here hx rfl (hb hby d1_83) rfl rfl ?_
      show Steps p.tables e below (T337.setTop (mkF m 84 #[.val (.int (4 : Int32)), .val (.int c0), .val (.int c1), .val (.int c2), .val (.int c3)] [(.ref b332), (.ref b332), (.ref b327), (.ref b327)])) _
      refine XS.iconst X337.here hx rfl (hb hby d1_84) ?_
      show Steps p.tables e below (T337.setTop (mkF m 85 #[.val (.int (4 : Int32)), .val (.int c0), .val (.int c1), .val (.int c2), .val (.int c3)] [(.int (1 : Int32)), (.ref b332), (.ref b332), (.ref b327), (.ref b327)])) _
      refine XS.iloadN X337.here hx rfl (hb hby d1_85) rfl ?_
      show Steps p.tables e below (T337.setTop (mkF m 86 #[.val (.int (4 : Int32)), .val (.int c0), .val (.int c1), .val (.int c2), .val (.int c3)] [(.int c1), (.int (1 : Int32)), (.ref b332), (.ref b332), (.ref b327), (.ref b327)])) _
      exact h)
  obtain ⟨cl342, Ar342, q342, Sz342, Ng342, Hs342, G342⟩ := id V_b332
  have hin342 : ¬ ((1 : Int32) < 0 ∨ cl342.slots.size ≤ ((1 : Int32)).toNatClampNeg) := inb_of Sz342 ⟨by decide, by decide⟩
  obtain ⟨T342, h342, X342, e342, W342, st342⟩ := stC X337 hx hZ e337 Ar342 (j := (1 : Int32)) hin342 (g := (mkF m 86 #[.val (.int (4 : Int32)), .val (.int c0), .val (.int c1), .val (.int c2), .val (.int c3)] [(.int c1), (.int (1 : Int32)), (.ref b332), (.ref b332), (.ref b327), (.ref b327)])) rfl rfl (hb hby d1_86)
  have k344 : Rch p e below S0 T342 (mkF m 87 #[.val (.int (4 : Int32)), .val (.int c0), .val (.int c1), .val (.int c2), .val (.int c3)] [(.ref b332), (.ref b327), (.ref b327)]) := fun t h => k343 t (st342 t h)
  have N342 := Fr.snoc X342 N337 ge_b332
  have V_b332' := Arv.set Ar342 q342 Sz342 Ng342 Hs342 G342 (fits_nar_char _) W342 1 rfl (Nat.le_of_ble_eq_true rfl)
  replace V_b332 : Arv Z h342 b332 k332 .char (4 : Int32) [(.int c0), (.int c1), (.int (0 : Int32)), (.int (0 : Int32))] (.int (0 : Int32)) := (by have q := V_b332'; rw [(own_narc c1 hc1).1] at q; exact q)
  have O345 := O340.wr W342 ge_b332
  have K346 := K341.wr W342 (Or.inr sz_b332)
  replace E_b327 := E_b327.wr W342
  replace F_b327_coder := F_b327_coder.other W342 (Or.inl ne_b327_b332)
  replace F_b327_value := F_b327_value.other W342 (Or.inl ne_b327_b332)
  have k348 : Rch p e below S0 T342 (mkF m 90 #[.val (.int (4 : Int32)), .val (.int c0), .val (.int c1), .val (.int c2), .val (.int c3)] [(.int c2), (.int (2 : Int32)), (.ref b332), (.ref b332), (.ref b327), (.ref b327)]) := fun t h => k344 t (by
      show Steps p.tables e below (T342.setTop (mkF m 87 #[.val (.int (4 : Int32)), .val (.int c0), .val (.int c1), .val (.int c2), .val (.int c3)] [(.ref b332), (.ref b327), (.ref b327)])) _
      refine XS.dup X342.here hx rfl (hb hby d1_87) rfl rfl ?_
      show Steps p.tables e below (T342.setTop (mkF m 88 #[.val (.int (4 : Int32)), .val (.int c0), .val (.int c1), .val (.int c2), .val (.int c3)] [(.ref b332), (.ref b332), (.ref b327), (.ref b327)])) _
      refine XS.iconst X342.here hx rfl (hb hby d1_88) ?_
      show Steps p.tables e below (T342.setTop (mkF m 89 #[.val (.int (4 : Int32)), .val (.int c0), .val (.int c1), .val (.int c2), .val (.int c3)] [(.int (2 : Int32)), (.ref b332), (.ref b332), (.ref b327), (.ref b327)])) _
      refine XS.iloadN X342.here hx rfl (hb hby d1_89) rfl ?_
      show Steps p.tables e below (T342.setTop (mkF m 90 #[.val (.int (4 : Int32)), .val (.int c0), .val (.int c1), .val (.int c2), .val (.int c3)] [(.int c2), (.int (2 : Int32)), (.ref b332), (.ref b332), (.ref b327), (.ref b327)])) _
      exact h)
  obtain ⟨cl347, Ar347, q347, Sz347, Ng347, Hs347, G347⟩ := id V_b332
  have hin347 : ¬ ((2 : Int32) < 0 ∨ cl347.slots.size ≤ ((2 : Int32)).toNatClampNeg) := inb_of Sz347 ⟨by decide, by decide⟩
  obtain ⟨T347, h347, X347, e347, W347, st347⟩ := stC X342 hx hZ e342 Ar347 (j := (2 : Int32)) hin347 (g := (mkF m 90 #[.val (.int (4 : Int32)), .val (.int c0), .val (.int c1), .val (.int c2), .val (.int c3)] [(.int c2), (.int (2 : Int32)), (.ref b332), (.ref b332), (.ref b327), (.ref b327)])) rfl rfl (hb hby d1_90)
  have k349 : Rch p e below S0 T347 (mkF m 91 #[.val (.int (4 : Int32)), .val (.int c0), .val (.int c1), .val (.int c2), .val (.int c3)] [(.ref b332), (.ref b327), (.ref b327)]) := fun t h => k348 t (st347 t h)
  have N347 := Fr.snoc X347 N342 ge_b332
  have V_b332' := Arv.set Ar347 q347 Sz347 Ng347 Hs347 G347 (fits_nar_char _) W347 2 rfl (Nat.le_of_ble_eq_true rfl)
  replace V_b332 : Arv Z h347 b332 k332 .char (4 : Int32) [(.int c0), (.int c1), (.int c2), (.int (0 : Int32))] (.int (0 : Int32)) := (by have q := V_b332'; rw [(own_narc c2 hc2).1] at q; exact q)
  have O350 := O345.wr W347 ge_b332
  have K351 := K346.wr W347 (Or.inr sz_b332)
  replace E_b327 := E_b327.wr W347
  replace F_b327_coder := F_b327_coder.other W347 (Or.inl ne_b327_b332)
  replace F_b327_value := F_b327_value.other W347 (Or.inl ne_b327_b332)
  have k353 : Rch p e below S0 T347 (mkF m 95 #[.val (.int (4 : Int32)), .val (.int c0), .val (.int c1), .val (.int c2), .val (.int c3)] [(.int c3), (.int (3 : Int32)), (.ref b332), (.ref b332), (.ref b327), (.ref b327)]) := fun t h => k349 t (by
      show Steps p.tables e below (T347.setTop (mkF m 91 #[.val (.int (4 : Int32)), .val (.int c0), .val (.int c1), .val (.int c2), .val (.int c3)] [(.ref b332), (.ref b327), (.ref b327)])) _
      refine XS.dup X347.here hx rfl (hb hby d1_91) rfl rfl ?_
      show Steps p.tables e below (T347.setTop (mkF m 92 #[.val (.int (4 : Int32)), .val (.int c0), .val (.int c1), .val (.int c2), .val (.int c3)] [(.ref b332), (.ref b332), (.ref b327), (.ref b327)])) _
      refine XS.iconst X347.here hx rfl (hb hby d1_92) ?_
      show Steps p.tables e below (T347.setTop (mkF m 93 #[.val (.int (4 : Int32)), .val (.int c0), .val (.int c1), .val (.int c2), .val (.int c3)] [(.int (3 : Int32)), (.ref b332), (.ref b332), (.ref b327), (.ref b327)])) _
      refine XS.iload X347.here hx rfl (hb hby d1_93) rfl ?_
      show Steps p.tables e below (T347.setTop (mkF m 95 #[.val (.int (4 : Int32)), .val (.int c0), .val (.int c1), .val (.int c2), .val (.int c3)] [(.int c3), (.int (3 : Int32)), (.ref b332), (.ref b332), (.ref b327), (.ref b327)])) _
      exact h)
  obtain ⟨cl352, Ar352, q352, Sz352, Ng352, Hs352, G352⟩ := id V_b332
  have hin352 : ¬ ((3 : Int32) < 0 ∨ cl352.slots.size ≤ ((3 : Int32)).toNatClampNeg) := inb_of Sz352 ⟨by decide, by decide⟩
  obtain ⟨T352, h352, X352, e352, W352, st352⟩ := stC X347 hx hZ e347 Ar352 (j := (3 : Int32)) hin352 (g := (mkF m 95 #[.val (.int (4 : Int32)), .val (.int c0), .val (.int c1), .val (.int c2), .val (.int c3)] [(.int c3), (.int (3 : Int32)), (.ref b332), (.ref b332), (.ref b327), (.ref b327)])) rfl rfl (hb hby d1_95)
  have k354 : Rch p e below S0 T352 (mkF m 96 #[.val (.int (4 : Int32)), .val (.int c0), .val (.int c1), .val (.int c2), .val (.int c3)] [(.ref b332), (.ref b327), (.ref b327)]) := fun t h => k353 t (st352 t h)
  have N352 := Fr.snoc X352 N347 ge_b332
  have V_b332' := Arv.set Ar352 q352 Sz352 Ng352 Hs352 G352 (fits_nar_char _) W352 3 rfl (Nat.le_of_ble_eq_true rfl)
  replace V_b332 : Arv Z h352 b332 k332 .char (4 : Int32) [(.int c0), (.int c1), (.int c2), (.int c3)] (.int (0 : Int32)) := (by have q := V_b332'; rw [(own_narc c3 hc3).1] at q; exact q)
  have O355 := O350.wr W352 ge_b332
  have K356 := K351.wr W352 (Or.inr sz_b332)
  replace E_b327 := E_b327.wr W352
  replace F_b327_coder := F_b327_coder.other W352 (Or.inl ne_b327_b332)
  replace F_b327_value := F_b327_value.other W352 (Or.inl ne_b327_b332)
  have hws : ∀ d ∈ StrChars.Road.words, d.before a0 Z = true := fun d hd => hw d ((by decide +kernel : ∀ d ∈ StrChars.Road.words, d ∈ tables_1) d hd)
  have hp : ∀ c ∈ ([c0, c1, c2, c3] : List Int32), ¬ c < 0 ∧ ¬ (255 : Int32) < c := fun c hc => ⟨(hpp c hc).1, hall c hc⟩
  obtain ⟨_, _, ⟨T357, L357, kk357, n357⟩, -, X357, ⟨Lc357, hQ357, l357, y357, z357⟩, st357⟩ := X352.specialBack hx (y := (⟨"java/lang/String", "<init>", "([C)V"⟩ : MethodName)) rfl hown (mvT hZ (hw _ (List.mem_of_getElem? (i := 9) rfl))) (mvT hZ (hw _ (List.mem_of_getElem? (i := 10) rfl))) (mvT hZ (hw _ (List.mem_of_getElem? (i := 11) rfl))) (by decide) (StrChars.Road.backV (W := 1) hZ hws (kI := 4) (hw _ (List.mem_of_getElem? (i := 6) rfl)) (cs := [c0, c1, c2, c3]) (bs := [c0, c1, c2, c3].map (fun c => c.toInt8.toInt32)) (n := 4) ge_b327 (own_le O355) E_b327 F_b327_value F_b327_coder V_b332 (SC.ext O355.2) hzC rfl rfl (by decide) (by decide) hp rfl (by decide) (by decide)) (g := (mkF m 96 #[.val (.int (4 : Int32)), .val (.int c0), .val (.int c1), .val (.int c2), .val (.int c3)] [(.ref b332), (.ref b327), (.ref b327)])) rfl (by rw [hml]; rfl) (Steps.refl _) (a := b327) (argsL := [(.ref b332)]) (rest := [(.ref b327)]) (lenOf pd_1 rfl) rfl (by show 2 * 0 + _ ≤ _; exact Nat.le_of_eq rfl) (hb hby d1_96) (fun _ _ => ⟨rfl, e352, (by decide : 2 + 1 ≤ _), (by decide : 8 + 4 ≤ _)⟩)
  dsimp only [Pt.U, Pt.locs, Pt.cells, Pt.slots] at X357 l357 y357 z357 st357 hQ357
  subst l357 y357 z357
  obtain ⟨rfl, Nq357, K357, Eb357, Cb357, t357, kb357, u357, v357, ww357, Vb357, Ab357⟩ := hQ357
  have N357 := Fr.app N352 Nq357
  have k358 : Rch p e below S0 T357 (mkF m 99 #[.val (.int (4 : Int32)), .val (.int c0), .val (.int c1), .val (.int c2), .val (.int c3)] [(.ref b327)]) := fun t h => k354 t (st357.trans h)
  have O359 := O355.keep K357 (allS ge_b327 all0)
  have K360 := K356.trans K357 (allS (Or.inr sz_b327) all0)
  replace E_b327 := E_b327.keep K357
  replace V_b332 := V_b332.keep K357 (ninS (Ne.symm ne_b327_b332) nin0)
  obtain ⟨fs, hr, hrun, hended, hW, hsame⟩ := X357.leave (v := (some (.ref b327))) (fun h => by rw [Bd.returns] at h; cases h)
  refine ⟨_, _, ?_, hrun, hended, _, _, rfl, ?_, ⟨_, rfl⟩, hW, hsame.mono (by decide) (by decide)⟩
  · rw [← hS0]
    refine k358 _ ?_
    show Steps p.tables e below (T357.setTop (mkF m 99 #[.val (.int (4 : Int32)), .val (.int c0), .val (.int c1), .val (.int c2), .val (.int c3)] [(.ref b327)])) _
    jvm_step X357.here [X357.here.top, hx, (hb hby d1_99), X357.method', Bd.returns, Value.isRef, FieldType.isReference]
    first | (intro acts; rw [hr _ acts rfl rfl rfl]) | rw [hr _ _ rfl rfl rfl]
    exact Steps.refl _
  · show Q_rmK4l Z  h0 n0 _ T357.heap _
    exact ⟨b327, _, _, _, _, _, rfl, N357, own_ext K360, sz_b327, E_b327, Vb357, Cb357, Ab357, Or.inl ⟨rfl, rfl⟩⟩
def Q_rmK4u (Z : State)  (h0 : Heap) (n0 : Nat) (v : Option Value) (h : Heap) (L : List Loc) : Prop := ∃ x t kt vs cd N2, v = some (.ref x) ∧ Fr n0 L ∧ Ext h0 h ∧ h0.size ≤ x ∧ Exa Z h x "java/lang/String" ∧ Fld Z h x "java/lang/String" "value" "[B" (.ref t) ∧ Fld Z h x "java/lang/String" "coder" "B" (.int cd) ∧ Arv Z h t kt .byte N2 vs (.int (0 : Int32)) ∧ ((cd = 0 ∧ N2 = (4 : Int32)) ∨ (cd = 1 ∧ N2 = (8 : Int32)))
set_option maxRecDepth 65536 in
set_option maxHeartbeats 40000000 in
theorem rmK4u (l : Launch) (Z : State) (a0 : Array Value) (hw : ∀ d ∈ tables_1, d.before a0 Z = true) (ws : List Jvm.Cond) (c0 : Int32) (c1 : Int32) (c2 : Int32) (c3 : Int32) (zC : Int32) (h0 : Heap) (n0 : Nat) (O0 : Old Z n0 h0) (SAs : Sta Z Z.heap "java/lang/StringUTF16" "$assertionsDisabled" "Z" (.int (1 : Int32))) (SHi : Sta Z Z.heap "java/lang/StringUTF16" "HI_BYTE_SHIFT" "I" (.int (0 : Int32))) (SLo : Sta Z Z.heap "java/lang/StringUTF16" "LO_BYTE_SHIFT" "I" (.int (8 : Int32))) (SC : Sta Z Z.heap "java/lang/String" "COMPACT_STRINGS" "Z" (.int zC)) (hzC : ¬ zC = 0) (hc0 : ¬ c0 < 0 ∧ ¬ (65535 : Int32) < c0) (hc1 : ¬ c1 < 0 ∧ ¬ (65535 : Int32) < c1) (hc2 : ¬ c2 < 0 ∧ ¬ (65535 : Int32) < c2) (hc3 : ¬ c3 < 0 ∧ ¬ (65535 : Int32) < c3) (hex : ∃ c ∈ ([c0, c1, c2, c3] : List Int32), (255 : Int32) < c) :
    MetFree l (⟨"com/example/remodel/remodel/ComponentCheckLengthPinLaw", "make", "(ICCCC)Ljava/lang/String;"⟩ : MethodName) (head1 (Jvm.Cond.code (⟨"com/example/remodel/remodel/ComponentCheckLengthPinLaw", "make", "(ICCCC)Ljava/lang/String;"⟩ : MethodName) method_2_code 5 (some (.object "java/lang/String")) :: ws) ({ frames := 6, cells := 4, slots := 20, locals := 190 } : Room)) (fun a U => a = #[(.int (4 : Int32)), (.int c0), (.int c1), (.int c2), (.int c3)] ∧ Z.Warmed39 U.vm ∧ U.heap = h0) (fun _ _ _ _ _ => True) (fun _ U o U' => ∃ v L, o = .returned v ∧ Q_rmK4u Z  h0 n0 v U'.heap L ∧ FrameEnd U o U' L ({ frames := 6, cells := 4, slots := 20, locals := 190 } : Room).cells ({ frames := 6, cells := 4, slots := 20, locals := 190 } : Room).slots) := by
  refine MetFree.of_bodySF (plainFor_of_name pn_ComponentCheckLengthPinLaw) hisR ?_
  intro p e s m args below meth c s₁ Bd hml0 hP hK
  obtain ⟨rfl, hZ, hh⟩ := hP
  have hx := Bd.exec
  have hby := Bd.bytes
  have hml : c.maxLocals = 5 := hml0
  have hown : s.vm.findClass "com/example/remodel/remodel/ComponentCheckLengthPinLaw" = some m.cls := findClass_of_methodNamed Bd.named
  have hnm := (name_of_methodNamed Bd.named Bd.method).1
  have X0 : Stand p l e ({ frames := 6, cells := 4, slots := 20, locals := 190 } : Room) s m #[(.int (4 : Int32)), (.int c0), (.int c1), (.int c2), (.int c3)] below meth c s₁ [] 0 0 := Stand.of_body Bd
  have e0 : s₁.heap = h0 := by rw [← hh, Bd.state]; rfl
  have N0 := Fr.nil n0
  obtain ⟨S0, hS0⟩ : ∃ z, z = s₁.setTop (entryFrame m #[(.int (4 : Int32)), (.int c0), (.int c1), (.int c2), (.int c3)] 5) := ⟨_, rfl⟩
  have k0 : Rch p e below S0 s₁ (mkF m 0 #[.val (.int (4 : Int32)), .val (.int c0), .val (.int c1), .val (.int c2), .val (.int c3)] []) := fun t kq => hS0 ▸ castTop (ef_1 m (4 : Int32) c0 c1 c2 c3) kq
  have K0 : Keep h0 h0 [] := Keep.refl h0 _
  have hpp : ∀ c ∈ ([c0, c1, c2, c3] : List Int32), ¬ c < 0 ∧ ¬ (65535 : Int32) < c := by
    intro c hc
    simp only [List.mem_cons, List.not_mem_nil, or_false] at hc
    rcases hc with rfl | rfl | rfl | rfl
    · exact hc0
    · exact hc1
    · exact hc2
    · exact hc3
  obtain ⟨kF, hkF, hlowF, hhighF⟩ := own_first [c0, c1, c2, c3] hex
  have k362 : Rch p e below S0 s₁ (mkF m 72 #[.val (.int (4 : Int32)), .val (.int c0), .val (.int c1), .val (.int c2), .val (.int c3)] []) := fun t h => k0 t (by
      show Steps p.tables e below (s₁.setTop (mkF m 0 #[.val (.int (4 : Int32)), .val (.int c0), .val (.int c1), .val (.int c2), .val (.int c3)] [])) _
      refine XS.iloadN X0.here hx rfl (hb hby d1_0) rfl ?_
      show Steps p.tables e below (s₁.setTop (mkF m 1 #[.val (.int (4 : Int32)), .val (.int c0), .val (.int c1), .val (.int c2), .val (.int c3)] [(.int (4 : Int32))])) _
      refine XS.iconst X0.here hx rfl (hb hby d1_1) ?_
      show Steps p.tables e below (s₁.setTop (mkF m 2 #[.val (.int (4 : Int32)), .val (.int c0), .val (.int c1), .val (.int c2), .val (.int c3)] [(.int (1 : Int32)), (.int (4 : Int32))])) _
      refine XS.icmpYes X0.here hx rfl (pc0 := 2) (pc' := 20) rfl (hb hby d1_2) rfl (feq (by decide : ¬ ((4 : Int32) = (1 : Int32)))).2 (by decide) (by decide) ?_
      show Steps p.tables e below (s₁.setTop (mkF m 20 #[.val (.int (4 : Int32)), .val (.int c0), .val (.int c1), .val (.int c2), .val (.int c3)] [])) _
      refine XS.iloadN X0.here hx rfl (hb hby d1_20) rfl ?_
      show Steps p.tables e below (s₁.setTop (mkF m 21 #[.val (.int (4 : Int32)), .val (.int c0), .val (.int c1), .val (.int c2), .val (.int c3)] [(.int (4 : Int32))])) _
      refine XS.iconst X0.here hx rfl (hb hby d1_21) ?_
      show Steps p.tables e below (s₁.setTop (mkF m 22 #[.val (.int (4 : Int32)), .val (.int c0), .val (.int c1), .val (.int c2), .val (.int c3)] [(.int (2 : Int32)), (.int (4 : Int32))])) _
      refine XS.icmpYes X0.here hx rfl (pc0 := 22) (pc' := 44) rfl (hb hby d1_22) rfl (feq (by decide : ¬ ((4 : Int32) = (2 : Int32)))).2 (by decide) (by decide) ?_
      show Steps p.tables e below (s₁.setTop (mkF m 44 #[.val (.int (4 : Int32)), .val (.int c0), .val (.int c1), .val (.int c2), .val (.int c3)] [])) _
      refine XS.iloadN X0.here hx rfl (hb hby d1_44) rfl ?_
      show Steps p.tables e below (s₁.setTop (mkF m 45 #[.val (.int (4 : Int32)), .val (.int c0), .val (.int c1), .val (.int c2), .val (.int c3)] [(.int (4 : Int32))])) _
      refine XS.iconst X0.here hx rfl (hb hby d1_45) ?_
      show Steps p.tables e below (s₁.setTop (mkF m 46 #[.val (.int (4 : Int32)), .val (.int c0), .val (.int c1), .val (.int c2), .val (.int c3)] [(.int (3 : Int32)), (.int (4 : Int32))])) _
      refine XS.icmpYes X0.here hx rfl (pc0 := 46) (pc' := 72) rfl (hb hby d1_46) rfl (feq (by decide : ¬ ((4 : Int32) = (3 : Int32)))).2 (by decide) (by decide) ?_
      show Steps p.tables e below (s₁.setTop (mkF m 72 #[.val (.int (4 : Int32)), .val (.int c0), .val (.int c1), .val (.int c2), .val (.int c3)] [])) _
      exact h)
  obtain ⟨T361, h361, X361, e361, E361, A361, D361, -, st361⟩ := newO X0 hx hZ hown (hw _ (List.mem_of_getElem? (i := 5) rfl)) (hw _ (List.mem_of_getElem? (i := 6) rfl)) (hw _ (List.mem_of_getElem? (i := 7) rfl)) e0 (g := (mkF m 72 #[.val (.int (4 : Int32)), .val (.int c0), .val (.int c1), .val (.int c2), .val (.int c3)] [])) rfl (hb hby d1_72) (by decide) (by decide)
  obtain ⟨b361, g361⟩ : ∃ z, z = h0.size := ⟨_, rfl⟩
  rw [← g361] at A361 D361 st361
  have k363 : Rch p e below S0 T361 (mkF m 75 #[.val (.int (4 : Int32)), .val (.int c0), .val (.int c1), .val (.int c2), .val (.int c3)] [(.ref b361)]) := fun t h => k362 t (st361 t h)
  have ge_b361 : n0 ≤ b361 := own_ge O0 (Nat.le_of_eq g361.symm)
  have sz_b361 : h0.size ≤ b361 := Nat.le_trans K0.1 (Nat.le_of_eq g361.symm)
  have O364 := O0.ext E361
  have K365 := K0.ext E361
  have E_b361 := A361
  have F_b361_coder : Fld Z h361 b361 "java/lang/String" "coder" "B" (.int (0 : Int32)) := D361 (Or.inr (hw _ (List.mem_of_getElem? (i := 32) rfl))) (ty := .byte) (by decide)
  have F_b361_value : Fld Z h361 b361 "java/lang/String" "value" "[B" .null := D361 (Or.inr (hw _ (List.mem_of_getElem? (i := 34) rfl))) (ty := (.array .byte)) (by decide)
  have k367 : Rch p e below S0 T361 (mkF m 77 #[.val (.int (4 : Int32)), .val (.int c0), .val (.int c1), .val (.int c2), .val (.int c3)] [(.int (4 : Int32)), (.ref b361), (.ref b361)]) := fun t h => k363 t (by
      show Steps p.tables e below (T361.setTop (mkF m 75 #[.val (.int (4 : Int32)), .val (.int c0), .val (.int c1), .val (.int c2), .val (.int c3)] [(.ref b361)])) _
      refine XS.dup X361.here hx rfl (hb hby d1_75) rfl rfl ?_
      show Steps p.tables e below (T361.setTop (mkF m 76 #[.val (.int (4 : Int32)), .val (.int c0), .val (.int c1), .val (.int c2), .val (.int c3)] [(.ref b361), (.ref b361)])) _
      refine XS.iconst X361.here hx rfl (hb hby d1_76) ?_
      show Steps p.tables e below (T361.setTop (mkF m 77 #[.val (.int (4 : Int32)), .val (.int c0), .val (.int c1), .val (.int c2), .val (.int c3)] [(.int (4 : Int32)), (.ref b361), (.ref b361)])) _
      exact h)
  obtain ⟨T366, h366, k366, X366, e366, E366, A366, st366⟩ := newP X361 hx hZ (hw _ (List.mem_of_getElem? (i := 8) rfl)) e361 (g := (mkF m 77 #[.val (.int (4 : Int32)), .val (.int c0), .val (.int c1), .val (.int c2), .val (.int c3)] [(.int (4 : Int32)), (.ref b361), (.ref b361)])) rfl (hb hby d1_77) rfl (by decide) (cap := 4) (by decide) (by decide) (by decide) (by decide)
  obtain ⟨b366, g366⟩ : ∃ z, z = h361.size := ⟨_, rfl⟩
  rw [← g366] at A366 st366
  have k368 : Rch p e below S0 T366 (mkF m 79 #[.val (.int (4 : Int32)), .val (.int c0), .val (.int c1), .val (.int c2), .val (.int c3)] [(.ref b366), (.ref b361), (.ref b361)]) := fun t h => k367 t (st366 t h)
  have ne_b361_b366 : b361 ≠ b366 := own_ne E_b361.lt (Nat.le_of_eq g366.symm)
  have ge_b366 : n0 ≤ b366 := own_ge O364 (Nat.le_of_eq g366.symm)
  have sz_b366 : h0.size ≤ b366 := Nat.le_trans K365.1 (Nat.le_of_eq g366.symm)
  have O369 := O364.ext E366
  have K370 := K365.ext E366
  replace E_b361 := E_b361.ext E366
  replace F_b361_coder := F_b361_coder.ext E366
  replace F_b361_value := F_b361_value.ext E366
  have V_b366 : Arv Z h366 b366 k366 .char (4 : Int32) [(.int (0 : Int32)), (.int (0 : Int32)), (.int (0 : Int32)), (.int (0 : Int32))] (.int (0 : Int32)) := (Arv.new A366 (by decide)).pad (pad_rep [] (.int (0 : Int32)) 4)
  have k372 : Rch p e below S0 T366 (mkF m 82 #[.val (.int (4 : Int32)), .val (.int c0), .val (.int c1), .val (.int c2), .val (.int c3)] [(.int c0), (.int (0 : Int32)), (.ref b366), (.ref b366), (.ref b361), (.ref b361)]) := fun t h => k368 t (by
      show Steps p.tables e below (T366.setTop (mkF m 79 #[.val (.int (4 : Int32)), .val (.int c0), .val (.int c1), .val (.int c2), .val (.int c3)] [(.ref b366), (.ref b361), (.ref b361)])) _
      refine XS.dup X366.here hx rfl (hb hby d1_79) rfl rfl ?_
      show Steps p.tables e below (T366.setTop (mkF m 80 #[.val (.int (4 : Int32)), .val (.int c0), .val (.int c1), .val (.int c2), .val (.int c3)] [(.ref b366), (.ref b366), (.ref b361), (.ref b361)])) _
      refine XS.iconst X366.here hx rfl (hb hby d1_80) ?_
      show Steps p.tables e below (T366.setTop (mkF m 81 #[.val (.int (4 : Int32)), .val (.int c0), .val (.int c1), .val (.int c2), .val (.int c3)] [(.int (0 : Int32)), (.ref b366), (.ref b366), (.ref b361), (.ref b361)])) _
      refine XS.iloadN X366.here hx rfl (hb hby d1_81) rfl ?_
      show Steps p.tables e below (T366.setTop (mkF m 82 #[.val (.int (4 : Int32)), .val (.int c0), .val (.int c1), .val (.int c2), .val (.int c3)] [(.int c0), (.int (0 : Int32)), (.ref b366), (.ref b366), (.ref b361), (.ref b361)])) _
      exact h)
  obtain ⟨cl371, Ar371, q371, Sz371, Ng371, Hs371, G371⟩ := id V_b366
  have hin371 : ¬ ((0 : Int32) < 0 ∨ cl371.slots.size ≤ ((0 : Int32)).toNatClampNeg) := inb_of Sz371 ⟨by decide, by decide⟩
  obtain ⟨T371, h371, X371, e371, W371, st371⟩ := stC X366 hx hZ e366 Ar371 (j := (0 : Int32)) hin371 (g := (mkF m 82 #[.val (.int (4 : Int32)), .val (.int c0), .val (.int c1), .val (.int c2), .val (.int c3)] [(.int c0), (.int (0 : Int32)), (.ref b366), (.ref b366), (.ref b361), (.ref b361)])) rfl rfl (hb hby d1_82)
  have k373 : Rch p e below S0 T371 (mkF m 83 #[.val (.int (4 : Int32)), .val (.int c0), .val (.int c1), .val (.int c2), .val (.int c3)] [(.ref b366), (.ref b361), (.ref b361)]) := fun t h => k372 t (st371 t h)
  have N371 := Fr.snoc X371 N0 ge_b366
  have V_b366' := Arv.set Ar371 q371 Sz371 Ng371 Hs371 G371 (fits_nar_char _) W371 0 rfl (Nat.le_of_ble_eq_true rfl)
  replace V_b366 : Arv Z h371 b366 k366 .char (4 : Int32) [(.int c0), (.int (0 : Int32)), (.int (0 : Int32)), (.int (0 : Int32))] (.int (0 : Int32)) := (by have q := V_b366'; rw [(own_narc c0 hc0).1] at q; exact q)
  have O374 := O369.wr W371 ge_b366
  have K375 := K370.wr W371 (Or.inr sz_b366)
  replace E_b361 := E_b361.wr W371
  replace F_b361_coder := F_b361_coder.other W371 (Or.inl ne_b361_b366)
  replace F_b361_value := F_b361_value.other W371 (Or.inl ne_b361_b366)
  have k377 : Rch p e below S0 T371 (mkF m 86 #[.val (.int (4 : Int32)), .val (.int c0), .val (.int c1), .val (.int c2), .val (.int c3)] [(.int c1), (.int (1 : Int32)), (.ref b366), (.ref b366), (.ref b361), (.ref b361)]) := fun t h => k373 t (by
      show Steps p.tables e below (T371.setTop (mkF m 83 #[.val (.int (4 : Int32)), .val (.int c0), .val (.int c1), .val (.int c2), .val (.int c3)] [(.ref b366), (.ref b361), (.ref b361)])) _
      refine XS.dup X371.here hx rfl (hb hby d1_83) rfl rfl ?_
      show Steps p.tables e below (T371.setTop (mkF m 84 #[.val (.int (4 : Int32)), .val (.int c0), .val (.int c1), .val (.int c2), .val (.int c3)] [(.ref b366), (.ref b366), (.ref b361), (.ref b361)])) _
      refine XS.iconst X371.here hx rfl (hb hby d1_84) ?_
      show Steps p.tables e below (T371.setTop (mkF m 85 #[.val (.int (4 : Int32)), .val (.int c0), .val (.int c1), .val (.int c2), .val (.int c3)] [(.int (1 : Int32)), (.ref b366), (.ref b366), (.ref b361), (.ref b361)])) _
      refine XS.iloadN X371.here hx rfl (hb hby d1_85) rfl ?_
      show Steps p.tables e below (T371.setTop (mkF m 86 #[.val (.int (4 : Int32)), .val (.int c0), .val (.int c1), .val (.int c2), .val (.int c3)] [(.int c1), (.int (1 : Int32)), (.ref b366), (.ref b366), (.ref b361), (.ref b361)])) _
      exact h)
  obtain ⟨cl376, Ar376, q376, Sz376, Ng376, Hs376, G376⟩ := id V_b366
  have hin376 : ¬ ((1 : Int32) < 0 ∨ cl376.slots.size ≤ ((1 : Int32)).toNatClampNeg) := inb_of Sz376 ⟨by decide, by decide⟩
  obtain ⟨T376, h376, X376, e376, W376, st376⟩ := stC X371 hx hZ e371 Ar376 (j := (1 : Int32)) hin376 (g := (mkF m 86 #[.val (.int (4 : Int32)), .val (.int c0), .val (.int c1), .val (.int c2), .val (.int c3)] [(.int c1), (.int (1 : Int32)), (.ref b366), (.ref b366), (.ref b361), (.ref b361)])) rfl rfl (hb hby d1_86)
  have k378 : Rch p e below S0 T376 (mkF m 87 #[.val (.int (4 : Int32)), .val (.int c0), .val (.int c1), .val (.int c2), .val (.int c3)] [(.ref b366), (.ref b361), (.ref b361)]) := fun t h => k377 t (st376 t h)
  have N376 := Fr.snoc X376 N371 ge_b366
  have V_b366' := Arv.set Ar376 q376 Sz376 Ng376 Hs376 G376 (fits_nar_char _) W376 1 rfl (Nat.le_of_ble_eq_true rfl)
  replace V_b366 : Arv Z h376 b366 k366 .char (4 : Int32) [(.int c0), (.int c1), (.int (0 : Int32)), (.int (0 : Int32))] (.int (0 : Int32)) := (by have q := V_b366'; rw [(own_narc c1 hc1).1] at q; exact q)
  have O379 := O374.wr W376 ge_b366
  have K380 := K375.wr W376 (Or.inr sz_b366)
  replace E_b361 := E_b361.wr W376
  replace F_b361_coder := F_b361_coder.other W376 (Or.inl ne_b361_b366)
  replace F_b361_value := F_b361_value.other W376 (Or.inl ne_b361_b366)
  have k382 : Rch p e below S0 T376 (mkF m 90 #[.val (.int (4 : Int32)), .val (.int c0), .val (.int c1), .val (.int c2), .val (.int c3)] [(.int c2), (.int (2 : Int32)), (.ref b366), (.ref b366), (.ref b361), (.ref b361)]) := fun t h => k378 t (by
      show Steps p.tables e below (T376.setTop (mkF m 87 #[.val (.int (4 : Int32)), .val (.int c0), .val (.int c1), .val (.int c2), .val (.int c3)] [(.ref b366), (.ref b361), (.ref b361)])) _
      refine XS.dup X376.here hx rfl (hb hby d1_87) rfl rfl ?_
      show Steps p.tables e below (T376.setTop (mkF m 88 #[.val (.int (4 : Int32)), .val (.int c0), .val (.int c1), .val (.int c2), .val (.int c3)] [(.ref b366), (.ref b366), (.ref b361), (.ref b361)])) _
      refine XS.iconst X376.here hx rfl (hb hby d1_88) ?_
      show Steps p.tables e below (T376.setTop (mkF m 89 #[.val (.int (4 : Int32)), .val (.int c0), .val (.int c1), .val (.int c2), .val (.int c3)] [(.int (2 : Int32)), (.ref b366), (.ref b366), (.ref b361), (.ref b361)])) _
      refine XS.iloadN X376.here hx rfl (hb hby d1_89) rfl ?_
      show Steps p.tables e below (T376.setTop (mkF m 90 #[.val (.int (4 : Int32)), .val (.int c0), .val (.int c1), .val (.int c2), .val (.int c3)] [(.int c2), (.int (2 : Int32)), (.ref b366), (.ref b366), (.ref b361), (.ref b361)])) _
      exact h)
  obtain ⟨cl381, Ar381, q381, Sz381, Ng381, Hs381, G381⟩ := id V_b366
  have hin381 : ¬ ((2 : Int32) < 0 ∨ cl381.slots.size ≤ ((2 : Int32)).toNatClampNeg) := inb_of Sz381 ⟨by decide, by decide⟩
  obtain ⟨T381, h381, X381, e381, W381, st381⟩ := stC X376 hx hZ e376 Ar381 (j := (2 : Int32)) hin381 (g := (mkF m 90 #[.val (.int (4 : Int32)), .val (.int c0), .val (.int c1), .val (.int c2), .val (.int c3)] [(.int c2), (.int (2 : Int32)), (.ref b366), (.ref b366), (.ref b361), (.ref b361)])) rfl rfl (hb hby d1_90)
  have k383 : Rch p e below S0 T381 (mkF m 91 #[.val (.int (4 : Int32)), .val (.int c0), .val (.int c1), .val (.int c2), .val (.int c3)] [(.ref b366), (.ref b361), (.ref b361)]) := fun t h => k382 t (st381 t h)
  have N381 := Fr.snoc X381 N376 ge_b366
  have V_b366' := Arv.set Ar381 q381 Sz381 Ng381 Hs381 G381 (fits_nar_char _) W381 2 rfl (Nat.le_of_ble_eq_true rfl)
  replace V_b366 : Arv Z h381 b366 k366 .char (4 : Int32) [(.int c0), (.int c1), (.int c2), (.int (0 : Int32))] (.int (0 : Int32)) := (by have q := V_b366'; rw [(own_narc c2 hc2).1] at q; exact q)
  have O384 := O379.wr W381 ge_b366
  have K385 := K380.wr W381 (Or.inr sz_b366)
  replace E_b361 := E_b361.wr W381
  replace F_b361_coder := F_b361_coder.other W381 (Or.inl ne_b361_b366)
  replace F_b361_value := F_b361_value.other W381 (Or.inl ne_b361_b366)
  have k387 : Rch p e below S0 T381 (mkF m 95 #[.val (.int (4 : Int32)), .val (.int c0), .val (.int c1), .val (.int c2), .val (.int c3)] [(.int c3), (.int (3 : Int32)), (.ref b366), (.ref b366), (.ref b361), (.ref b361)]) := fun t h => k383 t (by
      show Steps p.tables e below (T381.setTop (mkF m 91 #[.val (.int (4 : Int32)), .val (.int c0), .val (.int c1), .val (.int c2), .val (.int c3)] [(.ref b366), (.ref b361), (.ref b361)])) _
      refine XS.dup X381.here hx rfl (hb hby d1_91) rfl rfl ?_
      show Steps p.tables e below (T381.setTop (mkF m 92 #[.val (.int (4 : Int32)), .val (.int c0), .val (.int c1), .val (.int c2), .val (.int c3)] [(.ref b366), (.ref b366), (.ref b361), (.ref b361)])) _
      refine XS.iconst X381.here hx rfl (hb hby d1_92) ?_
      show Steps p.tables e below (T381.setTop (mkF m 93 #[.val (.int (4 : Int32)), .val (.int c0), .val (.int c1), .val (.int c2), .val (.int c3)] [(.int (3 : Int32)), (.ref b366), (.ref b366), (.ref b361), (.ref b361)])) _
      refine XS.iload X381.here hx rfl (hb hby d1_93) rfl ?_
      show Steps p.tables e below (T381.setTop (mkF m 95 #[.val (.int (4 : Int32)), .val (.int c0), .val (.int c1), .val (.int c2), .val (.int c3)] [(.int c3), (.int (3 : Int32)), (.ref b366), (.ref b366), (.ref b361), (.ref b361)])) _
      exact h)
  obtain ⟨cl386, Ar386, q386, Sz386, Ng386, Hs386, G386⟩ := id V_b366
  have hin386 : ¬ ((3 : Int32) < 0 ∨ cl386.slots.size ≤ ((3 : Int32)).toNatClampNeg) := inb_of Sz386 ⟨by decide, by decide⟩
  obtain ⟨T386, h386, X386, e386, W386, st386⟩ := stC X381 hx hZ e381 Ar386 (j := (3 : Int32)) hin386 (g := (mkF m 95 #[.val (.int (4 : Int32)), .val (.int c0), .val (.int c1), .val (.int c2), .val (.int c3)] [(.int c3), (.int (3 : Int32)), (.ref b366), (.ref b366), (.ref b361), (.ref b361)])) rfl rfl (hb hby d1_95)
  have k388 : Rch p e below S0 T386 (mkF m 96 #[.val (.int (4 : Int32)), .val (.int c0), .val (.int c1), .val (.int c2), .val (.int c3)] [(.ref b366), (.ref b361), (.ref b361)]) := fun t h => k387 t (st386 t h)
  have N386 := Fr.snoc X386 N381 ge_b366
  have V_b366' := Arv.set Ar386 q386 Sz386 Ng386 Hs386 G386 (fits_nar_char _) W386 3 rfl (Nat.le_of_ble_eq_true rfl)
  replace V_b366 : Arv Z h386 b366 k366 .char (4 : Int32) [(.int c0), (.int c1), (.int c2), (.int c3)] (.int (0 : Int32)) := (by have q := V_b366'; rw [(own_narc c3 hc3).1] at q; exact q)
  have O389 := O384.wr W386 ge_b366
  have K390 := K385.wr W386 (Or.inr sz_b366)
  replace E_b361 := E_b361.wr W386
  replace F_b361_coder := F_b361_coder.other W386 (Or.inl ne_b361_b366)
  replace F_b361_value := F_b361_value.other W386 (Or.inl ne_b361_b366)
  obtain ⟨_, _, ⟨T391, L391, kk391, n391⟩, -, X391, ⟨Lc391, hQ391, l391, y391, z391⟩, st391⟩ := X386.specialBack hx (y := (⟨"java/lang/String", "<init>", "([C)V"⟩ : MethodName)) rfl hown (mvT hZ (hw _ (List.mem_of_getElem? (i := 9) rfl))) (mvT hZ (hw _ (List.mem_of_getElem? (i := 10) rfl))) (mvT hZ (hw _ (List.mem_of_getElem? (i := 11) rfl))) (by decide) (backOf (W := 1) (rmU1 l Z a0 hw [] b361 b366 k366 4 ([c0, c1, c2, c3]) kF zC h386 n0 O389 SAs SHi SLo SC hzC (by decide) rfl hkF hlowF hhighF hpp ge_b361 E_b361 F_b361_value F_b361_coder (Ne.symm ne_b361_b366) V_b366) hZ (hw _ (List.mem_of_getElem? (i := 11) rfl)) (hw _ (List.mem_of_getElem? (i := 7) rfl)) (by decide) (by decide)) (g := (mkF m 96 #[.val (.int (4 : Int32)), .val (.int c0), .val (.int c1), .val (.int c2), .val (.int c3)] [(.ref b366), (.ref b361), (.ref b361)])) rfl (by rw [hml]; rfl) (Steps.refl _) (a := b361) (argsL := [(.ref b366)]) (rest := [(.ref b361)]) (lenOf pd_1 rfl) rfl (by show 2 * 0 + _ ≤ _; exact Nat.le_of_eq rfl) (hb hby d1_96) (fun _ _ => ⟨rfl, e386, (by decide : 2 + 2 ≤ _), (by decide : 8 + 12 ≤ _)⟩)
  dsimp only [Pt.U, Pt.locs, Pt.cells, Pt.slots] at X391 l391 y391 z391 st391 hQ391
  subst l391 y391 z391
  obtain ⟨rfl, Nq391, K391, t391, kt391, vs391, Fv391, Fc391, At391⟩ := hQ391
  have N391 := Fr.app N386 Nq391
  have k392 : Rch p e below S0 T391 (mkF m 99 #[.val (.int (4 : Int32)), .val (.int c0), .val (.int c1), .val (.int c2), .val (.int c3)] [(.ref b361)]) := fun t h => k388 t (st391.trans h)
  have O393 := O389.keep K391 (allS ge_b361 all0)
  have K394 := K390.trans K391 (allS (Or.inr sz_b361) all0)
  replace E_b361 := E_b361.keep K391
  replace V_b366 := V_b366.keep K391 (ninS (Ne.symm ne_b361_b366) nin0)
  obtain ⟨fs, hr, hrun, hended, hW, hsame⟩ := X391.leave (v := (some (.ref b361))) (fun h => by rw [Bd.returns] at h; cases h)
  refine ⟨_, _, ?_, hrun, hended, _, _, rfl, ?_, ⟨_, rfl⟩, hW, hsame.mono (by decide) (by decide)⟩
  · rw [← hS0]
    refine k392 _ ?_
    show Steps p.tables e below (T391.setTop (mkF m 99 #[.val (.int (4 : Int32)), .val (.int c0), .val (.int c1), .val (.int c2), .val (.int c3)] [(.ref b361)])) _
    jvm_step X391.here [X391.here.top, hx, (hb hby d1_99), X391.method', Bd.returns, Value.isRef, FieldType.isReference]
    first | (intro acts; rw [hr _ acts rfl rfl rfl]) | rw [hr _ _ rfl rfl rfl]
    exact Steps.refl _
  · show Q_rmK4u Z  h0 n0 _ T391.heap _
    exact ⟨b361, _, _, _, _, _, rfl, N391, own_ext K394, sz_b361, E_b361, Fv391, Fc391, At391, Or.inr ⟨rfl, rfl⟩⟩
theorem rmK4 (l : Launch) (Z : State) (a0 : Array Value) (hw : ∀ d ∈ tables_1, d.before a0 Z = true) (ws : List Jvm.Cond) (c0 c1 c2 c3 zC : Int32) (h0 : Heap) (n0 : Nat) (O0 : Old Z n0 h0) (SAs : Sta Z Z.heap "java/lang/StringUTF16" "$assertionsDisabled" "Z" (.int (1 : Int32))) (SHi : Sta Z Z.heap "java/lang/StringUTF16" "HI_BYTE_SHIFT" "I" (.int (0 : Int32))) (SLo : Sta Z Z.heap "java/lang/StringUTF16" "LO_BYTE_SHIFT" "I" (.int (8 : Int32))) (SC : Sta Z Z.heap "java/lang/String" "COMPACT_STRINGS" "Z" (.int zC)) (hzC : ¬ zC = 0) (hc0 : ¬ c0 < 0 ∧ ¬ (65535 : Int32) < c0) (hc1 : ¬ c1 < 0 ∧ ¬ (65535 : Int32) < c1) (hc2 : ¬ c2 < 0 ∧ ¬ (65535 : Int32) < c2) (hc3 : ¬ c3 < 0 ∧ ¬ (65535 : Int32) < c3) :
    MetFree l (⟨"com/example/remodel/remodel/ComponentCheckLengthPinLaw", "make", "(ICCCC)Ljava/lang/String;"⟩ : MethodName) (head1 (Jvm.Cond.code (⟨"com/example/remodel/remodel/ComponentCheckLengthPinLaw", "make", "(ICCCC)Ljava/lang/String;"⟩ : MethodName) method_2_code 5 (some (.object "java/lang/String")) :: ws) ({ frames := 6, cells := 4, slots := 20, locals := 190 } : Room)) (fun a U => a = #[(.int (4 : Int32)), (.int c0), (.int c1), (.int c2), (.int c3)] ∧ Z.Warmed39 U.vm ∧ U.heap = h0) (fun _ _ _ _ _ => True) (fun _ U o U' => ∃ v L, o = .returned v ∧ Q_rmK4l Z h0 n0 v U'.heap L ∧ FrameEnd U o U' L ({ frames := 6, cells := 4, slots := 20, locals := 190 } : Room).cells ({ frames := 6, cells := 4, slots := 20, locals := 190 } : Room).slots) := by
  by_cases hex : ∃ c ∈ ([c0, c1, c2, c3] : List Int32), (255 : Int32) < c
  · exact rmK4u l Z a0 hw ws c0 c1 c2 c3 zC h0 n0 O0 SAs SHi SLo SC hzC hc0 hc1 hc2 hc3 hex
  · exact rmK4l l Z a0 hw ws c0 c1 c2 c3 zC h0 n0 O0 SAs SHi SLo SC hzC hc0 hc1 hc2 hc3 (fun c hc q => hex ⟨c, hc, q⟩)
def Q_rmX_l (Z : State) (p1 : Int32) (p2 : Int32) (h0 : Heap) (n0 : Nat) (v : Option Value) (h : Heap) (L : List Loc) : Prop := v = some (.int p1) ∧ Fr n0 L ∧ h = h0
theorem ef_12 (m : MethodId) (x0 : Int32) (x1 : Int32) : entryFrame m #[(.int x0), (.int x1)] 2 = mkF m 0 #[.val (.int x0), .val (.int x1)] [] := by first | (simp [entryFrame, mkF, argsToLocals, Value.category]; done) | rfl
theorem d12_0 : decode jdk_29_method_65_code 0 = .ok (.iload_n 0, 1) := by decide +kernel
theorem d12_1 : decode jdk_29_method_65_code 1 = .ok (.iload_n 1, 1) := by decide +kernel
theorem d12_2 : decode jdk_29_method_65_code 2 = .ok (.if_icmp .lt 7, 3) := by decide +kernel
theorem d12_5 : decode jdk_29_method_65_code 5 = .ok (.iload_n 0, 1) := by decide +kernel
theorem d12_6 : decode jdk_29_method_65_code 6 = .ok (.goto 4, 3) := by decide +kernel
theorem d12_10 : decode jdk_29_method_65_code 10 = .ok (.ireturn, 1) := by decide +kernel
set_option maxRecDepth 65536 in
set_option maxHeartbeats 40000000 in
theorem rmX_l (l : Launch) (Z : State) (a0 : Array Value) (hw : ∀ d ∈ tables_1, d.before a0 Z = true) (ws : List Jvm.Cond) (p1 : Int32) (p2 : Int32) (h0 : Heap) (n0 : Nat) (O0 : Old Z n0 h0) (hq : ¬ (p1 < p2)) :
    MetFree l (⟨"java/lang/Math", "max", "(II)I"⟩ : MethodName) (head1 (Jvm.Cond.code (⟨"java/lang/Math", "max", "(II)I"⟩ : MethodName) jdk_29_method_65_code 2 (some .int) :: ws) ({ frames := 0, cells := 0, slots := 0, locals := 0 } : Room)) (fun a U => a = #[(.int p1), (.int p2)] ∧ Z.Warmed39 U.vm ∧ U.heap = h0) (fun _ _ _ _ _ => True) (fun _ U o U' => ∃ v L, o = .returned v ∧ Q_rmX_l Z p1 p2 h0 n0 v U'.heap L ∧ FrameEnd U o U' L ({ frames := 0, cells := 0, slots := 0, locals := 0 } : Room).cells ({ frames := 0, cells := 0, slots := 0, locals := 0 } : Room).slots) := by
  refine MetFree.of_bodySF (Jvm.Free.JP.mathPlain rfl (by decide +kernel)) hisR ?_
  intro p e s m args below meth c s₁ Bd hml0 hP hK
  obtain ⟨rfl, hZ, hh⟩ := hP
  have hx := Bd.exec
  have hby := Bd.bytes
  have hml : c.maxLocals = 2 := hml0
  have hown : s.vm.findClass "java/lang/Math" = some m.cls := findClass_of_methodNamed Bd.named
  have hnm := (name_of_methodNamed Bd.named Bd.method).1
  have X0 : Stand p l e ({ frames := 0, cells := 0, slots := 0, locals := 0 } : Room) s m #[(.int p1), (.int p2)] below meth c s₁ [] 0 0 := Stand.of_body Bd
  have e0 : s₁.heap = h0 := by rw [← hh, Bd.state]; rfl
  have N0 := Fr.nil n0
  obtain ⟨S0, hS0⟩ : ∃ z, z = s₁.setTop (entryFrame m #[(.int p1), (.int p2)] 2) := ⟨_, rfl⟩
  have k0 : Rch p e below S0 s₁ (mkF m 0 #[.val (.int p1), .val (.int p2)] []) := fun t kq => hS0 ▸ castTop (ef_12 m p1 p2) kq
  have k395 : Rch p e below S0 s₁ (mkF m 10 #[.val (.int p1), .val (.int p2)] [(.int p1)]) := fun t h => k0 t (by
      show Steps p.tables e below (s₁.setTop (mkF m 0 #[.val (.int p1), .val (.int p2)] [])) _
      refine XS.iloadN X0.here hx rfl (hb hby d12_0) rfl ?_
      show Steps p.tables e below (s₁.setTop (mkF m 1 #[.val (.int p1), .val (.int p2)] [(.int p1)])) _
      refine XS.iloadN X0.here hx rfl (hb hby d12_1) rfl ?_
      show Steps p.tables e below (s₁.setTop (mkF m 2 #[.val (.int p1), .val (.int p2)] [(.int p2), (.int p1)])) _
      refine XS.icmpNo X0.here hx rfl (hb hby d12_2) rfl (flt (hq : ¬ (p1 < p2))).1 ?_
      show Steps p.tables e below (s₁.setTop (mkF m 5 #[.val (.int p1), .val (.int p2)] [])) _
      refine XS.iloadN X0.here hx rfl (hb hby d12_5) rfl ?_
      show Steps p.tables e below (s₁.setTop (mkF m 6 #[.val (.int p1), .val (.int p2)] [(.int p1)])) _
      refine XS.goto X0.here hx rfl (pc0 := 6) (pc' := 10) rfl (hb hby d12_6) (by decide) (by decide) ?_
      show Steps p.tables e below (s₁.setTop (mkF m 10 #[.val (.int p1), .val (.int p2)] [(.int p1)])) _
      exact h)
  obtain ⟨fs, hr, hrun, hended, hW, hsame⟩ := X0.leave (v := (some (.int p1))) (fun h => by rw [Bd.returns] at h; cases h)
  refine ⟨_, _, ?_, hrun, hended, _, _, rfl, ?_, ⟨_, rfl⟩, hW, hsame.mono (by decide) (by decide)⟩
  · rw [← hS0]
    refine k395 _ ?_
    show Steps p.tables e below (s₁.setTop (mkF m 10 #[.val (.int p1), .val (.int p2)] [(.int p1)])) _
    exact retI X0 hx Bd.returns (hb hby d12_10) hr
  · show Q_rmX_l Z p1 p2 h0 n0 _ s₁.heap _
    rw [e0]
    exact ⟨rfl, N0, rfl⟩
def Q_rmX_r (Z : State) (p1 : Int32) (p2 : Int32) (h0 : Heap) (n0 : Nat) (v : Option Value) (h : Heap) (L : List Loc) : Prop := v = some (.int p2) ∧ Fr n0 L ∧ h = h0
theorem d12_9 : decode jdk_29_method_65_code 9 = .ok (.iload_n 1, 1) := by decide +kernel
set_option maxRecDepth 65536 in
set_option maxHeartbeats 40000000 in
theorem rmX_r (l : Launch) (Z : State) (a0 : Array Value) (hw : ∀ d ∈ tables_1, d.before a0 Z = true) (ws : List Jvm.Cond) (p1 : Int32) (p2 : Int32) (h0 : Heap) (n0 : Nat) (O0 : Old Z n0 h0) (hq : p1 < p2) :
    MetFree l (⟨"java/lang/Math", "max", "(II)I"⟩ : MethodName) (head1 (Jvm.Cond.code (⟨"java/lang/Math", "max", "(II)I"⟩ : MethodName) jdk_29_method_65_code 2 (some .int) :: ws) ({ frames := 0, cells := 0, slots := 0, locals := 0 } : Room)) (fun a U => a = #[(.int p1), (.int p2)] ∧ Z.Warmed39 U.vm ∧ U.heap = h0) (fun _ _ _ _ _ => True) (fun _ U o U' => ∃ v L, o = .returned v ∧ Q_rmX_r Z p1 p2 h0 n0 v U'.heap L ∧ FrameEnd U o U' L ({ frames := 0, cells := 0, slots := 0, locals := 0 } : Room).cells ({ frames := 0, cells := 0, slots := 0, locals := 0 } : Room).slots) := by
  refine MetFree.of_bodySF (Jvm.Free.JP.mathPlain rfl (by decide +kernel)) hisR ?_
  intro p e s m args below meth c s₁ Bd hml0 hP hK
  obtain ⟨rfl, hZ, hh⟩ := hP
  have hx := Bd.exec
  have hby := Bd.bytes
  have hml : c.maxLocals = 2 := hml0
  have hown : s.vm.findClass "java/lang/Math" = some m.cls := findClass_of_methodNamed Bd.named
  have hnm := (name_of_methodNamed Bd.named Bd.method).1
  have X0 : Stand p l e ({ frames := 0, cells := 0, slots := 0, locals := 0 } : Room) s m #[(.int p1), (.int p2)] below meth c s₁ [] 0 0 := Stand.of_body Bd
  have e0 : s₁.heap = h0 := by rw [← hh, Bd.state]; rfl
  have N0 := Fr.nil n0
  obtain ⟨S0, hS0⟩ : ∃ z, z = s₁.setTop (entryFrame m #[(.int p1), (.int p2)] 2) := ⟨_, rfl⟩
  have k0 : Rch p e below S0 s₁ (mkF m 0 #[.val (.int p1), .val (.int p2)] []) := fun t kq => hS0 ▸ castTop (ef_12 m p1 p2) kq
  have k396 : Rch p e below S0 s₁ (mkF m 10 #[.val (.int p1), .val (.int p2)] [(.int p2)]) := fun t h => k0 t (by
      show Steps p.tables e below (s₁.setTop (mkF m 0 #[.val (.int p1), .val (.int p2)] [])) _
      refine XS.iloadN X0.here hx rfl (hb hby d12_0) rfl ?_
      show Steps p.tables e below (s₁.setTop (mkF m 1 #[.val (.int p1), .val (.int p2)] [(.int p1)])) _
      refine XS.iloadN X0.here hx rfl (hb hby d12_1) rfl ?_
      show Steps p.tables e below (s₁.setTop (mkF m 2 #[.val (.int p1), .val (.int p2)] [(.int p2), (.int p1)])) _
      refine XS.icmpYes X0.here hx rfl (pc0 := 2) (pc' := 9) rfl (hb hby d12_2) rfl (tlt (hq : p1 < p2)).1 (by decide) (by decide) ?_
      show Steps p.tables e below (s₁.setTop (mkF m 9 #[.val (.int p1), .val (.int p2)] [])) _
      refine XS.iloadN X0.here hx rfl (hb hby d12_9) rfl ?_
      show Steps p.tables e below (s₁.setTop (mkF m 10 #[.val (.int p1), .val (.int p2)] [(.int p2)])) _
      exact h)
  obtain ⟨fs, hr, hrun, hended, hW, hsame⟩ := X0.leave (v := (some (.int p2))) (fun h => by rw [Bd.returns] at h; cases h)
  refine ⟨_, _, ?_, hrun, hended, _, _, rfl, ?_, ⟨_, rfl⟩, hW, hsame.mono (by decide) (by decide)⟩
  · rw [← hS0]
    refine k396 _ ?_
    show Steps p.tables e below (s₁.setTop (mkF m 10 #[.val (.int p1), .val (.int p2)] [(.int p2)])) _
    exact retI X0 hx Bd.returns (hb hby d12_10) hr
  · show Q_rmX_r Z p1 p2 h0 n0 _ s₁.heap _
    rw [e0]
    exact ⟨rfl, N0, rfl⟩
def Q_rmX (Z : State) (r : Int32) (h0 : Heap) (n0 : Nat) (v : Option Value) (h : Heap) (L : List Loc) : Prop := v = some (.int r) ∧ Fr n0 L ∧ h = h0
theorem rmX (l : Launch) (Z : State) (a0 : Array Value) (hw : ∀ d ∈ tables_1, d.before a0 Z = true) (ws : List Jvm.Cond) (p1 p2 r : Int32) (h0 : Heap) (n0 : Nat) (O0 : Old Z n0 h0) (hr : (p1 < p2 ∧ p2 = r) ∨ (¬ p1 < p2 ∧ p1 = r)) :
    MetFree l (⟨"java/lang/Math", "max", "(II)I"⟩ : MethodName) (head1 (Jvm.Cond.code (⟨"java/lang/Math", "max", "(II)I"⟩ : MethodName) jdk_29_method_65_code 2 (some .int) :: ws) ({ frames := 0, cells := 0, slots := 0, locals := 0 } : Room)) (fun a U => a = #[(.int p1), (.int p2)] ∧ Z.Warmed39 U.vm ∧ U.heap = h0) (fun _ _ _ _ _ => True) (fun _ U o U' => ∃ v L, o = .returned v ∧ Q_rmX Z r h0 n0 v U'.heap L ∧ FrameEnd U o U' L ({ frames := 0, cells := 0, slots := 0, locals := 0 } : Room).cells ({ frames := 0, cells := 0, slots := 0, locals := 0 } : Room).slots) := by
  rcases hr with ⟨q, rfl⟩ | ⟨q, rfl⟩
  · exact rmX_r l Z a0 hw ws p1 p2 h0 n0 O0 q
  · exact rmX_l l Z a0 hw ws p1 p2 h0 n0 O0 q
def Q_rmH (Z : State)  (h0 : Heap) (n0 : Nat) (v : Option Value) (h : Heap) (L : List Loc) : Prop := v = none ∧ Fr n0 L ∧ h = h0
theorem ef_13 (m : MethodId) (x0 : Addr) (x1 : Addr) (x2 : Int32) : entryFrame m #[(.ref x0), (.ref x1), (.int x2)] 3 = mkF m 0 #[.val (.ref x0), .val (.ref x1), .val (.int x2)] [] := by first | (simp [entryFrame, mkF, argsToLocals, Value.category]; done) | rfl
theorem pn_Component : plainName "com/example/remodel/remodel/Component" = true := by first | (simp [plainName, overriddenIn]; done) | decide +kernel
theorem d13_0 : decode prog_4_method_3_code 0 = .ok (.aload_n 0, 1) := by decide +kernel
theorem pd_13 : parseMethodDescriptor "()Z" = some ⟨[], some .boolean⟩ := by decide +kernel
theorem d13_1 : decode prog_4_method_3_code 1 = .ok (.invokevirtual 45, 3) := by decide +kernel
theorem d13_4 : decode prog_4_method_3_code 4 = .ok (.ifCond .ne 11, 3) := by decide +kernel
theorem d13_7 : decode prog_4_method_3_code 7 = .ok (.aload_n 0, 1) := by decide +kernel
theorem pd_14 : parseMethodDescriptor "()I" = some ⟨[], some .int⟩ := by decide +kernel
theorem d13_8 : decode prog_4_method_3_code 8 = .ok (.invokevirtual 51, 3) := by decide +kernel
theorem d13_11 : decode prog_4_method_3_code 11 = .ok (.iload_n 2, 1) := by decide +kernel
theorem d13_12 : decode prog_4_method_3_code 12 = .ok (.if_icmp .le 23, 3) := by decide +kernel
theorem d13_35 : decode prog_4_method_3_code 35 = .ok (.return_, 1) := by decide +kernel
set_option maxRecDepth 65536 in
set_option maxHeartbeats 40000000 in
theorem rmH (l : Launch) (Z : State) (a0 : Array Value) (hw : ∀ d ∈ tables_1, d.before a0 Z = true) (ws : List Jvm.Cond) (a1 : Addr) (a2 : Addr) (mo : Int32) (tt : Addr) (kt : ClassId) (N2 : Int32) (vs : List Value) (cd : Int32) (zC : Int32) (LN : Int32) (h0 : Heap) (n0 : Nat) (O0 : Old Z n0 h0) (SC : Sta Z Z.heap "java/lang/String" "COMPACT_STRINGS" "Z" (.int zC)) (hzC : ¬ zC = 0) (Ex : Exa Z h0 a1 "java/lang/String") (Fv : Fld Z h0 a1 "java/lang/String" "value" "[B" (.ref tt)) (Fc : Fld Z h0 a1 "java/lang/String" "coder" "B" (.int cd)) (Vt : Arv Z h0 tt kt .byte N2 vs (.int (0 : Int32))) (hL : (N2 >>> (nar .byte cd &&& 31)) = LN) (hq : ¬ (N2 = 0)) (hm : ¬ (mo < LN)) :
    MetFree l (⟨"com/example/remodel/remodel/Component", "checkLength", "(Ljava/lang/String;Ljava/lang/String;I)V"⟩ : MethodName) (head1 (Jvm.Cond.code (⟨"com/example/remodel/remodel/Component", "checkLength", "(Ljava/lang/String;Ljava/lang/String;I)V"⟩ : MethodName) prog_4_method_3_code 3 none :: ws) ({ frames := 2, cells := 0, slots := 0, locals := 40 } : Room)) (fun a U => a = #[(.ref a1), (.ref a2), (.int mo)] ∧ Z.Warmed39 U.vm ∧ U.heap = h0) (fun _ _ _ _ _ => True) (fun _ U o U' => ∃ v L, o = .returned v ∧ Q_rmH Z  h0 n0 v U'.heap L ∧ FrameEnd U o U' L ({ frames := 2, cells := 0, slots := 0, locals := 40 } : Room).cells ({ frames := 2, cells := 0, slots := 0, locals := 40 } : Room).slots) := by
  refine MetFree.of_bodySF (plainFor_of_name pn_Component) hisR ?_
  intro p e s m args below meth c s₁ Bd hml0 hP hK
  obtain ⟨rfl, hZ, hh⟩ := hP
  have hx := Bd.exec
  have hby := Bd.bytes
  have hml : c.maxLocals = 3 := hml0
  have hown : s.vm.findClass "com/example/remodel/remodel/Component" = some m.cls := findClass_of_methodNamed Bd.named
  have hnm := (name_of_methodNamed Bd.named Bd.method).1
  have X0 : Stand p l e ({ frames := 2, cells := 0, slots := 0, locals := 40 } : Room) s m #[(.ref a1), (.ref a2), (.int mo)] below meth c s₁ [] 0 0 := Stand.of_body Bd
  have e0 : s₁.heap = h0 := by rw [← hh, Bd.state]; rfl
  have N0 := Fr.nil n0
  obtain ⟨S0, hS0⟩ : ∃ z, z = s₁.setTop (entryFrame m #[(.ref a1), (.ref a2), (.int mo)] 3) := ⟨_, rfl⟩
  have k0 : Rch p e below S0 s₁ (mkF m 0 #[.val (.ref a1), .val (.ref a2), .val (.int mo)] []) := fun t kq => hS0 ▸ castTop (ef_13 m a1 a2 mo) kq
  have k397 : Rch p e below S0 s₁ (mkF m 1 #[.val (.ref a1), .val (.ref a2), .val (.int mo)] [(.ref a1)]) := fun t h => k0 t (by
      show Steps p.tables e below (s₁.setTop (mkF m 0 #[.val (.ref a1), .val (.ref a2), .val (.int mo)] [])) _
      refine XS.aloadN X0.here hx rfl (hb hby d13_0) rfl rfl ?_
      show Steps p.tables e below (s₁.setTop (mkF m 1 #[.val (.ref a1), .val (.ref a2), .val (.int mo)] [(.ref a1)])) _
      exact h)
  obtain ⟨cq398, kq398, q398a, q398b, q398c⟩ := isOf hZ e0 Ex
  obtain ⟨_, _, ⟨T398, L398, kk398, n398⟩, -, X398, ⟨Lc398, hQ398, l398, y398, z398⟩, st398⟩ := X0.virtualBack hx (y := (⟨"java/lang/String", "isEmpty", "()Z"⟩ : MethodName)) (z := (⟨"java/lang/String", "isEmpty", "()Z"⟩ : MethodName)) hown (mvT hZ (hw _ (List.mem_of_getElem? (i := 57) rfl))) (mvT hZ (hw _ (List.mem_of_getElem? (i := 58) rfl))) (notFace_of_selects (args := #[]) (mvT hZ (hw _ (List.mem_of_getElem? (i := 60) rfl)))) (mvT hZ (hw _ (List.mem_of_getElem? (i := 60) rfl))) (mvT hZ (hw _ (List.mem_of_getElem? (i := 59) rfl))) (by decide) (backOf (W := 0) (rmIE l Z a0 hw [] a1 tt kt N2 vs h0 n0 O0 Fv Vt hq) hZ (hw _ (List.mem_of_getElem? (i := 61) rfl)) (hw _ (List.mem_of_getElem? (i := 7) rfl)) (by decide) (by decide)) q398a q398c (g := (mkF m 1 #[.val (.ref a1), .val (.ref a2), .val (.int mo)] [(.ref a1)])) rfl (by rw [hml]; rfl) (Steps.refl _) (argsL := []) (rest := []) (lenOf pd_13 rfl) rfl (by show 2 * 0 + _ ≤ _; exact Nat.le_of_eq rfl) (hb hby d13_1) (fun _ _ => ⟨rfl, e0, (by decide : 0 + 0 ≤ _), (by decide : 0 + 0 ≤ _)⟩)
  dsimp only [Pt.U, Pt.locs, Pt.cells, Pt.slots] at X398 l398 y398 z398 st398 hQ398
  subst l398 y398 z398
  obtain ⟨rfl, Nq398, hh398⟩ := hQ398
  have N398 := Fr.app N0 Nq398
  have k399 : Rch p e below S0 T398 (mkF m 4 #[.val (.ref a1), .val (.ref a2), .val (.int mo)] [(.int (0 : Int32))]) := fun t h => k397 t (st398.trans h)
  have k400 : Rch p e below S0 T398 (mkF m 8 #[.val (.ref a1), .val (.ref a2), .val (.int mo)] [(.ref a1)]) := fun t h => k399 t (by
      show Steps p.tables e below (T398.setTop (mkF m 4 #[.val (.ref a1), .val (.ref a2), .val (.int mo)] [(.int (0 : Int32))])) _
      refine XS.ifNo X398.here hx rfl (hb hby d13_4) rfl ((if0 _ _).trans (teq (by decide : (0 : Int32) = (0 : Int32))).2) ?_
      show Steps p.tables e below (T398.setTop (mkF m 7 #[.val (.ref a1), .val (.ref a2), .val (.int mo)] [])) _
      refine XS.aloadN X398.here hx rfl (hb hby d13_7) rfl rfl ?_
      show Steps p.tables e below (T398.setTop (mkF m 8 #[.val (.ref a1), .val (.ref a2), .val (.int mo)] [(.ref a1)])) _
      exact h)
  obtain ⟨cq401, kq401, q401a, q401b, q401c⟩ := isOf hZ hh398 Ex
  obtain ⟨_, _, ⟨T401, L401, kk401, n401⟩, -, X401, ⟨Lc401, hQ401, l401, y401, z401⟩, st401⟩ := X398.virtualBack hx (y := (⟨"java/lang/String", "length", "()I"⟩ : MethodName)) (z := (⟨"java/lang/String", "length", "()I"⟩ : MethodName)) hown (mvT hZ (hw _ (List.mem_of_getElem? (i := 62) rfl))) (mvT hZ (hw _ (List.mem_of_getElem? (i := 63) rfl))) (notFace_of_selects (args := #[]) (mvT hZ (hw _ (List.mem_of_getElem? (i := 65) rfl)))) (mvT hZ (hw _ (List.mem_of_getElem? (i := 65) rfl))) (mvT hZ (hw _ (List.mem_of_getElem? (i := 64) rfl))) (by decide) (backOf (W := 0) (rmLE l Z a0 hw [] a1 tt kt N2 vs cd zC LN h0 n0 O0 SC hzC Ex Fv Fc Vt hL) hZ (hw _ (List.mem_of_getElem? (i := 66) rfl)) (hw _ (List.mem_of_getElem? (i := 7) rfl)) (by decide) (by decide)) q401a q401c (g := (mkF m 8 #[.val (.ref a1), .val (.ref a2), .val (.int mo)] [(.ref a1)])) rfl (by rw [hml]; rfl) (Steps.refl _) (argsL := []) (rest := []) (lenOf pd_14 rfl) rfl (by show 2 * 0 + _ ≤ _; exact Nat.le_of_eq rfl) (hb hby d13_8) (fun _ _ => ⟨rfl, hh398, (by decide : 0 + 0 ≤ _), (by decide : 0 + 0 ≤ _)⟩)
  dsimp only [Pt.U, Pt.locs, Pt.cells, Pt.slots] at X401 l401 y401 z401 st401 hQ401
  subst l401 y401 z401
  obtain ⟨rfl, Nq401, hh401⟩ := hQ401
  have N401 := Fr.app N398 Nq401
  have k402 : Rch p e below S0 T401 (mkF m 11 #[.val (.ref a1), .val (.ref a2), .val (.int mo)] [(.int LN)]) := fun t h => k400 t (st401.trans h)
  have k403 : Rch p e below S0 T401 (mkF m 35 #[.val (.ref a1), .val (.ref a2), .val (.int mo)] []) := fun t h => k402 t (by
      show Steps p.tables e below (T401.setTop (mkF m 11 #[.val (.ref a1), .val (.ref a2), .val (.int mo)] [(.int LN)])) _
      refine XS.iloadN X401.here hx rfl (hb hby d13_11) rfl ?_
      show Steps p.tables e below (T401.setTop (mkF m 12 #[.val (.ref a1), .val (.ref a2), .val (.int mo)] [(.int mo), (.int LN)])) _
      refine XS.icmpYes X401.here hx rfl (pc0 := 12) (pc' := 35) rfl (hb hby d13_12) rfl (flt (hm : ¬ (mo < LN))).2.2.2 (by decide) (by decide) ?_
      show Steps p.tables e below (T401.setTop (mkF m 35 #[.val (.ref a1), .val (.ref a2), .val (.int mo)] [])) _
      exact h)
  obtain ⟨fs, hr, hrun, hended, hW, hsame⟩ := X401.leave (v := none) (fun _ => rfl)
  refine ⟨_, _, ?_, hrun, hended, _, _, rfl, ?_, ⟨_, rfl⟩, hW, hsame.mono (by decide) (by decide)⟩
  · rw [← hS0]
    refine k403 _ ?_
    show Steps p.tables e below (T401.setTop (mkF m 35 #[.val (.ref a1), .val (.ref a2), .val (.int mo)] [])) _
    exact X401.returnOut hx Bd.returns (hb hby d13_35) hr
  · show Q_rmH Z  h0 n0 _ T401.heap _
    rw [hh401]
    exact ⟨rfl, N401, rfl⟩
def Q_rm0_1 (Z : State)  (h0 : Heap) (n0 : Nat) (v : Option Value) (h : Heap) (L : List Loc) : Prop := v = some (.int (1 : Int32)) ∧ Fr n0 L
theorem ef_0 (m : MethodId) (x0 : Int32) (x1 : Int32) (x2 : Int32) (x3 : Int32) (x4 : Int32) : entryFrame m #[(.int x0), (.int x1), (.int x2), (.int x3), (.int x4)] maxLocals = mkF m 0 #[.val (.int x0), .val (.int x1), .val (.int x2), .val (.int x3), .val (.int x4), .unset, .unset, .unset, .unset, .unset, .unset, .unset, .unset] [] := by first | (simp [entryFrame, mkF, argsToLocals, Value.category, maxLocals]; done) | rfl
theorem pd_0 : parseMethodDescriptor "(ICCCC)Ljava/lang/String;" = some ⟨[.int, .char, .char, .char, .char], some (.object "java/lang/String")⟩ := by decide +kernel
theorem pd_7 : parseMethodDescriptor "(C)Ljava/lang/String;" = some ⟨[.char], some (.object "java/lang/String")⟩ := by decide +kernel
theorem pd_11 : parseMethodDescriptor "(II)I" = some ⟨[.int, .int], some .int⟩ := by decide +kernel
theorem pd_12 : parseMethodDescriptor "(Ljava/lang/String;Ljava/lang/String;I)V" = some ⟨[(.object "java/lang/String"), (.object "java/lang/String"), .int], none⟩ := by decide +kernel
set_option maxRecDepth 65536 in
set_option maxHeartbeats 40000000 in
theorem rm0_1 (l : Launch) (Z : State) (a0 : Array Value) (hw : ∀ d ∈ tables_1, d.before a0 Z = true) (ws : List Jvm.Cond) (p1 : Int32) (p2 : Int32) (p3 : Int32) (p4 : Int32) (p5 : Int32) (c0 : Int32) (c1 : Int32) (c2 : Int32) (c3 : Int32) (zC : Int32) (mo : Int32) (h0 : Heap) (n0 : Nat) (O0 : Old Z n0 h0) (SAs : Sta Z Z.heap "java/lang/StringUTF16" "$assertionsDisabled" "Z" (.int (1 : Int32))) (SHi : Sta Z Z.heap "java/lang/StringUTF16" "HI_BYTE_SHIFT" "I" (.int (0 : Int32))) (SLo : Sta Z Z.heap "java/lang/StringUTF16" "LO_BYTE_SHIFT" "I" (.int (8 : Int32))) (SC : Sta Z Z.heap "java/lang/String" "COMPACT_STRINGS" "Z" (.int zC)) (hzC : ¬ zC = 0) (hx0 : ((p2 &&& (65535 : Int32)).toUInt32.toUInt16.toUInt32.toInt32) = c0) (hx1 : (((p2.toUInt32 >>> ((16 : Int32) &&& 31).toUInt32).toInt32).toUInt32.toUInt16.toUInt32.toInt32) = c1) (hx2 : ((p3 &&& (65535 : Int32)).toUInt32.toUInt16.toUInt32.toInt32) = c2) (hx3 : (((p3.toUInt32 >>> ((16 : Int32) &&& 31).toUInt32).toInt32).toUInt32.toUInt16.toUInt32.toInt32) = c3) (hc0 : ¬ c0 < 0 ∧ ¬ (65535 : Int32) < c0) (hc1 : ¬ c1 < 0 ∧ ¬ (65535 : Int32) < c1) (hc2 : ¬ c2 < 0 ∧ ¬ (65535 : Int32) < c2) (hc3 : ¬ c3 < 0 ∧ ¬ (65535 : Int32) < c3) (hk0 : ((1 : Int32) + (p1 &&& (3 : Int32))) = (1 : Int32)) (hmo : ((1 : Int32) < p5 ∧ p5 = mo) ∨ (¬ (1 : Int32) < p5 ∧ (1 : Int32) = mo)) :
    MetFree l x (head1 (Jvm.Cond.code x code maxLocals ret :: ws) room_1) (fun a U => a = #[(.int p1), (.int p2), (.int p3), (.int p4), (.int p5)] ∧ Z.Warmed39 U.vm ∧ U.heap = h0) (fun _ _ _ _ _ => True) (fun _ U o U' => ∃ v L, o = .returned v ∧ Q_rm0_1 Z  h0 n0 v U'.heap L ∧ FrameEnd U o U' L room_1.cells room_1.slots) := by
  refine MetFree.of_bodySF (plainFor_of_name pn_ComponentCheckLengthPinLaw) hisR ?_
  intro p e s m args below meth c s₁ Bd hml0 hP hK
  obtain ⟨rfl, hZ, hh⟩ := hP
  have hx := Bd.exec
  have hby := Bd.bytes
  have hml : c.maxLocals = 13 := hml0
  have hown : s.vm.findClass "com/example/remodel/remodel/ComponentCheckLengthPinLaw" = some m.cls := findClass_of_methodNamed Bd.named
  have hnm := (name_of_methodNamed Bd.named Bd.method).1
  have X0 : Stand p l e room_1 s m #[(.int p1), (.int p2), (.int p3), (.int p4), (.int p5)] below meth c s₁ [] 0 0 := Stand.of_body Bd
  have e0 : s₁.heap = h0 := by rw [← hh, Bd.state]; rfl
  have N0 := Fr.nil n0
  obtain ⟨S0, hS0⟩ : ∃ z, z = s₁.setTop (entryFrame m #[(.int p1), (.int p2), (.int p3), (.int p4), (.int p5)] maxLocals) := ⟨_, rfl⟩
  have k0 : Rch p e below S0 s₁ (mkF m 0 #[.val (.int p1), .val (.int p2), .val (.int p3), .val (.int p4), .val (.int p5), .unset, .unset, .unset, .unset, .unset, .unset, .unset, .unset] []) := fun t kq => hS0 ▸ castTop (ef_0 m p1 p2 p3 p4 p5) kq
  have hm : ¬ mo < (1 : Int32) := by
    rcases hmo with ⟨q, e⟩ | ⟨q, e⟩
    · rw [← e]; rw [Int32.lt_iff_toInt_lt] at q ⊢; omega
    · rw [← e]; decide
  have k404 : Rch p e below S0 s₁ (mkF m 45 #[.val (.int p1), .val (.int p2), .val (.int p3), .val (.int p4), .val (.int p5), .val (.int (1 : Int32)), .val (.int c0), .val (.int c1), .val (.int c2), .val (.int c3), .unset, .unset, .unset] [(.int c3), (.int c2), (.int c1), (.int c0), (.int (1 : Int32))]) := fun t h => k0 t (by
      show Steps p.tables e below (s₁.setTop (mkF m 0 #[.val (.int p1), .val (.int p2), .val (.int p3), .val (.int p4), .val (.int p5), .unset, .unset, .unset, .unset, .unset, .unset, .unset, .unset] [])) _
      refine XS.iconst X0.here hx rfl (hb hby at_0) ?_
      show Steps p.tables e below (s₁.setTop (mkF m 1 #[.val (.int p1), .val (.int p2), .val (.int p3), .val (.int p4), .val (.int p5), .unset, .unset, .unset, .unset, .unset, .unset, .unset, .unset] [(.int (1 : Int32))])) _
      refine XS.iloadN X0.here hx rfl (hb hby at_1) rfl ?_
      show Steps p.tables e below (s₁.setTop (mkF m 2 #[.val (.int p1), .val (.int p2), .val (.int p3), .val (.int p4), .val (.int p5), .unset, .unset, .unset, .unset, .unset, .unset, .unset, .unset] [(.int p1), (.int (1 : Int32))])) _
      refine XS.iconst X0.here hx rfl (hb hby at_2) ?_
      show Steps p.tables e below (s₁.setTop (mkF m 3 #[.val (.int p1), .val (.int p2), .val (.int p3), .val (.int p4), .val (.int p5), .unset, .unset, .unset, .unset, .unset, .unset, .unset, .unset] [(.int (3 : Int32)), (.int p1), (.int (1 : Int32))])) _
      refine XS.iand X0.here hx rfl (hb hby at_3) rfl ?_
      show Steps p.tables e below (s₁.setTop (mkF m 4 #[.val (.int p1), .val (.int p2), .val (.int p3), .val (.int p4), .val (.int p5), .unset, .unset, .unset, .unset, .unset, .unset, .unset, .unset] [(.int (p1 &&& (3 : Int32))), (.int (1 : Int32))])) _
      refine XS.iadd X0.here hx rfl (hb hby at_4) rfl ?_
      rw [hk0]
      show Steps p.tables e below (s₁.setTop (mkF m 5 #[.val (.int p1), .val (.int p2), .val (.int p3), .val (.int p4), .val (.int p5), .unset, .unset, .unset, .unset, .unset, .unset, .unset, .unset] [(.int (1 : Int32))])) _
      refine XS.istore X0.here hx rfl (hb hby at_5) rfl (l' := #[.val (.int p1), .val (.int p2), .val (.int p3), .val (.int p4), .val (.int p5), .val (.int (1 : Int32)), .unset, .unset, .unset, .unset, .unset, .unset, .unset]) rfl ?_
      show Steps p.tables e below (s₁.setTop (mkF m 7 #[.val (.int p1), .val (.int p2), .val (.int p3), .val (.int p4), .val (.int p5), .val (.int (1 : Int32)), .unset, .unset, .unset, .unset, .unset, .unset, .unset] [])) _
      refine XS.iloadN X0.here hx rfl (hb hby at_7) rfl ?_
      show Steps p.tables e below (s₁.setTop (mkF m 8 #[.val (.int p1), .val (.int p2), .val (.int p3), .val (.int p4), .val (.int p5), .val (.int (1 : Int32)), .unset, .unset, .unset, .unset, .unset, .unset, .unset] [(.int p2)])) _
      refine X0.ldcInt hx hown (mvT hZ (hw _ (List.mem_of_getElem? (i := 0) rfl))) (g := (mkF m 8 #[.val (.int p1), .val (.int p2), .val (.int p3), .val (.int p4), .val (.int p5), .val (.int (1 : Int32)), .unset, .unset, .unset, .unset, .unset, .unset, .unset] [(.int p2)])) rfl (hb hby at_8) _ ?_
      show Steps p.tables e below (s₁.setTop (mkF m 10 #[.val (.int p1), .val (.int p2), .val (.int p3), .val (.int p4), .val (.int p5), .val (.int (1 : Int32)), .unset, .unset, .unset, .unset, .unset, .unset, .unset] [(.int (65535 : Int32)), (.int p2)])) _
      refine XS.iand X0.here hx rfl (hb hby at_10) rfl ?_
      show Steps p.tables e below (s₁.setTop (mkF m 11 #[.val (.int p1), .val (.int p2), .val (.int p3), .val (.int p4), .val (.int p5), .val (.int (1 : Int32)), .unset, .unset, .unset, .unset, .unset, .unset, .unset] [(.int (p2 &&& (65535 : Int32)))])) _
      refine XS.i2c X0.here hx rfl (hb hby at_11) rfl ?_
      rw [hx0]
      show Steps p.tables e below (s₁.setTop (mkF m 12 #[.val (.int p1), .val (.int p2), .val (.int p3), .val (.int p4), .val (.int p5), .val (.int (1 : Int32)), .unset, .unset, .unset, .unset, .unset, .unset, .unset] [(.int c0)])) _
      refine XS.istore X0.here hx rfl (hb hby at_12) rfl (l' := #[.val (.int p1), .val (.int p2), .val (.int p3), .val (.int p4), .val (.int p5), .val (.int (1 : Int32)), .val (.int c0), .unset, .unset, .unset, .unset, .unset, .unset]) rfl ?_
      show Steps p.tables e below (s₁.setTop (mkF m 14 #[.val (.int p1), .val (.int p2), .val (.int p3), .val (.int p4), .val (.int p5), .val (.int (1 : Int32)), .val (.int c0), .unset, .unset, .unset, .unset, .unset, .unset] [])) _
      refine XS.iloadN X0.here hx rfl (hb hby at_14) rfl ?_
      show Steps p.tables e below (s₁.setTop (mkF m 15 #[.val (.int p1), .val (.int p2), .val (.int p3), .val (.int p4), .val (.int p5), .val (.int (1 : Int32)), .val (.int c0), .unset, .unset, .unset, .unset, .unset, .unset] [(.int p2)])) _
      refine XS.bipush X0.here hx rfl (hb hby at_15) ?_
      show Steps p.tables e below (s₁.setTop (mkF m 17 #[.val (.int p1), .val (.int p2), .val (.int p3), .val (.int p4), .val (.int p5), .val (.int (1 : Int32)), .val (.int c0), .unset, .unset, .unset, .unset, .unset, .unset] [(.int (16 : Int32)), (.int p2)])) _
      refine XS.iushr X0.here hx rfl (hb hby at_17) rfl ?_
      show Steps p.tables e below (s₁.setTop (mkF m 18 #[.val (.int p1), .val (.int p2), .val (.int p3), .val (.int p4), .val (.int p5), .val (.int (1 : Int32)), .val (.int c0), .unset, .unset, .unset, .unset, .unset, .unset] [(.int ((p2.toUInt32 >>> ((16 : Int32) &&& 31).toUInt32).toInt32))])) _
      refine XS.i2c X0.here hx rfl (hb hby at_18) rfl ?_
      rw [hx1]
      show Steps p.tables e below (s₁.setTop (mkF m 19 #[.val (.int p1), .val (.int p2), .val (.int p3), .val (.int p4), .val (.int p5), .val (.int (1 : Int32)), .val (.int c0), .unset, .unset, .unset, .unset, .unset, .unset] [(.int c1)])) _
      refine XS.istore X0.here hx rfl (hb hby at_19) rfl (l' := #[.val (.int p1), .val (.int p2), .val (.int p3), .val (.int p4), .val (.int p5), .val (.int (1 : Int32)), .val (.int c0), .val (.int c1), .unset, .unset, .unset, .unset, .unset]) rfl ?_
      show Steps p.tables e below (s₁.setTop (mkF m 21 #[.val (.int p1), .val (.int p2), .val (.int p3), .val (.int p4), .val (.int p5), .val (.int (1 : Int32)), .val (.int c0), .val (.int c1), .unset, .unset, .unset, .unset, .unset] [])) _
      refine XS.iloadN X0.here hx rfl (hb hby at_21) rfl ?_
      show Steps p.tables e below (s₁.setTop (mkF m 22 #[.val (.int p1), .val (.int p2), .val (.int p3), .val (.int p4), .val (.int p5), .val (.int (1 : Int32)), .val (.int c0), .val (.int c1), .unset, .unset, .unset, .unset, .unset] [(.int p3)])) _
      refine X0.ldcInt hx hown (mvT hZ (hw _ (List.mem_of_getElem? (i := 0) rfl))) (g := (mkF m 22 #[.val (.int p1), .val (.int p2), .val (.int p3), .val (.int p4), .val (.int p5), .val (.int (1 : Int32)), .val (.int c0), .val (.int c1), .unset, .unset, .unset, .unset, .unset] [(.int p3)])) rfl (hb hby at_22) _ ?_
      show Steps p.tables e below (s₁.setTop (mkF m 24 #[.val (.int p1), .val (.int p2), .val (.int p3), .val (.int p4), .val (.int p5), .val (.int (1 : Int32)), .val (.int c0), .val (.int c1), .unset, .unset, .unset, .unset, .unset] [(.int (65535 : Int32)), (.int p3)])) _
      refine XS.iand X0.here hx rfl (hb hby at_24) rfl ?_
      show Steps p.tables e below (s₁.setTop (mkF m 25 #[.val (.int p1), .val (.int p2), .val (.int p3), .val (.int p4), .val (.int p5), .val (.int (1 : Int32)), .val (.int c0), .val (.int c1), .unset, .unset, .unset, .unset, .unset] [(.int (p3 &&& (65535 : Int32)))])) _
      refine XS.i2c X0.here hx rfl (hb hby at_25) rfl ?_
      rw [hx2]
      show Steps p.tables e below (s₁.setTop (mkF m 26 #[.val (.int p1), .val (.int p2), .val (.int p3), .val (.int p4), .val (.int p5), .val (.int (1 : Int32)), .val (.int c0), .val (.int c1), .unset, .unset, .unset, .unset, .unset] [(.int c2)])) _
      refine XS.istore X0.here hx rfl (hb hby at_26) rfl (l' := #[.val (.int p1), .val (.int p2), .val (.int p3), .val (.int p4), .val (.int p5), .val (.int (1 : Int32)), .val (.int c0), .val (.int c1), .val (.int c2), .unset, .unset, .unset, .unset]) rfl ?_
      show Steps p.tables e below (s₁.setTop (mkF m 28 #[.val (.int p1), .val (.int p2), .val (.int p3), .val (.int p4), .val (.int p5), .val (.int (1 : Int32)), .val (.int c0), .val (.int c1), .val (.int c2), .unset, .unset, .unset, .unset] [])) _
      refine XS.iloadN X0.here hx rfl (hb hby at_28) rfl ?_
      show Steps p.tables e below (s₁.setTop (mkF m 29 #[.val (.int p1), .val (.int p2), .val (.int p3), .val (.int p4), .val (.int p5), .val (.int (1 : Int32)), .val (.int c0), .val (.int c1), .val (.int c2), .unset, .unset, .unset, .unset] [(.int p3)])) _
      refine XS.bipush X0.here hx rfl (hb hby at_29) ?_
      show Steps p.tables e below (s₁.setTop (mkF m 31 #[.val (.int p1), .val (.int p2), .val (.int p3), .val (.int p4), .val (.int p5), .val (.int (1 : Int32)), .val (.int c0), .val (.int c1), .val (.int c2), .unset, .unset, .unset, .unset] [(.int (16 : Int32)), (.int p3)])) _
      refine XS.iushr X0.here hx rfl (hb hby at_31) rfl ?_
      show Steps p.tables e below (s₁.setTop (mkF m 32 #[.val (.int p1), .val (.int p2), .val (.int p3), .val (.int p4), .val (.int p5), .val (.int (1 : Int32)), .val (.int c0), .val (.int c1), .val (.int c2), .unset, .unset, .unset, .unset] [(.int ((p3.toUInt32 >>> ((16 : Int32) &&& 31).toUInt32).toInt32))])) _
      refine XS.i2c X0.here hx rfl (hb hby at_32) rfl ?_
      rw [hx3]
      show Steps p.tables e below (s₁.setTop (mkF m 33 #[.val (.int p1), .val (.int p2), .val (.int p3), .val (.int p4), .val (.int p5), .val (.int (1 : Int32)), .val (.int c0), .val (.int c1), .val (.int c2), .unset, .unset, .unset, .unset] [(.int c3)])) _
      refine XS.istore X0.here hx rfl (hb hby at_33) rfl (l' := #[.val (.int p1), .val (.int p2), .val (.int p3), .val (.int p4), .val (.int p5), .val (.int (1 : Int32)), .val (.int c0), .val (.int c1), .val (.int c2), .val (.int c3), .unset, .unset, .unset]) rfl ?_
      show Steps p.tables e below (s₁.setTop (mkF m 35 #[.val (.int p1), .val (.int p2), .val (.int p3), .val (.int p4), .val (.int p5), .val (.int (1 : Int32)), .val (.int c0), .val (.int c1), .val (.int c2), .val (.int c3), .unset, .unset, .unset] [])) _
      refine XS.iload X0.here hx rfl (hb hby at_35) rfl ?_
      show Steps p.tables e below (s₁.setTop (mkF m 37 #[.val (.int p1), .val (.int p2), .val (.int p3), .val (.int p4), .val (.int p5), .val (.int (1 : Int32)), .val (.int c0), .val (.int c1), .val (.int c2), .val (.int c3), .unset, .unset, .unset] [(.int (1 : Int32))])) _
      refine XS.iload X0.here hx rfl (hb hby at_37) rfl ?_
      show Steps p.tables e below (s₁.setTop (mkF m 39 #[.val (.int p1), .val (.int p2), .val (.int p3), .val (.int p4), .val (.int p5), .val (.int (1 : Int32)), .val (.int c0), .val (.int c1), .val (.int c2), .val (.int c3), .unset, .unset, .unset] [(.int c0), (.int (1 : Int32))])) _
      refine XS.iload X0.here hx rfl (hb hby at_39) rfl ?_
      show Steps p.tables e below (s₁.setTop (mkF m 41 #[.val (.int p1), .val (.int p2), .val (.int p3), .val (.int p4), .val (.int p5), .val (.int (1 : Int32)), .val (.int c0), .val (.int c1), .val (.int c2), .val (.int c3), .unset, .unset, .unset] [(.int c1), (.int c0), (.int (1 : Int32))])) _
      refine XS.iload X0.here hx rfl (hb hby at_41) rfl ?_
      show Steps p.tables e below (s₁.setTop (mkF m 43 #[.val (.int p1), .val (.int p2), .val (.int p3), .val (.int p4), .val (.int p5), .val (.int (1 : Int32)), .val (.int c0), .val (.int c1), .val (.int c2), .val (.int c3), .unset, .unset, .unset] [(.int c2), (.int c1), (.int c0), (.int (1 : Int32))])) _
      refine XS.iload X0.here hx rfl (hb hby at_43) rfl ?_
      show Steps p.tables e below (s₁.setTop (mkF m 45 #[.val (.int p1), .val (.int p2), .val (.int p3), .val (.int p4), .val (.int p5), .val (.int (1 : Int32)), .val (.int c0), .val (.int c1), .val (.int c2), .val (.int c3), .unset, .unset, .unset] [(.int c3), (.int c2), (.int c1), (.int c0), (.int (1 : Int32))])) _
      exact h)
  obtain ⟨_, _, ⟨T405, L405, kk405, n405⟩, -, X405, ⟨Lc405, hQ405, l405, y405, z405⟩, st405⟩ := Jvm.LawKit.callS X0 hx (y := (⟨"com/example/remodel/remodel/ComponentCheckLengthPinLaw", "make", "(ICCCC)Ljava/lang/String;"⟩ : MethodName)) hown (mvT hZ (hw _ (List.mem_of_getElem? (i := 1) rfl))) (mvT hZ (hw _ (List.mem_of_getElem? (i := 2) rfl))) (mvT hZ (hw _ (List.mem_of_getElem? (i := 3) rfl))) (mvT hZ (hw _ (List.mem_of_getElem? (i := 4) rfl))) (by decide) (backOf (W := 0) (rmK1 l Z a0 hw [] c0 c1 c2 c3 zC h0 n0 O0 SAs SHi SLo SC hzC hc0 hc1 hc2 hc3) hZ (hw _ (List.mem_of_getElem? (i := 4) rfl)) (hw _ (List.mem_of_getElem? (i := 3) rfl)) (by decide) (by decide)) (g := (mkF m 45 #[.val (.int p1), .val (.int p2), .val (.int p3), .val (.int p4), .val (.int p5), .val (.int (1 : Int32)), .val (.int c0), .val (.int c1), .val (.int c2), .val (.int c3), .unset, .unset, .unset] [(.int c3), (.int c2), (.int c1), (.int c0), (.int (1 : Int32))])) rfl (by rw [hml]; rfl) (argsL := [(.int (1 : Int32)), (.int c0), (.int c1), (.int c2), (.int c3)]) (rest := []) (lenOf pd_0 rfl) rfl (by show 2 * 0 + _ ≤ _; exact Nat.le_of_eq rfl) (hb hby at_45) (fun _ _ => ⟨rfl, e0, (by decide : 0 + 4 ≤ _), (by decide : 0 + 20 ≤ _)⟩)
  dsimp only [Pt.U, Pt.locs, Pt.cells, Pt.slots] at X405 l405 y405 z405 st405 hQ405
  subst l405 y405 z405
  obtain ⟨b405, t405, kt405, vs405, cd405, N4052, rfl, Nq405, E405, z405, Eb405, Fv405, Fc405, At405, hz405⟩ := hQ405
  have N405 := Fr.app N0 Nq405
  have k406 : Rch p e below S0 T405 (mkF m 48 #[.val (.int p1), .val (.int p2), .val (.int p3), .val (.int p4), .val (.int p5), .val (.int (1 : Int32)), .val (.int c0), .val (.int c1), .val (.int c2), .val (.int c3), .unset, .unset, .unset] [(.ref b405)]) := fun t h => k404 t (st405 t h)
  have O407 := O0.ext E405
  have hL405 : (N4052 >>> (nar .byte cd405 &&& 31)) = (1 : Int32) := by
    rcases hz405 with ⟨q, e⟩ | ⟨q, e⟩ <;> rw [q, e] <;> decide
  have hq405 : ¬ (N4052 = 0) := by
    rcases hz405 with ⟨q, e⟩ | ⟨q, e⟩ <;> rw [e] <;> decide
  have k408 : Rch p e below S0 T405 (mkF m 56 #[.val (.int p1), .val (.int p2), .val (.int p3), .val (.int p4), .val (.int p5), .val (.int (1 : Int32)), .val (.int c0), .val (.int c1), .val (.int c2), .val (.int c3), .val (.ref b405), .unset, .unset] [(.int (p4 &&& (255 : Int32)))]) := fun t h => k406 t (by
      show Steps p.tables e below (T405.setTop (mkF m 48 #[.val (.int p1), .val (.int p2), .val (.int p3), .val (.int p4), .val (.int p5), .val (.int (1 : Int32)), .val (.int c0), .val (.int c1), .val (.int c2), .val (.int c3), .unset, .unset, .unset] [(.ref b405)])) _
      refine XS.astore X405.here hx rfl (hb hby at_48) rfl rfl (l' := #[.val (.int p1), .val (.int p2), .val (.int p3), .val (.int p4), .val (.int p5), .val (.int (1 : Int32)), .val (.int c0), .val (.int c1), .val (.int c2), .val (.int c3), .val (.ref b405), .unset, .unset]) rfl ?_
      show Steps p.tables e below (T405.setTop (mkF m 50 #[.val (.int p1), .val (.int p2), .val (.int p3), .val (.int p4), .val (.int p5), .val (.int (1 : Int32)), .val (.int c0), .val (.int c1), .val (.int c2), .val (.int c3), .val (.ref b405), .unset, .unset] [])) _
      refine XS.iloadN X405.here hx rfl (hb hby at_50) rfl ?_
      show Steps p.tables e below (T405.setTop (mkF m 51 #[.val (.int p1), .val (.int p2), .val (.int p3), .val (.int p4), .val (.int p5), .val (.int (1 : Int32)), .val (.int c0), .val (.int c1), .val (.int c2), .val (.int c3), .val (.ref b405), .unset, .unset] [(.int p4)])) _
      refine XS.sipush X405.here hx rfl (hb hby at_51) ?_
      show Steps p.tables e below (T405.setTop (mkF m 54 #[.val (.int p1), .val (.int p2), .val (.int p3), .val (.int p4), .val (.int p5), .val (.int (1 : Int32)), .val (.int c0), .val (.int c1), .val (.int c2), .val (.int c3), .val (.ref b405), .unset, .unset] [(.int (255 : Int32)), (.int p4)])) _
      refine XS.iand X405.here hx rfl (hb hby at_54) rfl ?_
      show Steps p.tables e below (T405.setTop (mkF m 55 #[.val (.int p1), .val (.int p2), .val (.int p3), .val (.int p4), .val (.int p5), .val (.int (1 : Int32)), .val (.int c0), .val (.int c1), .val (.int c2), .val (.int c3), .val (.ref b405), .unset, .unset] [(.int (p4 &&& (255 : Int32)))])) _
      refine XS.i2c X405.here hx rfl (hb hby at_55) rfl ?_
      rw [(own_nar (p4 &&& (255 : Int32)) (own_255 p4)).2]
      show Steps p.tables e below (T405.setTop (mkF m 56 #[.val (.int p1), .val (.int p2), .val (.int p3), .val (.int p4), .val (.int p5), .val (.int (1 : Int32)), .val (.int c0), .val (.int c1), .val (.int c2), .val (.int c3), .val (.ref b405), .unset, .unset] [(.int (p4 &&& (255 : Int32)))])) _
      exact h)
  obtain ⟨_, _, ⟨T409, L409, kk409, n409⟩, -, X409, ⟨Lc409, hQ409, l409, y409, z409⟩, st409⟩ := Jvm.LawKit.callS X405 hx (y := (⟨"java/lang/String", "valueOf", "(C)Ljava/lang/String;"⟩ : MethodName)) hown (mvT hZ (hw _ (List.mem_of_getElem? (i := 35) rfl))) (mvT hZ (hw _ (List.mem_of_getElem? (i := 36) rfl))) (mvT hZ (hw _ (List.mem_of_getElem? (i := 7) rfl))) (mvT hZ (hw _ (List.mem_of_getElem? (i := 37) rfl))) (by decide) (backOf (W := 0) (rmVO l Z a0 hw [] (p4 &&& (255 : Int32)) zC T405.heap n0 O407 SC hzC (own_255 p4).2) hZ (hw _ (List.mem_of_getElem? (i := 37) rfl)) (hw _ (List.mem_of_getElem? (i := 7) rfl)) (by decide) (by decide)) (g := (mkF m 56 #[.val (.int p1), .val (.int p2), .val (.int p3), .val (.int p4), .val (.int p5), .val (.int (1 : Int32)), .val (.int c0), .val (.int c1), .val (.int c2), .val (.int c3), .val (.ref b405), .unset, .unset] [(.int (p4 &&& (255 : Int32)))])) rfl (by rw [hml]; rfl) (argsL := [(.int (p4 &&& (255 : Int32)))]) (rest := []) (lenOf pd_7 rfl) rfl (by show 2 * 0 + _ ≤ _; exact Nat.le_of_eq rfl) (hb hby at_56) (fun _ _ => ⟨rfl, rfl, (by decide : 4 + 2 ≤ _), (by decide : 20 + 5 ≤ _)⟩)
  dsimp only [Pt.U, Pt.locs, Pt.cells, Pt.slots] at X409 l409 y409 z409 st409 hQ409
  subst l409 y409 z409
  obtain ⟨b409, rfl, Nq409, E409, z409, X409E⟩ := hQ409
  have N409 := Fr.app N405 Nq409
  have k410 : Rch p e below S0 T409 (mkF m 59 #[.val (.int p1), .val (.int p2), .val (.int p3), .val (.int p4), .val (.int p5), .val (.int (1 : Int32)), .val (.int c0), .val (.int c1), .val (.int c2), .val (.int c3), .val (.ref b405), .unset, .unset] [(.ref b409)]) := fun t h => k408 t (st409 t h)
  have O411 := O407.ext E409
  replace Eb405 := Eb405.ext E409
  replace Fv405 := Fv405.ext E409
  replace Fc405 := Fc405.ext E409
  replace At405 := At405.ext E409
  have k412 : Rch p e below S0 T409 (mkF m 65 #[.val (.int p1), .val (.int p2), .val (.int p3), .val (.int p4), .val (.int p5), .val (.int (1 : Int32)), .val (.int c0), .val (.int c1), .val (.int c2), .val (.int c3), .val (.ref b405), .val (.ref b409), .unset] [(.int p5), (.int (1 : Int32))]) := fun t h => k410 t (by
      show Steps p.tables e below (T409.setTop (mkF m 59 #[.val (.int p1), .val (.int p2), .val (.int p3), .val (.int p4), .val (.int p5), .val (.int (1 : Int32)), .val (.int c0), .val (.int c1), .val (.int c2), .val (.int c3), .val (.ref b405), .unset, .unset] [(.ref b409)])) _
      refine XS.astore X409.here hx rfl (hb hby at_59) rfl rfl (l' := #[.val (.int p1), .val (.int p2), .val (.int p3), .val (.int p4), .val (.int p5), .val (.int (1 : Int32)), .val (.int c0), .val (.int c1), .val (.int c2), .val (.int c3), .val (.ref b405), .val (.ref b409), .unset]) rfl ?_
      show Steps p.tables e below (T409.setTop (mkF m 61 #[.val (.int p1), .val (.int p2), .val (.int p3), .val (.int p4), .val (.int p5), .val (.int (1 : Int32)), .val (.int c0), .val (.int c1), .val (.int c2), .val (.int c3), .val (.ref b405), .val (.ref b409), .unset] [])) _
      refine XS.iload X409.here hx rfl (hb hby at_61) rfl ?_
      show Steps p.tables e below (T409.setTop (mkF m 63 #[.val (.int p1), .val (.int p2), .val (.int p3), .val (.int p4), .val (.int p5), .val (.int (1 : Int32)), .val (.int c0), .val (.int c1), .val (.int c2), .val (.int c3), .val (.ref b405), .val (.ref b409), .unset] [(.int (1 : Int32))])) _
      refine XS.iload X409.here hx rfl (hb hby at_63) rfl ?_
      show Steps p.tables e below (T409.setTop (mkF m 65 #[.val (.int p1), .val (.int p2), .val (.int p3), .val (.int p4), .val (.int p5), .val (.int (1 : Int32)), .val (.int c0), .val (.int c1), .val (.int c2), .val (.int c3), .val (.ref b405), .val (.ref b409), .unset] [(.int p5), (.int (1 : Int32))])) _
      exact h)
  obtain ⟨_, _, ⟨T413, L413, kk413, n413⟩, -, X413, ⟨Lc413, hQ413, l413, y413, z413⟩, st413⟩ := Jvm.LawKit.callS X409 hx (y := (⟨"java/lang/Math", "max", "(II)I"⟩ : MethodName)) hown (mvT hZ (hw _ (List.mem_of_getElem? (i := 49) rfl))) (mvT hZ (hw _ (List.mem_of_getElem? (i := 50) rfl))) (mvT hZ (hw _ (List.mem_of_getElem? (i := 51) rfl))) (mvT hZ (hw _ (List.mem_of_getElem? (i := 52) rfl))) (by decide) (backOf (W := 0) (rmX l Z a0 hw [] (1 : Int32) p5 mo T409.heap n0 O411 hmo) hZ (hw _ (List.mem_of_getElem? (i := 52) rfl)) (hw _ (List.mem_of_getElem? (i := 51) rfl)) (by decide) (by decide)) (g := (mkF m 65 #[.val (.int p1), .val (.int p2), .val (.int p3), .val (.int p4), .val (.int p5), .val (.int (1 : Int32)), .val (.int c0), .val (.int c1), .val (.int c2), .val (.int c3), .val (.ref b405), .val (.ref b409), .unset] [(.int p5), (.int (1 : Int32))])) rfl (by rw [hml]; rfl) (argsL := [(.int (1 : Int32)), (.int p5)]) (rest := []) (lenOf pd_11 rfl) rfl (by show 2 * 0 + _ ≤ _; exact Nat.le_of_eq rfl) (hb hby at_65) (fun _ _ => ⟨rfl, rfl, (by decide : 6 + 0 ≤ _), (by decide : 25 + 0 ≤ _)⟩)
  dsimp only [Pt.U, Pt.locs, Pt.cells, Pt.slots] at X413 l413 y413 z413 st413 hQ413
  subst l413 y413 z413
  obtain ⟨rfl, Nq413, hh413⟩ := hQ413
  have N413 := Fr.app N409 Nq413
  have k414 : Rch p e below S0 T413 (mkF m 68 #[.val (.int p1), .val (.int p2), .val (.int p3), .val (.int p4), .val (.int p5), .val (.int (1 : Int32)), .val (.int c0), .val (.int c1), .val (.int c2), .val (.int c3), .val (.ref b405), .val (.ref b409), .unset] [(.int mo)]) := fun t h => k412 t (st413 t h)
  have k415 : Rch p e below S0 T413 (mkF m 76 #[.val (.int p1), .val (.int p2), .val (.int p3), .val (.int p4), .val (.int p5), .val (.int (1 : Int32)), .val (.int c0), .val (.int c1), .val (.int c2), .val (.int c3), .val (.ref b405), .val (.ref b409), .val (.int mo)] [(.int mo), (.ref b409), (.ref b405)]) := fun t h => k414 t (by
      show Steps p.tables e below (T413.setTop (mkF m 68 #[.val (.int p1), .val (.int p2), .val (.int p3), .val (.int p4), .val (.int p5), .val (.int (1 : Int32)), .val (.int c0), .val (.int c1), .val (.int c2), .val (.int c3), .val (.ref b405), .val (.ref b409), .unset] [(.int mo)])) _
      refine XS.istore X413.here hx rfl (hb hby at_68) rfl (l' := #[.val (.int p1), .val (.int p2), .val (.int p3), .val (.int p4), .val (.int p5), .val (.int (1 : Int32)), .val (.int c0), .val (.int c1), .val (.int c2), .val (.int c3), .val (.ref b405), .val (.ref b409), .val (.int mo)]) rfl ?_
      show Steps p.tables e below (T413.setTop (mkF m 70 #[.val (.int p1), .val (.int p2), .val (.int p3), .val (.int p4), .val (.int p5), .val (.int (1 : Int32)), .val (.int c0), .val (.int c1), .val (.int c2), .val (.int c3), .val (.ref b405), .val (.ref b409), .val (.int mo)] [])) _
      refine XS.aload X413.here hx rfl (hb hby at_70) rfl rfl ?_
      show Steps p.tables e below (T413.setTop (mkF m 72 #[.val (.int p1), .val (.int p2), .val (.int p3), .val (.int p4), .val (.int p5), .val (.int (1 : Int32)), .val (.int c0), .val (.int c1), .val (.int c2), .val (.int c3), .val (.ref b405), .val (.ref b409), .val (.int mo)] [(.ref b405)])) _
      refine XS.aload X413.here hx rfl (hb hby at_72) rfl rfl ?_
      show Steps p.tables e below (T413.setTop (mkF m 74 #[.val (.int p1), .val (.int p2), .val (.int p3), .val (.int p4), .val (.int p5), .val (.int (1 : Int32)), .val (.int c0), .val (.int c1), .val (.int c2), .val (.int c3), .val (.ref b405), .val (.ref b409), .val (.int mo)] [(.ref b409), (.ref b405)])) _
      refine XS.iload X413.here hx rfl (hb hby at_74) rfl ?_
      show Steps p.tables e below (T413.setTop (mkF m 76 #[.val (.int p1), .val (.int p2), .val (.int p3), .val (.int p4), .val (.int p5), .val (.int (1 : Int32)), .val (.int c0), .val (.int c1), .val (.int c2), .val (.int c3), .val (.ref b405), .val (.ref b409), .val (.int mo)] [(.int mo), (.ref b409), (.ref b405)])) _
      exact h)
  obtain ⟨_, _, ⟨T416, L416, kk416, n416⟩, -, X416, ⟨Lc416, hQ416, l416, y416, z416⟩, st416⟩ := Jvm.LawKit.callS X413 hx (y := (⟨"com/example/remodel/remodel/Component", "checkLength", "(Ljava/lang/String;Ljava/lang/String;I)V"⟩ : MethodName)) hown (mvT hZ (hw _ (List.mem_of_getElem? (i := 53) rfl))) (mvT hZ (hw _ (List.mem_of_getElem? (i := 54) rfl))) (mvT hZ (hw _ (List.mem_of_getElem? (i := 55) rfl))) (mvT hZ (hw _ (List.mem_of_getElem? (i := 56) rfl))) (by decide) (backOf (W := 0) (rmH l Z a0 hw [] b405 b409 mo t405 kt405 N4052 vs405 cd405 zC (1 : Int32) T409.heap n0 O411 SC hzC Eb405 Fv405 Fc405 At405 hL405 hq405 hm) hZ (hw _ (List.mem_of_getElem? (i := 56) rfl)) (hw _ (List.mem_of_getElem? (i := 55) rfl)) (by decide) (by decide)) (g := (mkF m 76 #[.val (.int p1), .val (.int p2), .val (.int p3), .val (.int p4), .val (.int p5), .val (.int (1 : Int32)), .val (.int c0), .val (.int c1), .val (.int c2), .val (.int c3), .val (.ref b405), .val (.ref b409), .val (.int mo)] [(.int mo), (.ref b409), (.ref b405)])) rfl (by rw [hml]; rfl) (argsL := [(.ref b405), (.ref b409), (.int mo)]) (rest := []) (lenOf pd_12 rfl) rfl (by show 2 * 0 + _ ≤ _; exact Nat.le_of_eq rfl) (hb hby at_76) (fun _ _ => ⟨rfl, hh413, (by decide : 6 + 0 ≤ _), (by decide : 25 + 0 ≤ _)⟩)
  dsimp only [Pt.U, Pt.locs, Pt.cells, Pt.slots] at X416 l416 y416 z416 st416 hQ416
  subst l416 y416 z416
  obtain ⟨rfl, Nq416, hh416⟩ := hQ416
  have N416 := Fr.app N413 Nq416
  have k417 : Rch p e below S0 T416 (mkF m 79 #[.val (.int p1), .val (.int p2), .val (.int p3), .val (.int p4), .val (.int p5), .val (.int (1 : Int32)), .val (.int c0), .val (.int c1), .val (.int c2), .val (.int c3), .val (.ref b405), .val (.ref b409), .val (.int mo)] []) := fun t h => k415 t (st416 t h)
  have k418 : Rch p e below S0 T416 (mkF m 81 #[.val (.int p1), .val (.int p2), .val (.int p3), .val (.int p4), .val (.int p5), .val (.int (1 : Int32)), .val (.int c0), .val (.int c1), .val (.int c2), .val (.int c3), .val (.ref b405), .val (.ref b409), .val (.int mo)] [(.ref b405)]) := fun t h => k417 t (by
      show Steps p.tables e below (T416.setTop (mkF m 79 #[.val (.int p1), .val (.int p2), .val (.int p3), .val (.int p4), .val (.int p5), .val (.int (1 : Int32)), .val (.int c0), .val (.int c1), .val (.int c2), .val (.int c3), .val (.ref b405), .val (.ref b409), .val (.int mo)] [])) _
      refine XS.aload X416.here hx rfl (hb hby at_79) rfl rfl ?_
      show Steps p.tables e below (T416.setTop (mkF m 81 #[.val (.int p1), .val (.int p2), .val (.int p3), .val (.int p4), .val (.int p5), .val (.int (1 : Int32)), .val (.int c0), .val (.int c1), .val (.int c2), .val (.int c3), .val (.ref b405), .val (.ref b409), .val (.int mo)] [(.ref b405)])) _
      exact h)
  obtain ⟨cq419, kq419, q419a, q419b, q419c⟩ := isOf hZ hh416 Eb405
  obtain ⟨_, _, ⟨T419, L419, kk419, n419⟩, -, X419, ⟨Lc419, hQ419, l419, y419, z419⟩, st419⟩ := X416.virtualBack hx (y := (⟨"java/lang/String", "length", "()I"⟩ : MethodName)) (z := (⟨"java/lang/String", "length", "()I"⟩ : MethodName)) hown (mvT hZ (hw _ (List.mem_of_getElem? (i := 72) rfl))) (mvT hZ (hw _ (List.mem_of_getElem? (i := 63) rfl))) (notFace_of_selects (args := #[]) (mvT hZ (hw _ (List.mem_of_getElem? (i := 65) rfl)))) (mvT hZ (hw _ (List.mem_of_getElem? (i := 65) rfl))) (mvT hZ (hw _ (List.mem_of_getElem? (i := 64) rfl))) (by decide) (backOf (W := 0) (rmLE l Z a0 hw [] b405 t405 kt405 N4052 vs405 cd405 zC (1 : Int32) T409.heap n0 O411 SC hzC Eb405 Fv405 Fc405 At405 hL405) hZ (hw _ (List.mem_of_getElem? (i := 66) rfl)) (hw _ (List.mem_of_getElem? (i := 7) rfl)) (by decide) (by decide)) q419a q419c (g := (mkF m 81 #[.val (.int p1), .val (.int p2), .val (.int p3), .val (.int p4), .val (.int p5), .val (.int (1 : Int32)), .val (.int c0), .val (.int c1), .val (.int c2), .val (.int c3), .val (.ref b405), .val (.ref b409), .val (.int mo)] [(.ref b405)])) rfl (by rw [hml]; rfl) (Steps.refl _) (argsL := []) (rest := []) (lenOf pd_14 rfl) rfl (by show 2 * 0 + _ ≤ _; exact Nat.le_of_eq rfl) (hb hby at_81) (fun _ _ => ⟨rfl, hh416, (by decide : 6 + 0 ≤ _), (by decide : 25 + 0 ≤ _)⟩)
  dsimp only [Pt.U, Pt.locs, Pt.cells, Pt.slots] at X419 l419 y419 z419 st419 hQ419
  subst l419 y419 z419
  obtain ⟨rfl, Nq419, hh419⟩ := hQ419
  have N419 := Fr.app N416 Nq419
  have k420 : Rch p e below S0 T419 (mkF m 84 #[.val (.int p1), .val (.int p2), .val (.int p3), .val (.int p4), .val (.int p5), .val (.int (1 : Int32)), .val (.int c0), .val (.int c1), .val (.int c2), .val (.int c3), .val (.ref b405), .val (.ref b409), .val (.int mo)] [(.int (1 : Int32))]) := fun t h => k418 t (st419.trans h)
  have k421 : Rch p e below S0 T419 (mkF m 101 #[.val (.int p1), .val (.int p2), .val (.int p3), .val (.int p4), .val (.int p5), .val (.int (1 : Int32)), .val (.int c0), .val (.int c1), .val (.int c2), .val (.int c3), .val (.ref b405), .val (.ref b409), .val (.int mo)] [(.int (1 : Int32))]) := fun t h => k420 t (by
      show Steps p.tables e below (T419.setTop (mkF m 84 #[.val (.int p1), .val (.int p2), .val (.int p3), .val (.int p4), .val (.int p5), .val (.int (1 : Int32)), .val (.int c0), .val (.int c1), .val (.int c2), .val (.int c3), .val (.ref b405), .val (.ref b409), .val (.int mo)] [(.int (1 : Int32))])) _
      refine XS.iload X419.here hx rfl (hb hby at_84) rfl ?_
      show Steps p.tables e below (T419.setTop (mkF m 86 #[.val (.int p1), .val (.int p2), .val (.int p3), .val (.int p4), .val (.int p5), .val (.int (1 : Int32)), .val (.int c0), .val (.int c1), .val (.int c2), .val (.int c3), .val (.ref b405), .val (.ref b409), .val (.int mo)] [(.int (1 : Int32)), (.int (1 : Int32))])) _
      refine XS.icmpNo X419.here hx rfl (hb hby at_86) rfl (teq (by decide : (1 : Int32) = (1 : Int32))).2 ?_
      show Steps p.tables e below (T419.setTop (mkF m 89 #[.val (.int p1), .val (.int p2), .val (.int p3), .val (.int p4), .val (.int p5), .val (.int (1 : Int32)), .val (.int c0), .val (.int c1), .val (.int c2), .val (.int c3), .val (.ref b405), .val (.ref b409), .val (.int mo)] [])) _
      refine XS.iload X419.here hx rfl (hb hby at_89) rfl ?_
      show Steps p.tables e below (T419.setTop (mkF m 91 #[.val (.int p1), .val (.int p2), .val (.int p3), .val (.int p4), .val (.int p5), .val (.int (1 : Int32)), .val (.int c0), .val (.int c1), .val (.int c2), .val (.int c3), .val (.ref b405), .val (.ref b409), .val (.int mo)] [(.int mo)])) _
      refine XS.iload X419.here hx rfl (hb hby at_91) rfl ?_
      show Steps p.tables e below (T419.setTop (mkF m 93 #[.val (.int p1), .val (.int p2), .val (.int p3), .val (.int p4), .val (.int p5), .val (.int (1 : Int32)), .val (.int c0), .val (.int c1), .val (.int c2), .val (.int c3), .val (.ref b405), .val (.ref b409), .val (.int mo)] [(.int (1 : Int32)), (.int mo)])) _
      refine XS.icmpNo X419.here hx rfl (hb hby at_93) rfl (flt (hm : ¬ (mo < (1 : Int32)))).1 ?_
      show Steps p.tables e below (T419.setTop (mkF m 96 #[.val (.int p1), .val (.int p2), .val (.int p3), .val (.int p4), .val (.int p5), .val (.int (1 : Int32)), .val (.int c0), .val (.int c1), .val (.int c2), .val (.int c3), .val (.ref b405), .val (.ref b409), .val (.int mo)] [])) _
      refine XS.iconst X419.here hx rfl (hb hby at_96) ?_
      show Steps p.tables e below (T419.setTop (mkF m 97 #[.val (.int p1), .val (.int p2), .val (.int p3), .val (.int p4), .val (.int p5), .val (.int (1 : Int32)), .val (.int c0), .val (.int c1), .val (.int c2), .val (.int c3), .val (.ref b405), .val (.ref b409), .val (.int mo)] [(.int (1 : Int32))])) _
      refine XS.goto X419.here hx rfl (pc0 := 97) (pc' := 101) rfl (hb hby at_97) (by decide) (by decide) ?_
      show Steps p.tables e below (T419.setTop (mkF m 101 #[.val (.int p1), .val (.int p2), .val (.int p3), .val (.int p4), .val (.int p5), .val (.int (1 : Int32)), .val (.int c0), .val (.int c1), .val (.int c2), .val (.int c3), .val (.ref b405), .val (.ref b409), .val (.int mo)] [(.int (1 : Int32))])) _
      exact h)
  obtain ⟨fs, hr, hrun, hended, hW, hsame⟩ := X419.leave (v := (some (.int (1 : Int32)))) (fun h => by rw [Bd.returns] at h; cases h)
  refine ⟨_, _, ?_, hrun, hended, _, _, rfl, ?_, ⟨_, rfl⟩, hW, hsame.mono (by decide) (by decide)⟩
  · rw [← hS0]
    refine k421 _ ?_
    show Steps p.tables e below (T419.setTop (mkF m 101 #[.val (.int p1), .val (.int p2), .val (.int p3), .val (.int p4), .val (.int p5), .val (.int (1 : Int32)), .val (.int c0), .val (.int c1), .val (.int c2), .val (.int c3), .val (.ref b405), .val (.ref b409), .val (.int mo)] [(.int (1 : Int32))])) _
    exact retN X419 hx (t := .boolean) Bd.returns (by simp) (hb hby at_101) hr
  · show Q_rm0_1 Z  h0 n0 _ T419.heap _
    rw [hh419]
    exact ⟨rfl, N419⟩
def Q_rm0_2 (Z : State)  (h0 : Heap) (n0 : Nat) (v : Option Value) (h : Heap) (L : List Loc) : Prop := v = some (.int (1 : Int32)) ∧ Fr n0 L
set_option maxRecDepth 65536 in
set_option maxHeartbeats 40000000 in
theorem rm0_2 (l : Launch) (Z : State) (a0 : Array Value) (hw : ∀ d ∈ tables_1, d.before a0 Z = true) (ws : List Jvm.Cond) (p1 : Int32) (p2 : Int32) (p3 : Int32) (p4 : Int32) (p5 : Int32) (c0 : Int32) (c1 : Int32) (c2 : Int32) (c3 : Int32) (zC : Int32) (mo : Int32) (h0 : Heap) (n0 : Nat) (O0 : Old Z n0 h0) (SAs : Sta Z Z.heap "java/lang/StringUTF16" "$assertionsDisabled" "Z" (.int (1 : Int32))) (SHi : Sta Z Z.heap "java/lang/StringUTF16" "HI_BYTE_SHIFT" "I" (.int (0 : Int32))) (SLo : Sta Z Z.heap "java/lang/StringUTF16" "LO_BYTE_SHIFT" "I" (.int (8 : Int32))) (SC : Sta Z Z.heap "java/lang/String" "COMPACT_STRINGS" "Z" (.int zC)) (hzC : ¬ zC = 0) (hx0 : ((p2 &&& (65535 : Int32)).toUInt32.toUInt16.toUInt32.toInt32) = c0) (hx1 : (((p2.toUInt32 >>> ((16 : Int32) &&& 31).toUInt32).toInt32).toUInt32.toUInt16.toUInt32.toInt32) = c1) (hx2 : ((p3 &&& (65535 : Int32)).toUInt32.toUInt16.toUInt32.toInt32) = c2) (hx3 : (((p3.toUInt32 >>> ((16 : Int32) &&& 31).toUInt32).toInt32).toUInt32.toUInt16.toUInt32.toInt32) = c3) (hc0 : ¬ c0 < 0 ∧ ¬ (65535 : Int32) < c0) (hc1 : ¬ c1 < 0 ∧ ¬ (65535 : Int32) < c1) (hc2 : ¬ c2 < 0 ∧ ¬ (65535 : Int32) < c2) (hc3 : ¬ c3 < 0 ∧ ¬ (65535 : Int32) < c3) (hk0 : ((1 : Int32) + (p1 &&& (3 : Int32))) = (2 : Int32)) (hmo : ((2 : Int32) < p5 ∧ p5 = mo) ∨ (¬ (2 : Int32) < p5 ∧ (2 : Int32) = mo)) :
    MetFree l x (head1 (Jvm.Cond.code x code maxLocals ret :: ws) room_1) (fun a U => a = #[(.int p1), (.int p2), (.int p3), (.int p4), (.int p5)] ∧ Z.Warmed39 U.vm ∧ U.heap = h0) (fun _ _ _ _ _ => True) (fun _ U o U' => ∃ v L, o = .returned v ∧ Q_rm0_2 Z  h0 n0 v U'.heap L ∧ FrameEnd U o U' L room_1.cells room_1.slots) := by
  refine MetFree.of_bodySF (plainFor_of_name pn_ComponentCheckLengthPinLaw) hisR ?_
  intro p e s m args below meth c s₁ Bd hml0 hP hK
  obtain ⟨rfl, hZ, hh⟩ := hP
  have hx := Bd.exec
  have hby := Bd.bytes
  have hml : c.maxLocals = 13 := hml0
  have hown : s.vm.findClass "com/example/remodel/remodel/ComponentCheckLengthPinLaw" = some m.cls := findClass_of_methodNamed Bd.named
  have hnm := (name_of_methodNamed Bd.named Bd.method).1
  have X0 : Stand p l e room_1 s m #[(.int p1), (.int p2), (.int p3), (.int p4), (.int p5)] below meth c s₁ [] 0 0 := Stand.of_body Bd
  have e0 : s₁.heap = h0 := by rw [← hh, Bd.state]; rfl
  have N0 := Fr.nil n0
  obtain ⟨S0, hS0⟩ : ∃ z, z = s₁.setTop (entryFrame m #[(.int p1), (.int p2), (.int p3), (.int p4), (.int p5)] maxLocals) := ⟨_, rfl⟩
  have k0 : Rch p e below S0 s₁ (mkF m 0 #[.val (.int p1), .val (.int p2), .val (.int p3), .val (.int p4), .val (.int p5), .unset, .unset, .unset, .unset, .unset, .unset, .unset, .unset] []) := fun t kq => hS0 ▸ castTop (ef_0 m p1 p2 p3 p4 p5) kq
  have hm : ¬ mo < (2 : Int32) := by
    rcases hmo with ⟨q, e⟩ | ⟨q, e⟩
    · rw [← e]; rw [Int32.lt_iff_toInt_lt] at q ⊢; omega
    · rw [← e]; decide
  have k422 : Rch p e below S0 s₁ (mkF m 45 #[.val (.int p1), .val (.int p2), .val (.int p3), .val (.int p4), .val (.int p5), .val (.int (2 : Int32)), .val (.int c0), .val (.int c1), .val (.int c2), .val (.int c3), .unset, .unset, .unset] [(.int c3), (.int c2), (.int c1), (.int c0), (.int (2 : Int32))]) := fun t h => k0 t (by
      show Steps p.tables e below (s₁.setTop (mkF m 0 #[.val (.int p1), .val (.int p2), .val (.int p3), .val (.int p4), .val (.int p5), .unset, .unset, .unset, .unset, .unset, .unset, .unset, .unset] [])) _
      refine XS.iconst X0.here hx rfl (hb hby at_0) ?_
      show Steps p.tables e below (s₁.setTop (mkF m 1 #[.val (.int p1), .val (.int p2), .val (.int p3), .val (.int p4), .val (.int p5), .unset, .unset, .unset, .unset, .unset, .unset, .unset, .unset] [(.int (1 : Int32))])) _
      refine XS.iloadN X0.here hx rfl (hb hby at_1) rfl ?_
      show Steps p.tables e below (s₁.setTop (mkF m 2 #[.val (.int p1), .val (.int p2), .val (.int p3), .val (.int p4), .val (.int p5), .unset, .unset, .unset, .unset, .unset, .unset, .unset, .unset] [(.int p1), (.int (1 : Int32))])) _
      refine XS.iconst X0.here hx rfl (hb hby at_2) ?_
      show Steps p.tables e below (s₁.setTop (mkF m 3 #[.val (.int p1), .val (.int p2), .val (.int p3), .val (.int p4), .val (.int p5), .unset, .unset, .unset, .unset, .unset, .unset, .unset, .unset] [(.int (3 : Int32)), (.int p1), (.int (1 : Int32))])) _
      refine XS.iand X0.here hx rfl (hb hby at_3) rfl ?_
      show Steps p.tables e below (s₁.setTop (mkF m 4 #[.val (.int p1), .val (.int p2), .val (.int p3), .val (.int p4), .val (.int p5), .unset, .unset, .unset, .unset, .unset, .unset, .unset, .unset] [(.int (p1 &&& (3 : Int32))), (.int (1 : Int32))])) _
      refine XS.iadd X0.here hx rfl (hb hby at_4) rfl ?_
      rw [hk0]
      show Steps p.tables e below (s₁.setTop (mkF m 5 #[.val (.int p1), .val (.int p2), .val (.int p3), .val (.int p4), .val (.int p5), .unset, .unset, .unset, .unset, .unset, .unset, .unset, .unset] [(.int (2 : Int32))])) _
      refine XS.istore X0.here hx rfl (hb hby at_5) rfl (l' := #[.val (.int p1), .val (.int p2), .val (.int p3), .val (.int p4), .val (.int p5), .val (.int (2 : Int32)), .unset, .unset, .unset, .unset, .unset, .unset, .unset]) rfl ?_
      show Steps p.tables e below (s₁.setTop (mkF m 7 #[.val (.int p1), .val (.int p2), .val (.int p3), .val (.int p4), .val (.int p5), .val (.int (2 : Int32)), .unset, .unset, .unset, .unset, .unset, .unset, .unset] [])) _
      refine XS.iloadN X0.here hx rfl (hb hby at_7) rfl ?_
      show Steps p.tables e below (s₁.setTop (mkF m 8 #[.val (.int p1), .val (.int p2), .val (.int p3), .val (.int p4), .val (.int p5), .val (.int (2 : Int32)), .unset, .unset, .unset, .unset, .unset, .unset, .unset] [(.int p2)])) _
      refine X0.ldcInt hx hown (mvT hZ (hw _ (List.mem_of_getElem? (i := 0) rfl))) (g := (mkF m 8 #[.val (.int p1), .val (.int p2), .val (.int p3), .val (.int p4), .val (.int p5), .val (.int (2 : Int32)), .unset, .unset, .unset, .unset, .unset, .unset, .unset] [(.int p2)])) rfl (hb hby at_8) _ ?_
      show Steps p.tables e below (s₁.setTop (mkF m 10 #[.val (.int p1), .val (.int p2), .val (.int p3), .val (.int p4), .val (.int p5), .val (.int (2 : Int32)), .unset, .unset, .unset, .unset, .unset, .unset, .unset] [(.int (65535 : Int32)), (.int p2)])) _
      refine XS.iand X0.here hx rfl (hb hby at_10) rfl ?_
      show Steps p.tables e below (s₁.setTop (mkF m 11 #[.val (.int p1), .val (.int p2), .val (.int p3), .val (.int p4), .val (.int p5), .val (.int (2 : Int32)), .unset, .unset, .unset, .unset, .unset, .unset, .unset] [(.int (p2 &&& (65535 : Int32)))])) _
      refine XS.i2c X0.here hx rfl (hb hby at_11) rfl ?_
      rw [hx0]
      show Steps p.tables e below (s₁.setTop (mkF m 12 #[.val (.int p1), .val (.int p2), .val (.int p3), .val (.int p4), .val (.int p5), .val (.int (2 : Int32)), .unset, .unset, .unset, .unset, .unset, .unset, .unset] [(.int c0)])) _
      refine XS.istore X0.here hx rfl (hb hby at_12) rfl (l' := #[.val (.int p1), .val (.int p2), .val (.int p3), .val (.int p4), .val (.int p5), .val (.int (2 : Int32)), .val (.int c0), .unset, .unset, .unset, .unset, .unset, .unset]) rfl ?_
      show Steps p.tables e below (s₁.setTop (mkF m 14 #[.val (.int p1), .val (.int p2), .val (.int p3), .val (.int p4), .val (.int p5), .val (.int (2 : Int32)), .val (.int c0), .unset, .unset, .unset, .unset, .unset, .unset] [])) _
      refine XS.iloadN X0.here hx rfl (hb hby at_14) rfl ?_
      show Steps p.tables e below (s₁.setTop (mkF m 15 #[.val (.int p1), .val (.int p2), .val (.int p3), .val (.int p4), .val (.int p5), .val (.int (2 : Int32)), .val (.int c0), .unset, .unset, .unset, .unset, .unset, .unset] [(.int p2)])) _
      refine XS.bipush X0.here hx rfl (hb hby at_15) ?_
      show Steps p.tables e below (s₁.setTop (mkF m 17 #[.val (.int p1), .val (.int p2), .val (.int p3), .val (.int p4), .val (.int p5), .val (.int (2 : Int32)), .val (.int c0), .unset, .unset, .unset, .unset, .unset, .unset] [(.int (16 : Int32)), (.int p2)])) _
      refine XS.iushr X0.here hx rfl (hb hby at_17) rfl ?_
      show Steps p.tables e below (s₁.setTop (mkF m 18 #[.val (.int p1), .val (.int p2), .val (.int p3), .val (.int p4), .val (.int p5), .val (.int (2 : Int32)), .val (.int c0), .unset, .unset, .unset, .unset, .unset, .unset] [(.int ((p2.toUInt32 >>> ((16 : Int32) &&& 31).toUInt32).toInt32))])) _
      refine XS.i2c X0.here hx rfl (hb hby at_18) rfl ?_
      rw [hx1]
      show Steps p.tables e below (s₁.setTop (mkF m 19 #[.val (.int p1), .val (.int p2), .val (.int p3), .val (.int p4), .val (.int p5), .val (.int (2 : Int32)), .val (.int c0), .unset, .unset, .unset, .unset, .unset, .unset] [(.int c1)])) _
      refine XS.istore X0.here hx rfl (hb hby at_19) rfl (l' := #[.val (.int p1), .val (.int p2), .val (.int p3), .val (.int p4), .val (.int p5), .val (.int (2 : Int32)), .val (.int c0), .val (.int c1), .unset, .unset, .unset, .unset, .unset]) rfl ?_
      show Steps p.tables e below (s₁.setTop (mkF m 21 #[.val (.int p1), .val (.int p2), .val (.int p3), .val (.int p4), .val (.int p5), .val (.int (2 : Int32)), .val (.int c0), .val (.int c1), .unset, .unset, .unset, .unset, .unset] [])) _
      refine XS.iloadN X0.here hx rfl (hb hby at_21) rfl ?_
      show Steps p.tables e below (s₁.setTop (mkF m 22 #[.val (.int p1), .val (.int p2), .val (.int p3), .val (.int p4), .val (.int p5), .val (.int (2 : Int32)), .val (.int c0), .val (.int c1), .unset, .unset, .unset, .unset, .unset] [(.int p3)])) _
      refine X0.ldcInt hx hown (mvT hZ (hw _ (List.mem_of_getElem? (i := 0) rfl))) (g := (mkF m 22 #[.val (.int p1), .val (.int p2), .val (.int p3), .val (.int p4), .val (.int p5), .val (.int (2 : Int32)), .val (.int c0), .val (.int c1), .unset, .unset, .unset, .unset, .unset] [(.int p3)])) rfl (hb hby at_22) _ ?_
      show Steps p.tables e below (s₁.setTop (mkF m 24 #[.val (.int p1), .val (.int p2), .val (.int p3), .val (.int p4), .val (.int p5), .val (.int (2 : Int32)), .val (.int c0), .val (.int c1), .unset, .unset, .unset, .unset, .unset] [(.int (65535 : Int32)), (.int p3)])) _
      refine XS.iand X0.here hx rfl (hb hby at_24) rfl ?_
      show Steps p.tables e below (s₁.setTop (mkF m 25 #[.val (.int p1), .val (.int p2), .val (.int p3), .val (.int p4), .val (.int p5), .val (.int (2 : Int32)), .val (.int c0), .val (.int c1), .unset, .unset, .unset, .unset, .unset] [(.int (p3 &&& (65535 : Int32)))])) _
      refine XS.i2c X0.here hx rfl (hb hby at_25) rfl ?_
      rw [hx2]
      show Steps p.tables e below (s₁.setTop (mkF m 26 #[.val (.int p1), .val (.int p2), .val (.int p3), .val (.int p4), .val (.int p5), .val (.int (2 : Int32)), .val (.int c0), .val (.int c1), .unset, .unset, .unset, .unset, .unset] [(.int c2)])) _
      refine XS.istore X0.here hx rfl (hb hby at_26) rfl (l' := #[.val (.int p1), .val (.int p2), .val (.int p3), .val (.int p4), .val (.int p5), .val (.int (2 : Int32)), .val (.int c0), .val (.int c1), .val (.int c2), .unset, .unset, .unset, .unset]) rfl ?_
      show Steps p.tables e below (s₁.setTop (mkF m 28 #[.val (.int p1), .val (.int p2), .val (.int p3), .val (.int p4), .val (.int p5), .val (.int (2 : Int32)), .val (.int c0), .val (.int c1), .val (.int c2), .unset, .unset, .unset, .unset] [])) _
      refine XS.iloadN X0.here hx rfl (hb hby at_28) rfl ?_
      show Steps p.tables e below (s₁.setTop (mkF m 29 #[.val (.int p1), .val (.int p2), .val (.int p3), .val (.int p4), .val (.int p5), .val (.int (2 : Int32)), .val (.int c0), .val (.int c1), .val (.int c2), .unset, .unset, .unset, .unset] [(.int p3)])) _
      refine XS.bipush X0.here hx rfl (hb hby at_29) ?_
      show Steps p.tables e below (s₁.setTop (mkF m 31 #[.val (.int p1), .val (.int p2), .val (.int p3), .val (.int p4), .val (.int p5), .val (.int (2 : Int32)), .val (.int c0), .val (.int c1), .val (.int c2), .unset, .unset, .unset, .unset] [(.int (16 : Int32)), (.int p3)])) _
      refine XS.iushr X0.here hx rfl (hb hby at_31) rfl ?_
      show Steps p.tables e below (s₁.setTop (mkF m 32 #[.val (.int p1), .val (.int p2), .val (.int p3), .val (.int p4), .val (.int p5), .val (.int (2 : Int32)), .val (.int c0), .val (.int c1), .val (.int c2), .unset, .unset, .unset, .unset] [(.int ((p3.toUInt32 >>> ((16 : Int32) &&& 31).toUInt32).toInt32))])) _
      refine XS.i2c X0.here hx rfl (hb hby at_32) rfl ?_
      rw [hx3]
      show Steps p.tables e below (s₁.setTop (mkF m 33 #[.val (.int p1), .val (.int p2), .val (.int p3), .val (.int p4), .val (.int p5), .val (.int (2 : Int32)), .val (.int c0), .val (.int c1), .val (.int c2), .unset, .unset, .unset, .unset] [(.int c3)])) _
      refine XS.istore X0.here hx rfl (hb hby at_33) rfl (l' := #[.val (.int p1), .val (.int p2), .val (.int p3), .val (.int p4), .val (.int p5), .val (.int (2 : Int32)), .val (.int c0), .val (.int c1), .val (.int c2), .val (.int c3), .unset, .unset, .unset]) rfl ?_
      show Steps p.tables e below (s₁.setTop (mkF m 35 #[.val (.int p1), .val (.int p2), .val (.int p3), .val (.int p4), .val (.int p5), .val (.int (2 : Int32)), .val (.int c0), .val (.int c1), .val (.int c2), .val (.int c3), .unset, .unset, .unset] [])) _
      refine XS.iload X0.here hx rfl (hb hby at_35) rfl ?_
      show Steps p.tables e below (s₁.setTop (mkF m 37 #[.val (.int p1), .val (.int p2), .val (.int p3), .val (.int p4), .val (.int p5), .val (.int (2 : Int32)), .val (.int c0), .val (.int c1), .val (.int c2), .val (.int c3), .unset, .unset, .unset] [(.int (2 : Int32))])) _
      refine XS.iload X0.here hx rfl (hb hby at_37) rfl ?_
      show Steps p.tables e below (s₁.setTop (mkF m 39 #[.val (.int p1), .val (.int p2), .val (.int p3), .val (.int p4), .val (.int p5), .val (.int (2 : Int32)), .val (.int c0), .val (.int c1), .val (.int c2), .val (.int c3), .unset, .unset, .unset] [(.int c0), (.int (2 : Int32))])) _
      refine XS.iload X0.here hx rfl (hb hby at_39) rfl ?_
      show Steps p.tables e below (s₁.setTop (mkF m 41 #[.val (.int p1), .val (.int p2), .val (.int p3), .val (.int p4), .val (.int p5), .val (.int (2 : Int32)), .val (.int c0), .val (.int c1), .val (.int c2), .val (.int c3), .unset, .unset, .unset] [(.int c1), (.int c0), (.int (2 : Int32))])) _
      refine XS.iload X0.here hx rfl (hb hby at_41) rfl ?_
      show Steps p.tables e below (s₁.setTop (mkF m 43 #[.val (.int p1), .val (.int p2), .val (.int p3), .val (.int p4), .val (.int p5), .val (.int (2 : Int32)), .val (.int c0), .val (.int c1), .val (.int c2), .val (.int c3), .unset, .unset, .unset] [(.int c2), (.int c1), (.int c0), (.int (2 : Int32))])) _
      refine XS.iload X0.here hx rfl (hb hby at_43) rfl ?_
      show Steps p.tables e below (s₁.setTop (mkF m 45 #[.val (.int p1), .val (.int p2), .val (.int p3), .val (.int p4), .val (.int p5), .val (.int (2 : Int32)), .val (.int c0), .val (.int c1), .val (.int c2), .val (.int c3), .unset, .unset, .unset] [(.int c3), (.int c2), (.int c1), (.int c0), (.int (2 : Int32))])) _
      exact h)
  obtain ⟨_, _, ⟨T423, L423, kk423, n423⟩, -, X423, ⟨Lc423, hQ423, l423, y423, z423⟩, st423⟩ := Jvm.LawKit.callS X0 hx (y := (⟨"com/example/remodel/remodel/ComponentCheckLengthPinLaw", "make", "(ICCCC)Ljava/lang/String;"⟩ : MethodName)) hown (mvT hZ (hw _ (List.mem_of_getElem? (i := 1) rfl))) (mvT hZ (hw _ (List.mem_of_getElem? (i := 2) rfl))) (mvT hZ (hw _ (List.mem_of_getElem? (i := 3) rfl))) (mvT hZ (hw _ (List.mem_of_getElem? (i := 4) rfl))) (by decide) (backOf (W := 0) (rmK2 l Z a0 hw [] c0 c1 c2 c3 zC h0 n0 O0 SAs SHi SLo SC hzC hc0 hc1 hc2 hc3) hZ (hw _ (List.mem_of_getElem? (i := 4) rfl)) (hw _ (List.mem_of_getElem? (i := 3) rfl)) (by decide) (by decide)) (g := (mkF m 45 #[.val (.int p1), .val (.int p2), .val (.int p3), .val (.int p4), .val (.int p5), .val (.int (2 : Int32)), .val (.int c0), .val (.int c1), .val (.int c2), .val (.int c3), .unset, .unset, .unset] [(.int c3), (.int c2), (.int c1), (.int c0), (.int (2 : Int32))])) rfl (by rw [hml]; rfl) (argsL := [(.int (2 : Int32)), (.int c0), (.int c1), (.int c2), (.int c3)]) (rest := []) (lenOf pd_0 rfl) rfl (by show 2 * 0 + _ ≤ _; exact Nat.le_of_eq rfl) (hb hby at_45) (fun _ _ => ⟨rfl, e0, (by decide : 0 + 4 ≤ _), (by decide : 0 + 20 ≤ _)⟩)
  dsimp only [Pt.U, Pt.locs, Pt.cells, Pt.slots] at X423 l423 y423 z423 st423 hQ423
  subst l423 y423 z423
  obtain ⟨b423, t423, kt423, vs423, cd423, N4232, rfl, Nq423, E423, z423, Eb423, Fv423, Fc423, At423, hz423⟩ := hQ423
  have N423 := Fr.app N0 Nq423
  have k424 : Rch p e below S0 T423 (mkF m 48 #[.val (.int p1), .val (.int p2), .val (.int p3), .val (.int p4), .val (.int p5), .val (.int (2 : Int32)), .val (.int c0), .val (.int c1), .val (.int c2), .val (.int c3), .unset, .unset, .unset] [(.ref b423)]) := fun t h => k422 t (st423 t h)
  have O425 := O0.ext E423
  have hL423 : (N4232 >>> (nar .byte cd423 &&& 31)) = (2 : Int32) := by
    rcases hz423 with ⟨q, e⟩ | ⟨q, e⟩ <;> rw [q, e] <;> decide
  have hq423 : ¬ (N4232 = 0) := by
    rcases hz423 with ⟨q, e⟩ | ⟨q, e⟩ <;> rw [e] <;> decide
  have k426 : Rch p e below S0 T423 (mkF m 56 #[.val (.int p1), .val (.int p2), .val (.int p3), .val (.int p4), .val (.int p5), .val (.int (2 : Int32)), .val (.int c0), .val (.int c1), .val (.int c2), .val (.int c3), .val (.ref b423), .unset, .unset] [(.int (p4 &&& (255 : Int32)))]) := fun t h => k424 t (by
      show Steps p.tables e below (T423.setTop (mkF m 48 #[.val (.int p1), .val (.int p2), .val (.int p3), .val (.int p4), .val (.int p5), .val (.int (2 : Int32)), .val (.int c0), .val (.int c1), .val (.int c2), .val (.int c3), .unset, .unset, .unset] [(.ref b423)])) _
      refine XS.astore X423.here hx rfl (hb hby at_48) rfl rfl (l' := #[.val (.int p1), .val (.int p2), .val (.int p3), .val (.int p4), .val (.int p5), .val (.int (2 : Int32)), .val (.int c0), .val (.int c1), .val (.int c2), .val (.int c3), .val (.ref b423), .unset, .unset]) rfl ?_
      show Steps p.tables e below (T423.setTop (mkF m 50 #[.val (.int p1), .val (.int p2), .val (.int p3), .val (.int p4), .val (.int p5), .val (.int (2 : Int32)), .val (.int c0), .val (.int c1), .val (.int c2), .val (.int c3), .val (.ref b423), .unset, .unset] [])) _
      refine XS.iloadN X423.here hx rfl (hb hby at_50) rfl ?_
      show Steps p.tables e below (T423.setTop (mkF m 51 #[.val (.int p1), .val (.int p2), .val (.int p3), .val (.int p4), .val (.int p5), .val (.int (2 : Int32)), .val (.int c0), .val (.int c1), .val (.int c2), .val (.int c3), .val (.ref b423), .unset, .unset] [(.int p4)])) _
      refine XS.sipush X423.here hx rfl (hb hby at_51) ?_
      show Steps p.tables e below (T423.setTop (mkF m 54 #[.val (.int p1), .val (.int p2), .val (.int p3), .val (.int p4), .val (.int p5), .val (.int (2 : Int32)), .val (.int c0), .val (.int c1), .val (.int c2), .val (.int c3), .val (.ref b423), .unset, .unset] [(.int (255 : Int32)), (.int p4)])) _
      refine XS.iand X423.here hx rfl (hb hby at_54) rfl ?_
      show Steps p.tables e below (T423.setTop (mkF m 55 #[.val (.int p1), .val (.int p2), .val (.int p3), .val (.int p4), .val (.int p5), .val (.int (2 : Int32)), .val (.int c0), .val (.int c1), .val (.int c2), .val (.int c3), .val (.ref b423), .unset, .unset] [(.int (p4 &&& (255 : Int32)))])) _
      refine XS.i2c X423.here hx rfl (hb hby at_55) rfl ?_
      rw [(own_nar (p4 &&& (255 : Int32)) (own_255 p4)).2]
      show Steps p.tables e below (T423.setTop (mkF m 56 #[.val (.int p1), .val (.int p2), .val (.int p3), .val (.int p4), .val (.int p5), .val (.int (2 : Int32)), .val (.int c0), .val (.int c1), .val (.int c2), .val (.int c3), .val (.ref b423), .unset, .unset] [(.int (p4 &&& (255 : Int32)))])) _
      exact h)
  obtain ⟨_, _, ⟨T427, L427, kk427, n427⟩, -, X427, ⟨Lc427, hQ427, l427, y427, z427⟩, st427⟩ := Jvm.LawKit.callS X423 hx (y := (⟨"java/lang/String", "valueOf", "(C)Ljava/lang/String;"⟩ : MethodName)) hown (mvT hZ (hw _ (List.mem_of_getElem? (i := 35) rfl))) (mvT hZ (hw _ (List.mem_of_getElem? (i := 36) rfl))) (mvT hZ (hw _ (List.mem_of_getElem? (i := 7) rfl))) (mvT hZ (hw _ (List.mem_of_getElem? (i := 37) rfl))) (by decide) (backOf (W := 0) (rmVO l Z a0 hw [] (p4 &&& (255 : Int32)) zC T423.heap n0 O425 SC hzC (own_255 p4).2) hZ (hw _ (List.mem_of_getElem? (i := 37) rfl)) (hw _ (List.mem_of_getElem? (i := 7) rfl)) (by decide) (by decide)) (g := (mkF m 56 #[.val (.int p1), .val (.int p2), .val (.int p3), .val (.int p4), .val (.int p5), .val (.int (2 : Int32)), .val (.int c0), .val (.int c1), .val (.int c2), .val (.int c3), .val (.ref b423), .unset, .unset] [(.int (p4 &&& (255 : Int32)))])) rfl (by rw [hml]; rfl) (argsL := [(.int (p4 &&& (255 : Int32)))]) (rest := []) (lenOf pd_7 rfl) rfl (by show 2 * 0 + _ ≤ _; exact Nat.le_of_eq rfl) (hb hby at_56) (fun _ _ => ⟨rfl, rfl, (by decide : 4 + 2 ≤ _), (by decide : 20 + 5 ≤ _)⟩)
  dsimp only [Pt.U, Pt.locs, Pt.cells, Pt.slots] at X427 l427 y427 z427 st427 hQ427
  subst l427 y427 z427
  obtain ⟨b427, rfl, Nq427, E427, z427, X427E⟩ := hQ427
  have N427 := Fr.app N423 Nq427
  have k428 : Rch p e below S0 T427 (mkF m 59 #[.val (.int p1), .val (.int p2), .val (.int p3), .val (.int p4), .val (.int p5), .val (.int (2 : Int32)), .val (.int c0), .val (.int c1), .val (.int c2), .val (.int c3), .val (.ref b423), .unset, .unset] [(.ref b427)]) := fun t h => k426 t (st427 t h)
  have O429 := O425.ext E427
  replace Eb423 := Eb423.ext E427
  replace Fv423 := Fv423.ext E427
  replace Fc423 := Fc423.ext E427
  replace At423 := At423.ext E427
  have k430 : Rch p e below S0 T427 (mkF m 65 #[.val (.int p1), .val (.int p2), .val (.int p3), .val (.int p4), .val (.int p5), .val (.int (2 : Int32)), .val (.int c0), .val (.int c1), .val (.int c2), .val (.int c3), .val (.ref b423), .val (.ref b427), .unset] [(.int p5), (.int (2 : Int32))]) := fun t h => k428 t (by
      show Steps p.tables e below (T427.setTop (mkF m 59 #[.val (.int p1), .val (.int p2), .val (.int p3), .val (.int p4), .val (.int p5), .val (.int (2 : Int32)), .val (.int c0), .val (.int c1), .val (.int c2), .val (.int c3), .val (.ref b423), .unset, .unset] [(.ref b427)])) _
      refine XS.astore X427.here hx rfl (hb hby at_59) rfl rfl (l' := #[.val (.int p1), .val (.int p2), .val (.int p3), .val (.int p4), .val (.int p5), .val (.int (2 : Int32)), .val (.int c0), .val (.int c1), .val (.int c2), .val (.int c3), .val (.ref b423), .val (.ref b427), .unset]) rfl ?_
      show Steps p.tables e below (T427.setTop (mkF m 61 #[.val (.int p1), .val (.int p2), .val (.int p3), .val (.int p4), .val (.int p5), .val (.int (2 : Int32)), .val (.int c0), .val (.int c1), .val (.int c2), .val (.int c3), .val (.ref b423), .val (.ref b427), .unset] [])) _
      refine XS.iload X427.here hx rfl (hb hby at_61) rfl ?_
      show Steps p.tables e below (T427.setTop (mkF m 63 #[.val (.int p1), .val (.int p2), .val (.int p3), .val (.int p4), .val (.int p5), .val (.int (2 : Int32)), .val (.int c0), .val (.int c1), .val (.int c2), .val (.int c3), .val (.ref b423), .val (.ref b427), .unset] [(.int (2 : Int32))])) _
      refine XS.iload X427.here hx rfl (hb hby at_63) rfl ?_
      show Steps p.tables e below (T427.setTop (mkF m 65 #[.val (.int p1), .val (.int p2), .val (.int p3), .val (.int p4), .val (.int p5), .val (.int (2 : Int32)), .val (.int c0), .val (.int c1), .val (.int c2), .val (.int c3), .val (.ref b423), .val (.ref b427), .unset] [(.int p5), (.int (2 : Int32))])) _
      exact h)
  obtain ⟨_, _, ⟨T431, L431, kk431, n431⟩, -, X431, ⟨Lc431, hQ431, l431, y431, z431⟩, st431⟩ := Jvm.LawKit.callS X427 hx (y := (⟨"java/lang/Math", "max", "(II)I"⟩ : MethodName)) hown (mvT hZ (hw _ (List.mem_of_getElem? (i := 49) rfl))) (mvT hZ (hw _ (List.mem_of_getElem? (i := 50) rfl))) (mvT hZ (hw _ (List.mem_of_getElem? (i := 51) rfl))) (mvT hZ (hw _ (List.mem_of_getElem? (i := 52) rfl))) (by decide) (backOf (W := 0) (rmX l Z a0 hw [] (2 : Int32) p5 mo T427.heap n0 O429 hmo) hZ (hw _ (List.mem_of_getElem? (i := 52) rfl)) (hw _ (List.mem_of_getElem? (i := 51) rfl)) (by decide) (by decide)) (g := (mkF m 65 #[.val (.int p1), .val (.int p2), .val (.int p3), .val (.int p4), .val (.int p5), .val (.int (2 : Int32)), .val (.int c0), .val (.int c1), .val (.int c2), .val (.int c3), .val (.ref b423), .val (.ref b427), .unset] [(.int p5), (.int (2 : Int32))])) rfl (by rw [hml]; rfl) (argsL := [(.int (2 : Int32)), (.int p5)]) (rest := []) (lenOf pd_11 rfl) rfl (by show 2 * 0 + _ ≤ _; exact Nat.le_of_eq rfl) (hb hby at_65) (fun _ _ => ⟨rfl, rfl, (by decide : 6 + 0 ≤ _), (by decide : 25 + 0 ≤ _)⟩)
  dsimp only [Pt.U, Pt.locs, Pt.cells, Pt.slots] at X431 l431 y431 z431 st431 hQ431
  subst l431 y431 z431
  obtain ⟨rfl, Nq431, hh431⟩ := hQ431
  have N431 := Fr.app N427 Nq431
  have k432 : Rch p e below S0 T431 (mkF m 68 #[.val (.int p1), .val (.int p2), .val (.int p3), .val (.int p4), .val (.int p5), .val (.int (2 : Int32)), .val (.int c0), .val (.int c1), .val (.int c2), .val (.int c3), .val (.ref b423), .val (.ref b427), .unset] [(.int mo)]) := fun t h => k430 t (st431 t h)
  have k433 : Rch p e below S0 T431 (mkF m 76 #[.val (.int p1), .val (.int p2), .val (.int p3), .val (.int p4), .val (.int p5), .val (.int (2 : Int32)), .val (.int c0), .val (.int c1), .val (.int c2), .val (.int c3), .val (.ref b423), .val (.ref b427), .val (.int mo)] [(.int mo), (.ref b427), (.ref b423)]) := fun t h => k432 t (by
      show Steps p.tables e below (T431.setTop (mkF m 68 #[.val (.int p1), .val (.int p2), .val (.int p3), .val (.int p4), .val (.int p5), .val (.int (2 : Int32)), .val (.int c0), .val (.int c1), .val (.int c2), .val (.int c3), .val (.ref b423), .val (.ref b427), .unset] [(.int mo)])) _
      refine XS.istore X431.here hx rfl (hb hby at_68) rfl (l' := #[.val (.int p1), .val (.int p2), .val (.int p3), .val (.int p4), .val (.int p5), .val (.int (2 : Int32)), .val (.int c0), .val (.int c1), .val (.int c2), .val (.int c3), .val (.ref b423), .val (.ref b427), .val (.int mo)]) rfl ?_
      show Steps p.tables e below (T431.setTop (mkF m 70 #[.val (.int p1), .val (.int p2), .val (.int p3), .val (.int p4), .val (.int p5), .val (.int (2 : Int32)), .val (.int c0), .val (.int c1), .val (.int c2), .val (.int c3), .val (.ref b423), .val (.ref b427), .val (.int mo)] [])) _
      refine XS.aload X431.here hx rfl (hb hby at_70) rfl rfl ?_
      show Steps p.tables e below (T431.setTop (mkF m 72 #[.val (.int p1), .val (.int p2), .val (.int p3), .val (.int p4), .val (.int p5), .val (.int (2 : Int32)), .val (.int c0), .val (.int c1), .val (.int c2), .val (.int c3), .val (.ref b423), .val (.ref b427), .val (.int mo)] [(.ref b423)])) _
      refine XS.aload X431.here hx rfl (hb hby at_72) rfl rfl ?_
      show Steps p.tables e below (T431.setTop (mkF m 74 #[.val (.int p1), .val (.int p2), .val (.int p3), .val (.int p4), .val (.int p5), .val (.int (2 : Int32)), .val (.int c0), .val (.int c1), .val (.int c2), .val (.int c3), .val (.ref b423), .val (.ref b427), .val (.int mo)] [(.ref b427), (.ref b423)])) _
      refine XS.iload X431.here hx rfl (hb hby at_74) rfl ?_
      show Steps p.tables e below (T431.setTop (mkF m 76 #[.val (.int p1), .val (.int p2), .val (.int p3), .val (.int p4), .val (.int p5), .val (.int (2 : Int32)), .val (.int c0), .val (.int c1), .val (.int c2), .val (.int c3), .val (.ref b423), .val (.ref b427), .val (.int mo)] [(.int mo), (.ref b427), (.ref b423)])) _
      exact h)
  obtain ⟨_, _, ⟨T434, L434, kk434, n434⟩, -, X434, ⟨Lc434, hQ434, l434, y434, z434⟩, st434⟩ := Jvm.LawKit.callS X431 hx (y := (⟨"com/example/remodel/remodel/Component", "checkLength", "(Ljava/lang/String;Ljava/lang/String;I)V"⟩ : MethodName)) hown (mvT hZ (hw _ (List.mem_of_getElem? (i := 53) rfl))) (mvT hZ (hw _ (List.mem_of_getElem? (i := 54) rfl))) (mvT hZ (hw _ (List.mem_of_getElem? (i := 55) rfl))) (mvT hZ (hw _ (List.mem_of_getElem? (i := 56) rfl))) (by decide) (backOf (W := 0) (rmH l Z a0 hw [] b423 b427 mo t423 kt423 N4232 vs423 cd423 zC (2 : Int32) T427.heap n0 O429 SC hzC Eb423 Fv423 Fc423 At423 hL423 hq423 hm) hZ (hw _ (List.mem_of_getElem? (i := 56) rfl)) (hw _ (List.mem_of_getElem? (i := 55) rfl)) (by decide) (by decide)) (g := (mkF m 76 #[.val (.int p1), .val (.int p2), .val (.int p3), .val (.int p4), .val (.int p5), .val (.int (2 : Int32)), .val (.int c0), .val (.int c1), .val (.int c2), .val (.int c3), .val (.ref b423), .val (.ref b427), .val (.int mo)] [(.int mo), (.ref b427), (.ref b423)])) rfl (by rw [hml]; rfl) (argsL := [(.ref b423), (.ref b427), (.int mo)]) (rest := []) (lenOf pd_12 rfl) rfl (by show 2 * 0 + _ ≤ _; exact Nat.le_of_eq rfl) (hb hby at_76) (fun _ _ => ⟨rfl, hh431, (by decide : 6 + 0 ≤ _), (by decide : 25 + 0 ≤ _)⟩)
  dsimp only [Pt.U, Pt.locs, Pt.cells, Pt.slots] at X434 l434 y434 z434 st434 hQ434
  subst l434 y434 z434
  obtain ⟨rfl, Nq434, hh434⟩ := hQ434
  have N434 := Fr.app N431 Nq434
  have k435 : Rch p e below S0 T434 (mkF m 79 #[.val (.int p1), .val (.int p2), .val (.int p3), .val (.int p4), .val (.int p5), .val (.int (2 : Int32)), .val (.int c0), .val (.int c1), .val (.int c2), .val (.int c3), .val (.ref b423), .val (.ref b427), .val (.int mo)] []) := fun t h => k433 t (st434 t h)
  have k436 : Rch p e below S0 T434 (mkF m 81 #[.val (.int p1), .val (.int p2), .val (.int p3), .val (.int p4), .val (.int p5), .val (.int (2 : Int32)), .val (.int c0), .val (.int c1), .val (.int c2), .val (.int c3), .val (.ref b423), .val (.ref b427), .val (.int mo)] [(.ref b423)]) := fun t h => k435 t (by
      show Steps p.tables e below (T434.setTop (mkF m 79 #[.val (.int p1), .val (.int p2), .val (.int p3), .val (.int p4), .val (.int p5), .val (.int (2 : Int32)), .val (.int c0), .val (.int c1), .val (.int c2), .val (.int c3), .val (.ref b423), .val (.ref b427), .val (.int mo)] [])) _
      refine XS.aload X434.here hx rfl (hb hby at_79) rfl rfl ?_
      show Steps p.tables e below (T434.setTop (mkF m 81 #[.val (.int p1), .val (.int p2), .val (.int p3), .val (.int p4), .val (.int p5), .val (.int (2 : Int32)), .val (.int c0), .val (.int c1), .val (.int c2), .val (.int c3), .val (.ref b423), .val (.ref b427), .val (.int mo)] [(.ref b423)])) _
      exact h)
  obtain ⟨cq437, kq437, q437a, q437b, q437c⟩ := isOf hZ hh434 Eb423
  obtain ⟨_, _, ⟨T437, L437, kk437, n437⟩, -, X437, ⟨Lc437, hQ437, l437, y437, z437⟩, st437⟩ := X434.virtualBack hx (y := (⟨"java/lang/String", "length", "()I"⟩ : MethodName)) (z := (⟨"java/lang/String", "length", "()I"⟩ : MethodName)) hown (mvT hZ (hw _ (List.mem_of_getElem? (i := 72) rfl))) (mvT hZ (hw _ (List.mem_of_getElem? (i := 63) rfl))) (notFace_of_selects (args := #[]) (mvT hZ (hw _ (List.mem_of_getElem? (i := 65) rfl)))) (mvT hZ (hw _ (List.mem_of_getElem? (i := 65) rfl))) (mvT hZ (hw _ (List.mem_of_getElem? (i := 64) rfl))) (by decide) (backOf (W := 0) (rmLE l Z a0 hw [] b423 t423 kt423 N4232 vs423 cd423 zC (2 : Int32) T427.heap n0 O429 SC hzC Eb423 Fv423 Fc423 At423 hL423) hZ (hw _ (List.mem_of_getElem? (i := 66) rfl)) (hw _ (List.mem_of_getElem? (i := 7) rfl)) (by decide) (by decide)) q437a q437c (g := (mkF m 81 #[.val (.int p1), .val (.int p2), .val (.int p3), .val (.int p4), .val (.int p5), .val (.int (2 : Int32)), .val (.int c0), .val (.int c1), .val (.int c2), .val (.int c3), .val (.ref b423), .val (.ref b427), .val (.int mo)] [(.ref b423)])) rfl (by rw [hml]; rfl) (Steps.refl _) (argsL := []) (rest := []) (lenOf pd_14 rfl) rfl (by show 2 * 0 + _ ≤ _; exact Nat.le_of_eq rfl) (hb hby at_81) (fun _ _ => ⟨rfl, hh434, (by decide : 6 + 0 ≤ _), (by decide : 25 + 0 ≤ _)⟩)
  dsimp only [Pt.U, Pt.locs, Pt.cells, Pt.slots] at X437 l437 y437 z437 st437 hQ437
  subst l437 y437 z437
  obtain ⟨rfl, Nq437, hh437⟩ := hQ437
  have N437 := Fr.app N434 Nq437
  have k438 : Rch p e below S0 T437 (mkF m 84 #[.val (.int p1), .val (.int p2), .val (.int p3), .val (.int p4), .val (.int p5), .val (.int (2 : Int32)), .val (.int c0), .val (.int c1), .val (.int c2), .val (.int c3), .val (.ref b423), .val (.ref b427), .val (.int mo)] [(.int (2 : Int32))]) := fun t h => k436 t (st437.trans h)
  have k439 : Rch p e below S0 T437 (mkF m 101 #[.val (.int p1), .val (.int p2), .val (.int p3), .val (.int p4), .val (.int p5), .val (.int (2 : Int32)), .val (.int c0), .val (.int c1), .val (.int c2), .val (.int c3), .val (.ref b423), .val (.ref b427), .val (.int mo)] [(.int (1 : Int32))]) := fun t h => k438 t (by
      show Steps p.tables e below (T437.setTop (mkF m 84 #[.val (.int p1), .val (.int p2), .val (.int p3), .val (.int p4), .val (.int p5), .val (.int (2 : Int32)), .val (.int c0), .val (.int c1), .val (.int c2), .val (.int c3), .val (.ref b423), .val (.ref b427), .val (.int mo)] [(.int (2 : Int32))])) _
      refine XS.iload X437.here hx rfl (hb hby at_84) rfl ?_
      show Steps p.tables e below (T437.setTop (mkF m 86 #[.val (.int p1), .val (.int p2), .val (.int p3), .val (.int p4), .val (.int p5), .val (.int (2 : Int32)), .val (.int c0), .val (.int c1), .val (.int c2), .val (.int c3), .val (.ref b423), .val (.ref b427), .val (.int mo)] [(.int (2 : Int32)), (.int (2 : Int32))])) _
      refine XS.icmpNo X437.here hx rfl (hb hby at_86) rfl (teq (by decide : (2 : Int32) = (2 : Int32))).2 ?_
      show Steps p.tables e below (T437.setTop (mkF m 89 #[.val (.int p1), .val (.int p2), .val (.int p3), .val (.int p4), .val (.int p5), .val (.int (2 : Int32)), .val (.int c0), .val (.int c1), .val (.int c2), .val (.int c3), .val (.ref b423), .val (.ref b427), .val (.int mo)] [])) _
      refine XS.iload X437.here hx rfl (hb hby at_89) rfl ?_
      show Steps p.tables e below (T437.setTop (mkF m 91 #[.val (.int p1), .val (.int p2), .val (.int p3), .val (.int p4), .val (.int p5), .val (.int (2 : Int32)), .val (.int c0), .val (.int c1), .val (.int c2), .val (.int c3), .val (.ref b423), .val (.ref b427), .val (.int mo)] [(.int mo)])) _
      refine XS.iload X437.here hx rfl (hb hby at_91) rfl ?_
      show Steps p.tables e below (T437.setTop (mkF m 93 #[.val (.int p1), .val (.int p2), .val (.int p3), .val (.int p4), .val (.int p5), .val (.int (2 : Int32)), .val (.int c0), .val (.int c1), .val (.int c2), .val (.int c3), .val (.ref b423), .val (.ref b427), .val (.int mo)] [(.int (2 : Int32)), (.int mo)])) _
      refine XS.icmpNo X437.here hx rfl (hb hby at_93) rfl (flt (hm : ¬ (mo < (2 : Int32)))).1 ?_
      show Steps p.tables e below (T437.setTop (mkF m 96 #[.val (.int p1), .val (.int p2), .val (.int p3), .val (.int p4), .val (.int p5), .val (.int (2 : Int32)), .val (.int c0), .val (.int c1), .val (.int c2), .val (.int c3), .val (.ref b423), .val (.ref b427), .val (.int mo)] [])) _
      refine XS.iconst X437.here hx rfl (hb hby at_96) ?_
      show Steps p.tables e below (T437.setTop (mkF m 97 #[.val (.int p1), .val (.int p2), .val (.int p3), .val (.int p4), .val (.int p5), .val (.int (2 : Int32)), .val (.int c0), .val (.int c1), .val (.int c2), .val (.int c3), .val (.ref b423), .val (.ref b427), .val (.int mo)] [(.int (1 : Int32))])) _
      refine XS.goto X437.here hx rfl (pc0 := 97) (pc' := 101) rfl (hb hby at_97) (by decide) (by decide) ?_
      show Steps p.tables e below (T437.setTop (mkF m 101 #[.val (.int p1), .val (.int p2), .val (.int p3), .val (.int p4), .val (.int p5), .val (.int (2 : Int32)), .val (.int c0), .val (.int c1), .val (.int c2), .val (.int c3), .val (.ref b423), .val (.ref b427), .val (.int mo)] [(.int (1 : Int32))])) _
      exact h)
  obtain ⟨fs, hr, hrun, hended, hW, hsame⟩ := X437.leave (v := (some (.int (1 : Int32)))) (fun h => by rw [Bd.returns] at h; cases h)
  refine ⟨_, _, ?_, hrun, hended, _, _, rfl, ?_, ⟨_, rfl⟩, hW, hsame.mono (by decide) (by decide)⟩
  · rw [← hS0]
    refine k439 _ ?_
    show Steps p.tables e below (T437.setTop (mkF m 101 #[.val (.int p1), .val (.int p2), .val (.int p3), .val (.int p4), .val (.int p5), .val (.int (2 : Int32)), .val (.int c0), .val (.int c1), .val (.int c2), .val (.int c3), .val (.ref b423), .val (.ref b427), .val (.int mo)] [(.int (1 : Int32))])) _
    exact retN X437 hx (t := .boolean) Bd.returns (by simp) (hb hby at_101) hr
  · show Q_rm0_2 Z  h0 n0 _ T437.heap _
    rw [hh437]
    exact ⟨rfl, N437⟩
def Q_rm0_3 (Z : State)  (h0 : Heap) (n0 : Nat) (v : Option Value) (h : Heap) (L : List Loc) : Prop := v = some (.int (1 : Int32)) ∧ Fr n0 L
set_option maxRecDepth 65536 in
set_option maxHeartbeats 40000000 in
theorem rm0_3 (l : Launch) (Z : State) (a0 : Array Value) (hw : ∀ d ∈ tables_1, d.before a0 Z = true) (ws : List Jvm.Cond) (p1 : Int32) (p2 : Int32) (p3 : Int32) (p4 : Int32) (p5 : Int32) (c0 : Int32) (c1 : Int32) (c2 : Int32) (c3 : Int32) (zC : Int32) (mo : Int32) (h0 : Heap) (n0 : Nat) (O0 : Old Z n0 h0) (SAs : Sta Z Z.heap "java/lang/StringUTF16" "$assertionsDisabled" "Z" (.int (1 : Int32))) (SHi : Sta Z Z.heap "java/lang/StringUTF16" "HI_BYTE_SHIFT" "I" (.int (0 : Int32))) (SLo : Sta Z Z.heap "java/lang/StringUTF16" "LO_BYTE_SHIFT" "I" (.int (8 : Int32))) (SC : Sta Z Z.heap "java/lang/String" "COMPACT_STRINGS" "Z" (.int zC)) (hzC : ¬ zC = 0) (hx0 : ((p2 &&& (65535 : Int32)).toUInt32.toUInt16.toUInt32.toInt32) = c0) (hx1 : (((p2.toUInt32 >>> ((16 : Int32) &&& 31).toUInt32).toInt32).toUInt32.toUInt16.toUInt32.toInt32) = c1) (hx2 : ((p3 &&& (65535 : Int32)).toUInt32.toUInt16.toUInt32.toInt32) = c2) (hx3 : (((p3.toUInt32 >>> ((16 : Int32) &&& 31).toUInt32).toInt32).toUInt32.toUInt16.toUInt32.toInt32) = c3) (hc0 : ¬ c0 < 0 ∧ ¬ (65535 : Int32) < c0) (hc1 : ¬ c1 < 0 ∧ ¬ (65535 : Int32) < c1) (hc2 : ¬ c2 < 0 ∧ ¬ (65535 : Int32) < c2) (hc3 : ¬ c3 < 0 ∧ ¬ (65535 : Int32) < c3) (hk0 : ((1 : Int32) + (p1 &&& (3 : Int32))) = (3 : Int32)) (hmo : ((3 : Int32) < p5 ∧ p5 = mo) ∨ (¬ (3 : Int32) < p5 ∧ (3 : Int32) = mo)) :
    MetFree l x (head1 (Jvm.Cond.code x code maxLocals ret :: ws) room_1) (fun a U => a = #[(.int p1), (.int p2), (.int p3), (.int p4), (.int p5)] ∧ Z.Warmed39 U.vm ∧ U.heap = h0) (fun _ _ _ _ _ => True) (fun _ U o U' => ∃ v L, o = .returned v ∧ Q_rm0_3 Z  h0 n0 v U'.heap L ∧ FrameEnd U o U' L room_1.cells room_1.slots) := by
  refine MetFree.of_bodySF (plainFor_of_name pn_ComponentCheckLengthPinLaw) hisR ?_
  intro p e s m args below meth c s₁ Bd hml0 hP hK
  obtain ⟨rfl, hZ, hh⟩ := hP
  have hx := Bd.exec
  have hby := Bd.bytes
  have hml : c.maxLocals = 13 := hml0
  have hown : s.vm.findClass "com/example/remodel/remodel/ComponentCheckLengthPinLaw" = some m.cls := findClass_of_methodNamed Bd.named
  have hnm := (name_of_methodNamed Bd.named Bd.method).1
  have X0 : Stand p l e room_1 s m #[(.int p1), (.int p2), (.int p3), (.int p4), (.int p5)] below meth c s₁ [] 0 0 := Stand.of_body Bd
  have e0 : s₁.heap = h0 := by rw [← hh, Bd.state]; rfl
  have N0 := Fr.nil n0
  obtain ⟨S0, hS0⟩ : ∃ z, z = s₁.setTop (entryFrame m #[(.int p1), (.int p2), (.int p3), (.int p4), (.int p5)] maxLocals) := ⟨_, rfl⟩
  have k0 : Rch p e below S0 s₁ (mkF m 0 #[.val (.int p1), .val (.int p2), .val (.int p3), .val (.int p4), .val (.int p5), .unset, .unset, .unset, .unset, .unset, .unset, .unset, .unset] []) := fun t kq => hS0 ▸ castTop (ef_0 m p1 p2 p3 p4 p5) kq
  have hm : ¬ mo < (3 : Int32) := by
    rcases hmo with ⟨q, e⟩ | ⟨q, e⟩
    · rw [← e]; rw [Int32.lt_iff_toInt_lt] at q ⊢; omega
    · rw [← e]; decide
  have k440 : Rch p e below S0 s₁ (mkF m 45 #[.val (.int p1), .val (.int p2), .val (.int p3), .val (.int p4), .val (.int p5), .val (.int (3 : Int32)), .val (.int c0), .val (.int c1), .val (.int c2), .val (.int c3), .unset, .unset, .unset] [(.int c3), (.int c2), (.int c1), (.int c0), (.int (3 : Int32))]) := fun t h => k0 t (by
      show Steps p.tables e below (s₁.setTop (mkF m 0 #[.val (.int p1), .val (.int p2), .val (.int p3), .val (.int p4), .val (.int p5), .unset, .unset, .unset, .unset, .unset, .unset, .unset, .unset] [])) _
      refine XS.iconst X0.here hx rfl (hb hby at_0) ?_
      show Steps p.tables e below (s₁.setTop (mkF m 1 #[.val (.int p1), .val (.int p2), .val (.int p3), .val (.int p4), .val (.int p5), .unset, .unset, .unset, .unset, .unset, .unset, .unset, .unset] [(.int (1 : Int32))])) _
      refine XS.iloadN X0.here hx rfl (hb hby at_1) rfl ?_
      show Steps p.tables e below (s₁.setTop (mkF m 2 #[.val (.int p1), .val (.int p2), .val (.int p3), .val (.int p4), .val (.int p5), .unset, .unset, .unset, .unset, .unset, .unset, .unset, .unset] [(.int p1), (.int (1 : Int32))])) _
      refine XS.iconst X0.here hx rfl (hb hby at_2) ?_
      show Steps p.tables e below (s₁.setTop (mkF m 3 #[.val (.int p1), .val (.int p2), .val (.int p3), .val (.int p4), .val (.int p5), .unset, .unset, .unset, .unset, .unset, .unset, .unset, .unset] [(.int (3 : Int32)), (.int p1), (.int (1 : Int32))])) _
      refine XS.iand X0.here hx rfl (hb hby at_3) rfl ?_
      show Steps p.tables e below (s₁.setTop (mkF m 4 #[.val (.int p1), .val (.int p2), .val (.int p3), .val (.int p4), .val (.int p5), .unset, .unset, .unset, .unset, .unset, .unset, .unset, .unset] [(.int (p1 &&& (3 : Int32))), (.int (1 : Int32))])) _
      refine XS.iadd X0.here hx rfl (hb hby at_4) rfl ?_
      rw [hk0]
      show Steps p.tables e below (s₁.setTop (mkF m 5 #[.val (.int p1), .val (.int p2), .val (.int p3), .val (.int p4), .val (.int p5), .unset, .unset, .unset, .unset, .unset, .unset, .unset, .unset] [(.int (3 : Int32))])) _
      refine XS.istore X0.here hx rfl (hb hby at_5) rfl (l' := #[.val (.int p1), .val (.int p2), .val (.int p3), .val (.int p4), .val (.int p5), .val (.int (3 : Int32)), .unset, .unset, .unset, .unset, .unset, .unset, .unset]) rfl ?_
      show Steps p.tables e below (s₁.setTop (mkF m 7 #[.val (.int p1), .val (.int p2), .val (.int p3), .val (.int p4), .val (.int p5), .val (.int (3 : Int32)), .unset, .unset, .unset, .unset, .unset, .unset, .unset] [])) _
      refine XS.iloadN X0.here hx rfl (hb hby at_7) rfl ?_
      show Steps p.tables e below (s₁.setTop (mkF m 8 #[.val (.int p1), .val (.int p2), .val (.int p3), .val (.int p4), .val (.int p5), .val (.int (3 : Int32)), .unset, .unset, .unset, .unset, .unset, .unset, .unset] [(.int p2)])) _
      refine X0.ldcInt hx hown (mvT hZ (hw _ (List.mem_of_getElem? (i := 0) rfl))) (g := (mkF m 8 #[.val (.int p1), .val (.int p2), .val (.int p3), .val (.int p4), .val (.int p5), .val (.int (3 : Int32)), .unset, .unset, .unset, .unset, .unset, .unset, .unset] [(.int p2)])) rfl (hb hby at_8) _ ?_
      show Steps p.tables e below (s₁.setTop (mkF m 10 #[.val (.int p1), .val (.int p2), .val (.int p3), .val (.int p4), .val (.int p5), .val (.int (3 : Int32)), .unset, .unset, .unset, .unset, .unset, .unset, .unset] [(.int (65535 : Int32)), (.int p2)])) _
      refine XS.iand X0.here hx rfl (hb hby at_10) rfl ?_
      show Steps p.tables e below (s₁.setTop (mkF m 11 #[.val (.int p1), .val (.int p2), .val (.int p3), .val (.int p4), .val (.int p5), .val (.int (3 : Int32)), .unset, .unset, .unset, .unset, .unset, .unset, .unset] [(.int (p2 &&& (65535 : Int32)))])) _
      refine XS.i2c X0.here hx rfl (hb hby at_11) rfl ?_
      rw [hx0]
      show Steps p.tables e below (s₁.setTop (mkF m 12 #[.val (.int p1), .val (.int p2), .val (.int p3), .val (.int p4), .val (.int p5), .val (.int (3 : Int32)), .unset, .unset, .unset, .unset, .unset, .unset, .unset] [(.int c0)])) _
      refine XS.istore X0.here hx rfl (hb hby at_12) rfl (l' := #[.val (.int p1), .val (.int p2), .val (.int p3), .val (.int p4), .val (.int p5), .val (.int (3 : Int32)), .val (.int c0), .unset, .unset, .unset, .unset, .unset, .unset]) rfl ?_
      show Steps p.tables e below (s₁.setTop (mkF m 14 #[.val (.int p1), .val (.int p2), .val (.int p3), .val (.int p4), .val (.int p5), .val (.int (3 : Int32)), .val (.int c0), .unset, .unset, .unset, .unset, .unset, .unset] [])) _
      refine XS.iloadN X0.here hx rfl (hb hby at_14) rfl ?_
      show Steps p.tables e below (s₁.setTop (mkF m 15 #[.val (.int p1), .val (.int p2), .val (.int p3), .val (.int p4), .val (.int p5), .val (.int (3 : Int32)), .val (.int c0), .unset, .unset, .unset, .unset, .unset, .unset] [(.int p2)])) _
      refine XS.bipush X0.here hx rfl (hb hby at_15) ?_
      show Steps p.tables e below (s₁.setTop (mkF m 17 #[.val (.int p1), .val (.int p2), .val (.int p3), .val (.int p4), .val (.int p5), .val (.int (3 : Int32)), .val (.int c0), .unset, .unset, .unset, .unset, .unset, .unset] [(.int (16 : Int32)), (.int p2)])) _
      refine XS.iushr X0.here hx rfl (hb hby at_17) rfl ?_
      show Steps p.tables e below (s₁.setTop (mkF m 18 #[.val (.int p1), .val (.int p2), .val (.int p3), .val (.int p4), .val (.int p5), .val (.int (3 : Int32)), .val (.int c0), .unset, .unset, .unset, .unset, .unset, .unset] [(.int ((p2.toUInt32 >>> ((16 : Int32) &&& 31).toUInt32).toInt32))])) _
      refine XS.i2c X0.here hx rfl (hb hby at_18) rfl ?_
      rw [hx1]
      show Steps p.tables e below (s₁.setTop (mkF m 19 #[.val (.int p1), .val (.int p2), .val (.int p3), .val (.int p4), .val (.int p5), .val (.int (3 : Int32)), .val (.int c0), .unset, .unset, .unset, .unset, .unset, .unset] [(.int c1)])) _
      refine XS.istore X0.here hx rfl (hb hby at_19) rfl (l' := #[.val (.int p1), .val (.int p2), .val (.int p3), .val (.int p4), .val (.int p5), .val (.int (3 : Int32)), .val (.int c0), .val (.int c1), .unset, .unset, .unset, .unset, .unset]) rfl ?_
      show Steps p.tables e below (s₁.setTop (mkF m 21 #[.val (.int p1), .val (.int p2), .val (.int p3), .val (.int p4), .val (.int p5), .val (.int (3 : Int32)), .val (.int c0), .val (.int c1), .unset, .unset, .unset, .unset, .unset] [])) _
      refine XS.iloadN X0.here hx rfl (hb hby at_21) rfl ?_
      show Steps p.tables e below (s₁.setTop (mkF m 22 #[.val (.int p1), .val (.int p2), .val (.int p3), .val (.int p4), .val (.int p5), .val (.int (3 : Int32)), .val (.int c0), .val (.int c1), .unset, .unset, .unset, .unset, .unset] [(.int p3)])) _
      refine X0.ldcInt hx hown (mvT hZ (hw _ (List.mem_of_getElem? (i := 0) rfl))) (g := (mkF m 22 #[.val (.int p1), .val (.int p2), .val (.int p3), .val (.int p4), .val (.int p5), .val (.int (3 : Int32)), .val (.int c0), .val (.int c1), .unset, .unset, .unset, .unset, .unset] [(.int p3)])) rfl (hb hby at_22) _ ?_
      show Steps p.tables e below (s₁.setTop (mkF m 24 #[.val (.int p1), .val (.int p2), .val (.int p3), .val (.int p4), .val (.int p5), .val (.int (3 : Int32)), .val (.int c0), .val (.int c1), .unset, .unset, .unset, .unset, .unset] [(.int (65535 : Int32)), (.int p3)])) _
      refine XS.iand X0.here hx rfl (hb hby at_24) rfl ?_
      show Steps p.tables e below (s₁.setTop (mkF m 25 #[.val (.int p1), .val (.int p2), .val (.int p3), .val (.int p4), .val (.int p5), .val (.int (3 : Int32)), .val (.int c0), .val (.int c1), .unset, .unset, .unset, .unset, .unset] [(.int (p3 &&& (65535 : Int32)))])) _
      refine XS.i2c X0.here hx rfl (hb hby at_25) rfl ?_
      rw [hx2]
      show Steps p.tables e below (s₁.setTop (mkF m 26 #[.val (.int p1), .val (.int p2), .val (.int p3), .val (.int p4), .val (.int p5), .val (.int (3 : Int32)), .val (.int c0), .val (.int c1), .unset, .unset, .unset, .unset, .unset] [(.int c2)])) _
      refine XS.istore X0.here hx rfl (hb hby at_26) rfl (l' := #[.val (.int p1), .val (.int p2), .val (.int p3), .val (.int p4), .val (.int p5), .val (.int (3 : Int32)), .val (.int c0), .val (.int c1), .val (.int c2), .unset, .unset, .unset, .unset]) rfl ?_
      show Steps p.tables e below (s₁.setTop (mkF m 28 #[.val (.int p1), .val (.int p2), .val (.int p3), .val (.int p4), .val (.int p5), .val (.int (3 : Int32)), .val (.int c0), .val (.int c1), .val (.int c2), .unset, .unset, .unset, .unset] [])) _
      refine XS.iloadN X0.here hx rfl (hb hby at_28) rfl ?_
      show Steps p.tables e below (s₁.setTop (mkF m 29 #[.val (.int p1), .val (.int p2), .val (.int p3), .val (.int p4), .val (.int p5), .val (.int (3 : Int32)), .val (.int c0), .val (.int c1), .val (.int c2), .unset, .unset, .unset, .unset] [(.int p3)])) _
      refine XS.bipush X0.here hx rfl (hb hby at_29) ?_
      show Steps p.tables e below (s₁.setTop (mkF m 31 #[.val (.int p1), .val (.int p2), .val (.int p3), .val (.int p4), .val (.int p5), .val (.int (3 : Int32)), .val (.int c0), .val (.int c1), .val (.int c2), .unset, .unset, .unset, .unset] [(.int (16 : Int32)), (.int p3)])) _
      refine XS.iushr X0.here hx rfl (hb hby at_31) rfl ?_
      show Steps p.tables e below (s₁.setTop (mkF m 32 #[.val (.int p1), .val (.int p2), .val (.int p3), .val (.int p4), .val (.int p5), .val (.int (3 : Int32)), .val (.int c0), .val (.int c1), .val (.int c2), .unset, .unset, .unset, .unset] [(.int ((p3.toUInt32 >>> ((16 : Int32) &&& 31).toUInt32).toInt32))])) _
      refine XS.i2c X0.here hx rfl (hb hby at_32) rfl ?_
      rw [hx3]
      show Steps p.tables e below (s₁.setTop (mkF m 33 #[.val (.int p1), .val (.int p2), .val (.int p3), .val (.int p4), .val (.int p5), .val (.int (3 : Int32)), .val (.int c0), .val (.int c1), .val (.int c2), .unset, .unset, .unset, .unset] [(.int c3)])) _
      refine XS.istore X0.here hx rfl (hb hby at_33) rfl (l' := #[.val (.int p1), .val (.int p2), .val (.int p3), .val (.int p4), .val (.int p5), .val (.int (3 : Int32)), .val (.int c0), .val (.int c1), .val (.int c2), .val (.int c3), .unset, .unset, .unset]) rfl ?_
      show Steps p.tables e below (s₁.setTop (mkF m 35 #[.val (.int p1), .val (.int p2), .val (.int p3), .val (.int p4), .val (.int p5), .val (.int (3 : Int32)), .val (.int c0), .val (.int c1), .val (.int c2), .val (.int c3), .unset, .unset, .unset] [])) _
      refine XS.iload X0.here hx rfl (hb hby at_35) rfl ?_
      show Steps p.tables e below (s₁.setTop (mkF m 37 #[.val (.int p1), .val (.int p2), .val (.int p3), .val (.int p4), .val (.int p5), .val (.int (3 : Int32)), .val (.int c0), .val (.int c1), .val (.int c2), .val (.int c3), .unset, .unset, .unset] [(.int (3 : Int32))])) _
      refine XS.iload X0.here hx rfl (hb hby at_37) rfl ?_
      show Steps p.tables e below (s₁.setTop (mkF m 39 #[.val (.int p1), .val (.int p2), .val (.int p3), .val (.int p4), .val (.int p5), .val (.int (3 : Int32)), .val (.int c0), .val (.int c1), .val (.int c2), .val (.int c3), .unset, .unset, .unset] [(.int c0), (.int (3 : Int32))])) _
      refine XS.iload X0.here hx rfl (hb hby at_39) rfl ?_
      show Steps p.tables e below (s₁.setTop (mkF m 41 #[.val (.int p1), .val (.int p2), .val (.int p3), .val (.int p4), .val (.int p5), .val (.int (3 : Int32)), .val (.int c0), .val (.int c1), .val (.int c2), .val (.int c3), .unset, .unset, .unset] [(.int c1), (.int c0), (.int (3 : Int32))])) _
      refine XS.iload X0.here hx rfl (hb hby at_41) rfl ?_
      show Steps p.tables e below (s₁.setTop (mkF m 43 #[.val (.int p1), .val (.int p2), .val (.int p3), .val (.int p4), .val (.int p5), .val (.int (3 : Int32)), .val (.int c0), .val (.int c1), .val (.int c2), .val (.int c3), .unset, .unset, .unset] [(.int c2), (.int c1), (.int c0), (.int (3 : Int32))])) _
      refine XS.iload X0.here hx rfl (hb hby at_43) rfl ?_
      show Steps p.tables e below (s₁.setTop (mkF m 45 #[.val (.int p1), .val (.int p2), .val (.int p3), .val (.int p4), .val (.int p5), .val (.int (3 : Int32)), .val (.int c0), .val (.int c1), .val (.int c2), .val (.int c3), .unset, .unset, .unset] [(.int c3), (.int c2), (.int c1), (.int c0), (.int (3 : Int32))])) _
      exact h)
  obtain ⟨_, _, ⟨T441, L441, kk441, n441⟩, -, X441, ⟨Lc441, hQ441, l441, y441, z441⟩, st441⟩ := Jvm.LawKit.callS X0 hx (y := (⟨"com/example/remodel/remodel/ComponentCheckLengthPinLaw", "make", "(ICCCC)Ljava/lang/String;"⟩ : MethodName)) hown (mvT hZ (hw _ (List.mem_of_getElem? (i := 1) rfl))) (mvT hZ (hw _ (List.mem_of_getElem? (i := 2) rfl))) (mvT hZ (hw _ (List.mem_of_getElem? (i := 3) rfl))) (mvT hZ (hw _ (List.mem_of_getElem? (i := 4) rfl))) (by decide) (backOf (W := 0) (rmK3 l Z a0 hw [] c0 c1 c2 c3 zC h0 n0 O0 SAs SHi SLo SC hzC hc0 hc1 hc2 hc3) hZ (hw _ (List.mem_of_getElem? (i := 4) rfl)) (hw _ (List.mem_of_getElem? (i := 3) rfl)) (by decide) (by decide)) (g := (mkF m 45 #[.val (.int p1), .val (.int p2), .val (.int p3), .val (.int p4), .val (.int p5), .val (.int (3 : Int32)), .val (.int c0), .val (.int c1), .val (.int c2), .val (.int c3), .unset, .unset, .unset] [(.int c3), (.int c2), (.int c1), (.int c0), (.int (3 : Int32))])) rfl (by rw [hml]; rfl) (argsL := [(.int (3 : Int32)), (.int c0), (.int c1), (.int c2), (.int c3)]) (rest := []) (lenOf pd_0 rfl) rfl (by show 2 * 0 + _ ≤ _; exact Nat.le_of_eq rfl) (hb hby at_45) (fun _ _ => ⟨rfl, e0, (by decide : 0 + 4 ≤ _), (by decide : 0 + 20 ≤ _)⟩)
  dsimp only [Pt.U, Pt.locs, Pt.cells, Pt.slots] at X441 l441 y441 z441 st441 hQ441
  subst l441 y441 z441
  obtain ⟨b441, t441, kt441, vs441, cd441, N4412, rfl, Nq441, E441, z441, Eb441, Fv441, Fc441, At441, hz441⟩ := hQ441
  have N441 := Fr.app N0 Nq441
  have k442 : Rch p e below S0 T441 (mkF m 48 #[.val (.int p1), .val (.int p2), .val (.int p3), .val (.int p4), .val (.int p5), .val (.int (3 : Int32)), .val (.int c0), .val (.int c1), .val (.int c2), .val (.int c3), .unset, .unset, .unset] [(.ref b441)]) := fun t h => k440 t (st441 t h)
  have O443 := O0.ext E441
  have hL441 : (N4412 >>> (nar .byte cd441 &&& 31)) = (3 : Int32) := by
    rcases hz441 with ⟨q, e⟩ | ⟨q, e⟩ <;> rw [q, e] <;> decide
  have hq441 : ¬ (N4412 = 0) := by
    rcases hz441 with ⟨q, e⟩ | ⟨q, e⟩ <;> rw [e] <;> decide
  have k444 : Rch p e below S0 T441 (mkF m 56 #[.val (.int p1), .val (.int p2), .val (.int p3), .val (.int p4), .val (.int p5), .val (.int (3 : Int32)), .val (.int c0), .val (.int c1), .val (.int c2), .val (.int c3), .val (.ref b441), .unset, .unset] [(.int (p4 &&& (255 : Int32)))]) := fun t h => k442 t (by
      show Steps p.tables e below (T441.setTop (mkF m 48 #[.val (.int p1), .val (.int p2), .val (.int p3), .val (.int p4), .val (.int p5), .val (.int (3 : Int32)), .val (.int c0), .val (.int c1), .val (.int c2), .val (.int c3), .unset, .unset, .unset] [(.ref b441)])) _
      refine XS.astore X441.here hx rfl (hb hby at_48) rfl rfl (l' := #[.val (.int p1), .val (.int p2), .val (.int p3), .val (.int p4), .val (.int p5), .val (.int (3 : Int32)), .val (.int c0), .val (.int c1), .val (.int c2), .val (.int c3), .val (.ref b441), .unset, .unset]) rfl ?_
      show Steps p.tables e below (T441.setTop (mkF m 50 #[.val (.int p1), .val (.int p2), .val (.int p3), .val (.int p4), .val (.int p5), .val (.int (3 : Int32)), .val (.int c0), .val (.int c1), .val (.int c2), .val (.int c3), .val (.ref b441), .unset, .unset] [])) _
      refine XS.iloadN X441.here hx rfl (hb hby at_50) rfl ?_
      show Steps p.tables e below (T441.setTop (mkF m 51 #[.val (.int p1), .val (.int p2), .val (.int p3), .val (.int p4), .val (.int p5), .val (.int (3 : Int32)), .val (.int c0), .val (.int c1), .val (.int c2), .val (.int c3), .val (.ref b441), .unset, .unset] [(.int p4)])) _
      refine XS.sipush X441.here hx rfl (hb hby at_51) ?_
      show Steps p.tables e below (T441.setTop (mkF m 54 #[.val (.int p1), .val (.int p2), .val (.int p3), .val (.int p4), .val (.int p5), .val (.int (3 : Int32)), .val (.int c0), .val (.int c1), .val (.int c2), .val (.int c3), .val (.ref b441), .unset, .unset] [(.int (255 : Int32)), (.int p4)])) _
      refine XS.iand X441.here hx rfl (hb hby at_54) rfl ?_
      show Steps p.tables e below (T441.setTop (mkF m 55 #[.val (.int p1), .val (.int p2), .val (.int p3), .val (.int p4), .val (.int p5), .val (.int (3 : Int32)), .val (.int c0), .val (.int c1), .val (.int c2), .val (.int c3), .val (.ref b441), .unset, .unset] [(.int (p4 &&& (255 : Int32)))])) _
      refine XS.i2c X441.here hx rfl (hb hby at_55) rfl ?_
      rw [(own_nar (p4 &&& (255 : Int32)) (own_255 p4)).2]
      show Steps p.tables e below (T441.setTop (mkF m 56 #[.val (.int p1), .val (.int p2), .val (.int p3), .val (.int p4), .val (.int p5), .val (.int (3 : Int32)), .val (.int c0), .val (.int c1), .val (.int c2), .val (.int c3), .val (.ref b441), .unset, .unset] [(.int (p4 &&& (255 : Int32)))])) _
      exact h)
  obtain ⟨_, _, ⟨T445, L445, kk445, n445⟩, -, X445, ⟨Lc445, hQ445, l445, y445, z445⟩, st445⟩ := Jvm.LawKit.callS X441 hx (y := (⟨"java/lang/String", "valueOf", "(C)Ljava/lang/String;"⟩ : MethodName)) hown (mvT hZ (hw _ (List.mem_of_getElem? (i := 35) rfl))) (mvT hZ (hw _ (List.mem_of_getElem? (i := 36) rfl))) (mvT hZ (hw _ (List.mem_of_getElem? (i := 7) rfl))) (mvT hZ (hw _ (List.mem_of_getElem? (i := 37) rfl))) (by decide) (backOf (W := 0) (rmVO l Z a0 hw [] (p4 &&& (255 : Int32)) zC T441.heap n0 O443 SC hzC (own_255 p4).2) hZ (hw _ (List.mem_of_getElem? (i := 37) rfl)) (hw _ (List.mem_of_getElem? (i := 7) rfl)) (by decide) (by decide)) (g := (mkF m 56 #[.val (.int p1), .val (.int p2), .val (.int p3), .val (.int p4), .val (.int p5), .val (.int (3 : Int32)), .val (.int c0), .val (.int c1), .val (.int c2), .val (.int c3), .val (.ref b441), .unset, .unset] [(.int (p4 &&& (255 : Int32)))])) rfl (by rw [hml]; rfl) (argsL := [(.int (p4 &&& (255 : Int32)))]) (rest := []) (lenOf pd_7 rfl) rfl (by show 2 * 0 + _ ≤ _; exact Nat.le_of_eq rfl) (hb hby at_56) (fun _ _ => ⟨rfl, rfl, (by decide : 4 + 2 ≤ _), (by decide : 20 + 5 ≤ _)⟩)
  dsimp only [Pt.U, Pt.locs, Pt.cells, Pt.slots] at X445 l445 y445 z445 st445 hQ445
  subst l445 y445 z445
  obtain ⟨b445, rfl, Nq445, E445, z445, X445E⟩ := hQ445
  have N445 := Fr.app N441 Nq445
  have k446 : Rch p e below S0 T445 (mkF m 59 #[.val (.int p1), .val (.int p2), .val (.int p3), .val (.int p4), .val (.int p5), .val (.int (3 : Int32)), .val (.int c0), .val (.int c1), .val (.int c2), .val (.int c3), .val (.ref b441), .unset, .unset] [(.ref b445)]) := fun t h => k444 t (st445 t h)
  have O447 := O443.ext E445
  replace Eb441 := Eb441.ext E445
  replace Fv441 := Fv441.ext E445
  replace Fc441 := Fc441.ext E445
  replace At441 := At441.ext E445
  have k448 : Rch p e below S0 T445 (mkF m 65 #[.val (.int p1), .val (.int p2), .val (.int p3), .val (.int p4), .val (.int p5), .val (.int (3 : Int32)), .val (.int c0), .val (.int c1), .val (.int c2), .val (.int c3), .val (.ref b441), .val (.ref b445), .unset] [(.int p5), (.int (3 : Int32))]) := fun t h => k446 t (by
      show Steps p.tables e below (T445.setTop (mkF m 59 #[.val (.int p1), .val (.int p2), .val (.int p3), .val (.int p4), .val (.int p5), .val (.int (3 : Int32)), .val (.int c0), .val (.int c1), .val (.int c2), .val (.int c3), .val (.ref b441), .unset, .unset] [(.ref b445)])) _
      refine XS.astore X445.here hx rfl (hb hby at_59) rfl rfl (l' := #[.val (.int p1), .val (.int p2), .val (.int p3), .val (.int p4), .val (.int p5), .val (.int (3 : Int32)), .val (.int c0), .val (.int c1), .val (.int c2), .val (.int c3), .val (.ref b441), .val (.ref b445), .unset]) rfl ?_
      show Steps p.tables e below (T445.setTop (mkF m 61 #[.val (.int p1), .val (.int p2), .val (.int p3), .val (.int p4), .val (.int p5), .val (.int (3 : Int32)), .val (.int c0), .val (.int c1), .val (.int c2), .val (.int c3), .val (.ref b441), .val (.ref b445), .unset] [])) _
      refine XS.iload X445.here hx rfl (hb hby at_61) rfl ?_
      show Steps p.tables e below (T445.setTop (mkF m 63 #[.val (.int p1), .val (.int p2), .val (.int p3), .val (.int p4), .val (.int p5), .val (.int (3 : Int32)), .val (.int c0), .val (.int c1), .val (.int c2), .val (.int c3), .val (.ref b441), .val (.ref b445), .unset] [(.int (3 : Int32))])) _
      refine XS.iload X445.here hx rfl (hb hby at_63) rfl ?_
      show Steps p.tables e below (T445.setTop (mkF m 65 #[.val (.int p1), .val (.int p2), .val (.int p3), .val (.int p4), .val (.int p5), .val (.int (3 : Int32)), .val (.int c0), .val (.int c1), .val (.int c2), .val (.int c3), .val (.ref b441), .val (.ref b445), .unset] [(.int p5), (.int (3 : Int32))])) _
      exact h)
  obtain ⟨_, _, ⟨T449, L449, kk449, n449⟩, -, X449, ⟨Lc449, hQ449, l449, y449, z449⟩, st449⟩ := Jvm.LawKit.callS X445 hx (y := (⟨"java/lang/Math", "max", "(II)I"⟩ : MethodName)) hown (mvT hZ (hw _ (List.mem_of_getElem? (i := 49) rfl))) (mvT hZ (hw _ (List.mem_of_getElem? (i := 50) rfl))) (mvT hZ (hw _ (List.mem_of_getElem? (i := 51) rfl))) (mvT hZ (hw _ (List.mem_of_getElem? (i := 52) rfl))) (by decide) (backOf (W := 0) (rmX l Z a0 hw [] (3 : Int32) p5 mo T445.heap n0 O447 hmo) hZ (hw _ (List.mem_of_getElem? (i := 52) rfl)) (hw _ (List.mem_of_getElem? (i := 51) rfl)) (by decide) (by decide)) (g := (mkF m 65 #[.val (.int p1), .val (.int p2), .val (.int p3), .val (.int p4), .val (.int p5), .val (.int (3 : Int32)), .val (.int c0), .val (.int c1), .val (.int c2), .val (.int c3), .val (.ref b441), .val (.ref b445), .unset] [(.int p5), (.int (3 : Int32))])) rfl (by rw [hml]; rfl) (argsL := [(.int (3 : Int32)), (.int p5)]) (rest := []) (lenOf pd_11 rfl) rfl (by show 2 * 0 + _ ≤ _; exact Nat.le_of_eq rfl) (hb hby at_65) (fun _ _ => ⟨rfl, rfl, (by decide : 6 + 0 ≤ _), (by decide : 25 + 0 ≤ _)⟩)
  dsimp only [Pt.U, Pt.locs, Pt.cells, Pt.slots] at X449 l449 y449 z449 st449 hQ449
  subst l449 y449 z449
  obtain ⟨rfl, Nq449, hh449⟩ := hQ449
  have N449 := Fr.app N445 Nq449
  have k450 : Rch p e below S0 T449 (mkF m 68 #[.val (.int p1), .val (.int p2), .val (.int p3), .val (.int p4), .val (.int p5), .val (.int (3 : Int32)), .val (.int c0), .val (.int c1), .val (.int c2), .val (.int c3), .val (.ref b441), .val (.ref b445), .unset] [(.int mo)]) := fun t h => k448 t (st449 t h)
  have k451 : Rch p e below S0 T449 (mkF m 76 #[.val (.int p1), .val (.int p2), .val (.int p3), .val (.int p4), .val (.int p5), .val (.int (3 : Int32)), .val (.int c0), .val (.int c1), .val (.int c2), .val (.int c3), .val (.ref b441), .val (.ref b445), .val (.int mo)] [(.int mo), (.ref b445), (.ref b441)]) := fun t h => k450 t (by
      show Steps p.tables e below (T449.setTop (mkF m 68 #[.val (.int p1), .val (.int p2), .val (.int p3), .val (.int p4), .val (.int p5), .val (.int (3 : Int32)), .val (.int c0), .val (.int c1), .val (.int c2), .val (.int c3), .val (.ref b441), .val (.ref b445), .unset] [(.int mo)])) _
      refine XS.istore X449.here hx rfl (hb hby at_68) rfl (l' := #[.val (.int p1), .val (.int p2), .val (.int p3), .val (.int p4), .val (.int p5), .val (.int (3 : Int32)), .val (.int c0), .val (.int c1), .val (.int c2), .val (.int c3), .val (.ref b441), .val (.ref b445), .val (.int mo)]) rfl ?_
      show Steps p.tables e below (T449.setTop (mkF m 70 #[.val (.int p1), .val (.int p2), .val (.int p3), .val (.int p4), .val (.int p5), .val (.int (3 : Int32)), .val (.int c0), .val (.int c1), .val (.int c2), .val (.int c3), .val (.ref b441), .val (.ref b445), .val (.int mo)] [])) _
      refine XS.aload X449.here hx rfl (hb hby at_70) rfl rfl ?_
      show Steps p.tables e below (T449.setTop (mkF m 72 #[.val (.int p1), .val (.int p2), .val (.int p3), .val (.int p4), .val (.int p5), .val (.int (3 : Int32)), .val (.int c0), .val (.int c1), .val (.int c2), .val (.int c3), .val (.ref b441), .val (.ref b445), .val (.int mo)] [(.ref b441)])) _
      refine XS.aload X449.here hx rfl (hb hby at_72) rfl rfl ?_
      show Steps p.tables e below (T449.setTop (mkF m 74 #[.val (.int p1), .val (.int p2), .val (.int p3), .val (.int p4), .val (.int p5), .val (.int (3 : Int32)), .val (.int c0), .val (.int c1), .val (.int c2), .val (.int c3), .val (.ref b441), .val (.ref b445), .val (.int mo)] [(.ref b445), (.ref b441)])) _
      refine XS.iload X449.here hx rfl (hb hby at_74) rfl ?_
      show Steps p.tables e below (T449.setTop (mkF m 76 #[.val (.int p1), .val (.int p2), .val (.int p3), .val (.int p4), .val (.int p5), .val (.int (3 : Int32)), .val (.int c0), .val (.int c1), .val (.int c2), .val (.int c3), .val (.ref b441), .val (.ref b445), .val (.int mo)] [(.int mo), (.ref b445), (.ref b441)])) _
      exact h)
  obtain ⟨_, _, ⟨T452, L452, kk452, n452⟩, -, X452, ⟨Lc452, hQ452, l452, y452, z452⟩, st452⟩ := Jvm.LawKit.callS X449 hx (y := (⟨"com/example/remodel/remodel/Component", "checkLength", "(Ljava/lang/String;Ljava/lang/String;I)V"⟩ : MethodName)) hown (mvT hZ (hw _ (List.mem_of_getElem? (i := 53) rfl))) (mvT hZ (hw _ (List.mem_of_getElem? (i := 54) rfl))) (mvT hZ (hw _ (List.mem_of_getElem? (i := 55) rfl))) (mvT hZ (hw _ (List.mem_of_getElem? (i := 56) rfl))) (by decide) (backOf (W := 0) (rmH l Z a0 hw [] b441 b445 mo t441 kt441 N4412 vs441 cd441 zC (3 : Int32) T445.heap n0 O447 SC hzC Eb441 Fv441 Fc441 At441 hL441 hq441 hm) hZ (hw _ (List.mem_of_getElem? (i := 56) rfl)) (hw _ (List.mem_of_getElem? (i := 55) rfl)) (by decide) (by decide)) (g := (mkF m 76 #[.val (.int p1), .val (.int p2), .val (.int p3), .val (.int p4), .val (.int p5), .val (.int (3 : Int32)), .val (.int c0), .val (.int c1), .val (.int c2), .val (.int c3), .val (.ref b441), .val (.ref b445), .val (.int mo)] [(.int mo), (.ref b445), (.ref b441)])) rfl (by rw [hml]; rfl) (argsL := [(.ref b441), (.ref b445), (.int mo)]) (rest := []) (lenOf pd_12 rfl) rfl (by show 2 * 0 + _ ≤ _; exact Nat.le_of_eq rfl) (hb hby at_76) (fun _ _ => ⟨rfl, hh449, (by decide : 6 + 0 ≤ _), (by decide : 25 + 0 ≤ _)⟩)
  dsimp only [Pt.U, Pt.locs, Pt.cells, Pt.slots] at X452 l452 y452 z452 st452 hQ452
  subst l452 y452 z452
  obtain ⟨rfl, Nq452, hh452⟩ := hQ452
  have N452 := Fr.app N449 Nq452
  have k453 : Rch p e below S0 T452 (mkF m 79 #[.val (.int p1), .val (.int p2), .val (.int p3), .val (.int p4), .val (.int p5), .val (.int (3 : Int32)), .val (.int c0), .val (.int c1), .val (.int c2), .val (.int c3), .val (.ref b441), .val (.ref b445), .val (.int mo)] []) := fun t h => k451 t (st452 t h)
  have k454 : Rch p e below S0 T452 (mkF m 81 #[.val (.int p1), .val (.int p2), .val (.int p3), .val (.int p4), .val (.int p5), .val (.int (3 : Int32)), .val (.int c0), .val (.int c1), .val (.int c2), .val (.int c3), .val (.ref b441), .val (.ref b445), .val (.int mo)] [(.ref b441)]) := fun t h => k453 t (by
      show Steps p.tables e below (T452.setTop (mkF m 79 #[.val (.int p1), .val (.int p2), .val (.int p3), .val (.int p4), .val (.int p5), .val (.int (3 : Int32)), .val (.int c0), .val (.int c1), .val (.int c2), .val (.int c3), .val (.ref b441), .val (.ref b445), .val (.int mo)] [])) _
      refine XS.aload X452.here hx rfl (hb hby at_79) rfl rfl ?_
      show Steps p.tables e below (T452.setTop (mkF m 81 #[.val (.int p1), .val (.int p2), .val (.int p3), .val (.int p4), .val (.int p5), .val (.int (3 : Int32)), .val (.int c0), .val (.int c1), .val (.int c2), .val (.int c3), .val (.ref b441), .val (.ref b445), .val (.int mo)] [(.ref b441)])) _
      exact h)
  obtain ⟨cq455, kq455, q455a, q455b, q455c⟩ := isOf hZ hh452 Eb441
  obtain ⟨_, _, ⟨T455, L455, kk455, n455⟩, -, X455, ⟨Lc455, hQ455, l455, y455, z455⟩, st455⟩ := X452.virtualBack hx (y := (⟨"java/lang/String", "length", "()I"⟩ : MethodName)) (z := (⟨"java/lang/String", "length", "()I"⟩ : MethodName)) hown (mvT hZ (hw _ (List.mem_of_getElem? (i := 72) rfl))) (mvT hZ (hw _ (List.mem_of_getElem? (i := 63) rfl))) (notFace_of_selects (args := #[]) (mvT hZ (hw _ (List.mem_of_getElem? (i := 65) rfl)))) (mvT hZ (hw _ (List.mem_of_getElem? (i := 65) rfl))) (mvT hZ (hw _ (List.mem_of_getElem? (i := 64) rfl))) (by decide) (backOf (W := 0) (rmLE l Z a0 hw [] b441 t441 kt441 N4412 vs441 cd441 zC (3 : Int32) T445.heap n0 O447 SC hzC Eb441 Fv441 Fc441 At441 hL441) hZ (hw _ (List.mem_of_getElem? (i := 66) rfl)) (hw _ (List.mem_of_getElem? (i := 7) rfl)) (by decide) (by decide)) q455a q455c (g := (mkF m 81 #[.val (.int p1), .val (.int p2), .val (.int p3), .val (.int p4), .val (.int p5), .val (.int (3 : Int32)), .val (.int c0), .val (.int c1), .val (.int c2), .val (.int c3), .val (.ref b441), .val (.ref b445), .val (.int mo)] [(.ref b441)])) rfl (by rw [hml]; rfl) (Steps.refl _) (argsL := []) (rest := []) (lenOf pd_14 rfl) rfl (by show 2 * 0 + _ ≤ _; exact Nat.le_of_eq rfl) (hb hby at_81) (fun _ _ => ⟨rfl, hh452, (by decide : 6 + 0 ≤ _), (by decide : 25 + 0 ≤ _)⟩)
  dsimp only [Pt.U, Pt.locs, Pt.cells, Pt.slots] at X455 l455 y455 z455 st455 hQ455
  subst l455 y455 z455
  obtain ⟨rfl, Nq455, hh455⟩ := hQ455
  have N455 := Fr.app N452 Nq455
  have k456 : Rch p e below S0 T455 (mkF m 84 #[.val (.int p1), .val (.int p2), .val (.int p3), .val (.int p4), .val (.int p5), .val (.int (3 : Int32)), .val (.int c0), .val (.int c1), .val (.int c2), .val (.int c3), .val (.ref b441), .val (.ref b445), .val (.int mo)] [(.int (3 : Int32))]) := fun t h => k454 t (st455.trans h)
  have k457 : Rch p e below S0 T455 (mkF m 101 #[.val (.int p1), .val (.int p2), .val (.int p3), .val (.int p4), .val (.int p5), .val (.int (3 : Int32)), .val (.int c0), .val (.int c1), .val (.int c2), .val (.int c3), .val (.ref b441), .val (.ref b445), .val (.int mo)] [(.int (1 : Int32))]) := fun t h => k456 t (by
      show Steps p.tables e below (T455.setTop (mkF m 84 #[.val (.int p1), .val (.int p2), .val (.int p3), .val (.int p4), .val (.int p5), .val (.int (3 : Int32)), .val (.int c0), .val (.int c1), .val (.int c2), .val (.int c3), .val (.ref b441), .val (.ref b445), .val (.int mo)] [(.int (3 : Int32))])) _
      refine XS.iload X455.here hx rfl (hb hby at_84) rfl ?_
      show Steps p.tables e below (T455.setTop (mkF m 86 #[.val (.int p1), .val (.int p2), .val (.int p3), .val (.int p4), .val (.int p5), .val (.int (3 : Int32)), .val (.int c0), .val (.int c1), .val (.int c2), .val (.int c3), .val (.ref b441), .val (.ref b445), .val (.int mo)] [(.int (3 : Int32)), (.int (3 : Int32))])) _
      refine XS.icmpNo X455.here hx rfl (hb hby at_86) rfl (teq (by decide : (3 : Int32) = (3 : Int32))).2 ?_
      show Steps p.tables e below (T455.setTop (mkF m 89 #[.val (.int p1), .val (.int p2), .val (.int p3), .val (.int p4), .val (.int p5), .val (.int (3 : Int32)), .val (.int c0), .val (.int c1), .val (.int c2), .val (.int c3), .val (.ref b441), .val (.ref b445), .val (.int mo)] [])) _
      refine XS.iload X455.here hx rfl (hb hby at_89) rfl ?_
      show Steps p.tables e below (T455.setTop (mkF m 91 #[.val (.int p1), .val (.int p2), .val (.int p3), .val (.int p4), .val (.int p5), .val (.int (3 : Int32)), .val (.int c0), .val (.int c1), .val (.int c2), .val (.int c3), .val (.ref b441), .val (.ref b445), .val (.int mo)] [(.int mo)])) _
      refine XS.iload X455.here hx rfl (hb hby at_91) rfl ?_
      show Steps p.tables e below (T455.setTop (mkF m 93 #[.val (.int p1), .val (.int p2), .val (.int p3), .val (.int p4), .val (.int p5), .val (.int (3 : Int32)), .val (.int c0), .val (.int c1), .val (.int c2), .val (.int c3), .val (.ref b441), .val (.ref b445), .val (.int mo)] [(.int (3 : Int32)), (.int mo)])) _
      refine XS.icmpNo X455.here hx rfl (hb hby at_93) rfl (flt (hm : ¬ (mo < (3 : Int32)))).1 ?_
      show Steps p.tables e below (T455.setTop (mkF m 96 #[.val (.int p1), .val (.int p2), .val (.int p3), .val (.int p4), .val (.int p5), .val (.int (3 : Int32)), .val (.int c0), .val (.int c1), .val (.int c2), .val (.int c3), .val (.ref b441), .val (.ref b445), .val (.int mo)] [])) _
      refine XS.iconst X455.here hx rfl (hb hby at_96) ?_
      show Steps p.tables e below (T455.setTop (mkF m 97 #[.val (.int p1), .val (.int p2), .val (.int p3), .val (.int p4), .val (.int p5), .val (.int (3 : Int32)), .val (.int c0), .val (.int c1), .val (.int c2), .val (.int c3), .val (.ref b441), .val (.ref b445), .val (.int mo)] [(.int (1 : Int32))])) _
      refine XS.goto X455.here hx rfl (pc0 := 97) (pc' := 101) rfl (hb hby at_97) (by decide) (by decide) ?_
      show Steps p.tables e below (T455.setTop (mkF m 101 #[.val (.int p1), .val (.int p2), .val (.int p3), .val (.int p4), .val (.int p5), .val (.int (3 : Int32)), .val (.int c0), .val (.int c1), .val (.int c2), .val (.int c3), .val (.ref b441), .val (.ref b445), .val (.int mo)] [(.int (1 : Int32))])) _
      exact h)
  obtain ⟨fs, hr, hrun, hended, hW, hsame⟩ := X455.leave (v := (some (.int (1 : Int32)))) (fun h => by rw [Bd.returns] at h; cases h)
  refine ⟨_, _, ?_, hrun, hended, _, _, rfl, ?_, ⟨_, rfl⟩, hW, hsame.mono (by decide) (by decide)⟩
  · rw [← hS0]
    refine k457 _ ?_
    show Steps p.tables e below (T455.setTop (mkF m 101 #[.val (.int p1), .val (.int p2), .val (.int p3), .val (.int p4), .val (.int p5), .val (.int (3 : Int32)), .val (.int c0), .val (.int c1), .val (.int c2), .val (.int c3), .val (.ref b441), .val (.ref b445), .val (.int mo)] [(.int (1 : Int32))])) _
    exact retN X455 hx (t := .boolean) Bd.returns (by simp) (hb hby at_101) hr
  · show Q_rm0_3 Z  h0 n0 _ T455.heap _
    rw [hh455]
    exact ⟨rfl, N455⟩
def Q_rm0_4 (Z : State)  (h0 : Heap) (n0 : Nat) (v : Option Value) (h : Heap) (L : List Loc) : Prop := v = some (.int (1 : Int32)) ∧ Fr n0 L
set_option maxRecDepth 65536 in
set_option maxHeartbeats 40000000 in
theorem rm0_4 (l : Launch) (Z : State) (a0 : Array Value) (hw : ∀ d ∈ tables_1, d.before a0 Z = true) (ws : List Jvm.Cond) (p1 : Int32) (p2 : Int32) (p3 : Int32) (p4 : Int32) (p5 : Int32) (c0 : Int32) (c1 : Int32) (c2 : Int32) (c3 : Int32) (zC : Int32) (mo : Int32) (h0 : Heap) (n0 : Nat) (O0 : Old Z n0 h0) (SAs : Sta Z Z.heap "java/lang/StringUTF16" "$assertionsDisabled" "Z" (.int (1 : Int32))) (SHi : Sta Z Z.heap "java/lang/StringUTF16" "HI_BYTE_SHIFT" "I" (.int (0 : Int32))) (SLo : Sta Z Z.heap "java/lang/StringUTF16" "LO_BYTE_SHIFT" "I" (.int (8 : Int32))) (SC : Sta Z Z.heap "java/lang/String" "COMPACT_STRINGS" "Z" (.int zC)) (hzC : ¬ zC = 0) (hx0 : ((p2 &&& (65535 : Int32)).toUInt32.toUInt16.toUInt32.toInt32) = c0) (hx1 : (((p2.toUInt32 >>> ((16 : Int32) &&& 31).toUInt32).toInt32).toUInt32.toUInt16.toUInt32.toInt32) = c1) (hx2 : ((p3 &&& (65535 : Int32)).toUInt32.toUInt16.toUInt32.toInt32) = c2) (hx3 : (((p3.toUInt32 >>> ((16 : Int32) &&& 31).toUInt32).toInt32).toUInt32.toUInt16.toUInt32.toInt32) = c3) (hc0 : ¬ c0 < 0 ∧ ¬ (65535 : Int32) < c0) (hc1 : ¬ c1 < 0 ∧ ¬ (65535 : Int32) < c1) (hc2 : ¬ c2 < 0 ∧ ¬ (65535 : Int32) < c2) (hc3 : ¬ c3 < 0 ∧ ¬ (65535 : Int32) < c3) (hk0 : ((1 : Int32) + (p1 &&& (3 : Int32))) = (4 : Int32)) (hmo : ((4 : Int32) < p5 ∧ p5 = mo) ∨ (¬ (4 : Int32) < p5 ∧ (4 : Int32) = mo)) :
    MetFree l x (head1 (Jvm.Cond.code x code maxLocals ret :: ws) room_1) (fun a U => a = #[(.int p1), (.int p2), (.int p3), (.int p4), (.int p5)] ∧ Z.Warmed39 U.vm ∧ U.heap = h0) (fun _ _ _ _ _ => True) (fun _ U o U' => ∃ v L, o = .returned v ∧ Q_rm0_4 Z  h0 n0 v U'.heap L ∧ FrameEnd U o U' L room_1.cells room_1.slots) := by
  refine MetFree.of_bodySF (plainFor_of_name pn_ComponentCheckLengthPinLaw) hisR ?_
  intro p e s m args below meth c s₁ Bd hml0 hP hK
  obtain ⟨rfl, hZ, hh⟩ := hP
  have hx := Bd.exec
  have hby := Bd.bytes
  have hml : c.maxLocals = 13 := hml0
  have hown : s.vm.findClass "com/example/remodel/remodel/ComponentCheckLengthPinLaw" = some m.cls := findClass_of_methodNamed Bd.named
  have hnm := (name_of_methodNamed Bd.named Bd.method).1
  have X0 : Stand p l e room_1 s m #[(.int p1), (.int p2), (.int p3), (.int p4), (.int p5)] below meth c s₁ [] 0 0 := Stand.of_body Bd
  have e0 : s₁.heap = h0 := by rw [← hh, Bd.state]; rfl
  have N0 := Fr.nil n0
  obtain ⟨S0, hS0⟩ : ∃ z, z = s₁.setTop (entryFrame m #[(.int p1), (.int p2), (.int p3), (.int p4), (.int p5)] maxLocals) := ⟨_, rfl⟩
  have k0 : Rch p e below S0 s₁ (mkF m 0 #[.val (.int p1), .val (.int p2), .val (.int p3), .val (.int p4), .val (.int p5), .unset, .unset, .unset, .unset, .unset, .unset, .unset, .unset] []) := fun t kq => hS0 ▸ castTop (ef_0 m p1 p2 p3 p4 p5) kq
  have hm : ¬ mo < (4 : Int32) := by
    rcases hmo with ⟨q, e⟩ | ⟨q, e⟩
    · rw [← e]; rw [Int32.lt_iff_toInt_lt] at q ⊢; omega
    · rw [← e]; decide
  have k458 : Rch p e below S0 s₁ (mkF m 45 #[.val (.int p1), .val (.int p2), .val (.int p3), .val (.int p4), .val (.int p5), .val (.int (4 : Int32)), .val (.int c0), .val (.int c1), .val (.int c2), .val (.int c3), .unset, .unset, .unset] [(.int c3), (.int c2), (.int c1), (.int c0), (.int (4 : Int32))]) := fun t h => k0 t (by
      show Steps p.tables e below (s₁.setTop (mkF m 0 #[.val (.int p1), .val (.int p2), .val (.int p3), .val (.int p4), .val (.int p5), .unset, .unset, .unset, .unset, .unset, .unset, .unset, .unset] [])) _
      refine XS.iconst X0.here hx rfl (hb hby at_0) ?_
      show Steps p.tables e below (s₁.setTop (mkF m 1 #[.val (.int p1), .val (.int p2), .val (.int p3), .val (.int p4), .val (.int p5), .unset, .unset, .unset, .unset, .unset, .unset, .unset, .unset] [(.int (1 : Int32))])) _
      refine XS.iloadN X0.here hx rfl (hb hby at_1) rfl ?_
      show Steps p.tables e below (s₁.setTop (mkF m 2 #[.val (.int p1), .val (.int p2), .val (.int p3), .val (.int p4), .val (.int p5), .unset, .unset, .unset, .unset, .unset, .unset, .unset, .unset] [(.int p1), (.int (1 : Int32))])) _
      refine XS.iconst X0.here hx rfl (hb hby at_2) ?_
      show Steps p.tables e below (s₁.setTop (mkF m 3 #[.val (.int p1), .val (.int p2), .val (.int p3), .val (.int p4), .val (.int p5), .unset, .unset, .unset, .unset, .unset, .unset, .unset, .unset] [(.int (3 : Int32)), (.int p1), (.int (1 : Int32))])) _
      refine XS.iand X0.here hx rfl (hb hby at_3) rfl ?_
      show Steps p.tables e below (s₁.setTop (mkF m 4 #[.val (.int p1), .val (.int p2), .val (.int p3), .val (.int p4), .val (.int p5), .unset, .unset, .unset, .unset, .unset, .unset, .unset, .unset] [(.int (p1 &&& (3 : Int32))), (.int (1 : Int32))])) _
      refine XS.iadd X0.here hx rfl (hb hby at_4) rfl ?_
      rw [hk0]
      show Steps p.tables e below (s₁.setTop (mkF m 5 #[.val (.int p1), .val (.int p2), .val (.int p3), .val (.int p4), .val (.int p5), .unset, .unset, .unset, .unset, .unset, .unset, .unset, .unset] [(.int (4 : Int32))])) _
      refine XS.istore X0.here hx rfl (hb hby at_5) rfl (l' := #[.val (.int p1), .val (.int p2), .val (.int p3), .val (.int p4), .val (.int p5), .val (.int (4 : Int32)), .unset, .unset, .unset, .unset, .unset, .unset, .unset]) rfl ?_
      show Steps p.tables e below (s₁.setTop (mkF m 7 #[.val (.int p1), .val (.int p2), .val (.int p3), .val (.int p4), .val (.int p5), .val (.int (4 : Int32)), .unset, .unset, .unset, .unset, .unset, .unset, .unset] [])) _
      refine XS.iloadN X0.here hx rfl (hb hby at_7) rfl ?_
      show Steps p.tables e below (s₁.setTop (mkF m 8 #[.val (.int p1), .val (.int p2), .val (.int p3), .val (.int p4), .val (.int p5), .val (.int (4 : Int32)), .unset, .unset, .unset, .unset, .unset, .unset, .unset] [(.int p2)])) _
      refine X0.ldcInt hx hown (mvT hZ (hw _ (List.mem_of_getElem? (i := 0) rfl))) (g := (mkF m 8 #[.val (.int p1), .val (.int p2), .val (.int p3), .val (.int p4), .val (.int p5), .val (.int (4 : Int32)), .unset, .unset, .unset, .unset, .unset, .unset, .unset] [(.int p2)])) rfl (hb hby at_8) _ ?_
      show Steps p.tables e below (s₁.setTop (mkF m 10 #[.val (.int p1), .val (.int p2), .val (.int p3), .val (.int p4), .val (.int p5), .val (.int (4 : Int32)), .unset, .unset, .unset, .unset, .unset, .unset, .unset] [(.int (65535 : Int32)), (.int p2)])) _
      refine XS.iand X0.here hx rfl (hb hby at_10) rfl ?_
      show Steps p.tables e below (s₁.setTop (mkF m 11 #[.val (.int p1), .val (.int p2), .val (.int p3), .val (.int p4), .val (.int p5), .val (.int (4 : Int32)), .unset, .unset, .unset, .unset, .unset, .unset, .unset] [(.int (p2 &&& (65535 : Int32)))])) _
      refine XS.i2c X0.here hx rfl (hb hby at_11) rfl ?_
      rw [hx0]
      show Steps p.tables e below (s₁.setTop (mkF m 12 #[.val (.int p1), .val (.int p2), .val (.int p3), .val (.int p4), .val (.int p5), .val (.int (4 : Int32)), .unset, .unset, .unset, .unset, .unset, .unset, .unset] [(.int c0)])) _
      refine XS.istore X0.here hx rfl (hb hby at_12) rfl (l' := #[.val (.int p1), .val (.int p2), .val (.int p3), .val (.int p4), .val (.int p5), .val (.int (4 : Int32)), .val (.int c0), .unset, .unset, .unset, .unset, .unset, .unset]) rfl ?_
      show Steps p.tables e below (s₁.setTop (mkF m 14 #[.val (.int p1), .val (.int p2), .val (.int p3), .val (.int p4), .val (.int p5), .val (.int (4 : Int32)), .val (.int c0), .unset, .unset, .unset, .unset, .unset, .unset] [])) _
      refine XS.iloadN X0.here hx rfl (hb hby at_14) rfl ?_
      show Steps p.tables e below (s₁.setTop (mkF m 15 #[.val (.int p1), .val (.int p2), .val (.int p3), .val (.int p4), .val (.int p5), .val (.int (4 : Int32)), .val (.int c0), .unset, .unset, .unset, .unset, .unset, .unset] [(.int p2)])) _
      refine XS.bipush X0.here hx rfl (hb hby at_15) ?_
      show Steps p.tables e below (s₁.setTop (mkF m 17 #[.val (.int p1), .val (.int p2), .val (.int p3), .val (.int p4), .val (.int p5), .val (.int (4 : Int32)), .val (.int c0), .unset, .unset, .unset, .unset, .unset, .unset] [(.int (16 : Int32)), (.int p2)])) _
      refine XS.iushr X0.here hx rfl (hb hby at_17) rfl ?_
      show Steps p.tables e below (s₁.setTop (mkF m 18 #[.val (.int p1), .val (.int p2), .val (.int p3), .val (.int p4), .val (.int p5), .val (.int (4 : Int32)), .val (.int c0), .unset, .unset, .unset, .unset, .unset, .unset] [(.int ((p2.toUInt32 >>> ((16 : Int32) &&& 31).toUInt32).toInt32))])) _
      refine XS.i2c X0.here hx rfl (hb hby at_18) rfl ?_
      rw [hx1]
      show Steps p.tables e below (s₁.setTop (mkF m 19 #[.val (.int p1), .val (.int p2), .val (.int p3), .val (.int p4), .val (.int p5), .val (.int (4 : Int32)), .val (.int c0), .unset, .unset, .unset, .unset, .unset, .unset] [(.int c1)])) _
      refine XS.istore X0.here hx rfl (hb hby at_19) rfl (l' := #[.val (.int p1), .val (.int p2), .val (.int p3), .val (.int p4), .val (.int p5), .val (.int (4 : Int32)), .val (.int c0), .val (.int c1), .unset, .unset, .unset, .unset, .unset]) rfl ?_
      show Steps p.tables e below (s₁.setTop (mkF m 21 #[.val (.int p1), .val (.int p2), .val (.int p3), .val (.int p4), .val (.int p5), .val (.int (4 : Int32)), .val (.int c0), .val (.int c1), .unset, .unset, .unset, .unset, .unset] [])) _
      refine XS.iloadN X0.here hx rfl (hb hby at_21) rfl ?_
      show Steps p.tables e below (s₁.setTop (mkF m 22 #[.val (.int p1), .val (.int p2), .val (.int p3), .val (.int p4), .val (.int p5), .val (.int (4 : Int32)), .val (.int c0), .val (.int c1), .unset, .unset, .unset, .unset, .unset] [(.int p3)])) _
      refine X0.ldcInt hx hown (mvT hZ (hw _ (List.mem_of_getElem? (i := 0) rfl))) (g := (mkF m 22 #[.val (.int p1), .val (.int p2), .val (.int p3), .val (.int p4), .val (.int p5), .val (.int (4 : Int32)), .val (.int c0), .val (.int c1), .unset, .unset, .unset, .unset, .unset] [(.int p3)])) rfl (hb hby at_22) _ ?_
      show Steps p.tables e below (s₁.setTop (mkF m 24 #[.val (.int p1), .val (.int p2), .val (.int p3), .val (.int p4), .val (.int p5), .val (.int (4 : Int32)), .val (.int c0), .val (.int c1), .unset, .unset, .unset, .unset, .unset] [(.int (65535 : Int32)), (.int p3)])) _
      refine XS.iand X0.here hx rfl (hb hby at_24) rfl ?_
      show Steps p.tables e below (s₁.setTop (mkF m 25 #[.val (.int p1), .val (.int p2), .val (.int p3), .val (.int p4), .val (.int p5), .val (.int (4 : Int32)), .val (.int c0), .val (.int c1), .unset, .unset, .unset, .unset, .unset] [(.int (p3 &&& (65535 : Int32)))])) _
      refine XS.i2c X0.here hx rfl (hb hby at_25) rfl ?_
      rw [hx2]
      show Steps p.tables e below (s₁.setTop (mkF m 26 #[.val (.int p1), .val (.int p2), .val (.int p3), .val (.int p4), .val (.int p5), .val (.int (4 : Int32)), .val (.int c0), .val (.int c1), .unset, .unset, .unset, .unset, .unset] [(.int c2)])) _
      refine XS.istore X0.here hx rfl (hb hby at_26) rfl (l' := #[.val (.int p1), .val (.int p2), .val (.int p3), .val (.int p4), .val (.int p5), .val (.int (4 : Int32)), .val (.int c0), .val (.int c1), .val (.int c2), .unset, .unset, .unset, .unset]) rfl ?_
      show Steps p.tables e below (s₁.setTop (mkF m 28 #[.val (.int p1), .val (.int p2), .val (.int p3), .val (.int p4), .val (.int p5), .val (.int (4 : Int32)), .val (.int c0), .val (.int c1), .val (.int c2), .unset, .unset, .unset, .unset] [])) _
      refine XS.iloadN X0.here hx rfl (hb hby at_28) rfl ?_
      show Steps p.tables e below (s₁.setTop (mkF m 29 #[.val (.int p1), .val (.int p2), .val (.int p3), .val (.int p4), .val (.int p5), .val (.int (4 : Int32)), .val (.int c0), .val (.int c1), .val (.int c2), .unset, .unset, .unset, .unset] [(.int p3)])) _
      refine XS.bipush X0.here hx rfl (hb hby at_29) ?_
      show Steps p.tables e below (s₁.setTop (mkF m 31 #[.val (.int p1), .val (.int p2), .val (.int p3), .val (.int p4), .val (.int p5), .val (.int (4 : Int32)), .val (.int c0), .val (.int c1), .val (.int c2), .unset, .unset, .unset, .unset] [(.int (16 : Int32)), (.int p3)])) _
      refine XS.iushr X0.here hx rfl (hb hby at_31) rfl ?_
      show Steps p.tables e below (s₁.setTop (mkF m 32 #[.val (.int p1), .val (.int p2), .val (.int p3), .val (.int p4), .val (.int p5), .val (.int (4 : Int32)), .val (.int c0), .val (.int c1), .val (.int c2), .unset, .unset, .unset, .unset] [(.int ((p3.toUInt32 >>> ((16 : Int32) &&& 31).toUInt32).toInt32))])) _
      refine XS.i2c X0.here hx rfl (hb hby at_32) rfl ?_
      rw [hx3]
      show Steps p.tables e below (s₁.setTop (mkF m 33 #[.val (.int p1), .val (.int p2), .val (.int p3), .val (.int p4), .val (.int p5), .val (.int (4 : Int32)), .val (.int c0), .val (.int c1), .val (.int c2), .unset, .unset, .unset, .unset] [(.int c3)])) _
      refine XS.istore X0.here hx rfl (hb hby at_33) rfl (l' := #[.val (.int p1), .val (.int p2), .val (.int p3), .val (.int p4), .val (.int p5), .val (.int (4 : Int32)), .val (.int c0), .val (.int c1), .val (.int c2), .val (.int c3), .unset, .unset, .unset]) rfl ?_
      show Steps p.tables e below (s₁.setTop (mkF m 35 #[.val (.int p1), .val (.int p2), .val (.int p3), .val (.int p4), .val (.int p5), .val (.int (4 : Int32)), .val (.int c0), .val (.int c1), .val (.int c2), .val (.int c3), .unset, .unset, .unset] [])) _
      refine XS.iload X0.here hx rfl (hb hby at_35) rfl ?_
      show Steps p.tables e below (s₁.setTop (mkF m 37 #[.val (.int p1), .val (.int p2), .val (.int p3), .val (.int p4), .val (.int p5), .val (.int (4 : Int32)), .val (.int c0), .val (.int c1), .val (.int c2), .val (.int c3), .unset, .unset, .unset] [(.int (4 : Int32))])) _
      refine XS.iload X0.here hx rfl (hb hby at_37) rfl ?_
      show Steps p.tables e below (s₁.setTop (mkF m 39 #[.val (.int p1), .val (.int p2), .val (.int p3), .val (.int p4), .val (.int p5), .val (.int (4 : Int32)), .val (.int c0), .val (.int c1), .val (.int c2), .val (.int c3), .unset, .unset, .unset] [(.int c0), (.int (4 : Int32))])) _
      refine XS.iload X0.here hx rfl (hb hby at_39) rfl ?_
      show Steps p.tables e below (s₁.setTop (mkF m 41 #[.val (.int p1), .val (.int p2), .val (.int p3), .val (.int p4), .val (.int p5), .val (.int (4 : Int32)), .val (.int c0), .val (.int c1), .val (.int c2), .val (.int c3), .unset, .unset, .unset] [(.int c1), (.int c0), (.int (4 : Int32))])) _
      refine XS.iload X0.here hx rfl (hb hby at_41) rfl ?_
      show Steps p.tables e below (s₁.setTop (mkF m 43 #[.val (.int p1), .val (.int p2), .val (.int p3), .val (.int p4), .val (.int p5), .val (.int (4 : Int32)), .val (.int c0), .val (.int c1), .val (.int c2), .val (.int c3), .unset, .unset, .unset] [(.int c2), (.int c1), (.int c0), (.int (4 : Int32))])) _
      refine XS.iload X0.here hx rfl (hb hby at_43) rfl ?_
      show Steps p.tables e below (s₁.setTop (mkF m 45 #[.val (.int p1), .val (.int p2), .val (.int p3), .val (.int p4), .val (.int p5), .val (.int (4 : Int32)), .val (.int c0), .val (.int c1), .val (.int c2), .val (.int c3), .unset, .unset, .unset] [(.int c3), (.int c2), (.int c1), (.int c0), (.int (4 : Int32))])) _
      exact h)
  obtain ⟨_, _, ⟨T459, L459, kk459, n459⟩, -, X459, ⟨Lc459, hQ459, l459, y459, z459⟩, st459⟩ := Jvm.LawKit.callS X0 hx (y := (⟨"com/example/remodel/remodel/ComponentCheckLengthPinLaw", "make", "(ICCCC)Ljava/lang/String;"⟩ : MethodName)) hown (mvT hZ (hw _ (List.mem_of_getElem? (i := 1) rfl))) (mvT hZ (hw _ (List.mem_of_getElem? (i := 2) rfl))) (mvT hZ (hw _ (List.mem_of_getElem? (i := 3) rfl))) (mvT hZ (hw _ (List.mem_of_getElem? (i := 4) rfl))) (by decide) (backOf (W := 0) (rmK4 l Z a0 hw [] c0 c1 c2 c3 zC h0 n0 O0 SAs SHi SLo SC hzC hc0 hc1 hc2 hc3) hZ (hw _ (List.mem_of_getElem? (i := 4) rfl)) (hw _ (List.mem_of_getElem? (i := 3) rfl)) (by decide) (by decide)) (g := (mkF m 45 #[.val (.int p1), .val (.int p2), .val (.int p3), .val (.int p4), .val (.int p5), .val (.int (4 : Int32)), .val (.int c0), .val (.int c1), .val (.int c2), .val (.int c3), .unset, .unset, .unset] [(.int c3), (.int c2), (.int c1), (.int c0), (.int (4 : Int32))])) rfl (by rw [hml]; rfl) (argsL := [(.int (4 : Int32)), (.int c0), (.int c1), (.int c2), (.int c3)]) (rest := []) (lenOf pd_0 rfl) rfl (by show 2 * 0 + _ ≤ _; exact Nat.le_of_eq rfl) (hb hby at_45) (fun _ _ => ⟨rfl, e0, (by decide : 0 + 4 ≤ _), (by decide : 0 + 20 ≤ _)⟩)
  dsimp only [Pt.U, Pt.locs, Pt.cells, Pt.slots] at X459 l459 y459 z459 st459 hQ459
  subst l459 y459 z459
  obtain ⟨b459, t459, kt459, vs459, cd459, N4592, rfl, Nq459, E459, z459, Eb459, Fv459, Fc459, At459, hz459⟩ := hQ459
  have N459 := Fr.app N0 Nq459
  have k460 : Rch p e below S0 T459 (mkF m 48 #[.val (.int p1), .val (.int p2), .val (.int p3), .val (.int p4), .val (.int p5), .val (.int (4 : Int32)), .val (.int c0), .val (.int c1), .val (.int c2), .val (.int c3), .unset, .unset, .unset] [(.ref b459)]) := fun t h => k458 t (st459 t h)
  have O461 := O0.ext E459
  have hL459 : (N4592 >>> (nar .byte cd459 &&& 31)) = (4 : Int32) := by
    rcases hz459 with ⟨q, e⟩ | ⟨q, e⟩ <;> rw [q, e] <;> decide
  have hq459 : ¬ (N4592 = 0) := by
    rcases hz459 with ⟨q, e⟩ | ⟨q, e⟩ <;> rw [e] <;> decide
  have k462 : Rch p e below S0 T459 (mkF m 56 #[.val (.int p1), .val (.int p2), .val (.int p3), .val (.int p4), .val (.int p5), .val (.int (4 : Int32)), .val (.int c0), .val (.int c1), .val (.int c2), .val (.int c3), .val (.ref b459), .unset, .unset] [(.int (p4 &&& (255 : Int32)))]) := fun t h => k460 t (by
      show Steps p.tables e below (T459.setTop (mkF m 48 #[.val (.int p1), .val (.int p2), .val (.int p3), .val (.int p4), .val (.int p5), .val (.int (4 : Int32)), .val (.int c0), .val (.int c1), .val (.int c2), .val (.int c3), .unset, .unset, .unset] [(.ref b459)])) _
      refine XS.astore X459.here hx rfl (hb hby at_48) rfl rfl (l' := #[.val (.int p1), .val (.int p2), .val (.int p3), .val (.int p4), .val (.int p5), .val (.int (4 : Int32)), .val (.int c0), .val (.int c1), .val (.int c2), .val (.int c3), .val (.ref b459), .unset, .unset]) rfl ?_
      show Steps p.tables e below (T459.setTop (mkF m 50 #[.val (.int p1), .val (.int p2), .val (.int p3), .val (.int p4), .val (.int p5), .val (.int (4 : Int32)), .val (.int c0), .val (.int c1), .val (.int c2), .val (.int c3), .val (.ref b459), .unset, .unset] [])) _
      refine XS.iloadN X459.here hx rfl (hb hby at_50) rfl ?_
      show Steps p.tables e below (T459.setTop (mkF m 51 #[.val (.int p1), .val (.int p2), .val (.int p3), .val (.int p4), .val (.int p5), .val (.int (4 : Int32)), .val (.int c0), .val (.int c1), .val (.int c2), .val (.int c3), .val (.ref b459), .unset, .unset] [(.int p4)])) _
      refine XS.sipush X459.here hx rfl (hb hby at_51) ?_
      show Steps p.tables e below (T459.setTop (mkF m 54 #[.val (.int p1), .val (.int p2), .val (.int p3), .val (.int p4), .val (.int p5), .val (.int (4 : Int32)), .val (.int c0), .val (.int c1), .val (.int c2), .val (.int c3), .val (.ref b459), .unset, .unset] [(.int (255 : Int32)), (.int p4)])) _
      refine XS.iand X459.here hx rfl (hb hby at_54) rfl ?_
      show Steps p.tables e below (T459.setTop (mkF m 55 #[.val (.int p1), .val (.int p2), .val (.int p3), .val (.int p4), .val (.int p5), .val (.int (4 : Int32)), .val (.int c0), .val (.int c1), .val (.int c2), .val (.int c3), .val (.ref b459), .unset, .unset] [(.int (p4 &&& (255 : Int32)))])) _
      refine XS.i2c X459.here hx rfl (hb hby at_55) rfl ?_
      rw [(own_nar (p4 &&& (255 : Int32)) (own_255 p4)).2]
      show Steps p.tables e below (T459.setTop (mkF m 56 #[.val (.int p1), .val (.int p2), .val (.int p3), .val (.int p4), .val (.int p5), .val (.int (4 : Int32)), .val (.int c0), .val (.int c1), .val (.int c2), .val (.int c3), .val (.ref b459), .unset, .unset] [(.int (p4 &&& (255 : Int32)))])) _
      exact h)
  obtain ⟨_, _, ⟨T463, L463, kk463, n463⟩, -, X463, ⟨Lc463, hQ463, l463, y463, z463⟩, st463⟩ := Jvm.LawKit.callS X459 hx (y := (⟨"java/lang/String", "valueOf", "(C)Ljava/lang/String;"⟩ : MethodName)) hown (mvT hZ (hw _ (List.mem_of_getElem? (i := 35) rfl))) (mvT hZ (hw _ (List.mem_of_getElem? (i := 36) rfl))) (mvT hZ (hw _ (List.mem_of_getElem? (i := 7) rfl))) (mvT hZ (hw _ (List.mem_of_getElem? (i := 37) rfl))) (by decide) (backOf (W := 0) (rmVO l Z a0 hw [] (p4 &&& (255 : Int32)) zC T459.heap n0 O461 SC hzC (own_255 p4).2) hZ (hw _ (List.mem_of_getElem? (i := 37) rfl)) (hw _ (List.mem_of_getElem? (i := 7) rfl)) (by decide) (by decide)) (g := (mkF m 56 #[.val (.int p1), .val (.int p2), .val (.int p3), .val (.int p4), .val (.int p5), .val (.int (4 : Int32)), .val (.int c0), .val (.int c1), .val (.int c2), .val (.int c3), .val (.ref b459), .unset, .unset] [(.int (p4 &&& (255 : Int32)))])) rfl (by rw [hml]; rfl) (argsL := [(.int (p4 &&& (255 : Int32)))]) (rest := []) (lenOf pd_7 rfl) rfl (by show 2 * 0 + _ ≤ _; exact Nat.le_of_eq rfl) (hb hby at_56) (fun _ _ => ⟨rfl, rfl, (by decide : 4 + 2 ≤ _), (by decide : 20 + 5 ≤ _)⟩)
  dsimp only [Pt.U, Pt.locs, Pt.cells, Pt.slots] at X463 l463 y463 z463 st463 hQ463
  subst l463 y463 z463
  obtain ⟨b463, rfl, Nq463, E463, z463, X463E⟩ := hQ463
  have N463 := Fr.app N459 Nq463
  have k464 : Rch p e below S0 T463 (mkF m 59 #[.val (.int p1), .val (.int p2), .val (.int p3), .val (.int p4), .val (.int p5), .val (.int (4 : Int32)), .val (.int c0), .val (.int c1), .val (.int c2), .val (.int c3), .val (.ref b459), .unset, .unset] [(.ref b463)]) := fun t h => k462 t (st463 t h)
  have O465 := O461.ext E463
  replace Eb459 := Eb459.ext E463
  replace Fv459 := Fv459.ext E463
  replace Fc459 := Fc459.ext E463
  replace At459 := At459.ext E463
  have k466 : Rch p e below S0 T463 (mkF m 65 #[.val (.int p1), .val (.int p2), .val (.int p3), .val (.int p4), .val (.int p5), .val (.int (4 : Int32)), .val (.int c0), .val (.int c1), .val (.int c2), .val (.int c3), .val (.ref b459), .val (.ref b463), .unset] [(.int p5), (.int (4 : Int32))]) := fun t h => k464 t (by
      show Steps p.tables e below (T463.setTop (mkF m 59 #[.val (.int p1), .val (.int p2), .val (.int p3), .val (.int p4), .val (.int p5), .val (.int (4 : Int32)), .val (.int c0), .val (.int c1), .val (.int c2), .val (.int c3), .val (.ref b459), .unset, .unset] [(.ref b463)])) _
      refine XS.astore X463.here hx rfl (hb hby at_59) rfl rfl (l' := #[.val (.int p1), .val (.int p2), .val (.int p3), .val (.int p4), .val (.int p5), .val (.int (4 : Int32)), .val (.int c0), .val (.int c1), .val (.int c2), .val (.int c3), .val (.ref b459), .val (.ref b463), .unset]) rfl ?_
      show Steps p.tables e below (T463.setTop (mkF m 61 #[.val (.int p1), .val (.int p2), .val (.int p3), .val (.int p4), .val (.int p5), .val (.int (4 : Int32)), .val (.int c0), .val (.int c1), .val (.int c2), .val (.int c3), .val (.ref b459), .val (.ref b463), .unset] [])) _
      refine XS.iload X463.here hx rfl (hb hby at_61) rfl ?_
      show Steps p.tables e below (T463.setTop (mkF m 63 #[.val (.int p1), .val (.int p2), .val (.int p3), .val (.int p4), .val (.int p5), .val (.int (4 : Int32)), .val (.int c0), .val (.int c1), .val (.int c2), .val (.int c3), .val (.ref b459), .val (.ref b463), .unset] [(.int (4 : Int32))])) _
      refine XS.iload X463.here hx rfl (hb hby at_63) rfl ?_
      show Steps p.tables e below (T463.setTop (mkF m 65 #[.val (.int p1), .val (.int p2), .val (.int p3), .val (.int p4), .val (.int p5), .val (.int (4 : Int32)), .val (.int c0), .val (.int c1), .val (.int c2), .val (.int c3), .val (.ref b459), .val (.ref b463), .unset] [(.int p5), (.int (4 : Int32))])) _
      exact h)
  obtain ⟨_, _, ⟨T467, L467, kk467, n467⟩, -, X467, ⟨Lc467, hQ467, l467, y467, z467⟩, st467⟩ := Jvm.LawKit.callS X463 hx (y := (⟨"java/lang/Math", "max", "(II)I"⟩ : MethodName)) hown (mvT hZ (hw _ (List.mem_of_getElem? (i := 49) rfl))) (mvT hZ (hw _ (List.mem_of_getElem? (i := 50) rfl))) (mvT hZ (hw _ (List.mem_of_getElem? (i := 51) rfl))) (mvT hZ (hw _ (List.mem_of_getElem? (i := 52) rfl))) (by decide) (backOf (W := 0) (rmX l Z a0 hw [] (4 : Int32) p5 mo T463.heap n0 O465 hmo) hZ (hw _ (List.mem_of_getElem? (i := 52) rfl)) (hw _ (List.mem_of_getElem? (i := 51) rfl)) (by decide) (by decide)) (g := (mkF m 65 #[.val (.int p1), .val (.int p2), .val (.int p3), .val (.int p4), .val (.int p5), .val (.int (4 : Int32)), .val (.int c0), .val (.int c1), .val (.int c2), .val (.int c3), .val (.ref b459), .val (.ref b463), .unset] [(.int p5), (.int (4 : Int32))])) rfl (by rw [hml]; rfl) (argsL := [(.int (4 : Int32)), (.int p5)]) (rest := []) (lenOf pd_11 rfl) rfl (by show 2 * 0 + _ ≤ _; exact Nat.le_of_eq rfl) (hb hby at_65) (fun _ _ => ⟨rfl, rfl, (by decide : 6 + 0 ≤ _), (by decide : 25 + 0 ≤ _)⟩)
  dsimp only [Pt.U, Pt.locs, Pt.cells, Pt.slots] at X467 l467 y467 z467 st467 hQ467
  subst l467 y467 z467
  obtain ⟨rfl, Nq467, hh467⟩ := hQ467
  have N467 := Fr.app N463 Nq467
  have k468 : Rch p e below S0 T467 (mkF m 68 #[.val (.int p1), .val (.int p2), .val (.int p3), .val (.int p4), .val (.int p5), .val (.int (4 : Int32)), .val (.int c0), .val (.int c1), .val (.int c2), .val (.int c3), .val (.ref b459), .val (.ref b463), .unset] [(.int mo)]) := fun t h => k466 t (st467 t h)
  have k469 : Rch p e below S0 T467 (mkF m 76 #[.val (.int p1), .val (.int p2), .val (.int p3), .val (.int p4), .val (.int p5), .val (.int (4 : Int32)), .val (.int c0), .val (.int c1), .val (.int c2), .val (.int c3), .val (.ref b459), .val (.ref b463), .val (.int mo)] [(.int mo), (.ref b463), (.ref b459)]) := fun t h => k468 t (by
      show Steps p.tables e below (T467.setTop (mkF m 68 #[.val (.int p1), .val (.int p2), .val (.int p3), .val (.int p4), .val (.int p5), .val (.int (4 : Int32)), .val (.int c0), .val (.int c1), .val (.int c2), .val (.int c3), .val (.ref b459), .val (.ref b463), .unset] [(.int mo)])) _
      refine XS.istore X467.here hx rfl (hb hby at_68) rfl (l' := #[.val (.int p1), .val (.int p2), .val (.int p3), .val (.int p4), .val (.int p5), .val (.int (4 : Int32)), .val (.int c0), .val (.int c1), .val (.int c2), .val (.int c3), .val (.ref b459), .val (.ref b463), .val (.int mo)]) rfl ?_
      show Steps p.tables e below (T467.setTop (mkF m 70 #[.val (.int p1), .val (.int p2), .val (.int p3), .val (.int p4), .val (.int p5), .val (.int (4 : Int32)), .val (.int c0), .val (.int c1), .val (.int c2), .val (.int c3), .val (.ref b459), .val (.ref b463), .val (.int mo)] [])) _
      refine XS.aload X467.here hx rfl (hb hby at_70) rfl rfl ?_
      show Steps p.tables e below (T467.setTop (mkF m 72 #[.val (.int p1), .val (.int p2), .val (.int p3), .val (.int p4), .val (.int p5), .val (.int (4 : Int32)), .val (.int c0), .val (.int c1), .val (.int c2), .val (.int c3), .val (.ref b459), .val (.ref b463), .val (.int mo)] [(.ref b459)])) _
      refine XS.aload X467.here hx rfl (hb hby at_72) rfl rfl ?_
      show Steps p.tables e below (T467.setTop (mkF m 74 #[.val (.int p1), .val (.int p2), .val (.int p3), .val (.int p4), .val (.int p5), .val (.int (4 : Int32)), .val (.int c0), .val (.int c1), .val (.int c2), .val (.int c3), .val (.ref b459), .val (.ref b463), .val (.int mo)] [(.ref b463), (.ref b459)])) _
      refine XS.iload X467.here hx rfl (hb hby at_74) rfl ?_
      show Steps p.tables e below (T467.setTop (mkF m 76 #[.val (.int p1), .val (.int p2), .val (.int p3), .val (.int p4), .val (.int p5), .val (.int (4 : Int32)), .val (.int c0), .val (.int c1), .val (.int c2), .val (.int c3), .val (.ref b459), .val (.ref b463), .val (.int mo)] [(.int mo), (.ref b463), (.ref b459)])) _
      exact h)
  obtain ⟨_, _, ⟨T470, L470, kk470, n470⟩, -, X470, ⟨Lc470, hQ470, l470, y470, z470⟩, st470⟩ := Jvm.LawKit.callS X467 hx (y := (⟨"com/example/remodel/remodel/Component", "checkLength", "(Ljava/lang/String;Ljava/lang/String;I)V"⟩ : MethodName)) hown (mvT hZ (hw _ (List.mem_of_getElem? (i := 53) rfl))) (mvT hZ (hw _ (List.mem_of_getElem? (i := 54) rfl))) (mvT hZ (hw _ (List.mem_of_getElem? (i := 55) rfl))) (mvT hZ (hw _ (List.mem_of_getElem? (i := 56) rfl))) (by decide) (backOf (W := 0) (rmH l Z a0 hw [] b459 b463 mo t459 kt459 N4592 vs459 cd459 zC (4 : Int32) T463.heap n0 O465 SC hzC Eb459 Fv459 Fc459 At459 hL459 hq459 hm) hZ (hw _ (List.mem_of_getElem? (i := 56) rfl)) (hw _ (List.mem_of_getElem? (i := 55) rfl)) (by decide) (by decide)) (g := (mkF m 76 #[.val (.int p1), .val (.int p2), .val (.int p3), .val (.int p4), .val (.int p5), .val (.int (4 : Int32)), .val (.int c0), .val (.int c1), .val (.int c2), .val (.int c3), .val (.ref b459), .val (.ref b463), .val (.int mo)] [(.int mo), (.ref b463), (.ref b459)])) rfl (by rw [hml]; rfl) (argsL := [(.ref b459), (.ref b463), (.int mo)]) (rest := []) (lenOf pd_12 rfl) rfl (by show 2 * 0 + _ ≤ _; exact Nat.le_of_eq rfl) (hb hby at_76) (fun _ _ => ⟨rfl, hh467, (by decide : 6 + 0 ≤ _), (by decide : 25 + 0 ≤ _)⟩)
  dsimp only [Pt.U, Pt.locs, Pt.cells, Pt.slots] at X470 l470 y470 z470 st470 hQ470
  subst l470 y470 z470
  obtain ⟨rfl, Nq470, hh470⟩ := hQ470
  have N470 := Fr.app N467 Nq470
  have k471 : Rch p e below S0 T470 (mkF m 79 #[.val (.int p1), .val (.int p2), .val (.int p3), .val (.int p4), .val (.int p5), .val (.int (4 : Int32)), .val (.int c0), .val (.int c1), .val (.int c2), .val (.int c3), .val (.ref b459), .val (.ref b463), .val (.int mo)] []) := fun t h => k469 t (st470 t h)
  have k472 : Rch p e below S0 T470 (mkF m 81 #[.val (.int p1), .val (.int p2), .val (.int p3), .val (.int p4), .val (.int p5), .val (.int (4 : Int32)), .val (.int c0), .val (.int c1), .val (.int c2), .val (.int c3), .val (.ref b459), .val (.ref b463), .val (.int mo)] [(.ref b459)]) := fun t h => k471 t (by
      show Steps p.tables e below (T470.setTop (mkF m 79 #[.val (.int p1), .val (.int p2), .val (.int p3), .val (.int p4), .val (.int p5), .val (.int (4 : Int32)), .val (.int c0), .val (.int c1), .val (.int c2), .val (.int c3), .val (.ref b459), .val (.ref b463), .val (.int mo)] [])) _
      refine XS.aload X470.here hx rfl (hb hby at_79) rfl rfl ?_
      show Steps p.tables e below (T470.setTop (mkF m 81 #[.val (.int p1), .val (.int p2), .val (.int p3), .val (.int p4), .val (.int p5), .val (.int (4 : Int32)), .val (.int c0), .val (.int c1), .val (.int c2), .val (.int c3), .val (.ref b459), .val (.ref b463), .val (.int mo)] [(.ref b459)])) _
      exact h)
  obtain ⟨cq473, kq473, q473a, q473b, q473c⟩ := isOf hZ hh470 Eb459
  obtain ⟨_, _, ⟨T473, L473, kk473, n473⟩, -, X473, ⟨Lc473, hQ473, l473, y473, z473⟩, st473⟩ := X470.virtualBack hx (y := (⟨"java/lang/String", "length", "()I"⟩ : MethodName)) (z := (⟨"java/lang/String", "length", "()I"⟩ : MethodName)) hown (mvT hZ (hw _ (List.mem_of_getElem? (i := 72) rfl))) (mvT hZ (hw _ (List.mem_of_getElem? (i := 63) rfl))) (notFace_of_selects (args := #[]) (mvT hZ (hw _ (List.mem_of_getElem? (i := 65) rfl)))) (mvT hZ (hw _ (List.mem_of_getElem? (i := 65) rfl))) (mvT hZ (hw _ (List.mem_of_getElem? (i := 64) rfl))) (by decide) (backOf (W := 0) (rmLE l Z a0 hw [] b459 t459 kt459 N4592 vs459 cd459 zC (4 : Int32) T463.heap n0 O465 SC hzC Eb459 Fv459 Fc459 At459 hL459) hZ (hw _ (List.mem_of_getElem? (i := 66) rfl)) (hw _ (List.mem_of_getElem? (i := 7) rfl)) (by decide) (by decide)) q473a q473c (g := (mkF m 81 #[.val (.int p1), .val (.int p2), .val (.int p3), .val (.int p4), .val (.int p5), .val (.int (4 : Int32)), .val (.int c0), .val (.int c1), .val (.int c2), .val (.int c3), .val (.ref b459), .val (.ref b463), .val (.int mo)] [(.ref b459)])) rfl (by rw [hml]; rfl) (Steps.refl _) (argsL := []) (rest := []) (lenOf pd_14 rfl) rfl (by show 2 * 0 + _ ≤ _; exact Nat.le_of_eq rfl) (hb hby at_81) (fun _ _ => ⟨rfl, hh470, (by decide : 6 + 0 ≤ _), (by decide : 25 + 0 ≤ _)⟩)
  dsimp only [Pt.U, Pt.locs, Pt.cells, Pt.slots] at X473 l473 y473 z473 st473 hQ473
  subst l473 y473 z473
  obtain ⟨rfl, Nq473, hh473⟩ := hQ473
  have N473 := Fr.app N470 Nq473
  have k474 : Rch p e below S0 T473 (mkF m 84 #[.val (.int p1), .val (.int p2), .val (.int p3), .val (.int p4), .val (.int p5), .val (.int (4 : Int32)), .val (.int c0), .val (.int c1), .val (.int c2), .val (.int c3), .val (.ref b459), .val (.ref b463), .val (.int mo)] [(.int (4 : Int32))]) := fun t h => k472 t (st473.trans h)
  have k475 : Rch p e below S0 T473 (mkF m 101 #[.val (.int p1), .val (.int p2), .val (.int p3), .val (.int p4), .val (.int p5), .val (.int (4 : Int32)), .val (.int c0), .val (.int c1), .val (.int c2), .val (.int c3), .val (.ref b459), .val (.ref b463), .val (.int mo)] [(.int (1 : Int32))]) := fun t h => k474 t (by
      show Steps p.tables e below (T473.setTop (mkF m 84 #[.val (.int p1), .val (.int p2), .val (.int p3), .val (.int p4), .val (.int p5), .val (.int (4 : Int32)), .val (.int c0), .val (.int c1), .val (.int c2), .val (.int c3), .val (.ref b459), .val (.ref b463), .val (.int mo)] [(.int (4 : Int32))])) _
      refine XS.iload X473.here hx rfl (hb hby at_84) rfl ?_
      show Steps p.tables e below (T473.setTop (mkF m 86 #[.val (.int p1), .val (.int p2), .val (.int p3), .val (.int p4), .val (.int p5), .val (.int (4 : Int32)), .val (.int c0), .val (.int c1), .val (.int c2), .val (.int c3), .val (.ref b459), .val (.ref b463), .val (.int mo)] [(.int (4 : Int32)), (.int (4 : Int32))])) _
      refine XS.icmpNo X473.here hx rfl (hb hby at_86) rfl (teq (by decide : (4 : Int32) = (4 : Int32))).2 ?_
      show Steps p.tables e below (T473.setTop (mkF m 89 #[.val (.int p1), .val (.int p2), .val (.int p3), .val (.int p4), .val (.int p5), .val (.int (4 : Int32)), .val (.int c0), .val (.int c1), .val (.int c2), .val (.int c3), .val (.ref b459), .val (.ref b463), .val (.int mo)] [])) _
      refine XS.iload X473.here hx rfl (hb hby at_89) rfl ?_
      show Steps p.tables e below (T473.setTop (mkF m 91 #[.val (.int p1), .val (.int p2), .val (.int p3), .val (.int p4), .val (.int p5), .val (.int (4 : Int32)), .val (.int c0), .val (.int c1), .val (.int c2), .val (.int c3), .val (.ref b459), .val (.ref b463), .val (.int mo)] [(.int mo)])) _
      refine XS.iload X473.here hx rfl (hb hby at_91) rfl ?_
      show Steps p.tables e below (T473.setTop (mkF m 93 #[.val (.int p1), .val (.int p2), .val (.int p3), .val (.int p4), .val (.int p5), .val (.int (4 : Int32)), .val (.int c0), .val (.int c1), .val (.int c2), .val (.int c3), .val (.ref b459), .val (.ref b463), .val (.int mo)] [(.int (4 : Int32)), (.int mo)])) _
      refine XS.icmpNo X473.here hx rfl (hb hby at_93) rfl (flt (hm : ¬ (mo < (4 : Int32)))).1 ?_
      show Steps p.tables e below (T473.setTop (mkF m 96 #[.val (.int p1), .val (.int p2), .val (.int p3), .val (.int p4), .val (.int p5), .val (.int (4 : Int32)), .val (.int c0), .val (.int c1), .val (.int c2), .val (.int c3), .val (.ref b459), .val (.ref b463), .val (.int mo)] [])) _
      refine XS.iconst X473.here hx rfl (hb hby at_96) ?_
      show Steps p.tables e below (T473.setTop (mkF m 97 #[.val (.int p1), .val (.int p2), .val (.int p3), .val (.int p4), .val (.int p5), .val (.int (4 : Int32)), .val (.int c0), .val (.int c1), .val (.int c2), .val (.int c3), .val (.ref b459), .val (.ref b463), .val (.int mo)] [(.int (1 : Int32))])) _
      refine XS.goto X473.here hx rfl (pc0 := 97) (pc' := 101) rfl (hb hby at_97) (by decide) (by decide) ?_
      show Steps p.tables e below (T473.setTop (mkF m 101 #[.val (.int p1), .val (.int p2), .val (.int p3), .val (.int p4), .val (.int p5), .val (.int (4 : Int32)), .val (.int c0), .val (.int c1), .val (.int c2), .val (.int c3), .val (.ref b459), .val (.ref b463), .val (.int mo)] [(.int (1 : Int32))])) _
      exact h)
  obtain ⟨fs, hr, hrun, hended, hW, hsame⟩ := X473.leave (v := (some (.int (1 : Int32)))) (fun h => by rw [Bd.returns] at h; cases h)
  refine ⟨_, _, ?_, hrun, hended, _, _, rfl, ?_, ⟨_, rfl⟩, hW, hsame.mono (by decide) (by decide)⟩
  · rw [← hS0]
    refine k475 _ ?_
    show Steps p.tables e below (T473.setTop (mkF m 101 #[.val (.int p1), .val (.int p2), .val (.int p3), .val (.int p4), .val (.int p5), .val (.int (4 : Int32)), .val (.int c0), .val (.int c1), .val (.int c2), .val (.int c3), .val (.ref b459), .val (.ref b463), .val (.int mo)] [(.int (1 : Int32))])) _
    exact retN X473 hx (t := .boolean) Bd.returns (by simp) (hb hby at_101) hr
  · show Q_rm0_4 Z  h0 n0 _ T473.heap _
    rw [hh473]
    exact ⟨rfl, N473⟩
theorem own_len4 (x : Int32) : (1 : Int32) + (x &&& 3) = 1 ∨ (1 : Int32) + (x &&& 3) = 2 ∨ (1 : Int32) + (x &&& 3) = 3 ∨ (1 : Int32) + (x &&& 3) = 4 := by
  have h := c_mask x 3 2 (by decide) (by decide)
  have a := c_iadd 1 (x &&& 3)
  have r := rng32 (1 + (x &&& 3))
  have e1 : (1 : Int32).toInt = 1 := by decide
  have e : ∀ k : Int32, k.toInt = (1 + (x &&& 3)).toInt → 1 + (x &&& 3) = k := fun k q => (Int32.toInt_inj.mp q).symm
  have q : (1 + (x &&& 3)).toInt = 1 ∨ (1 + (x &&& 3)).toInt = 2 ∨ (1 + (x &&& 3)).toInt = 3 ∨ (1 + (x &&& 3)).toInt = 4 := by omega
  rcases q with q | q | q | q
  · exact Or.inl (e 1 q.symm)
  · exact Or.inr (Or.inl (e 2 q.symm))
  · exact Or.inr (Or.inr (Or.inl (e 3 q.symm)))
  · exact Or.inr (Or.inr (Or.inr (e 4 q.symm)))
theorem own_max (a b : Int32) : ∃ r, (a < b ∧ b = r) ∨ (¬ a < b ∧ a = r) := by
  by_cases c : a < b
  · exact ⟨b, Or.inl ⟨c, rfl⟩⟩
  · exact ⟨a, Or.inr ⟨c, rfl⟩⟩
theorem own_all (l : Launch) (Z : State) (a0 : Array Value) (hw : ∀ d ∈ tables_1, d.before a0 Z = true) (ws : List Jvm.Cond) (p1 p2 p3 p4 p5 zC : Int32) (h0 : Heap) (n0 : Nat) (O0 : Old Z n0 h0) (SAs : Sta Z Z.heap "java/lang/StringUTF16" "$assertionsDisabled" "Z" (.int (1 : Int32))) (SHi : Sta Z Z.heap "java/lang/StringUTF16" "HI_BYTE_SHIFT" "I" (.int (0 : Int32))) (SLo : Sta Z Z.heap "java/lang/StringUTF16" "LO_BYTE_SHIFT" "I" (.int (8 : Int32))) (SC : Sta Z Z.heap "java/lang/String" "COMPACT_STRINGS" "Z" (.int zC)) (hzC : ¬ zC = 0) :
    MetFree l x (head1 (Jvm.Cond.code x code maxLocals ret :: ws) room_1) (fun a U => a = #[(.int p1), (.int p2), (.int p3), (.int p4), (.int p5)] ∧ Z.Warmed39 U.vm ∧ U.heap = h0) (fun _ _ _ _ _ => True) (fun _ U o U' => ∃ v L, o = .returned v ∧ Q_rm0_1 Z h0 n0 v U'.heap L ∧ FrameEnd U o U' L room_1.cells room_1.slots) := by
  rcases own_len4 p1 with c | c | c | c
  · obtain ⟨mo, hmo⟩ := own_max 1 p5
    exact rm0_1 l Z a0 hw ws p1 p2 p3 p4 p5 _ _ _ _ zC mo h0 n0 O0 SAs SHi SLo SC hzC rfl rfl rfl rfl (own_i2cr _) (own_i2cr _) (own_i2cr _) (own_i2cr _) c hmo
  · obtain ⟨mo, hmo⟩ := own_max 2 p5
    exact rm0_2 l Z a0 hw ws p1 p2 p3 p4 p5 _ _ _ _ zC mo h0 n0 O0 SAs SHi SLo SC hzC rfl rfl rfl rfl (own_i2cr _) (own_i2cr _) (own_i2cr _) (own_i2cr _) c hmo
  · obtain ⟨mo, hmo⟩ := own_max 3 p5
    exact rm0_3 l Z a0 hw ws p1 p2 p3 p4 p5 _ _ _ _ zC mo h0 n0 O0 SAs SHi SLo SC hzC rfl rfl rfl rfl (own_i2cr _) (own_i2cr _) (own_i2cr _) (own_i2cr _) c hmo
  · obtain ⟨mo, hmo⟩ := own_max 4 p5
    exact rm0_4 l Z a0 hw ws p1 p2 p3 p4 p5 _ _ _ _ zC mo h0 n0 O0 SAs SHi SLo SC hzC rfl rfl rfl rfl (own_i2cr _) (own_i2cr _) (own_i2cr _) (own_i2cr _) c hmo
set_option maxRecDepth 65536 in
set_option maxHeartbeats 40000000 in
theorem comes_1 {Post : Tables → Env → Array Value → State → Outcome → State → Prop} (hpost : ∀ tb e args s v u, (limb_1_1.after args s (.returned v) u = true ∧ limb_1_2.after args s (.returned v) u = true ∧ True) → FrameEnd s (.returned v) u (Jvm.fieldLocs frame_1_writes args s ++ Jvm.arrayLocs frame_1_arrays args s ++ Jvm.staticLocs frame_1_statics s) 24 128 → Post tb e args s (.returned v) u) :
    ArmFor flags0 classFile x code maxLocals ret World_1 tables_1 room_1 Calls_1 rest_1 Pre_1 Post := by
  intro l hfl _ _ p e ha hc hk s m args below hf hA hF happ hP
  obtain ⟨hcalls, hrest, hpre⟩ := hP
  obtain ⟨-, -, -, hnamed, -, -, -, hat⟩ := (Spec.applies_iff hf).mp happ
  obtain ⟨hg, hn⟩ := and_e (Cond.before_iff.mp (show (Jvm.Cond.and given_1 narrow_1).before args s = true from hpre))
  obtain ⟨g_0, g_1⟩ := and_e hg
  obtain ⟨gi_0, gr_0⟩ := and_e g_1
  obtain ⟨gi_1, gr_1⟩ := and_e gr_0
  obtain ⟨gi_2, gr_2⟩ := and_e gr_1
  obtain ⟨gi_3, gr_3⟩ := and_e gr_2
  obtain ⟨w0, w1, w2, w3, w4, rfl⟩ : ∃ w0 w1 w2 w3 w4 : Value, args = #[w0, w1, w2, w3, w4] := by
    have hs : args.size = 5 := by simpa [Cond.value, given_1] using g_0
    obtain ⟨L⟩ := args
    match L, hs with
    | [w0, w1, w2, w3, w4], _ => exact ⟨w0, w1, w2, w3, w4, rfl⟩
  have hw := fun d (hd : d ∈ tables_1) => atoms_spec (ws := Jvm.Cond.code x code maxLocals ret :: tables_1) hat d (List.mem_cons_of_mem _ hd)
  have hfit : Fit s := fun {y c} hc i hi => by
    obtain ⟨ha, rfl⟩ := Array.getElem?_eq_some_iff.mp hc
    have q := List.all_eq_true.mp ((Array.all_eq_true_iff_forall_mem.mp hF) _ (Array.getElem_mem ha)) i (List.mem_range.mpr hi)
    simpa [Array.getElem?_eq_getElem hi] using q
  obtain ⟨i0, ei0⟩ := is_v gi_0
  obtain rfl : w0 = (.int i0) := Option.some.inj ei0
  obtain ⟨i1, ei1⟩ := is_v gi_1
  obtain rfl : w1 = (.int i1) := Option.some.inj ei1
  obtain ⟨i2, ei2⟩ := is_v gi_2
  obtain rfl : w2 = (.int i2) := Option.some.inj ei2
  obtain ⟨i3, ei3⟩ := is_v gi_3
  obtain rfl : w3 = (.int i3) := Option.some.inj ei3
  obtain ⟨i4, ei4⟩ := is_v gr_3
  obtain rfl : w4 = (.int i4) := Option.some.inj ei4
  obtain ⟨hsets, hown0⟩ := atoms_of _ (rest_1_c_eq ▸ (show rest_1_c.before _ s = true from hrest))
  have hr0 := Cond.before_iff.mp hown0
  obtain ⟨zC, eC⟩ := is_v (Cond.before_iff.mp (hsets _ (List.mem_of_getElem? (i := 1) rfl)))
  have SC := Sta.start eC (Or.inl (hsets _ (List.mem_of_getElem? (i := 0) rfl)))
  have hzC : ¬ zC = 0 := fun q => by
    have u := not_v (Cond.before_iff.mp (hsets _ (List.mem_of_getElem? (i := 2) rfl)))
    simp only [Cond.value, eC, Term.int_eval, q] at u
    simp at u
  have SAs := Sta.start (own_eqi (Cond.before_iff.mp (hsets _ (List.mem_of_getElem? (i := 12) rfl)))) (Or.inl (hsets _ (List.mem_of_getElem? (i := 11) rfl)))
  have SHi := Sta.start (own_eqi (Cond.before_iff.mp (hsets _ (List.mem_of_getElem? (i := 15) rfl)))) (Or.inl (hsets _ (List.mem_of_getElem? (i := 14) rfl)))
  have SLo := Sta.start (own_eqi (Cond.before_iff.mp (hsets _ (List.mem_of_getElem? (i := 18) rfl)))) (Or.inl (hsets _ (List.mem_of_getElem? (i := 17) rfl)))
  obtain ⟨n, o, h1, h2, h3, _, L, rfl, ⟨rfl, N⟩, hq⟩ := own_all l s _ hw tables_1 i0 i1 i2 i3 i4 zC s.heap s.heap.size (Old.start s) SAs SHi SLo SC hzC p e ha hc hk s m _ below hf ((Spec.applies_iff_loose hf).mp happ).1 ⟨rfl, State.Warmed39.refl s, rfl⟩ trivial
  refine ⟨n, _, h1, h2, h3, hpost _ _ _ _ _ _ ⟨Cond.after_iff.mpr rfl, Cond.after_iff.mpr (eq_i res_at (Term.int_eval (1)) rfl), trivial⟩ ⟨hq.1, hq.2.1, (hq.2.2.sift fun y hy => Or.inr (N y hy)).mono (by decide) (by decide)⟩⟩
theorem main_1_1 : Claimed_1_1 := comes_1 fun _ _ _ _ _ _ h hF => ⟨h.1, hF⟩
theorem main_1_2 : Claimed_1_2 := comes_1 fun _ _ _ _ _ _ h hF => ⟨h.2.1, hF⟩
end Jvm.Pilot.@@N@@
namespace Jvm.Pilot.@@N@@
open Jvm Jvm.ClassFile Sem Op Lib Jvm.Free Jvm.Stand Jvm.Pilot.@@N@@.Jvm.D
/-! MADE BY PROGRAM (witnessworld.py) out of the Statement's table words and the real class files: 21 classes; the members and pool entries that the words name. The judged class is class 1, her method 2. -/
namespace start1
open Jvm.ClassFile
def u (s : String) : CpInfo := .utf8 (stringToUtf16 s)
/-- a pool by its gaps: so many unusable entries, then the entry; so many at the end -/
def gap : Nat → List CpInfo → List CpInfo
  | 0, r => r
  | n + 1, r => .unusable :: gap n r
def poolList (es : List (Nat × CpInfo)) (last : Nat) : List CpInfo := es.foldr (fun e r => gap e.1 (e.2 :: r)) (gap last [])
def pool (es : List (Nat × CpInfo)) (last : Nat) : Array CpInfo := ⟨poolList es last⟩
def fileOf (pool : Array CpInfo) (this : Nat) (attrs : Array Attribute := #[]) (ms : Array MethodInfo := #[]) (fl : Nat := 33) (sup : Nat := 0) (ifs : Array Nat := #[]) (fds : Array FieldInfo := #[]) : ClassFile where
  minorVersion := 0
  majorVersion := 65
  constantPool := pool
  accessFlags := fl
  thisClass := this
  superClass := sup
  interfaces := ifs
  fields := fds
  methods := ms
  attributes := attrs
def plain (name : String) (sup : Option ClassId) : Class where
  name := name
  kind := .ordinary
  loader := none
  accessFlags := 33
  super := sup
  interfaces := #[]
  cf := none
  fields := #[]
  methods := #[]
  instanceTypes := #[]
  staticTypes := #[]
  resolved := #[]
  callSites := []
  init := .initialized
  statics := none
  mirror := none

def pool0 : Array CpInfo := pool [(5, u "<init>"), (0, u "()V"), (1, .class_ 10), (1, u "java/lang/Object")] 113

def k0c0 : Code := { maxStack := 0, maxLocals := 1, code := object_method_1_code, exceptionTable := #[], attributes := #[] }
def k0m0 : Method := { name := "<init>", desc := "()V", sig := { parameters := [], returnType := none }, accessFlags := 1, code := some k0c0 }
/-- java/lang/Object -/
def k0 : Class := { plain "java/lang/Object" none with
  accessFlags := 33
  interfaces := #[]
  cf := some (fileOf pool0 8 #[] #[{ accessFlags := 1, nameIndex := 5, descriptorIndex := 6, attributes := #[] }] 33 0 #[] #[])
  fields := #[]
  methods := #[k0m0]
  instanceTypes := #[]
  staticTypes := #[]
  resolved := Array.replicate 124 none
  statics := none }

def pool1 : Array CpInfo := pool [(2, .class_ 4), (1, u "java/lang/Object"), (0, u "<init>"), (0, u "()V"), (0, .class_ 8), (0, u "java/lang/String"), (0, .methodref 7 10), (0, .nameAndType 5 11), (0, u "([C)V"), (0, .integer 65535), (0, .methodref 14 15), (0, .class_ 16), (0, .nameAndType 17 18), (0, u "com/example/remodel/remodel/ComponentCheckLengthPinLaw"), (0, u "make"), (0, u "(ICCCC)Ljava/lang/String;"), (0, .methodref 7 20), (0, .nameAndType 21 22), (0, u "valueOf"), (0, u "(C)Ljava/lang/String;"), (0, .methodref 24 25), (0, .class_ 26), (0, .nameAndType 27 28), (0, u "java/lang/Math"), (0, u "max"), (0, u "(II)I"), (0, .methodref 30 31), (0, .class_ 32), (0, .nameAndType 33 34), (0, u "com/example/remodel/remodel/Component"), (0, u "checkLength"), (0, u "(Ljava/lang/String;Ljava/lang/String;I)V"), (0, .methodref 7 36), (0, .nameAndType 37 38), (0, u "length"), (0, u "()I"), (3, u "law"), (0, u "(IIIII)Z")] 2

def k1m0 : Method := { name := "<init>", desc := "()V", sig := { parameters := [], returnType := none }, accessFlags := 1, code := none }
def k1c1 : Code := { maxStack := 6, maxLocals := 5, code := method_2_code, exceptionTable := #[], attributes := #[] }
def k1m1 : Method := { name := "make", desc := "(ICCCC)Ljava/lang/String;", sig := { parameters := [.int, .char, .char, .char, .char], returnType := some (.object "java/lang/String") }, accessFlags := 10, code := some k1c1 }
def k1c2 : Code := { maxStack := 5, maxLocals := 13, code := code, exceptionTable := #[], attributes := #[] }
def k1m2 : Method := { name := "law", desc := "(IIIII)Z", sig := { parameters := [.int, .int, .int, .int, .int], returnType := some .boolean }, accessFlags := 9, code := some k1c2 }
/-- com/example/remodel/remodel/ComponentCheckLengthPinLaw -/
def k1 : Class := { plain "com/example/remodel/remodel/ComponentCheckLengthPinLaw" (some 0) with
  accessFlags := 49
  interfaces := #[]
  cf := some (fileOf pool1 14 #[] #[{ accessFlags := 1, nameIndex := 5, descriptorIndex := 6, attributes := #[] }, { accessFlags := 10, nameIndex := 17, descriptorIndex := 18, attributes := #[] }, { accessFlags := 9, nameIndex := 42, descriptorIndex := 43, attributes := #[] }] 49 2 #[] #[])
  fields := #[]
  methods := #[k1m0, k1m1, k1m2]
  instanceTypes := #[]
  staticTypes := #[]
  resolved := Array.replicate 46 none
  statics := none }

def pool2 : Array CpInfo := pool [(1, .class_ 2), (0, u "java/io/Serializable"), (0, .class_ 4), (0, u "java/lang/Object")] 2

/-- java/io/Serializable -/
def k2 : Class := { plain "java/io/Serializable" (some 0) with
  accessFlags := 1537
  interfaces := #[]
  cf := some (fileOf pool2 1 #[] #[] 1537 3 #[] #[])
  fields := #[]
  methods := #[]
  instanceTypes := #[]
  staticTypes := #[]
  resolved := Array.replicate 7 none
  statics := none }

def pool3 : Array CpInfo := pool [(1, .class_ 2), (0, u "java/lang/Comparable"), (0, .class_ 4), (0, u "java/lang/Object")] 7

/-- java/lang/Comparable -/
def k3 : Class := { plain "java/lang/Comparable" (some 0) with
  accessFlags := 1537
  interfaces := #[]
  cf := some (fileOf pool3 1 #[] #[] 1537 3 #[] #[])
  fields := #[]
  methods := #[]
  instanceTypes := #[]
  staticTypes := #[]
  resolved := Array.replicate 12 none
  statics := none }

def pool4 : Array CpInfo := pool [(2, .class_ 4), (1, u "java/lang/CharSequence"), (42, .class_ 48), (0, u "java/lang/CharSequence$1CodePointIterator"), (10, .class_ 60), (0, u "java/lang/CharSequence$1CharIterator"), (5, .class_ 67), (0, u "java/lang/Object")] 63

/-- java/lang/CharSequence -/
def k4 : Class := { plain "java/lang/CharSequence" (some 0) with
  accessFlags := 1537
  interfaces := #[]
  cf := some (fileOf pool4 2 #[.nestMembers #[47, 59]] #[] 1537 66 #[] #[])
  fields := #[]
  methods := #[]
  instanceTypes := #[]
  staticTypes := #[]
  resolved := Array.replicate 131 none
  statics := none }

def pool5 : Array CpInfo := pool [(1, .class_ 2), (0, u "java/lang/constant/Constable"), (0, .class_ 4), (0, u "java/lang/Object")] 6

/-- java/lang/constant/Constable -/
def k5 : Class := { plain "java/lang/constant/Constable" (some 0) with
  accessFlags := 1537
  interfaces := #[]
  cf := some (fileOf pool5 1 #[] #[] 1537 3 #[] #[])
  fields := #[]
  methods := #[]
  instanceTypes := #[]
  staticTypes := #[]
  resolved := Array.replicate 11 none
  statics := none }

def pool6 : Array CpInfo := pool [(1, .class_ 2), (0, u "java/lang/constant/ConstantDesc"), (0, .class_ 4), (0, u "java/lang/Object")] 32

/-- java/lang/constant/ConstantDesc -/
def k6 : Class := { plain "java/lang/constant/ConstantDesc" (some 0) with
  accessFlags := 1537
  interfaces := #[]
  cf := some (fileOf pool6 1 #[] #[] 1537 3 #[] #[])
  fields := #[]
  methods := #[]
  instanceTypes := #[]
  staticTypes := #[]
  resolved := Array.replicate 37 none
  statics := none }

def pool7 : Array CpInfo := pool [(1, .methodref 2 3), (0, .class_ 4), (0, .nameAndType 5 6), (0, u "java/lang/Object"), (0, u "<init>"), (0, u "()V"), (2, .fieldref 10 11), (0, .class_ 12), (0, .nameAndType 13 14), (0, u "java/lang/String"), (0, u "value"), (0, u "[B"), (0, .fieldref 10 16), (0, .nameAndType 17 18), (0, u "coder"), (0, u "B"), (2, u "hash"), (0, u "I"), (2, u "hashIsZero"), (0, u "Z"), (0, .methodref 10 28), (0, .nameAndType 5 29), (0, u "([CIILjava/lang/Void;)V"), (8, .fieldref 10 39), (0, .nameAndType 40 26), (0, u "COMPACT_STRINGS"), (1, .class_ 44), (1, u "java/lang/StringUTF16"), (0, u "compress"), (1, .methodref 42 48), (0, .nameAndType 49 50), (0, u "coderFromArrayLen"), (0, u "([BI)B"), (2, u "toBytes"), (53, .class_ 109), (1, u "java/lang/StringLatin1"), (32, u "()Z"), (34, .methodref 42 178), (0, .nameAndType 45 179), (0, u "([CII)[B"), (29, .methodref 10 210), (0, .nameAndType 5 211), (0, u "([BB)V"), (122, u "()I"), (0, .methodref 10 336), (0, .nameAndType 17 337), (0, u "()B"), (31, u "(C)Z"), (137, u "length"), (67, .class_ 576), (0, u "java/lang/CharSequence"), (22, u "CASE_INSENSITIVE_ORDER"), (0, u "Ljava/util/Comparator;"), (91, u "isEmpty"), (89, u "valueOf"), (0, u "(C)Ljava/lang/String;"), (226, u "([C)V"), (4, .methodref 107 1016), (0, .nameAndType 1017 369), (0, u "canEncode"), (0, .methodref 107 1019), (0, .nameAndType 53 1020), (0, u "(C)[B"), (80, u "serialPersistentFields"), (0, u "[Ljava/io/ObjectStreamField;"), (0, .class_ 1104), (0, u "java/lang/String$CaseInsensitiveComparator"), (1, .class_ 1107), (0, u "java/io/Serializable"), (0, .class_ 1109), (0, u "java/lang/Comparable"), (0, .class_ 1111), (0, u "java/lang/constant/Constable"), (0, .class_ 1113), (0, u "java/lang/constant/ConstantDesc"), (2, u "serialVersionUID"), (0, u "J"), (3, u "REPL"), (0, u "C"), (2, u "LATIN1"), (1, u "UTF16")] 323

def k7m0 : Method := { name := "<init>", desc := "()V", sig := { parameters := [], returnType := none }, accessFlags := 1, code := none }
def k7c1 : Code := { maxStack := 5, maxLocals := 2, code := jdk_42_method_3_code, exceptionTable := #[], attributes := #[] }
def k7m1 : Method := { name := "<init>", desc := "([C)V", sig := { parameters := [(.array .char)], returnType := none }, accessFlags := 1, code := some k7c1 }
def k7c2 : Code := { maxStack := 2, maxLocals := 1, code := jdk_42_method_54_code, exceptionTable := #[], attributes := #[] }
def k7m2 : Method := { name := "length", desc := "()I", sig := { parameters := [], returnType := some .int }, accessFlags := 1, code := some k7c2 }
def k7c3 : Code := { maxStack := 1, maxLocals := 1, code := jdk_42_method_55_code, exceptionTable := #[], attributes := #[] }
def k7m3 : Method := { name := "isEmpty", desc := "()Z", sig := { parameters := [], returnType := some .boolean }, accessFlags := 1, code := some k7c3 }
def k7c4 : Code := { maxStack := 4, maxLocals := 1, code := jdk_42_method_139_code, exceptionTable := #[], attributes := #[] }
def k7m4 : Method := { name := "valueOf", desc := "(C)Ljava/lang/String;", sig := { parameters := [.char], returnType := some (.object "java/lang/String") }, accessFlags := 9, code := some k7c4 }
def k7c5 : Code := { maxStack := 4, maxLocals := 6, code := jdk_42_method_149_code, exceptionTable := #[], attributes := #[] }
def k7m5 : Method := { name := "<init>", desc := "([CIILjava/lang/Void;)V", sig := { parameters := [(.array .char), .int, .int, (.object "java/lang/Void")], returnType := none }, accessFlags := 2, code := some k7c5 }
def k7c6 : Code := { maxStack := 2, maxLocals := 3, code := jdk_42_method_151_code, exceptionTable := #[], attributes := #[] }
def k7m6 : Method := { name := "<init>", desc := "([BB)V", sig := { parameters := [(.array .byte), .byte], returnType := none }, accessFlags := 0, code := some k7c6 }
def k7c7 : Code := { maxStack := 1, maxLocals := 1, code := jdk_42_method_152_code, exceptionTable := #[], attributes := #[] }
def k7m7 : Method := { name := "coder", desc := "()B", sig := { parameters := [], returnType := some .byte }, accessFlags := 0, code := some k7c7 }
/-- java/lang/String -/
def k7 : Class := { plain "java/lang/String" (some 0) with
  accessFlags := 49
  interfaces := #[2, 3, 4, 5, 6]
  cf := some (fileOf pool7 10 #[.nestMembers #[1103]] #[{ accessFlags := 1, nameIndex := 5, descriptorIndex := 6, attributes := #[] }, { accessFlags := 1, nameIndex := 5, descriptorIndex := 1010, attributes := #[] }, { accessFlags := 1, nameIndex := 507, descriptorIndex := 334, attributes := #[] }, { accessFlags := 1, nameIndex := 692, descriptorIndex := 142, attributes := #[] }, { accessFlags := 9, nameIndex := 782, descriptorIndex := 783, attributes := #[] }, { accessFlags := 2, nameIndex := 5, descriptorIndex := 29, attributes := #[] }, { accessFlags := 0, nameIndex := 5, descriptorIndex := 211, attributes := #[] }, { accessFlags := 0, nameIndex := 17, descriptorIndex := 337, attributes := #[] }] 49 2 #[1106, 1108, 575, 1110, 1112] #[{ accessFlags := 18, nameIndex := 13, descriptorIndex := 14, attributes := #[] }, { accessFlags := 18, nameIndex := 17, descriptorIndex := 18, attributes := #[] }, { accessFlags := 2, nameIndex := 21, descriptorIndex := 22, attributes := #[] }, { accessFlags := 2, nameIndex := 25, descriptorIndex := 26, attributes := #[] }, { accessFlags := 26, nameIndex := 1116, descriptorIndex := 1117, attributes := #[] }, { accessFlags := 24, nameIndex := 40, descriptorIndex := 26, attributes := #[] }, { accessFlags := 26, nameIndex := 1101, descriptorIndex := 1102, attributes := #[] }, { accessFlags := 26, nameIndex := 1121, descriptorIndex := 1122, attributes := #[] }, { accessFlags := 25, nameIndex := 599, descriptorIndex := 600, attributes := #[] }, { accessFlags := 24, nameIndex := 1125, descriptorIndex := 18, attributes := #[] }, { accessFlags := 24, nameIndex := 1127, descriptorIndex := 18, attributes := #[] }])
  fields := #[{ name := "value", type := (.array .byte), accessFlags := 18, slot := 0, constantValue := 0 }, { name := "coder", type := .byte, accessFlags := 18, slot := 1, constantValue := 0 }, { name := "hash", type := .int, accessFlags := 2, slot := 2, constantValue := 0 }, { name := "hashIsZero", type := .boolean, accessFlags := 2, slot := 3, constantValue := 0 }, { name := "serialVersionUID", type := .long, accessFlags := 26, slot := 0, constantValue := 0 }, { name := "COMPACT_STRINGS", type := .boolean, accessFlags := 24, slot := 1, constantValue := 0 }, { name := "serialPersistentFields", type := (.array (.object "java/io/ObjectStreamField")), accessFlags := 26, slot := 2, constantValue := 0 }, { name := "REPL", type := .char, accessFlags := 26, slot := 3, constantValue := 0 }, { name := "CASE_INSENSITIVE_ORDER", type := (.object "java/util/Comparator"), accessFlags := 25, slot := 4, constantValue := 0 }, { name := "LATIN1", type := .byte, accessFlags := 24, slot := 5, constantValue := 0 }, { name := "UTF16", type := .byte, accessFlags := 24, slot := 6, constantValue := 0 }]
  methods := #[k7m0, k7m1, k7m2, k7m3, k7m4, k7m5, k7m6, k7m7]
  instanceTypes := #[(.array .byte), .byte, .int, .boolean]
  staticTypes := #[.long, .boolean, (.array (.object "java/io/ObjectStreamField")), .char, (.object "java/util/Comparator"), .byte, .byte]
  resolved := Array.replicate 1451 none
  statics := some 0 }

def pool8 : Array CpInfo := pool [(6, .class_ 8), (1, u "java/lang/Object"), (0, u "<init>"), (0, u "()V"), (0, .methodref 12 13), (0, .class_ 14), (0, .nameAndType 15 16), (0, u "java/lang/StringUTF16"), (0, u "newBytesLength"), (0, u "(I)I"), (3, .integer 1073741823), (23, .fieldref 12 45), (0, .nameAndType 46 47), (0, u "$assertionsDisabled"), (0, u "Z"), (11, .fieldref 12 60), (0, .nameAndType 61 62), (0, u "HI_BYTE_SHIFT"), (0, u "I"), (0, .fieldref 12 64), (0, .nameAndType 65 62), (0, u "LO_BYTE_SHIFT"), (5, .methodref 12 72), (0, .nameAndType 73 74), (0, u "getChar"), (0, u "([BI)C"), (32, .methodref 12 108), (0, .nameAndType 109 110), (0, u "newBytesFor"), (0, u "(I)[B"), (0, .methodref 12 112), (0, .nameAndType 113 114), (0, u "putChar"), (0, u "([BII)V"), (0, .methodref 12 116), (0, .nameAndType 117 118), (0, u "compress"), (0, u "([CI[BII)I"), (0, .methodref 12 120), (0, .nameAndType 121 122), (0, u "toBytes"), (0, u "([CII)[B"), (138, u "coderFromArrayLen"), (0, u "([BI)B"), (106, .class_ 371), (1, u "java/lang/StringUTF16$LinesSpliterator"), (58, u "MAX_LENGTH"), (196, .class_ 628), (0, u "java/lang/StringUTF16$CodePointsSpliterator"), (0, .class_ 630), (0, u "java/lang/StringUTF16$CharsSpliterator")] 4

def k8m0 : Method := { name := "<init>", desc := "()V", sig := { parameters := [], returnType := none }, accessFlags := 0, code := none }
def k8c1 : Code := { maxStack := 1, maxLocals := 1, code := jdk_52_method_2_code, exceptionTable := #[], attributes := #[] }
def k8m1 : Method := { name := "newBytesFor", desc := "(I)[B", sig := { parameters := [.int], returnType := some (.array .byte) }, accessFlags := 9, code := some k8c1 }
def k8c2 : Code := { maxStack := 4, maxLocals := 1, code := jdk_52_method_3_code, exceptionTable := #[], attributes := #[] }
def k8m2 : Method := { name := "newBytesLength", desc := "(I)I", sig := { parameters := [.int], returnType := some .int }, accessFlags := 9, code := some k8c2 }
def k8c3 : Code := { maxStack := 4, maxLocals := 3, code := jdk_52_method_4_code, exceptionTable := #[], attributes := #[] }
def k8m3 : Method := { name := "putChar", desc := "([BII)V", sig := { parameters := [(.array .byte), .int, .int], returnType := none }, accessFlags := 8, code := some k8c3 }
def k8c4 : Code := { maxStack := 3, maxLocals := 2, code := jdk_52_method_5_code, exceptionTable := #[], attributes := #[] }
def k8m4 : Method := { name := "getChar", desc := "([BI)C", sig := { parameters := [(.array .byte), .int], returnType := some .char }, accessFlags := 8, code := some k8c4 }
def k8c5 : Code := { maxStack := 4, maxLocals := 5, code := jdk_52_method_14_code, exceptionTable := #[], attributes := #[] }
def k8m5 : Method := { name := "toBytes", desc := "([CII)[B", sig := { parameters := [(.array .char), .int, .int], returnType := some (.array .byte) }, accessFlags := 9, code := some k8c5 }
def k8c6 : Code := { maxStack := 2, maxLocals := 2, code := jdk_52_method_15_code, exceptionTable := #[], attributes := #[] }
def k8m6 : Method := { name := "coderFromArrayLen", desc := "([BI)B", sig := { parameters := [(.array .byte), .int], returnType := some .byte }, accessFlags := 8, code := some k8c6 }
def k8c7 : Code := { maxStack := 5, maxLocals := 6, code := jdk_52_method_16_code, exceptionTable := #[], attributes := #[] }
def k8m7 : Method := { name := "compress", desc := "([CII)[B", sig := { parameters := [(.array .char), .int, .int], returnType := some (.array .byte) }, accessFlags := 9, code := some k8c7 }
def k8c8 : Code := { maxStack := 3, maxLocals := 7, code := jdk_52_method_21_code, exceptionTable := #[], attributes := #[] }
def k8m8 : Method := { name := "compress", desc := "([CI[BII)I", sig := { parameters := [(.array .char), .int, (.array .byte), .int, .int], returnType := some .int }, accessFlags := 9, code := some k8c8 }
/-- java/lang/StringUTF16 -/
def k8 : Class := { plain "java/lang/StringUTF16" (some 0) with
  accessFlags := 48
  interfaces := #[]
  cf := some (fileOf pool8 12 #[.nestMembers #[627, 629, 369]] #[{ accessFlags := 0, nameIndex := 9, descriptorIndex := 10, attributes := #[] }, { accessFlags := 9, nameIndex := 109, descriptorIndex := 110, attributes := #[] }, { accessFlags := 9, nameIndex := 15, descriptorIndex := 16, attributes := #[] }, { accessFlags := 8, nameIndex := 113, descriptorIndex := 114, attributes := #[] }, { accessFlags := 8, nameIndex := 73, descriptorIndex := 74, attributes := #[] }, { accessFlags := 9, nameIndex := 121, descriptorIndex := 122, attributes := #[] }, { accessFlags := 8, nameIndex := 261, descriptorIndex := 262, attributes := #[] }, { accessFlags := 9, nameIndex := 117, descriptorIndex := 122, attributes := #[] }, { accessFlags := 9, nameIndex := 117, descriptorIndex := 118, attributes := #[] }] 48 6 #[] #[{ accessFlags := 26, nameIndex := 61, descriptorIndex := 62, attributes := #[] }, { accessFlags := 26, nameIndex := 65, descriptorIndex := 62, attributes := #[] }, { accessFlags := 24, nameIndex := 430, descriptorIndex := 62, attributes := #[] }, { accessFlags := 4120, nameIndex := 46, descriptorIndex := 47, attributes := #[] }])
  fields := #[{ name := "HI_BYTE_SHIFT", type := .int, accessFlags := 26, slot := 0, constantValue := 0 }, { name := "LO_BYTE_SHIFT", type := .int, accessFlags := 26, slot := 1, constantValue := 0 }, { name := "MAX_LENGTH", type := .int, accessFlags := 24, slot := 2, constantValue := 0 }, { name := "$assertionsDisabled", type := .boolean, accessFlags := 4120, slot := 3, constantValue := 0 }]
  methods := #[k8m0, k8m1, k8m2, k8m3, k8m4, k8m5, k8m6, k8m7, k8m8]
  instanceTypes := #[]
  staticTypes := #[.int, .int, .int, .boolean]
  resolved := Array.replicate 635 none
  statics := some 1 }

def pool9 : Array CpInfo := pool [(4, .class_ 6), (1, u "java/lang/Object"), (0, u "<init>"), (0, u "()V"), (5, .class_ 16), (1, u "java/lang/StringLatin1"), (73, u "canEncode"), (14, u "(C)Z"), (15, u "$assertionsDisabled"), (0, u "Z"), (98, .class_ 223), (1, u "java/lang/StringLatin1$LinesSpliterator"), (156, u "toBytes"), (1, u "(C)[B"), (7, .class_ 391), (0, u "java/lang/StringLatin1$CharsSpliterator")] 3

def k9m0 : Method := { name := "<init>", desc := "()V", sig := { parameters := [], returnType := none }, accessFlags := 0, code := none }
def k9c1 : Code := { maxStack := 2, maxLocals := 1, code := jdk_43_method_3_code, exceptionTable := #[], attributes := #[] }
def k9m1 : Method := { name := "canEncode", desc := "(C)Z", sig := { parameters := [.char], returnType := some .boolean }, accessFlags := 9, code := some k9c1 }
def k9c2 : Code := { maxStack := 4, maxLocals := 1, code := jdk_43_method_46_code, exceptionTable := #[], attributes := #[] }
def k9m2 : Method := { name := "toBytes", desc := "(C)[B", sig := { parameters := [.char], returnType := some (.array .byte) }, accessFlags := 9, code := some k9c2 }
/-- java/lang/StringLatin1 -/
def k9 : Class := { plain "java/lang/StringLatin1" (some 0) with
  accessFlags := 48
  interfaces := #[]
  cf := some (fileOf pool9 14 #[.nestMembers #[390, 221]] #[{ accessFlags := 0, nameIndex := 7, descriptorIndex := 8, attributes := #[] }, { accessFlags := 9, nameIndex := 90, descriptorIndex := 105, attributes := #[] }, { accessFlags := 9, nameIndex := 380, descriptorIndex := 382, attributes := #[] }] 48 4 #[] #[{ accessFlags := 4120, nameIndex := 121, descriptorIndex := 122, attributes := #[] }])
  fields := #[{ name := "$assertionsDisabled", type := .boolean, accessFlags := 4120, slot := 0, constantValue := 0 }]
  methods := #[k9m0, k9m1, k9m2]
  instanceTypes := #[]
  staticTypes := #[.boolean]
  resolved := Array.replicate 395 none
  statics := none }

def pool10 : Array CpInfo := pool [(1, .class_ 2), (0, u "java/lang/Math"), (1, .class_ 6), (1, u "java/lang/Object"), (0, u "<init>"), (0, u "()V"), (89, .class_ 100), (1, u "java/lang/Math$RandomNumberGeneratorHolder"), (71, u "negativeZeroFloatBits"), (0, u "J"), (2, u "negativeZeroDoubleBits"), (21, u "max"), (46, u "$assertionsDisabled"), (0, u "Z"), (88, u "(II)I"), (2, u "twoToTheDoubleScaleDown"), (0, u "D"), (4, u "twoToTheDoubleScaleUp"), (9, u "E"), (3, u "PI"), (2, u "TAU"), (2, u "DEGREES_TO_RADIANS"), (0, u "RADIANS_TO_DEGREES")] 94

def k10m0 : Method := { name := "<init>", desc := "()V", sig := { parameters := [], returnType := none }, accessFlags := 2, code := none }
def k10c1 : Code := { maxStack := 2, maxLocals := 2, code := jdk_29_method_65_code, exceptionTable := #[], attributes := #[] }
def k10m1 : Method := { name := "max", desc := "(II)I", sig := { parameters := [.int, .int], returnType := some .int }, accessFlags := 9, code := some k10c1 }
/-- java/lang/Math -/
def k10 : Class := { plain "java/lang/Math" (some 0) with
  accessFlags := 49
  interfaces := #[]
  cf := some (fileOf pool10 1 #[.nestMembers #[98]] #[{ accessFlags := 2, nameIndex := 7, descriptorIndex := 8, attributes := #[] }, { accessFlags := 9, nameIndex := 198, descriptorIndex := 335, attributes := #[] }] 49 4 #[] #[{ accessFlags := 25, nameIndex := 354, descriptorIndex := 339, attributes := #[] }, { accessFlags := 25, nameIndex := 358, descriptorIndex := 339, attributes := #[] }, { accessFlags := 25, nameIndex := 361, descriptorIndex := 339, attributes := #[] }, { accessFlags := 26, nameIndex := 364, descriptorIndex := 339, attributes := #[] }, { accessFlags := 26, nameIndex := 365, descriptorIndex := 339, attributes := #[] }, { accessFlags := 26, nameIndex := 172, descriptorIndex := 173, attributes := #[] }, { accessFlags := 26, nameIndex := 176, descriptorIndex := 173, attributes := #[] }, { accessFlags := 8, nameIndex := 344, descriptorIndex := 339, attributes := #[] }, { accessFlags := 8, nameIndex := 338, descriptorIndex := 339, attributes := #[] }, { accessFlags := 4120, nameIndex := 245, descriptorIndex := 246, attributes := #[] }])
  fields := #[{ name := "E", type := .double, accessFlags := 25, slot := 0, constantValue := 0 }, { name := "PI", type := .double, accessFlags := 25, slot := 1, constantValue := 0 }, { name := "TAU", type := .double, accessFlags := 25, slot := 2, constantValue := 0 }, { name := "DEGREES_TO_RADIANS", type := .double, accessFlags := 26, slot := 3, constantValue := 0 }, { name := "RADIANS_TO_DEGREES", type := .double, accessFlags := 26, slot := 4, constantValue := 0 }, { name := "negativeZeroFloatBits", type := .long, accessFlags := 26, slot := 5, constantValue := 0 }, { name := "negativeZeroDoubleBits", type := .long, accessFlags := 26, slot := 6, constantValue := 0 }, { name := "twoToTheDoubleScaleUp", type := .double, accessFlags := 8, slot := 7, constantValue := 0 }, { name := "twoToTheDoubleScaleDown", type := .double, accessFlags := 8, slot := 8, constantValue := 0 }, { name := "$assertionsDisabled", type := .boolean, accessFlags := 4120, slot := 9, constantValue := 0 }]
  methods := #[k10m0, k10m1]
  instanceTypes := #[]
  staticTypes := #[.double, .double, .double, .double, .double, .long, .long, .double, .double, .boolean]
  resolved := Array.replicate 460 none
  statics := none }

def pool11 : Array CpInfo := pool [(2, .class_ 4), (1, u "java/lang/Object"), (3, .class_ 10), (1, u "com/example/remodel/remodel/Component"), (0, u "key"), (0, u "Ljava/lang/String;"), (2, u "tablePrefix"), (2, u "version"), (0, u "Lcom/example/remodel/remodel/ModelVersion;"), (2, u "entities"), (0, u "Ljava/util/List;"), (2, u "steps"), (11, u "checkLength"), (0, u "(Ljava/lang/String;Ljava/lang/String;I)V"), (0, .class_ 41), (0, u "com/example/remodel/remodel/Component$Builder"), (3, .methodref 46 47), (0, .class_ 48), (0, .nameAndType 49 50), (0, u "java/lang/String"), (0, u "isEmpty"), (0, u "()Z"), (0, .methodref 46 52), (0, .nameAndType 53 54), (0, u "length"), (0, u "()I"), (41, u "MAX_KEY_LENGTH"), (0, u "I")] 40

def k11c0 : Code := { maxStack := 6, maxLocals := 3, code := prog_4_method_3_code, exceptionTable := #[], attributes := #[] }
def k11m0 : Method := { name := "checkLength", desc := "(Ljava/lang/String;Ljava/lang/String;I)V", sig := { parameters := [(.object "java/lang/String"), (.object "java/lang/String"), .int], returnType := none }, accessFlags := 8, code := some k11c0 }
/-- com/example/remodel/remodel/Component -/
def k11 : Class := { plain "com/example/remodel/remodel/Component" (some 0) with
  accessFlags := 49
  interfaces := #[]
  cf := some (fileOf pool11 8 #[.nestMembers #[40]] #[{ accessFlags := 8, nameIndex := 38, descriptorIndex := 39, attributes := #[] }] 49 2 #[] #[{ accessFlags := 24, nameIndex := 96, descriptorIndex := 97, attributes := #[] }, { accessFlags := 18, nameIndex := 11, descriptorIndex := 12, attributes := #[] }, { accessFlags := 18, nameIndex := 15, descriptorIndex := 12, attributes := #[] }, { accessFlags := 18, nameIndex := 18, descriptorIndex := 19, attributes := #[] }, { accessFlags := 18, nameIndex := 22, descriptorIndex := 23, attributes := #[] }, { accessFlags := 18, nameIndex := 26, descriptorIndex := 23, attributes := #[] }])
  fields := #[{ name := "MAX_KEY_LENGTH", type := .int, accessFlags := 24, slot := 0, constantValue := 0 }, { name := "key", type := (.object "java/lang/String"), accessFlags := 18, slot := 0, constantValue := 0 }, { name := "tablePrefix", type := (.object "java/lang/String"), accessFlags := 18, slot := 1, constantValue := 0 }, { name := "version", type := (.object "com/example/remodel/remodel/ModelVersion"), accessFlags := 18, slot := 2, constantValue := 0 }, { name := "entities", type := (.object "java/util/List"), accessFlags := 18, slot := 3, constantValue := 0 }, { name := "steps", type := (.object "java/util/List"), accessFlags := 18, slot := 4, constantValue := 0 }]
  methods := #[k11m0]
  instanceTypes := #[(.object "java/lang/String"), (.object "java/lang/String"), (.object "com/example/remodel/remodel/ModelVersion"), (.object "java/util/List"), (.object "java/util/List")]
  staticTypes := #[.int]
  resolved := Array.replicate 138 none
  statics := none }

def pool12 : Array CpInfo := pool [(2, .class_ 4), (1, u "java/lang/Object"), (0, u "<init>"), (0, u "()V"), (17, .class_ 26), (1, u "jdk/internal/util/Preconditions"), (28, .class_ 56), (0, u "jdk/internal/util/Preconditions$4"), (57, .class_ 115), (0, u "jdk/internal/util/Preconditions$1"), (7, u "SIOOBE_FORMATTER"), (0, u "Ljava/util/function/BiFunction;"), (0, .class_ 126), (0, u "jdk/internal/util/Preconditions$2"), (3, u "AIOOBE_FORMATTER"), (0, .class_ 132), (0, u "jdk/internal/util/Preconditions$3"), (3, u "IOOBE_FORMATTER")] 57

def k12m0 : Method := { name := "<init>", desc := "()V", sig := { parameters := [], returnType := none }, accessFlags := 1, code := none }
/-- jdk/internal/util/Preconditions -/
def k12 : Class := { plain "jdk/internal/util/Preconditions" (some 0) with
  accessFlags := 33
  interfaces := #[]
  cf := some (fileOf pool12 24 #[.nestMembers #[55, 131, 125, 114]] #[{ accessFlags := 1, nameIndex := 5, descriptorIndex := 6, attributes := #[] }] 33 2 #[] #[{ accessFlags := 25, nameIndex := 123, descriptorIndex := 124, attributes := #[] }, { accessFlags := 25, nameIndex := 130, descriptorIndex := 124, attributes := #[] }, { accessFlags := 25, nameIndex := 136, descriptorIndex := 124, attributes := #[] }])
  fields := #[{ name := "SIOOBE_FORMATTER", type := (.object "java/util/function/BiFunction"), accessFlags := 25, slot := 0, constantValue := 0 }, { name := "AIOOBE_FORMATTER", type := (.object "java/util/function/BiFunction"), accessFlags := 25, slot := 1, constantValue := 0 }, { name := "IOOBE_FORMATTER", type := (.object "java/util/function/BiFunction"), accessFlags := 25, slot := 2, constantValue := 0 }]
  methods := #[k12m0]
  instanceTypes := #[]
  staticTypes := #[(.object "java/util/function/BiFunction"), (.object "java/util/function/BiFunction"), (.object "java/util/function/BiFunction")]
  resolved := Array.replicate 194 none
  statics := some 2 }

def pool13 : Array CpInfo := pool [(9, u "<init>"), (6, .class_ 18), (1, u "java/lang/Object"), (0, u "()V"), (1, .class_ 23), (1, u "jdk/internal/util/ArraysSupport"), (0, u "LOG2_ARRAY_LONG_INDEX_SCALE"), (0, u "I"), (2, u "U"), (0, u "Ljdk/internal/misc/Unsafe;"), (8, u "BIG_ENDIAN"), (0, u "Z"), (8, u "LOG2_BYTE_BIT_SIZE"), (4, u "LOG2_ARRAY_INT_INDEX_SCALE"), (54, u "JLA"), (0, u "Ljdk/internal/access/JavaLangAccess;"), (11, u "LOG2_ARRAY_BOOLEAN_INDEX_SCALE"), (9, u "LOG2_ARRAY_BYTE_INDEX_SCALE"), (5, u "LOG2_ARRAY_CHAR_INDEX_SCALE"), (5, u "LOG2_ARRAY_SHORT_INDEX_SCALE"), (18, u "LOG2_ARRAY_FLOAT_INDEX_SCALE"), (24, u "LOG2_ARRAY_DOUBLE_INDEX_SCALE"), (89, u "T_BOOLEAN"), (2, u "T_CHAR"), (1, u "T_FLOAT"), (1, u "T_DOUBLE"), (1, u "T_BYTE"), (1, u "T_SHORT"), (1, u "T_INT"), (1, u "T_LONG"), (1, u "SOFT_MAX_ARRAY_LENGTH")] 83

def k13m0 : Method := { name := "<init>", desc := "()V", sig := { parameters := [], returnType := none }, accessFlags := 2, code := none }
/-- jdk/internal/util/ArraysSupport -/
def k13 : Class := { plain "jdk/internal/util/ArraysSupport" (some 0) with
  accessFlags := 33
  interfaces := #[]
  cf := some (fileOf pool13 21 #[] #[{ accessFlags := 2, nameIndex := 9, descriptorIndex := 19, attributes := #[] }] 33 16 #[] #[{ accessFlags := 24, nameIndex := 28, descriptorIndex := 29, attributes := #[] }, { accessFlags := 26, nameIndex := 38, descriptorIndex := 39, attributes := #[] }, { accessFlags := 25, nameIndex := 121, descriptorIndex := 25, attributes := #[] }, { accessFlags := 25, nameIndex := 131, descriptorIndex := 25, attributes := #[] }, { accessFlags := 25, nameIndex := 137, descriptorIndex := 25, attributes := #[] }, { accessFlags := 25, nameIndex := 143, descriptorIndex := 25, attributes := #[] }, { accessFlags := 25, nameIndex := 53, descriptorIndex := 25, attributes := #[] }, { accessFlags := 25, nameIndex := 24, descriptorIndex := 25, attributes := #[] }, { accessFlags := 25, nameIndex := 162, descriptorIndex := 25, attributes := #[] }, { accessFlags := 25, nameIndex := 187, descriptorIndex := 25, attributes := #[] }, { accessFlags := 26, nameIndex := 48, descriptorIndex := 25, attributes := #[] }, { accessFlags := 25, nameIndex := 277, descriptorIndex := 25, attributes := #[] }, { accessFlags := 25, nameIndex := 280, descriptorIndex := 25, attributes := #[] }, { accessFlags := 25, nameIndex := 282, descriptorIndex := 25, attributes := #[] }, { accessFlags := 25, nameIndex := 284, descriptorIndex := 25, attributes := #[] }, { accessFlags := 25, nameIndex := 286, descriptorIndex := 25, attributes := #[] }, { accessFlags := 25, nameIndex := 288, descriptorIndex := 25, attributes := #[] }, { accessFlags := 25, nameIndex := 290, descriptorIndex := 25, attributes := #[] }, { accessFlags := 25, nameIndex := 292, descriptorIndex := 25, attributes := #[] }, { accessFlags := 26, nameIndex := 108, descriptorIndex := 109, attributes := #[] }, { accessFlags := 25, nameIndex := 294, descriptorIndex := 25, attributes := #[] }])
  fields := #[{ name := "U", type := (.object "jdk/internal/misc/Unsafe"), accessFlags := 24, slot := 0, constantValue := 0 }, { name := "BIG_ENDIAN", type := .boolean, accessFlags := 26, slot := 1, constantValue := 0 }, { name := "LOG2_ARRAY_BOOLEAN_INDEX_SCALE", type := .int, accessFlags := 25, slot := 2, constantValue := 0 }, { name := "LOG2_ARRAY_BYTE_INDEX_SCALE", type := .int, accessFlags := 25, slot := 3, constantValue := 0 }, { name := "LOG2_ARRAY_CHAR_INDEX_SCALE", type := .int, accessFlags := 25, slot := 4, constantValue := 0 }, { name := "LOG2_ARRAY_SHORT_INDEX_SCALE", type := .int, accessFlags := 25, slot := 5, constantValue := 0 }, { name := "LOG2_ARRAY_INT_INDEX_SCALE", type := .int, accessFlags := 25, slot := 6, constantValue := 0 }, { name := "LOG2_ARRAY_LONG_INDEX_SCALE", type := .int, accessFlags := 25, slot := 7, constantValue := 0 }, { name := "LOG2_ARRAY_FLOAT_INDEX_SCALE", type := .int, accessFlags := 25, slot := 8, constantValue := 0 }, { name := "LOG2_ARRAY_DOUBLE_INDEX_SCALE", type := .int, accessFlags := 25, slot := 9, constantValue := 0 }, { name := "LOG2_BYTE_BIT_SIZE", type := .int, accessFlags := 26, slot := 10, constantValue := 0 }, { name := "T_BOOLEAN", type := .int, accessFlags := 25, slot := 11, constantValue := 0 }, { name := "T_CHAR", type := .int, accessFlags := 25, slot := 12, constantValue := 0 }, { name := "T_FLOAT", type := .int, accessFlags := 25, slot := 13, constantValue := 0 }, { name := "T_DOUBLE", type := .int, accessFlags := 25, slot := 14, constantValue := 0 }, { name := "T_BYTE", type := .int, accessFlags := 25, slot := 15, constantValue := 0 }, { name := "T_SHORT", type := .int, accessFlags := 25, slot := 16, constantValue := 0 }, { name := "T_INT", type := .int, accessFlags := 25, slot := 17, constantValue := 0 }, { name := "T_LONG", type := .int, accessFlags := 25, slot := 18, constantValue := 0 }, { name := "JLA", type := (.object "jdk/internal/access/JavaLangAccess"), accessFlags := 26, slot := 19, constantValue := 0 }, { name := "SOFT_MAX_ARRAY_LENGTH", type := .int, accessFlags := 25, slot := 20, constantValue := 0 }]
  methods := #[k13m0]
  instanceTypes := #[]
  staticTypes := #[(.object "jdk/internal/misc/Unsafe"), .boolean, .int, .int, .int, .int, .int, .int, .int, .int, .int, .int, .int, .int, .int, .int, .int, .int, .int, (.object "jdk/internal/access/JavaLangAccess"), .int]
  resolved := Array.replicate 378 none
  statics := none }

def pool14 : Array CpInfo := pool [(1, u "java/lang/Cloneable"), (0, .class_ 1), (0, u "java/lang/Object"), (0, .class_ 3)] 3

/-- java/lang/Cloneable -/
def k14 : Class := { plain "java/lang/Cloneable" (some 0) with
  accessFlags := 1537
  interfaces := #[]
  cf := some (fileOf pool14 2 #[] #[] 1537 4 #[] #[])
  fields := #[]
  methods := #[]
  instanceTypes := #[]
  staticTypes := #[]
  resolved := Array.replicate 8 none
  statics := none }

/-- the primitive byte -/
def k15 : Class := { plain "byte" none with kind := .primitive 'B', accessFlags := 0x411 }
/-- [B -/
def k16 : Class := { plain "[B" (some 0) with kind := .array 15 .byte, interfaces := #[14, 2], accessFlags := 1041 }

/-- the primitive char -/
def k17 : Class := { plain "char" none with kind := .primitive 'C', accessFlags := 0x411 }
/-- [C -/
def k18 : Class := { plain "[C" (some 0) with kind := .array 17 .char, interfaces := #[14, 2], accessFlags := 1041 }

/-- the primitive int -/
def k19 : Class := { plain "int" none with kind := .primitive 'I', accessFlags := 0x411 }
/-- [I -/
def k20 : Class := { plain "[I" (some 0) with kind := .array 19 .int, interfaces := #[14, 2], accessFlags := 1041 }

def heap : Heap := #[{ cls := 7, slots := #[.long 0, .int 1, .null, .int 0, .null, .int 0, .int 0], vm := .statics 7 },
  { cls := 8, slots := #[.int 0, .int 8, .int 0, .int 1], vm := .statics 8 },
  { cls := 12, slots := #[.null, .null, .null], vm := .statics 12 }]
def classes : Array Class := #[k0, k1, k2, k3, k4, k5, k6, k7, k8, k9, k10, k11, k12, k13, k14, k15, k16, k17, k18, k19, k20]
def interned : List (Array UInt16 × Addr) := []
def slotsUsed : Nat := 14
def theMethod : MethodId := ⟨1, 2⟩
def args0 : Array Value := #[.int 5, .int 3, .int 1, .int 2, .int 7]
def aboutOver (below : List Frame) : State where
  vm := { classes := classes, interned := interned.toArray }
  heap := heap
  slotsUsed := slotsUsed
  threads := #[{ frames := .invoking theMethod args0 :: below }]
def below0 : List Frame := [.native { method := ⟨0, 0⟩, args := #[] }]
def about1 : State := aboutOver below0
def p0 : Program := .bare "" "" ""
def e0 : Env := launch0.env 0 0 0
theorem w_frames : about1.frames = Frame.invoking theMethod args0 :: below0 := rfl
set_option maxRecDepth 65536 in
theorem w_args : argsFit about1.vm theMethod args0 = true := by decide +kernel
set_option maxRecDepth 65536 in
theorem w_heap : heapFits about1 = true := by decide +kernel
set_option maxRecDepth 65536 in
theorem w_runnable : about1.curStatus? = some .runnable := by decide +kernel
set_option maxRecDepth 65536 in
theorem w_alone : about1.alone = true := by decide +kernel
set_option maxRecDepth 65536 in
theorem w_named : about1.methodNamed? x = some theMethod := by decide +kernel
set_option maxRecDepth 65536 in
theorem w_hears : about1.hears theMethod below0 = true := by decide +kernel
set_option maxRecDepth 65536 in
theorem w_ripe : about1.ripe theMethod args0 below0 = true := by decide +kernel
theorem w_running : about1.status = .running := rfl
set_option maxRecDepth 65536 in
theorem w_room : about1.hasRoom e0.platform room_1 = true :=
  launch0.hasRoom_least _ room_1 (by decide +kernel) (by decide +kernel) (by decide +kernel) (by decide +kernel) (by decide +kernel) (by decide +kernel)
theorem allAtoms_all (ts : List Jvm.Cond) (a : Array Jvm.Value) (st : Jvm.State) : (allAtoms ts).before a st = ts.all (fun c => c.before a st) := by
  induction ts with
  | nil => rfl
  | cons c t ih =>
    show (Jvm.Cond.and c (allAtoms t)).before a st = _
    rw [Jvm.Cond.before_and, ih, List.all_cons]
def words1 : List Jvm.Cond := Jvm.Cond.code x code maxLocals ret :: tables_1
/-- a 'code' word, met by the world's own term for the bytes: nothing is compared byte by byte -/
theorem code_word {y : MethodName} {bytes : ByteArray} {mx : Nat} {rt : Option FieldType} {a : Array Value} {s : State} {m : MethodId} {meth : Method} {c : Code} (h1 : s.methodNamed? y = some m) (h2 : s.vm.method? m = some meth) (h3 : meth.code = some c) (h4 : c.code = bytes)
    (h5 : (c.maxLocals == mx && c.exceptionTable.isEmpty && decide (c.maxStack ≤ mostOperands) && decide (meth.sig.returnType = rt) && !meth.locks && decide (parseMethodDescriptor y.desc = some meth.sig)) = true) : (Jvm.Cond.code y bytes mx rt).before a s = true := by
  simp only [Bool.and_eq_true, beq_iff_eq, Bool.not_eq_true', decide_eq_true_eq] at h5
  obtain ⟨⟨⟨⟨⟨g1, g2⟩, g3⟩, g4⟩, g5⟩, g6⟩ := h5
  simp [Cond.before, Cond.holds, Cond.value, h1, h2, h3, h4, g1, g2, g3, g4, g5, g6]
def isCode : Jvm.Cond → Bool
  | .code _ _ _ _ => true
  | _ => false
theorem all_split {L : List Jvm.Cond} {P : Jvm.Cond → Bool} (h1 : L.all (fun c => isCode c || P c) = true) (h2 : ∀ c ∈ L.filter isCode, P c = true) : L.all P = true := by
  refine List.all_eq_true.mpr fun c hc => ?_
  have h := List.all_eq_true.mp h1 c hc
  rcases Bool.eq_false_or_eq_true (isCode c) with hi | hi
  · exact h2 c (List.mem_filter.mpr ⟨hc, hi⟩)
  · simpa [hi] using h
set_option maxRecDepth 65536 in
theorem w_c0 : (Jvm.Cond.code x code maxLocals ret).before args0 about1 = true := code_word (m := ⟨1, 2⟩) (meth := k1m2) (c := k1c2) (by decide +kernel) rfl rfl rfl (by decide +kernel)
set_option maxRecDepth 65536 in
theorem w_c1 : (Jvm.Cond.code ({ cls := "com/example/remodel/remodel/ComponentCheckLengthPinLaw", name := "make", desc := "(ICCCC)Ljava/lang/String;" } : Jvm.MethodName) method_2_code (5 : Nat) (Option.some (Jvm.ClassFile.FieldType.object "java/lang/String"))).before args0 about1 = true := code_word (m := ⟨1, 1⟩) (meth := k1m1) (c := k1c1) (by decide +kernel) rfl rfl rfl (by decide +kernel)
set_option maxRecDepth 65536 in
theorem w_c2 : (Jvm.Cond.code ({ cls := "java/lang/String", name := "<init>", desc := "([C)V" } : Jvm.MethodName) jdk_42_method_3_code (2 : Nat) (Option.none : Option Jvm.ClassFile.FieldType)).before args0 about1 = true := code_word (m := ⟨7, 1⟩) (meth := k7m1) (c := k7c1) (by decide +kernel) rfl rfl rfl (by decide +kernel)
set_option maxRecDepth 65536 in
theorem w_c3 : (Jvm.Cond.code ({ cls := "java/lang/String", name := "<init>", desc := "([CIILjava/lang/Void;)V" } : Jvm.MethodName) jdk_42_method_149_code (6 : Nat) (Option.none : Option Jvm.ClassFile.FieldType)).before args0 about1 = true := code_word (m := ⟨7, 5⟩) (meth := k7m5) (c := k7c5) (by decide +kernel) rfl rfl rfl (by decide +kernel)
set_option maxRecDepth 65536 in
theorem w_c4 : (Jvm.Cond.code ({ cls := "java/lang/Object", name := "<init>", desc := "()V" } : Jvm.MethodName) object_method_1_code (1 : Nat) (Option.none : Option Jvm.ClassFile.FieldType)).before args0 about1 = true := code_word (m := ⟨0, 0⟩) (meth := k0m0) (c := k0c0) (by decide +kernel) rfl rfl rfl (by decide +kernel)
set_option maxRecDepth 65536 in
theorem w_c5 : (Jvm.Cond.code ({ cls := "java/lang/StringUTF16", name := "compress", desc := "([CII)[B" } : Jvm.MethodName) jdk_52_method_16_code (6 : Nat) (Option.some (Jvm.ClassFile.FieldType.array Jvm.ClassFile.FieldType.byte))).before args0 about1 = true := code_word (m := ⟨8, 7⟩) (meth := k8m7) (c := k8c7) (by decide +kernel) rfl rfl rfl (by decide +kernel)
set_option maxRecDepth 65536 in
theorem w_c6 : (Jvm.Cond.code ({ cls := "java/lang/StringUTF16", name := "compress", desc := "([CI[BII)I" } : Jvm.MethodName) jdk_52_method_21_code (7 : Nat) (Option.some Jvm.ClassFile.FieldType.int)).before args0 about1 = true := code_word (m := ⟨8, 8⟩) (meth := k8m8) (c := k8c8) (by decide +kernel) rfl rfl rfl (by decide +kernel)
set_option maxRecDepth 65536 in
theorem w_c7 : (Jvm.Cond.code ({ cls := "java/lang/StringUTF16", name := "coderFromArrayLen", desc := "([BI)B" } : Jvm.MethodName) jdk_52_method_15_code (2 : Nat) (Option.some Jvm.ClassFile.FieldType.byte)).before args0 about1 = true := code_word (m := ⟨8, 6⟩) (meth := k8m6) (c := k8c6) (by decide +kernel) rfl rfl rfl (by decide +kernel)
set_option maxRecDepth 65536 in
theorem w_c8 : (Jvm.Cond.code ({ cls := "java/lang/String", name := "valueOf", desc := "(C)Ljava/lang/String;" } : Jvm.MethodName) jdk_42_method_139_code (1 : Nat) (Option.some (Jvm.ClassFile.FieldType.object "java/lang/String"))).before args0 about1 = true := code_word (m := ⟨7, 4⟩) (meth := k7m4) (c := k7c4) (by decide +kernel) rfl rfl rfl (by decide +kernel)
set_option maxRecDepth 65536 in
theorem w_c9 : (Jvm.Cond.code ({ cls := "java/lang/StringLatin1", name := "canEncode", desc := "(C)Z" } : Jvm.MethodName) jdk_43_method_3_code (1 : Nat) (Option.some Jvm.ClassFile.FieldType.boolean)).before args0 about1 = true := code_word (m := ⟨9, 1⟩) (meth := k9m1) (c := k9c1) (by decide +kernel) rfl rfl rfl (by decide +kernel)
set_option maxRecDepth 65536 in
theorem w_c10 : (Jvm.Cond.code ({ cls := "java/lang/StringLatin1", name := "toBytes", desc := "(C)[B" } : Jvm.MethodName) jdk_43_method_46_code (1 : Nat) (Option.some (Jvm.ClassFile.FieldType.array Jvm.ClassFile.FieldType.byte))).before args0 about1 = true := code_word (m := ⟨9, 2⟩) (meth := k9m2) (c := k9c2) (by decide +kernel) rfl rfl rfl (by decide +kernel)
set_option maxRecDepth 65536 in
theorem w_c11 : (Jvm.Cond.code ({ cls := "java/lang/String", name := "<init>", desc := "([BB)V" } : Jvm.MethodName) jdk_42_method_151_code (3 : Nat) (Option.none : Option Jvm.ClassFile.FieldType)).before args0 about1 = true := code_word (m := ⟨7, 6⟩) (meth := k7m6) (c := k7c6) (by decide +kernel) rfl rfl rfl (by decide +kernel)
set_option maxRecDepth 65536 in
theorem w_c12 : (Jvm.Cond.code ({ cls := "java/lang/Math", name := "max", desc := "(II)I" } : Jvm.MethodName) jdk_29_method_65_code (2 : Nat) (Option.some Jvm.ClassFile.FieldType.int)).before args0 about1 = true := code_word (m := ⟨10, 1⟩) (meth := k10m1) (c := k10c1) (by decide +kernel) rfl rfl rfl (by decide +kernel)
set_option maxRecDepth 65536 in
theorem w_c13 : (Jvm.Cond.code ({ cls := "com/example/remodel/remodel/Component", name := "checkLength", desc := "(Ljava/lang/String;Ljava/lang/String;I)V" } : Jvm.MethodName) prog_4_method_3_code (3 : Nat) (Option.none : Option Jvm.ClassFile.FieldType)).before args0 about1 = true := code_word (m := ⟨11, 0⟩) (meth := k11m0) (c := k11c0) (by decide +kernel) rfl rfl rfl (by decide +kernel)
set_option maxRecDepth 65536 in
theorem w_c14 : (Jvm.Cond.code ({ cls := "java/lang/String", name := "isEmpty", desc := "()Z" } : Jvm.MethodName) jdk_42_method_55_code (1 : Nat) (Option.some Jvm.ClassFile.FieldType.boolean)).before args0 about1 = true := code_word (m := ⟨7, 3⟩) (meth := k7m3) (c := k7c3) (by decide +kernel) rfl rfl rfl (by decide +kernel)
set_option maxRecDepth 65536 in
theorem w_c15 : (Jvm.Cond.code ({ cls := "java/lang/String", name := "length", desc := "()I" } : Jvm.MethodName) jdk_42_method_54_code (1 : Nat) (Option.some Jvm.ClassFile.FieldType.int)).before args0 about1 = true := code_word (m := ⟨7, 2⟩) (meth := k7m2) (c := k7c2) (by decide +kernel) rfl rfl rfl (by decide +kernel)
set_option maxRecDepth 65536 in
theorem w_c16 : (Jvm.Cond.code ({ cls := "java/lang/String", name := "coder", desc := "()B" } : Jvm.MethodName) jdk_42_method_152_code (1 : Nat) (Option.some Jvm.ClassFile.FieldType.byte)).before args0 about1 = true := code_word (m := ⟨7, 7⟩) (meth := k7m7) (c := k7c7) (by decide +kernel) rfl rfl rfl (by decide +kernel)
set_option maxRecDepth 65536 in
theorem w_c17 : (Jvm.Cond.code ({ cls := "java/lang/StringUTF16", name := "toBytes", desc := "([CII)[B" } : Jvm.MethodName) jdk_52_method_14_code (5 : Nat) (Option.some (Jvm.ClassFile.FieldType.array Jvm.ClassFile.FieldType.byte))).before args0 about1 = true := code_word (m := ⟨8, 5⟩) (meth := k8m5) (c := k8c5) (by decide +kernel) rfl rfl rfl (by decide +kernel)
set_option maxRecDepth 65536 in
theorem w_c18 : (Jvm.Cond.code ({ cls := "java/lang/StringUTF16", name := "newBytesFor", desc := "(I)[B" } : Jvm.MethodName) jdk_52_method_2_code (1 : Nat) (Option.some (Jvm.ClassFile.FieldType.array Jvm.ClassFile.FieldType.byte))).before args0 about1 = true := code_word (m := ⟨8, 1⟩) (meth := k8m1) (c := k8c1) (by decide +kernel) rfl rfl rfl (by decide +kernel)
set_option maxRecDepth 65536 in
theorem w_c19 : (Jvm.Cond.code ({ cls := "java/lang/StringUTF16", name := "newBytesLength", desc := "(I)I" } : Jvm.MethodName) jdk_52_method_3_code (1 : Nat) (Option.some Jvm.ClassFile.FieldType.int)).before args0 about1 = true := code_word (m := ⟨8, 2⟩) (meth := k8m2) (c := k8c2) (by decide +kernel) rfl rfl rfl (by decide +kernel)
set_option maxRecDepth 65536 in
theorem w_c20 : (Jvm.Cond.code ({ cls := "java/lang/StringUTF16", name := "putChar", desc := "([BII)V" } : Jvm.MethodName) jdk_52_method_4_code (3 : Nat) (Option.none : Option Jvm.ClassFile.FieldType)).before args0 about1 = true := code_word (m := ⟨8, 3⟩) (meth := k8m3) (c := k8c3) (by decide +kernel) rfl rfl rfl (by decide +kernel)
set_option maxRecDepth 65536 in
theorem w_c21 : (Jvm.Cond.code ({ cls := "java/lang/StringUTF16", name := "getChar", desc := "([BI)C" } : Jvm.MethodName) jdk_52_method_5_code (2 : Nat) (Option.some Jvm.ClassFile.FieldType.char)).before args0 about1 = true := code_word (m := ⟨8, 4⟩) (meth := k8m4) (c := k8c4) (by decide +kernel) rfl rfl rfl (by decide +kernel)
def codes1 : List Jvm.Cond := [Jvm.Cond.code x code maxLocals ret, Jvm.Cond.code ({ cls := "com/example/remodel/remodel/ComponentCheckLengthPinLaw", name := "make", desc := "(ICCCC)Ljava/lang/String;" } : Jvm.MethodName) method_2_code (5 : Nat) (Option.some (Jvm.ClassFile.FieldType.object "java/lang/String")), Jvm.Cond.code ({ cls := "java/lang/String", name := "<init>", desc := "([C)V" } : Jvm.MethodName) jdk_42_method_3_code (2 : Nat) (Option.none : Option Jvm.ClassFile.FieldType), Jvm.Cond.code ({ cls := "java/lang/String", name := "<init>", desc := "([CIILjava/lang/Void;)V" } : Jvm.MethodName) jdk_42_method_149_code (6 : Nat) (Option.none : Option Jvm.ClassFile.FieldType), Jvm.Cond.code ({ cls := "java/lang/Object", name := "<init>", desc := "()V" } : Jvm.MethodName) object_method_1_code (1 : Nat) (Option.none : Option Jvm.ClassFile.FieldType), Jvm.Cond.code ({ cls := "java/lang/StringUTF16", name := "compress", desc := "([CII)[B" } : Jvm.MethodName) jdk_52_method_16_code (6 : Nat) (Option.some (Jvm.ClassFile.FieldType.array Jvm.ClassFile.FieldType.byte)), Jvm.Cond.code ({ cls := "java/lang/StringUTF16", name := "compress", desc := "([CI[BII)I" } : Jvm.MethodName) jdk_52_method_21_code (7 : Nat) (Option.some Jvm.ClassFile.FieldType.int), Jvm.Cond.code ({ cls := "java/lang/StringUTF16", name := "coderFromArrayLen", desc := "([BI)B" } : Jvm.MethodName) jdk_52_method_15_code (2 : Nat) (Option.some Jvm.ClassFile.FieldType.byte), Jvm.Cond.code ({ cls := "java/lang/String", name := "valueOf", desc := "(C)Ljava/lang/String;" } : Jvm.MethodName) jdk_42_method_139_code (1 : Nat) (Option.some (Jvm.ClassFile.FieldType.object "java/lang/String")), Jvm.Cond.code ({ cls := "java/lang/StringLatin1", name := "canEncode", desc := "(C)Z" } : Jvm.MethodName) jdk_43_method_3_code (1 : Nat) (Option.some Jvm.ClassFile.FieldType.boolean), Jvm.Cond.code ({ cls := "java/lang/StringLatin1", name := "toBytes", desc := "(C)[B" } : Jvm.MethodName) jdk_43_method_46_code (1 : Nat) (Option.some (Jvm.ClassFile.FieldType.array Jvm.ClassFile.FieldType.byte)), Jvm.Cond.code ({ cls := "java/lang/String", name := "<init>", desc := "([BB)V" } : Jvm.MethodName) jdk_42_method_151_code (3 : Nat) (Option.none : Option Jvm.ClassFile.FieldType), Jvm.Cond.code ({ cls := "java/lang/Math", name := "max", desc := "(II)I" } : Jvm.MethodName) jdk_29_method_65_code (2 : Nat) (Option.some Jvm.ClassFile.FieldType.int), Jvm.Cond.code ({ cls := "com/example/remodel/remodel/Component", name := "checkLength", desc := "(Ljava/lang/String;Ljava/lang/String;I)V" } : Jvm.MethodName) prog_4_method_3_code (3 : Nat) (Option.none : Option Jvm.ClassFile.FieldType), Jvm.Cond.code ({ cls := "java/lang/String", name := "isEmpty", desc := "()Z" } : Jvm.MethodName) jdk_42_method_55_code (1 : Nat) (Option.some Jvm.ClassFile.FieldType.boolean), Jvm.Cond.code ({ cls := "java/lang/String", name := "length", desc := "()I" } : Jvm.MethodName) jdk_42_method_54_code (1 : Nat) (Option.some Jvm.ClassFile.FieldType.int), Jvm.Cond.code ({ cls := "java/lang/String", name := "coder", desc := "()B" } : Jvm.MethodName) jdk_42_method_152_code (1 : Nat) (Option.some Jvm.ClassFile.FieldType.byte), Jvm.Cond.code ({ cls := "java/lang/StringUTF16", name := "toBytes", desc := "([CII)[B" } : Jvm.MethodName) jdk_52_method_14_code (5 : Nat) (Option.some (Jvm.ClassFile.FieldType.array Jvm.ClassFile.FieldType.byte)), Jvm.Cond.code ({ cls := "java/lang/StringUTF16", name := "newBytesFor", desc := "(I)[B" } : Jvm.MethodName) jdk_52_method_2_code (1 : Nat) (Option.some (Jvm.ClassFile.FieldType.array Jvm.ClassFile.FieldType.byte)), Jvm.Cond.code ({ cls := "java/lang/StringUTF16", name := "newBytesLength", desc := "(I)I" } : Jvm.MethodName) jdk_52_method_3_code (1 : Nat) (Option.some Jvm.ClassFile.FieldType.int), Jvm.Cond.code ({ cls := "java/lang/StringUTF16", name := "putChar", desc := "([BII)V" } : Jvm.MethodName) jdk_52_method_4_code (3 : Nat) (Option.none : Option Jvm.ClassFile.FieldType), Jvm.Cond.code ({ cls := "java/lang/StringUTF16", name := "getChar", desc := "([BI)C" } : Jvm.MethodName) jdk_52_method_5_code (2 : Nat) (Option.some Jvm.ClassFile.FieldType.char)]
set_option maxRecDepth 65536 in
theorem codes_eq : words1.filter isCode = codes1 := rfl
theorem w_codes : ∀ c ∈ words1.filter isCode, c.before args0 about1 = true := by
  rw [codes_eq]
  intro c hc
  simp only [codes1, List.mem_cons, List.not_mem_nil, or_false] at hc
  rcases hc with rfl | rfl | rfl | rfl | rfl | rfl | rfl | rfl | rfl | rfl | rfl | rfl | rfl | rfl | rfl | rfl | rfl | rfl | rfl | rfl | rfl | rfl
  · exact w_c0
  · exact w_c1
  · exact w_c2
  · exact w_c3
  · exact w_c4
  · exact w_c5
  · exact w_c6
  · exact w_c7
  · exact w_c8
  · exact w_c9
  · exact w_c10
  · exact w_c11
  · exact w_c12
  · exact w_c13
  · exact w_c14
  · exact w_c15
  · exact w_c16
  · exact w_c17
  · exact w_c18
  · exact w_c19
  · exact w_c20
  · exact w_c21
set_option maxRecDepth 65536 in
theorem w_t1 : (words1.take 24).all (fun c => isCode c || c.before args0 about1) = true := by decide +kernel
set_option maxRecDepth 65536 in
theorem w_t2 : ((words1.drop 24).take 24).all (fun c => isCode c || c.before args0 about1) = true := by decide +kernel
set_option maxRecDepth 65536 in
theorem w_t3 : (((words1.drop 24).drop 24).take 24).all (fun c => isCode c || c.before args0 about1) = true := by decide +kernel
set_option maxRecDepth 65536 in
theorem w_t4 : (((words1.drop 24).drop 24).drop 24).all (fun c => isCode c || c.before args0 about1) = true := by decide +kernel
theorem w_tables : (allAtoms (Jvm.Cond.code x code maxLocals ret :: tables_1)).before args0 about1 = true := by
  rw [allAtoms_all]
  show words1.all (fun c => c.before args0 about1) = true
  refine all_split ?_ w_codes
  rw [← List.take_append_drop 24 words1, List.all_append, w_t1, ← List.take_append_drop 24 (words1.drop 24), List.all_append, w_t2, ← List.take_append_drop 24 ((words1.drop 24).drop 24), List.all_append, w_t3, w_t4]
  rfl
set_option maxRecDepth 65536 in
theorem w_rest : rest_1_c.before args0 about1 = true := by decide +kernel
set_option maxRecDepth 65536 in
theorem w_case : (Jvm.Cond.and given_1 narrow_1).before args0 about1 = true := by decide +kernel
theorem w_applies : (headSpec (Jvm.Cond.code x code maxLocals ret :: tables_1) room_1).applies x e0.platform about1 = true :=
  (Spec.applies_iff w_frames).mpr ⟨w_running, w_runnable, w_alone, w_named, w_hears, w_ripe, w_room, w_tables⟩
theorem atStart : AtStart classFile x code maxLocals ret World_1 tables_1 room_1 Calls_1 rest_1 Pre_1 launch0 p0 e0 about1 theMethod args0 below0 :=
  ⟨lists_1, trivial, launch0.admits_env _ _ _, launch0.least_env, fairChoices_fair.cas, fairChoices_fair.clock, w_frames, w_args, w_heap, w_applies, trivial, w_rest, w_case⟩
end start1
theorem witness_1 : WitnessClaimed_1 := ⟨start1.p0, start1.e0, start1.about1, start1.theMethod, start1.args0, start1.below0, start1.atStart⟩
end Jvm.Pilot.@@N@@
