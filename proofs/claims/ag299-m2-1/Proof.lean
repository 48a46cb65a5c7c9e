import JvmDerived
import JvmDerived.Pilot.@@N@@Statement
import JvmDerived.Pilot.@@N@@Code
set_option linter.unusedVariables false
set_option linter.unusedSimpArgs false
namespace Jvm.RoadKit
open Sem ClassFile Op Lib Jvm.Stand Jvm.Free Jvm.LawKit
section New
variable {p : Program} {l : Launch} {e : Env} {R : Room} {s : State} {m : MethodId} {args : Array Value} {below : List Frame} {meth : Method} {c : Code} {T : State} {locs : List Loc} {cells slots : Nat}
theorem retI (X : Stand p l e R s m args below meth c T locs cells slots) (hx : p.tables.exec = Jvm.exec) {pc : Nat} {Ls : Array Slot} {z : Int32} {rest : List Value} (hret : meth.sig.returnType = some .int) (hd : decode c.code pc = .ok (.ireturn, 1)) {fs : List Frame}
    (hl : ∀ (f : JFrame) (acts : List Action), f.method = m → f.locked = none → f.entered = [] → (doReturn e (T.setTop f) acts (some (.int z))).1 = T.setFrames fs) : Steps p.tables e below (T.setTop (mkF m pc Ls (.int z :: rest))) (T.setFrames fs) := by
  have hm' : T.vm.method? m = some meth := X.method'
  have hn : narrow .int (.int z) = .int z := rfl
  show Steps p.tables e below (T.setTop { method := m, pc := pc, locals := Ls, stack := _ :: rest, locked := none }) _
  jvm_step X.here [X.here.top, hx, hd, hm', hret, hn]
  first | (intro acts; rw [hl _ acts rfl rfl rfl]) | rw [hl _ _ rfl rfl rfl]
  exact Steps.refl _
end New
end Jvm.RoadKit
/- laws to paste: Road.backV (cut by pick.py; bodies as the Statement names them) -/
namespace Jvm.Pilot.@@N@@
namespace StrChars
open Jvm Sem ClassFile Op Lib Jvm.Stand Jvm.Free.XT Jvm.Free.ALB Jvm.Free.JM Jvm.Free
open Jvm.Lib.Cold (StaticIs)
/-- a char array whose places are chars -/
def Ch (a : Addr) (A : Cell) (U : State) : Prop := Arr .char a A U ∧ Typed .char A
theorem Ch.mv {a : Addr} {A : Cell} {U U' : State} (h : Ch a A U) (hal : U.vm.Alike U'.vm) (hh : U'.heap = U.heap) : Ch a A U' := ⟨h.1.mv hal hh, h.2⟩
theorem Ch.keep {a : Addr} {A : Cell} {U U' : State} (h : Ch a A U) (hal : U.vm.Alike U'.vm) (hk : U'.heap[a]? = some A) : Ch a A U' := ⟨h.1.keep hal hk, h.2⟩
/-- what place i of a char[]'s cell holds -/
def cv (A : Cell) (i : Nat) : Int32 := match A.slots[i]? with | some (.int x) => x | _ => 0
theorem Ch.get {a : Addr} {A : Cell} {U : State} (h : Ch a A U) {i : Nat} (hi : i < A.slots.size) : A.slots[i]? = some (.int (cv A i)) := by
  have e := Array.getElem?_eq_getElem hi
  have f := h.2 i _ e
  unfold cv; rw [e]
  generalize A.slots[i] = v at f
  cases v <;> simp [fits] at f ⊢
/-- the byte that i2b leaves of a char -/
def lo8 (x : Int32) : Int32 := x.toInt8.toInt32
theorem fits_lo8 (y : Int32) : fits .byte (.int (lo8 y)) = true := by
  have h1 := y.toInt8.le_toInt
  have h2 := y.toInt8.toInt_lt
  simp only [lo8, fits, Bool.and_eq_true, decide_eq_true_eq, Int32.le_iff_toInt_le, Int8.toInt_toInt32, show (-128 : Int32).toInt = -128 from by decide, show (127 : Int32).toInt = 127 from by decide]
  omega
/-- A' is A but that each place j of lo .. hi - 1 holds f j -/
def Laid (A A' : Cell) (lo hi : Nat) (f : Nat → Value) : Prop := A'.cls = A.cls ∧ A'.vm = A.vm ∧ A'.slots.size = A.slots.size ∧ ∀ i, A'.slots[i]? = if lo ≤ i ∧ i < hi then some (f i) else A.slots[i]?
theorem Laid.zero (A : Cell) (lo : Nat) (f : Nat → Value) : Laid A A lo (lo + 0) f := ⟨rfl, rfl, rfl, fun i => by rw [if_neg (by omega)]⟩
theorem Laid.step {A Ak : Cell} {lo k : Nat} {f : Nat → Value} {v : Value} (h : Laid A Ak lo k f) (hlo : lo ≤ k) (hk : k < Ak.slots.size) (hv : v = f k) : Laid A (Ak.setSlot k v) lo (k + 1) f := by
  refine ⟨h.1, h.2.1, by simpa [Cell.setSlot] using h.2.2.1, fun i => ?_⟩
  by_cases e : k = i
  · subst e; rw [Cell.slots_setSlot_self v hk, if_pos (by omega), hv]
  · rw [Cell.slots_setSlot_ne v e, h.2.2.2 i]
    by_cases q : lo ≤ i ∧ i < k
    · rw [if_pos q, if_pos (by omega)]
    · rw [if_neg q, if_neg (by omega)]
def U16 : String := "java/lang/StringUTF16"
namespace Cmp5
def yN : MethodName := ⟨"java/lang/StringUTF16", "compress", "([CI[BII)I"⟩
abbrev yB : ByteArray := jdk_52_method_21_code
theorem d0 : decode yB 0 = .ok (.iconst 0, 1) := by decide +kernel
theorem d1 : decode yB 1 = .ok (.istore 5, 2) := by decide +kernel
theorem d3 : decode yB 3 = .ok (.iload 5, 2) := by decide +kernel
theorem d5 : decode yB 5 = .ok (.iload 4, 2) := by decide +kernel
theorem d7 : decode yB 7 = .ok (.if_icmp (.ge) 37, 3) := by decide +kernel
theorem d10 : decode yB 10 = .ok (.aload_n 0, 1) := by decide +kernel
theorem d11 : decode yB 11 = .ok (.iload_n 1, 1) := by decide +kernel
theorem d12 : decode yB 12 = .ok (.caload, 1) := by decide +kernel
theorem d13 : decode yB 13 = .ok (.istore 6, 2) := by decide +kernel
theorem d15 : decode yB 15 = .ok (.iload 6, 2) := by decide +kernel
theorem d17 : decode yB 17 = .ok (.sipush 255, 3) := by decide +kernel
theorem d20 : decode yB 20 = .ok (.if_icmp (.le) 6, 3) := by decide +kernel
theorem d26 : decode yB 26 = .ok (.aload_n 2, 1) := by decide +kernel
theorem d27 : decode yB 27 = .ok (.iload_n 3, 1) := by decide +kernel
theorem d28 : decode yB 28 = .ok (.iload 6, 2) := by decide +kernel
theorem d30 : decode yB 30 = .ok (.i2b, 1) := by decide +kernel
theorem d31 : decode yB 31 = .ok (.bastore, 1) := by decide +kernel
theorem d32 : decode yB 32 = .ok (.iinc 1 1, 3) := by decide +kernel
theorem d35 : decode yB 35 = .ok (.iinc 3 1, 3) := by decide +kernel
theorem d38 : decode yB 38 = .ok (.iinc 5 1, 3) := by decide +kernel
theorem d41 : decode yB 41 = .ok (.goto (-38), 3) := by decide +kernel
theorem d44 : decode yB 44 = .ok (.iload 4, 2) := by decide +kernel
theorem d46 : decode yB 46 = .ok (.ireturn, 1) := by decide +kernel
def site : List Cond := []
def tab : Cond := tabOf yN yB 7 (some .int) site
def P (b : Addr) (A : Cell) (d : Addr) (B : Cell) (o q len : Nat) (args : Array Value) (s : State) : Prop := args = #[.ref b, .int (Int32.ofNat o), .ref d, .int (Int32.ofNat q), .int (Int32.ofNat len)] ∧ Ch b A s ∧ Arr .byte d B s ∧ b ≠ d ∧ o + len ≤ A.slots.size ∧ q + len ≤ B.slots.size ∧ ∀ i, i < len → ¬ 255 < cv A (o + i)
def E (b : Addr) (A : Cell) (d : Addr) (B : Cell) (o q len : Nat) (r : Option Value) (s u : State) : Prop := r = some (.int (Int32.ofNat len)) ∧ ∃ B', Put d B' s u ∧ Laid B B' q (q + len) (fun j => Value.int (lo8 (cv A (o + (j - q)))))
/-- no char of the range above 255: len; the places written hold each char's low byte -/
theorem law (l : Launch) (b : Addr) (A : Cell) (d : Addr) (B : Cell) (o q len : Nat) : Law l yN 5 5 0 0 yB 7 (some .int) site (P b A d B o q len) (E b A d B o q len) (copyLocs d q len) 0 0 := by
  refine Law.of_walk (plainFor_of_name (by decide +kernel)) (by decide +kernel) (by decide +kernel) (by decide) (fun _ _ h => by rw [h.1]; rfl) (fun _ U U' hal hh h => ⟨h.1, h.2.1.mv hal hh, h.2.2.1.mv hal hh, h.2.2.2⟩) (fun r U U' V V' h1 hal h2 h => ⟨h.1, h.2.elim fun B' q => ⟨B', q.1.mv h1 h2, q.2⟩⟩) ?_
  intro p e s m args below meth c s₁ X0 hexec hbytes hml hret hlk hnm hown hh0 W hP
  obtain ⟨rfl, hA, hB, hne, l1, l2, hp⟩ := hP
  have c1 : Steps p.tables e below (s₁.setTop (entryFrame m #[.ref b, .int (Int32.ofNat o), .ref d, .int (Int32.ofNat q), .int (Int32.ofNat len)] 7)) (s₁.setTop (mkF m 0 #[.val (.ref b), .val (.int (Int32.ofNat o)), .val (.ref d), .val (.int (Int32.ofNat q)), .val (.int (Int32.ofNat len)), .unset, .unset] [])) := entry rfl
  have hA0 := hA.1.mv X0.warmed.alike hh0
  have hB0 := hB.mv X0.warmed.alike hh0
  have a31 := hA.1.2.2.2
  have c2 : Steps p.tables e below (s₁.setTop (entryFrame m #[.ref b, .int (Int32.ofNat o), .ref d, .int (Int32.ofNat q), .int (Int32.ofNat len)] 7)) (s₁.setTop (mkF m 3 #[.val (.ref b), .val (.int (Int32.ofNat o)), .val (.ref d), .val (.int (Int32.ofNat q)), .val (.int (Int32.ofNat len)), .val (.int 0), .unset] [])) := c1.trans (by
    refine iconstV X0.here hexec rfl 0 (hb hbytes d0) (by decide) ?_
    refine XS.istore X0.here hexec rfl (hb hbytes d1) rfl rfl ?_
    exact Steps.refl _)
  have loop : ∀ (r i : Nat), i + r = len → ∀ (z : Slot), (z = .unset ∨ ∃ w, z = .val w ∧ w.category = 1) → ∀ (Tl : State) (Bk : Cell), Stand p l e { frames := 0, locals := 0, cells := 0, slots := 0 } s m #[.ref b, .int (Int32.ofNat o), .ref d, .int (Int32.ofNat q), .int (Int32.ofNat len)] below meth c Tl ([] ++ copyLocs d q i) 0 0 → Put d Bk s₁ Tl → Laid B Bk q (q + i) (fun j => Value.int (lo8 (cv A (o + (j - q))))) →
      Steps p.tables e below (s₁.setTop (entryFrame m #[.ref b, .int (Int32.ofNat o), .ref d, .int (Int32.ofNat q), .int (Int32.ofNat len)] 7)) (Tl.setTop (mkF m 3 #[.val (.ref b), .val (.int (Int32.ofNat (o + i))), .val (.ref d), .val (.int (Int32.ofNat (q + i))), .val (.int (Int32.ofNat len)), .val (.int (Int32.ofNat i)), z] [])) → ∃ (T' : State) (B' : Cell) (z' : Slot), Stand p l e { frames := 0, locals := 0, cells := 0, slots := 0 } s m #[.ref b, .int (Int32.ofNat o), .ref d, .int (Int32.ofNat q), .int (Int32.ofNat len)] below meth c T' ([] ++ copyLocs d q len) 0 0 ∧ Put d B' s₁ T' ∧ Laid B B' q (q + len) (fun j => Value.int (lo8 (cv A (o + (j - q))))) ∧
      Steps p.tables e below (s₁.setTop (entryFrame m #[.ref b, .int (Int32.ofNat o), .ref d, .int (Int32.ofNat q), .int (Int32.ofNat len)] 7)) (T'.setTop (mkF m 3 #[.val (.ref b), .val (.int (Int32.ofNat (o + len))), .val (.ref d), .val (.int (Int32.ofNat (q + len))), .val (.int (Int32.ofNat len)), .val (.int (Int32.ofNat len)), z'] [])) := by
    intro r
    induction r with
    | zero =>
      intro i hi z hz Tl Bk Xl pl fl cl
      have hil : i = len := by omega
      rw [hil] at Xl fl cl
      exact ⟨Tl, Bk, z, Xl, pl, fl, cl⟩
    | succ r ih =>
      intro i hi z hz Tl Bk Xl pl fl cl
      have all := X0.warmed.alike.symm.trans Xl.warmed.alike
      have hAl := hA0.keep all (pl.other hne hA0.1)
      have hBk := hB0.like all pl.1 fl.1 fl.2.1 fl.2.2.1
      have hlt : q + i < Bk.slots.size := by rw [fl.2.2.1]; omega
      have c3 : Steps p.tables e below (s₁.setTop (entryFrame m #[.ref b, .int (Int32.ofNat o), .ref d, .int (Int32.ofNat q), .int (Int32.ofNat len)] 7)) (Tl.setTop (mkF m 12 #[.val (.ref b), .val (.int (Int32.ofNat (o + i))), .val (.ref d), .val (.int (Int32.ofNat (q + i))), .val (.int (Int32.ofNat len)), .val (.int (Int32.ofNat i)), z] [.int (Int32.ofNat (o + i)), .ref b])) := cl.trans (by
        refine XS.iload Xl.here hexec rfl (hb hbytes d3) rfl ?_
        refine XS.iload Xl.here hexec rfl (hb hbytes d5) rfl ?_
        refine XS.icmpNo Xl.here hexec rfl (hb hbytes d7) rfl (ii_ge_f (lt32 (by omega) (by omega))) ?_
        refine XS.aloadN Xl.here hexec rfl (hb hbytes d10) rfl rfl ?_
        refine XS.iloadN Xl.here hexec rfl (hb hbytes d11) rfl ?_
        exact Steps.refl _)
      have c4 : Steps p.tables e below (s₁.setTop (entryFrame m #[.ref b, .int (Int32.ofNat o), .ref d, .int (Int32.ofNat q), .int (Int32.ofNat len)] 7)) (Tl.setTop (mkF m 13 #[.val (.ref b), .val (.int (Int32.ofNat (o + i))), .val (.ref d), .val (.int (Int32.ofNat (q + i))), .val (.int (Int32.ofNat len)), .val (.int (Int32.ofNat i)), z] [.int (cv A (o + i))])) := c3.trans (by
        refine Xl.aget hexec hAl rfl (hA.get (i := o + i) (by omega)) rfl rfl (hb hbytes d12) ?_
        exact Steps.refl _)
      have c5 : Steps p.tables e below (s₁.setTop (entryFrame m #[.ref b, .int (Int32.ofNat o), .ref d, .int (Int32.ofNat q), .int (Int32.ofNat len)] 7)) (Tl.setTop (mkF m 15 #[.val (.ref b), .val (.int (Int32.ofNat (o + i))), .val (.ref d), .val (.int (Int32.ofNat (q + i))), .val (.int (Int32.ofNat len)), .val (.int (Int32.ofNat i)), .val (.int (cv A (o + i)))] [])) := c4.trans (by
        refine XS.istoreS Xl.here hexec rfl (hb hbytes d13) rfl rfl hz ?_
        exact Steps.refl _)
      have c6 : Steps p.tables e below (s₁.setTop (entryFrame m #[.ref b, .int (Int32.ofNat o), .ref d, .int (Int32.ofNat q), .int (Int32.ofNat len)] 7)) (Tl.setTop (mkF m 31 #[.val (.ref b), .val (.int (Int32.ofNat (o + i))), .val (.ref d), .val (.int (Int32.ofNat (q + i))), .val (.int (Int32.ofNat len)), .val (.int (Int32.ofNat i)), .val (.int (cv A (o + i)))] [.int (lo8 (cv A (o + i))), .int (Int32.ofNat (q + i)), .ref d])) := c5.trans (by
        refine XS.iload Xl.here hexec rfl (hb hbytes d15) rfl ?_
        refine sipushV Xl.here hexec rfl 255 (hb hbytes d17) (by decide) ?_
        refine XS.icmpYes Xl.here hexec rfl (pc0 := 20) rfl (hb hbytes d20) rfl (ii_le_t (hp i (by omega))) (by decide) rfl ?_
        refine XS.aloadN Xl.here hexec rfl (hb hbytes d26) rfl rfl ?_
        refine XS.iloadN Xl.here hexec rfl (hb hbytes d27) rfl ?_
        refine XS.iload Xl.here hexec rfl (hb hbytes d28) rfl ?_
        refine i2b Xl.here hexec rfl (hb hbytes d30) rfl ?_
        exact Steps.refl _)
      obtain ⟨T7, X7, p7, st7⟩ := Xl.aput hexec hBk rfl hlt rfl (fits_lo8 (cv A (o + i))) (g := (mkF m 31 #[.val (.ref b), .val (.int (Int32.ofNat (o + i))), .val (.ref d), .val (.int (Int32.ofNat (q + i))), .val (.int (Int32.ofNat len)), .val (.int (Int32.ofNat i)), .val (.int (cv A (o + i)))] [.int (lo8 (cv A (o + i))), .int (Int32.ofNat (q + i)), .ref d])) rfl (rest := []) rfl (hb hbytes d31)
      have c8 : Steps p.tables e below (s₁.setTop (entryFrame m #[.ref b, .int (Int32.ofNat o), .ref d, .int (Int32.ofNat q), .int (Int32.ofNat len)] 7)) (T7.setTop (mkF m 32 #[.val (.ref b), .val (.int (Int32.ofNat (o + i))), .val (.ref d), .val (.int (Int32.ofNat (q + i))), .val (.int (Int32.ofNat len)), .val (.int (Int32.ofNat i)), .val (.int (cv A (o + i)))] [])) := c6.trans (st7 _ (Steps.refl _))
      have c9 : Steps p.tables e below (s₁.setTop (entryFrame m #[.ref b, .int (Int32.ofNat o), .ref d, .int (Int32.ofNat q), .int (Int32.ofNat len)] 7)) (T7.setTop (mkF m 3 #[.val (.ref b), .val (.int (Int32.ofNat (o + i) + 1)), .val (.ref d), .val (.int (Int32.ofNat (q + i) + 1)), .val (.int (Int32.ofNat len)), .val (.int (Int32.ofNat i + 1)), .val (.int (cv A (o + i)))] [])) := c8.trans (by
        refine iincV X7.here hexec rfl 1 (hb hbytes d32) (by decide) rfl rfl ?_
        refine iincV X7.here hexec rfl 1 (hb hbytes d35) (by decide) rfl rfl ?_
        refine iincV X7.here hexec rfl 1 (hb hbytes d38) (by decide) rfl rfl ?_
        refine XS.goto X7.here hexec rfl (pc0 := 41) rfl (hb hbytes d41) (by decide) rfl ?_
        exact Steps.refl _)
      have c10 : Steps p.tables e below (s₁.setTop (entryFrame m #[.ref b, .int (Int32.ofNat o), .ref d, .int (Int32.ofNat q), .int (Int32.ofNat len)] 7)) (T7.setTop (mkF m 3 #[.val (.ref b), .val (.int (Int32.ofNat (o + (i + 1)))), .val (.ref d), .val (.int (Int32.ofNat (q + (i + 1)))), .val (.int (Int32.ofNat len)), .val (.int (Int32.ofNat (i + 1))), .val (.int (cv A (o + i)))] [])) := by
        have := c9
        rw [succ32, succ32, succ32] at this
        exact this
      exact ih (i + 1) (by omega) _ (Or.inr ⟨_, rfl, rfl⟩) T7 _ (by rw [copyLocs_step, ← List.append_assoc]; exact X7) (pl.trans p7) (fl.step (by omega) hlt (by simp)) c10
  obtain ⟨T9, B9, z9, X9, p9, f9, g9⟩ := loop len 0 (by omega) .unset (Or.inl rfl) s₁ B (by simpa [copyLocs] using X0) ⟨hB0.1, fun _ _ => rfl, rfl⟩ (Laid.zero _ _ _) c2
  have c11 : Steps p.tables e below (s₁.setTop (entryFrame m #[.ref b, .int (Int32.ofNat o), .ref d, .int (Int32.ofNat q), .int (Int32.ofNat len)] 7)) (T9.setTop (mkF m 46 #[.val (.ref b), .val (.int (Int32.ofNat (o + len))), .val (.ref d), .val (.int (Int32.ofNat (q + len))), .val (.int (Int32.ofNat len)), .val (.int (Int32.ofNat len)), z9] [.int (Int32.ofNat len)])) := g9.trans (by
    refine XS.iload X9.here hexec rfl (hb hbytes d3) rfl ?_
    refine XS.iload X9.here hexec rfl (hb hbytes d5) rfl ?_
    refine XS.icmpYes X9.here hexec rfl (pc0 := 7) rfl (hb hbytes d7) rfl (ii_ge_t (nlt32 (by omega) (Nat.le_refl _))) (by decide) rfl ?_
    refine XS.iload X9.here hexec rfl (hb hbytes d44) rfl ?_
    exact Steps.refl _)
  exact ⟨T9, some (.int (Int32.ofNat len)), _, _, _, X9, by simp, rfl, rfl, (fun h => by cases h), ⟨rfl, B9, p9.from hh0, f9⟩, fun fs hl => c11.trans (X9.ireturnOut hexec hret rfl (Or.inl rfl) (hb hbytes d46) hl)⟩
end Cmp5
namespace Cmp3
def yN : MethodName := ⟨"java/lang/StringUTF16", "compress", "([CII)[B"⟩
abbrev yB : ByteArray := jdk_52_method_16_code
theorem d0 : decode yB 0 = .ok (.iload_n 2, 1) := by decide +kernel
theorem d1 : decode yB 1 = .ok (.newarray .byte, 2) := by decide +kernel
theorem d3 : decode yB 3 = .ok (.astore_n 3, 1) := by decide +kernel
theorem d4 : decode yB 4 = .ok (.aload_n 0, 1) := by decide +kernel
theorem d5 : decode yB 5 = .ok (.iload_n 1, 1) := by decide +kernel
theorem d6 : decode yB 6 = .ok (.aload_n 3, 1) := by decide +kernel
theorem d7 : decode yB 7 = .ok (.iconst 0, 1) := by decide +kernel
theorem d8 : decode yB 8 = .ok (.iload_n 2, 1) := by decide +kernel
theorem d9 : decode yB 9 = .ok (.invokestatic 115, 3) := by decide +kernel
theorem d12 : decode yB 12 = .ok (.istore 4, 2) := by decide +kernel
theorem d14 : decode yB 14 = .ok (.iload 4, 2) := by decide +kernel
theorem d16 : decode yB 16 = .ok (.iload_n 2, 1) := by decide +kernel
theorem d17 : decode yB 17 = .ok (.if_icmp (.eq) 40, 3) := by decide +kernel
theorem d57 : decode yB 57 = .ok (.aload_n 3, 1) := by decide +kernel
theorem d58 : decode yB 58 = .ok (.areturn, 1) := by decide +kernel
def site : List Cond := [.arrayClass .byte, Cmp5.tab] ++ staticW U16 115 Cmp5.yN
def tab : Cond := tabOf yN yB 6 (some (.array .byte)) site
def P (b : Addr) (A : Cell) (o len : Nat) (args : Array Value) (s : State) : Prop := args = #[.ref b, .int (Int32.ofNat o), .int (Int32.ofNat len)] ∧ Ch b A s ∧ o + len ≤ A.slots.size ∧ len ≤ 536870912 ∧ ∀ i, i < len → ¬ 255 < cv A (o + i)
def E (b : Addr) (A : Cell) (o len : Nat) (r : Option Value) (s u : State) : Prop := NewArr .byte "[B" len (fun j => .int (lo8 (cv A (o + j)))) r s u ∧ u.heap.size = s.heap.size + 1
/-- no char of the range above 255: a new byte[] of their low bytes -/
theorem law (l : Launch) (b : Addr) (A : Cell) (o len : Nat) : Law l yN 3 3 1 18 yB 6 (some (.array .byte)) site (P b A o len) (E b A o len) [] 1 len := by
  refine Law.of_walk (plainFor_of_name (by decide +kernel)) (by decide +kernel) (by decide +kernel) (by decide) (fun _ _ h => by rw [h.1]; rfl) (fun _ U U' hal hh h => ⟨h.1, h.2.1.mv hal hh, h.2.2⟩) (fun r U U' V V' h1 hal h2 h => ⟨NewArr.mv r U U' V V' h1 hal h2 h.1, by rw [h1, h2]; exact h.2⟩) ?_
  intro p e s m args below meth c s₁ X0 hexec hbytes hml hret hlk hnm hown hh0 W hP
  obtain ⟨rfl, hA, l1, l2, hp⟩ := hP
  have a31 := hA.1.2.2.2
  have c1 : Steps p.tables e below (s₁.setTop (entryFrame m #[.ref b, .int (Int32.ofNat o), .int (Int32.ofNat len)] 6)) (s₁.setTop (mkF m 0 #[.val (.ref b), .val (.int (Int32.ofNat o)), .val (.int (Int32.ofNat len)), .unset, .unset, .unset] [])) := entry rfl
  have c2 : Steps p.tables e below (s₁.setTop (entryFrame m #[.ref b, .int (Int32.ofNat o), .int (Int32.ofNat len)] 6)) (s₁.setTop (mkF m 1 #[.val (.ref b), .val (.int (Int32.ofNat o)), .val (.int (Int32.ofNat len)), .unset, .unset, .unset] [.int (Int32.ofNat len)])) := c1.trans (by
    refine XS.iloadN X0.here hexec rfl (hb hbytes d0) rfl ?_
    exact Steps.refl _)
  obtain ⟨T3, B3, X3, ba3, bs3, bv3, bh3, bf3, st3⟩ := X0.anew hexec (atype := .byte) (wk W (.arrayClass .byte)) rfl (by show len * 1 ≤ _; omega) (by omega) (g := (mkF m 1 #[.val (.ref b), .val (.int (Int32.ofNat o)), .val (.int (Int32.ofNat len)), .unset, .unset, .unset] [.int (Int32.ofNat len)])) rfl (hb hbytes d1) (rest := []) rfl (Nat.le_refl _) (by show 0 + len ≤ len; omega)
  rw [hh0] at ba3 st3
  have kp3 : XT.Kept s T3 := (XT.Kept.of_eq hh0).push bh3
  have hA3 := hA.keep X3.warmed.alike (kp3 _ _ hA.1.1)
  have hne : b ≠ s.heap.size := hA.1.ne
  have c4 : Steps p.tables e below (s₁.setTop (entryFrame m #[.ref b, .int (Int32.ofNat o), .int (Int32.ofNat len)] 6)) (T3.setTop (mkF m 3 #[.val (.ref b), .val (.int (Int32.ofNat o)), .val (.int (Int32.ofNat len)), .unset, .unset, .unset] [.ref s.heap.size])) := c2.trans (st3 _ (Steps.refl _))
  have c5 : Steps p.tables e below (s₁.setTop (entryFrame m #[.ref b, .int (Int32.ofNat o), .int (Int32.ofNat len)] 6)) (T3.setTop (mkF m 9 #[.val (.ref b), .val (.int (Int32.ofNat o)), .val (.int (Int32.ofNat len)), .val (.ref s.heap.size), .unset, .unset] [.int (Int32.ofNat len), .int 0, .ref s.heap.size, .int (Int32.ofNat o), .ref b])) := c4.trans (by
    refine XS.astoreN X3.here hexec rfl (hb hbytes d3) rfl rfl rfl ?_
    refine XS.aloadN X3.here hexec rfl (hb hbytes d4) rfl rfl ?_
    refine XS.iloadN X3.here hexec rfl (hb hbytes d5) rfl ?_
    refine XS.aloadN X3.here hexec rfl (hb hbytes d6) rfl rfl ?_
    refine iconstV X3.here hexec rfl 0 (hb hbytes d7) (by decide) ?_
    refine XS.iloadN X3.here hexec rfl (hb hbytes d8) rfl ?_
    exact Steps.refl _)
  obtain ⟨v6, T6, X6, E6, g6⟩ := X3.callS hexec (Cmp5.law l b A s.heap.size B3 o 0 len) hown (wks W (staticW U16 115 Cmp5.yN)) (wk W Cmp5.tab) (W := 0) (Nat.le_of_ble_eq_true rfl) (Nat.le_of_ble_eq_true rfl) (Nat.le_refl _) (by show 0 + len + 0 ≤ len; omega) (g := (mkF m 9 #[.val (.ref b), .val (.int (Int32.ofNat o)), .val (.int (Int32.ofNat len)), .val (.ref s.heap.size), .unset, .unset] [.int (Int32.ofNat len), .int (Int32.ofNat 0), .ref s.heap.size, .int (Int32.ofNat o), .ref b])) rfl (by rw [hml]; rfl) c5 (argsL := [.ref b, .int (Int32.ofNat o), .ref s.heap.size, .int (Int32.ofNat 0), .int (Int32.ofNat len)]) (rest := []) rfl rfl (by show 2 * 0 + 0 ≤ _; decide) (hb hbytes d9) (⟨rfl, hA3, ba3, hne, l1, by rw [bs3]; simp, hp⟩)
  obtain ⟨rfl, B6, p6, f6⟩ := E6
  have c7 : Steps p.tables e below (s₁.setTop (entryFrame m #[.ref b, .int (Int32.ofNat o), .int (Int32.ofNat len)] 6)) (T6.setTop (mkF m 12 #[.val (.ref b), .val (.int (Int32.ofNat o)), .val (.int (Int32.ofNat len)), .val (.ref s.heap.size), .unset, .unset] [.int (Int32.ofNat len)])) := g6
  have c8 : Steps p.tables e below (s₁.setTop (entryFrame m #[.ref b, .int (Int32.ofNat o), .int (Int32.ofNat len)] 6)) (T6.setTop (mkF m 58 #[.val (.ref b), .val (.int (Int32.ofNat o)), .val (.int (Int32.ofNat len)), .val (.ref s.heap.size), .val (.int (Int32.ofNat len)), .unset] [.ref s.heap.size])) := c7.trans (by
    refine XS.istore X6.here hexec rfl (hb hbytes d12) rfl rfl ?_
    refine XS.iload X6.here hexec rfl (hb hbytes d14) rfl ?_
    refine XS.iloadN X6.here hexec rfl (hb hbytes d16) rfl ?_
    refine XS.icmpYes X6.here hexec rfl (pc0 := 17) rfl (hb hbytes d17) rfl (ii_eq_t rfl) (by decide) rfl ?_
    refine XS.aloadN X6.here hexec rfl (hb hbytes d57) rfl rfl ?_
    exact Steps.refl _)
  have X8 := X6.wide (L' := []) (cells' := 1) (slots' := len) (fun x hx hlt => by
    simp only [List.nil_append, copyLocs, List.mem_map, List.mem_range] at hx
    obtain ⟨i, -, rfl⟩ := hx
    exact absurd hlt (Nat.lt_irrefl _)) (Nat.le_refl _) (by omega)
  exact ⟨T6, some (.ref s.heap.size), _, _, _, X8, rfl, rfl, rfl, (fun h => by cases h), ⟨⟨rfl, B6, ba3.like (X3.warmed.alike.symm.trans X6.warmed.alike) p6.1 f6.1 f6.2.1 f6.2.2.1, f6.2.1.trans bv3, by rw [X6.warmed.alike.findClass, f6.1]; exact bf3, by rw [f6.2.2.1, bs3]; simp, fun j hj => by rw [f6.2.2.2 j, if_pos (by omega)]; rfl, kp3.put p6 (Nat.le_refl _)⟩, by rw [p6.2.2, bh3, hh0]; simp⟩, fun fs hl => c8.trans (X8.areturnOut hexec rfl hret rfl (hb hbytes d58) hl)⟩
end Cmp3
namespace CodL
def yN : MethodName := ⟨"java/lang/StringUTF16", "coderFromArrayLen", "([BI)B"⟩
abbrev yB : ByteArray := jdk_52_method_15_code
theorem d0 : decode yB 0 = .ok (.iload_n 1, 1) := by decide +kernel
theorem d1 : decode yB 1 = .ok (.aload_n 0, 1) := by decide +kernel
theorem d2 : decode yB 2 = .ok (.arraylength, 1) := by decide +kernel
theorem d3 : decode yB 3 = .ok (.isub, 1) := by decide +kernel
theorem d4 : decode yB 4 = .ok (.bipush 31, 2) := by decide +kernel
theorem d6 : decode yB 6 = .ok (.iushr, 1) := by decide +kernel
theorem d7 : decode yB 7 = .ok (.i2b, 1) := by decide +kernel
theorem d8 : decode yB 8 = .ok (.ireturn, 1) := by decide +kernel
def site : List Cond := []
def tab : Cond := tabOf yN yB 2 (some .byte) site
def P (d : Addr) (B : Cell) (args : Array Value) (s : State) : Prop := args = #[.ref d, .int (Int32.ofNat B.slots.size)] ∧ Arr .byte d B s
def E (r : Option Value) (s u : State) : Prop := XT.PureE (some (.int 0)) r s u
/-- an array as long as the number of chars: LATIN1 -/
theorem law (l : Launch) (d : Addr) (B : Cell) : Law l yN 2 2 0 0 yB 2 (some .byte) site (P d B) E [] 0 0 := by
  refine Law.of_walk (plainFor_of_name (by decide +kernel)) (by decide +kernel) (by decide +kernel) (by decide) (fun _ _ h => by rw [h.1]; rfl) (fun _ U U' hal hh h => ⟨h.1, h.2.mv hal hh⟩) (fun r U U' V V' h1 hal h2 h => XT.PureE.mv r U U' V V' h1 hal h2 h) ?_
  intro p e s m args below meth c s₁ X0 hexec hbytes hml hret hlk hnm hown hh0 W hP
  obtain ⟨rfl, hB⟩ := hP
  have hB0 := hB.mv X0.warmed.alike hh0
  have c1 : Steps p.tables e below (s₁.setTop (entryFrame m #[.ref d, .int (Int32.ofNat B.slots.size)] 2)) (s₁.setTop (mkF m 0 #[.val (.ref d), .val (.int (Int32.ofNat B.slots.size))] [])) := entry rfl
  have c2 : Steps p.tables e below (s₁.setTop (entryFrame m #[.ref d, .int (Int32.ofNat B.slots.size)] 2)) (s₁.setTop (mkF m 2 #[.val (.ref d), .val (.int (Int32.ofNat B.slots.size))] [.ref d, .int (Int32.ofNat B.slots.size)])) := c1.trans (by
    refine XS.iloadN X0.here hexec rfl (hb hbytes d0) rfl ?_
    refine XS.aloadN X0.here hexec rfl (hb hbytes d1) rfl rfl ?_
    exact Steps.refl _)
  have c3 : Steps p.tables e below (s₁.setTop (entryFrame m #[.ref d, .int (Int32.ofNat B.slots.size)] 2)) (s₁.setTop (mkF m 8 #[.val (.ref d), .val (.int (Int32.ofNat B.slots.size))] [.int (lo8 (ushr (Int32.ofNat B.slots.size - Int32.ofNat B.slots.size) 31))])) := c2.trans (by
    refine X0.alen hexec hB0 rfl rfl (hb hbytes d2) ?_
    refine XS.isub X0.here hexec rfl (hb hbytes d3) rfl ?_
    refine bipushV X0.here hexec rfl 31 (hb hbytes d4) (by decide) ?_
    refine iushr X0.here hexec rfl (hb hbytes d6) rfl ?_
    refine i2b X0.here hexec rfl (hb hbytes d7) rfl ?_
    exact Steps.refl _)
  have e0 : lo8 (ushr (Int32.ofNat B.slots.size - Int32.ofNat B.slots.size) 31) = 0 := by rw [Int32.sub_self]; decide
  rw [e0] at c3
  exact ⟨s₁, some (.int 0), _, _, _, X0, rfl, rfl, rfl, (fun h => by cases h), ⟨rfl, hh0⟩, fun fs hl => c3.trans (X0.ireturnOut hexec hret rfl (Or.inr (Or.inr (Or.inl rfl))) (hb hbytes d8) hl)⟩
end CodL
/-- the String at a is Latin-1 over a new byte[] (the heap's one new cell): the low bytes of the len chars of A from o on; every cell but a is kept -/
def Got (a : Addr) (D : Cell) (fV fC : Field) (A : Cell) (o len : Nat) (r : Option Value) (s u : State) : Prop := r = none ∧ ∃ D' V : Cell, Blank "java/lang/String" a D' u ∧ Same D D' [fV.slot, fC.slot] ∧ D'.slots[fV.slot]? = some (.ref s.heap.size) ∧ D'.slots[fC.slot]? = some (.int 0) ∧ Arr .byte s.heap.size V u ∧ V.vm = .none ∧ u.vm.findClass "[B" = some V.cls ∧ V.slots.size = len ∧ (∀ j, j < len → V.slots[j]? = some (.int (lo8 (cv A (o + j))))) ∧ (∀ (y : Addr) (c : Cell), y ≠ a → s.heap[y]? = some c → u.heap[y]? = some c) ∧ u.heap.size = s.heap.size + 1
theorem Got.mv {a : Addr} {D A : Cell} {fV fC : Field} {o len : Nat} : ∀ r (U U' V V' : State), U'.heap = U.heap → V.vm.Alike V'.vm → V'.heap = V.heap → Got a D fV fC A o len r U V → Got a D fV fC A o len r U' V' :=
  fun r U U' V V' h1 hal h2 ⟨e0, D', X, a1, a2, a3, a4, a5, a6, a7, a8, a9, a10, a11⟩ => ⟨e0, D', X, a1.mv hal h2, a2, by rw [h1]; exact a3, a4, by rw [h1]; exact a5.mv hal h2, a6, by rw [hal.findClass]; exact a7, a8, a9, by rw [h1, h2]; exact a10, by rw [h1, h2]; exact a11⟩
namespace New4
def yN : MethodName := ⟨"java/lang/String", "<init>", "([CIILjava/lang/Void;)V"⟩
abbrev yB : ByteArray := jdk_42_method_149_code
theorem d0 : decode yB 0 = .ok (.aload_n 0, 1) := by decide +kernel
theorem d1 : decode yB 1 = .ok (.invokespecial 1, 3) := by decide +kernel
theorem d4 : decode yB 4 = .ok (.iload_n 3, 1) := by decide +kernel
theorem d5 : decode yB 5 = .ok (.ifCond (.ne) 22, 3) := by decide +kernel
theorem d27 : decode yB 27 = .ok (.getstatic 38, 3) := by decide +kernel
theorem d30 : decode yB 30 = .ok (.ifCond (.eq) 28, 3) := by decide +kernel
theorem d33 : decode yB 33 = .ok (.aload_n 1, 1) := by decide +kernel
theorem d34 : decode yB 34 = .ok (.iload_n 2, 1) := by decide +kernel
theorem d35 : decode yB 35 = .ok (.iload_n 3, 1) := by decide +kernel
theorem d36 : decode yB 36 = .ok (.invokestatic 177, 3) := by decide +kernel
theorem d39 : decode yB 39 = .ok (.astore 5, 2) := by decide +kernel
theorem d41 : decode yB 41 = .ok (.aload_n 0, 1) := by decide +kernel
theorem d42 : decode yB 42 = .ok (.aload 5, 2) := by decide +kernel
theorem d44 : decode yB 44 = .ok (.iload_n 3, 1) := by decide +kernel
theorem d45 : decode yB 45 = .ok (.invokestatic 47, 3) := by decide +kernel
theorem d48 : decode yB 48 = .ok (.putfield 15, 3) := by decide +kernel
theorem d51 : decode yB 51 = .ok (.aload_n 0, 1) := by decide +kernel
theorem d52 : decode yB 52 = .ok (.aload 5, 2) := by decide +kernel
theorem d54 : decode yB 54 = .ok (.putfield 9, 3) := by decide +kernel
theorem d57 : decode yB 57 = .ok (.return_, 1) := by decide +kernel
def site : List Cond := [.fieldLink "java/lang/String" 38 "java/lang/String" "COMPACT_STRINGS" "Z", Cmp3.tab, CodL.tab, .laysFinal "java/lang/String" "java/lang/String" "value" "[B", .fieldLink "java/lang/String" 9 "java/lang/String" "value" "[B", .laysFinal "java/lang/String" "java/lang/String" "coder" "B", .fieldLink "java/lang/String" 15 "java/lang/String" "coder" "B"] ++ objW "java/lang/String" 1 ++ staticW "java/lang/String" 177 Cmp3.yN ++ staticW "java/lang/String" 47 CodL.yN
def tab : Cond := tabOf yN yB 6 none site
def P (a : Addr) (D : Cell) (fV fC : Field) (b : Addr) (A : Cell) (z : Int32) (o len : Nat) (args : Array Value) (s : State) : Prop := args = #[.ref a, .ref b, .int (Int32.ofNat o), .int (Int32.ofNat len), .null] ∧ Blank "java/lang/String" a D s ∧ Found "java/lang/String" "value" "[B" fV s ∧ Found "java/lang/String" "coder" "B" fC s ∧ Ch b A s ∧ StaticIs s "java/lang/String" "COMPACT_STRINGS" "Z" (.int z) ∧ ¬ z = 0 ∧ 0 < len ∧ o + len ≤ A.slots.size ∧ len ≤ 536870912 ∧ ∀ i, i < len → ¬ 255 < cv A (o + i)
def E (a : Addr) (D : Cell) (fV fC : Field) (A : Cell) (o len : Nat) (r : Option Value) (s u : State) : Prop := Got a D fV fC A o len r s u
/-- len > 0, no char of the range above 255: a Latin-1 String of their low bytes -/
theorem law (l : Launch) (a : Addr) (D : Cell) (fV fC : Field) (b : Addr) (A : Cell) (z : Int32) (o len : Nat) : Law l yN 5 4 2 35 yB 6 none site (P a D fV fC b A z o len) (E a D fV fC A o len) [⟨a, fC.slot⟩, ⟨a, fV.slot⟩] 1 len := by
  refine Law.of_walk (plainFor_of_name (by decide +kernel)) (by decide +kernel) (by decide +kernel) (by decide) (fun _ _ h => by rw [h.1]; rfl) (fun _ U U' hal hh h => ⟨h.1, h.2.1.mv hal hh, h.2.2.1.al hal, h.2.2.2.1.al hal, h.2.2.2.2.1.mv hal hh, h.2.2.2.2.2.1.there hal hh, h.2.2.2.2.2.2⟩) (fun r U U' V V' h1 hal h2 h => Got.mv r U U' V V' h1 hal h2 h) ?_
  intro p e s m args below meth c s₁ X0 hexec hbytes hml hret hlk hnm hown hh0 W hP
  obtain ⟨rfl, hB, f1, f2, hA, s1, hz, l0, l1, l2, hp⟩ := hP
  have a31 := hA.1.2.2.2
  have c1 : Steps p.tables e below (s₁.setTop (entryFrame m #[.ref a, .ref b, .int (Int32.ofNat o), .int (Int32.ofNat len), .null] 6)) (s₁.setTop (mkF m 0 #[.val (.ref a), .val (.ref b), .val (.int (Int32.ofNat o)), .val (.int (Int32.ofNat len)), .val .null, .unset] [])) := entry rfl
  have c2 : Steps p.tables e below (s₁.setTop (entryFrame m #[.ref a, .ref b, .int (Int32.ofNat o), .int (Int32.ofNat len), .null] 6)) (s₁.setTop (mkF m 1 #[.val (.ref a), .val (.ref b), .val (.int (Int32.ofNat o)), .val (.int (Int32.ofNat len)), .val .null, .unset] [.ref a])) := c1.trans (by
    refine XS.aloadN X0.here hexec rfl (hb hbytes d0) rfl rfl ?_
    exact Steps.refl _)
  obtain ⟨T3, X3, q3, st3⟩ := X0.oinit hexec hown (wks W (objW "java/lang/String" 1)) (g := (mkF m 1 #[.val (.ref a), .val (.ref b), .val (.int (Int32.ofNat o)), .val (.int (Int32.ofNat len)), .val .null, .unset] [.ref a])) rfl (by rw [hml]; rfl) (rest := []) rfl (hb hbytes d1) (W := 0) (by show 2 * 0 + 0 ≤ _; decide) (Nat.le_of_ble_eq_true rfl) (Nat.le_of_ble_eq_true rfl)
  have hh3 := q3.trans hh0
  have c4 : Steps p.tables e below (s₁.setTop (entryFrame m #[.ref a, .ref b, .int (Int32.ofNat o), .int (Int32.ofNat len), .null] 6)) (T3.setTop (mkF m 27 #[.val (.ref a), .val (.ref b), .val (.int (Int32.ofNat o)), .val (.int (Int32.ofNat len)), .val .null, .unset] [])) := (c2.trans (st3 _ (Steps.refl _))).trans (by
    refine XS.iloadN X3.here hexec rfl (hb hbytes d4) rfl ?_
    refine XS.ifYes X3.here hexec rfl (pc0 := 5) rfl (hb hbytes d5) rfl (i0_ne_t (nz32 (by omega) l0)) (by decide) rfl ?_
    exact Steps.refl _)
  obtain ⟨T5, X5, q5, st5⟩ := X3.sget hexec hown (wk W (.fieldLink "java/lang/String" 38 "java/lang/String" "COMPACT_STRINGS" "Z")) s1 (fun _ _ h => by rw [hh3]; exact h) (g := (mkF m 27 #[.val (.ref a), .val (.ref b), .val (.int (Int32.ofNat o)), .val (.int (Int32.ofNat len)), .val .null, .unset] [])) rfl (hb hbytes d27)
  have hh5 := q5.trans hh3
  have c6 : Steps p.tables e below (s₁.setTop (entryFrame m #[.ref a, .ref b, .int (Int32.ofNat o), .int (Int32.ofNat len), .null] 6)) (T5.setTop (mkF m 30 #[.val (.ref a), .val (.ref b), .val (.int (Int32.ofNat o)), .val (.int (Int32.ofNat len)), .val .null, .unset] [.int z])) := c4.trans (st5 _ (Steps.refl _))
  have c7 : Steps p.tables e below (s₁.setTop (entryFrame m #[.ref a, .ref b, .int (Int32.ofNat o), .int (Int32.ofNat len), .null] 6)) (T5.setTop (mkF m 36 #[.val (.ref a), .val (.ref b), .val (.int (Int32.ofNat o)), .val (.int (Int32.ofNat len)), .val .null, .unset] [.int (Int32.ofNat len), .int (Int32.ofNat o), .ref b])) := c6.trans (by
    refine XS.ifNo X5.here hexec rfl (hb hbytes d30) rfl (i0_eq_f hz) ?_
    refine XS.aloadN X5.here hexec rfl (hb hbytes d33) rfl rfl ?_
    refine XS.iloadN X5.here hexec rfl (hb hbytes d34) rfl ?_
    refine XS.iloadN X5.here hexec rfl (hb hbytes d35) rfl ?_
    exact Steps.refl _)
  obtain ⟨v8, T8, X8, E8, g8⟩ := X5.callS hexec (Cmp3.law l b A o len) hown (wks W (staticW "java/lang/String" 177 Cmp3.yN)) (wk W Cmp3.tab) (W := 0) (Nat.le_of_ble_eq_true rfl) (Nat.le_of_ble_eq_true rfl) (Nat.le_refl _) (by show 0 + len ≤ len; omega) (g := (mkF m 36 #[.val (.ref a), .val (.ref b), .val (.int (Int32.ofNat o)), .val (.int (Int32.ofNat len)), .val .null, .unset] [.int (Int32.ofNat len), .int (Int32.ofNat o), .ref b])) rfl (by rw [hml]; rfl) c7 (argsL := [.ref b, .int (Int32.ofNat o), .int (Int32.ofNat len)]) (rest := []) rfl rfl (by show 2 * 0 + 0 ≤ _; decide) (hb hbytes d36) (⟨rfl, hA.mv X5.warmed.alike hh5, l1, l2, hp⟩)
  obtain ⟨e8, z8⟩ := E8
  obtain ⟨rfl, N, n1, n2, n3, n4, n5, n6⟩ := NewArr.mv _ T5 s _ _ hh5.symm (Vm.Alike.refl _) rfl e8
  rw [hh5] at z8
  have hB1 := hB.keep X8.warmed.alike (n6 _ _ hB.1)
  have hne : s.heap.size ≠ a := (Nat.ne_of_lt (Array.getElem?_eq_some_iff.mp hB.1).1).symm
  have c9 : Steps p.tables e below (s₁.setTop (entryFrame m #[.ref a, .ref b, .int (Int32.ofNat o), .int (Int32.ofNat len), .null] 6)) (T8.setTop (mkF m 39 #[.val (.ref a), .val (.ref b), .val (.int (Int32.ofNat o)), .val (.int (Int32.ofNat len)), .val .null, .unset] [.ref s.heap.size])) := g8
  have c10 : Steps p.tables e below (s₁.setTop (entryFrame m #[.ref a, .ref b, .int (Int32.ofNat o), .int (Int32.ofNat len), .null] 6)) (T8.setTop (mkF m 45 #[.val (.ref a), .val (.ref b), .val (.int (Int32.ofNat o)), .val (.int (Int32.ofNat len)), .val .null, .val (.ref s.heap.size)] [.int (Int32.ofNat N.slots.size), .ref s.heap.size, .ref a])) := by
    have hc : Steps p.tables e below (s₁.setTop (entryFrame m #[.ref a, .ref b, .int (Int32.ofNat o), .int (Int32.ofNat len), .null] 6)) (T8.setTop (mkF m 45 #[.val (.ref a), .val (.ref b), .val (.int (Int32.ofNat o)), .val (.int (Int32.ofNat len)), .val .null, .val (.ref s.heap.size)] [.int (Int32.ofNat len), .ref s.heap.size, .ref a])) := c9.trans (by
      refine XS.astore X8.here hexec rfl (hb hbytes d39) rfl rfl rfl ?_
      refine XS.aloadN X8.here hexec rfl (hb hbytes d41) rfl rfl ?_
      refine XS.aload X8.here hexec rfl (hb hbytes d42) rfl rfl ?_
      refine XS.iloadN X8.here hexec rfl (hb hbytes d44) rfl ?_
      exact Steps.refl _)
    rw [n4]; exact hc
  obtain ⟨v11, T11, X11, E11, g11⟩ := X8.callS hexec (CodL.law l s.heap.size N) hown (wks W (staticW "java/lang/String" 47 CodL.yN)) (wk W CodL.tab) (W := 1) (Nat.le_of_ble_eq_true rfl) (Nat.le_of_ble_eq_true rfl) (Nat.le_refl _) (by show 0 + len + 0 ≤ len; omega) (g := (mkF m 45 #[.val (.ref a), .val (.ref b), .val (.int (Int32.ofNat o)), .val (.int (Int32.ofNat len)), .val .null, .val (.ref s.heap.size)] [.int (Int32.ofNat N.slots.size), .ref s.heap.size, .ref a])) rfl (by rw [hml]; rfl) c10 (argsL := [.ref s.heap.size, .int (Int32.ofNat N.slots.size)]) (rest := [.ref a]) rfl rfl (by show 2 * 0 + (1 + 0) ≤ _; decide) (hb hbytes d45) (⟨rfl, n1⟩)
  obtain ⟨rfl, q11⟩ := E11
  have hB11 := hB1.mv (X8.warmed.alike.symm.trans X11.warmed.alike) q11
  have c12 : Steps p.tables e below (s₁.setTop (entryFrame m #[.ref a, .ref b, .int (Int32.ofNat o), .int (Int32.ofNat len), .null] 6)) (T11.setTop (mkF m 48 #[.val (.ref a), .val (.ref b), .val (.int (Int32.ofNat o)), .val (.int (Int32.ofNat len)), .val .null, .val (.ref s.heap.size)] [.int 0, .ref a])) := g11
  obtain ⟨T13, X13, p13, bl13, sl13, st13⟩ := X11.finit hexec hown (wk W (.fieldLink "java/lang/String" 15 "java/lang/String" "coder" "B")) (Or.inr ⟨_, (wk W (.laysFinal "java/lang/String" "java/lang/String" "coder" "B"))⟩) (Or.inl ⟨rfl, hnm⟩) f2 (Or.inl rfl) hB11 (t := .byte) (by decide +kernel) rfl (g := (mkF m 48 #[.val (.ref a), .val (.ref b), .val (.int (Int32.ofNat o)), .val (.int (Int32.ofNat len)), .val .null, .val (.ref s.heap.size)] [.int 0, .ref a])) rfl (rest := []) rfl (hb hbytes d48)
  have c14 : Steps p.tables e below (s₁.setTop (entryFrame m #[.ref a, .ref b, .int (Int32.ofNat o), .int (Int32.ofNat len), .null] 6)) (T13.setTop (mkF m 54 #[.val (.ref a), .val (.ref b), .val (.int (Int32.ofNat o)), .val (.int (Int32.ofNat len)), .val .null, .val (.ref s.heap.size)] [.ref s.heap.size, .ref a])) := (c12.trans (st13 _ (Steps.refl _))).trans (by
    refine XS.aloadN X13.here hexec rfl (hb hbytes d51) rfl rfl ?_
    refine XS.aload X13.here hexec rfl (hb hbytes d52) rfl rfl ?_
    exact Steps.refl _)
  obtain ⟨T15, X15, p15, bl15, sl15, st15⟩ := X13.finit hexec hown (wk W (.fieldLink "java/lang/String" 9 "java/lang/String" "value" "[B")) (Or.inr ⟨_, (wk W (.laysFinal "java/lang/String" "java/lang/String" "value" "[B"))⟩) (Or.inl ⟨rfl, hnm⟩) f1 (Or.inl rfl) bl13 (t := (.array .byte)) (by decide +kernel) rfl (g := (mkF m 54 #[.val (.ref a), .val (.ref b), .val (.int (Int32.ofNat o)), .val (.int (Int32.ofNat len)), .val .null, .val (.ref s.heap.size)] [.ref s.heap.size, .ref a])) rfl (rest := []) rfl (hb hbytes d54)
  have c16 : Steps p.tables e below (s₁.setTop (entryFrame m #[.ref a, .ref b, .int (Int32.ofNat o), .int (Int32.ofNat len), .null] 6)) (T15.setTop (mkF m 57 #[.val (.ref a), .val (.ref b), .val (.int (Int32.ofNat o)), .val (.int (Int32.ofNat len)), .val .null, .val (.ref s.heap.size)] [])) := c14.trans (st15 _ (Steps.refl _))
  have ap := apart (Or.inr ⟨_, (wk W (.laysFinal "java/lang/String" "java/lang/String" "value" "[B"))⟩) (Or.inr ⟨_, (wk W (.laysFinal "java/lang/String" "java/lang/String" "coder" "B"))⟩) f1 f2 (t₁ := .array .byte) (t₂ := .byte) (by decide +kernel) (by decide +kernel) (by decide)
  have al := X8.warmed.alike.symm.trans X15.warmed.alike
  have n7 : T11.heap[s.heap.size]? = some N := by rw [q11]; exact n1.1
  exact ⟨T15, none, _, _, _, X15, by simp, rfl, by omega, (fun _ => rfl), ⟨rfl, _, N, bl15, ((Same.refl D _).set _ (by simp)).set _ (by simp), sl15, (Cell.slots_setSlot_ne _ ap).trans sl13, n1.keep al (p15.other hne (p13.other hne n7)), n2, by rw [al.findClass]; exact n3, n4, n5, fun y c h1 h2 => p15.other h1 (p13.other h1 (by rw [q11]; exact n6 y c h2)), by rw [p15.2.2, p13.2.2, q11]; exact z8⟩, fun fs hl => c16.trans (X15.returnOut hexec hret (hb hbytes d57) hl)⟩
end New4
namespace New1
def yN : MethodName := ⟨"java/lang/String", "<init>", "([C)V"⟩
abbrev yB : ByteArray := jdk_42_method_3_code
theorem d0 : decode yB 0 = .ok (.aload_n 0, 1) := by decide +kernel
theorem d1 : decode yB 1 = .ok (.aload_n 1, 1) := by decide +kernel
theorem d2 : decode yB 2 = .ok (.iconst 0, 1) := by decide +kernel
theorem d3 : decode yB 3 = .ok (.aload_n 1, 1) := by decide +kernel
theorem d4 : decode yB 4 = .ok (.arraylength, 1) := by decide +kernel
theorem d5 : decode yB 5 = .ok (.aconst_null, 1) := by decide +kernel
theorem d6 : decode yB 6 = .ok (.invokespecial 27, 3) := by decide +kernel
theorem d9 : decode yB 9 = .ok (.return_, 1) := by decide +kernel
def site : List Cond := [New4.tab] ++ initW "java/lang/String" 27 New4.yN
def tab : Cond := tabOf yN yB 2 none site
def P (a : Addr) (D : Cell) (fV fC : Field) (b : Addr) (A : Cell) (z : Int32) (args : Array Value) (s : State) : Prop := args = #[.ref a, .ref b] ∧ Blank "java/lang/String" a D s ∧ Found "java/lang/String" "value" "[B" fV s ∧ Found "java/lang/String" "coder" "B" fC s ∧ Ch b A s ∧ StaticIs s "java/lang/String" "COMPACT_STRINGS" "Z" (.int z) ∧ ¬ z = 0 ∧ 0 < A.slots.size ∧ A.slots.size ≤ 536870912 ∧ ∀ i, i < A.slots.size → ¬ 255 < cv A i
def E (a : Addr) (D : Cell) (fV fC : Field) (A : Cell) (r : Option Value) (s u : State) : Prop := Got a D fV fC A 0 A.slots.size r s u
/-- new String(chars), not empty, no char above 255: a Latin-1 String of their low bytes -/
theorem law (l : Launch) (a : Addr) (D : Cell) (fV fC : Field) (b : Addr) (A : Cell) (z : Int32) : Law l yN 2 1 3 52 yB 2 none site (P a D fV fC b A z) (E a D fV fC A) [⟨a, fC.slot⟩, ⟨a, fV.slot⟩] 1 A.slots.size := by
  refine Law.of_walk (plainFor_of_name (by decide +kernel)) (by decide +kernel) (by decide +kernel) (by decide) (fun _ _ h => by rw [h.1]; rfl) (fun _ U U' hal hh h => ⟨h.1, h.2.1.mv hal hh, h.2.2.1.al hal, h.2.2.2.1.al hal, h.2.2.2.2.1.mv hal hh, h.2.2.2.2.2.1.there hal hh, h.2.2.2.2.2.2⟩) (fun r U U' V V' h1 hal h2 h => Got.mv r U U' V V' h1 hal h2 h) ?_
  intro p e s m args below meth c s₁ X0 hexec hbytes hml hret hlk hnm hown hh0 W hP
  obtain ⟨rfl, hB, f1, f2, hA, s1, hz, l0, l2, hp⟩ := hP
  have c1 : Steps p.tables e below (s₁.setTop (entryFrame m #[.ref a, .ref b] 2)) (s₁.setTop (mkF m 0 #[.val (.ref a), .val (.ref b)] [])) := entry rfl
  have c2 : Steps p.tables e below (s₁.setTop (entryFrame m #[.ref a, .ref b] 2)) (s₁.setTop (mkF m 6 #[.val (.ref a), .val (.ref b)] [.null, .int (Int32.ofNat A.slots.size), .int 0, .ref b, .ref a])) := c1.trans (by
    refine XS.aloadN X0.here hexec rfl (hb hbytes d0) rfl rfl ?_
    refine XS.aloadN X0.here hexec rfl (hb hbytes d1) rfl rfl ?_
    refine iconstV X0.here hexec rfl 0 (hb hbytes d2) (by decide) ?_
    refine XS.aloadN X0.here hexec rfl (hb hbytes d3) rfl rfl ?_
    refine X0.alen hexec (hA.1.mv X0.warmed.alike hh0) rfl rfl (hb hbytes d4) ?_
    refine XS.aconstNull X0.here hexec rfl (hb hbytes d5) ?_
    exact Steps.refl _)
  obtain ⟨v3, T3, X3, E3, g3⟩ := X0.callN hexec (New4.law l a D fV fC b A z 0 A.slots.size) rfl hown (wks W (initW "java/lang/String" 27 New4.yN)) (W New4.tab (by simp only [site, List.mem_cons, List.mem_append, true_or, or_true])) (W := 0) (Nat.le_of_ble_eq_true rfl) (Nat.le_of_ble_eq_true rfl) (Nat.le_refl _) (by show 0 + A.slots.size ≤ A.slots.size; omega) (g := (mkF m 6 #[.val (.ref a), .val (.ref b)] [.null, .int (Int32.ofNat A.slots.size), .int (Int32.ofNat 0), .ref b, .ref a])) rfl (by rw [hml]; rfl) c2 (argsL := [.ref b, .int (Int32.ofNat 0), .int (Int32.ofNat A.slots.size), .null]) (rest := []) rfl rfl (by show 2 * 0 + 0 ≤ _; decide) (hb hbytes d6) (⟨rfl, hB.mv X0.warmed.alike hh0, f1.al X0.warmed.alike, f2.al X0.warmed.alike, hA.mv X0.warmed.alike hh0, s1.there X0.warmed.alike hh0, hz, l0, by omega, l2, fun i hi => by rw [Nat.zero_add]; exact hp i hi⟩)
  have e0 := Got.mv _ s₁ s _ _ hh0.symm (Vm.Alike.refl _) rfl E3
  obtain rfl := e0.1
  have c4 : Steps p.tables e below (s₁.setTop (entryFrame m #[.ref a, .ref b] 2)) (T3.setTop (mkF m 9 #[.val (.ref a), .val (.ref b)] [])) := g3
  exact ⟨T3, none, _, _, _, X3, by simp, rfl, by omega, (fun _ => rfl), e0, fun fs hl => c4.trans (X3.returnOut hexec hret (hb hbytes d9) hl)⟩
theorem pays {l : Launch} {R : Room} {p : Program} {e : Env} {below : List Frame} {s : State} {sargs : Array Value} {len W : Nat} (a : Addr) (D : Cell) (fV fC : Field) (b : Addr) (A : Cell) (z : Int32) (htab : tab.before sargs s = true) (hfr : 4 ≤ R.frames) (hlo : W + 65 ≤ R.locals) :
    Back l R p e below s sargs yN len W (fun A₁ a₁ => A₁.cells + 1 ≤ R.cells ∧ A₁.slots + A.slots.size ≤ R.slots ∧ P a D fV fC b A z a₁ A₁.U) (fun A₁ _ v₁ B₁ => E a D fV fC A v₁ A₁.U B₁.U ∧ B₁.locs = A₁.locs ++ [⟨a, fC.slot⟩, ⟨a, fV.slot⟩] ∧ B₁.cells = A₁.cells + 1 ∧ B₁.slots = A₁.slots + A.slots.size) :=
  (law l a D fV fC b A z).pays htab hfr (by omega)
end New1
end StrChars
namespace StrChars.Road
open Jvm Sem ClassFile Op Lib Jvm.Stand Jvm.Free Jvm.Free.XT
open Jvm.Lib.Cold (StaticIs)
abbrev ST : String := "java/lang/String"
/-- every table word that New1's law asks, flat -/
abbrev words : List Jvm.Cond := [.code New1.yN New1.yB 2 none, .initialized ST, .methodLink ST 27 New4.yN, .instanceMethod New4.yN,
  .code New4.yN New4.yB 6 none, .fieldLink ST 38 ST "COMPACT_STRINGS" "Z", .laysFinal ST ST "value" "[B", .fieldLink ST 9 ST "value" "[B", .laysFinal ST ST "coder" "B", .fieldLink ST 15 ST "coder" "B",
  .methodLink ST 1 Lib.objectInit, .instanceMethod Lib.objectInit, .code Lib.objectInit ⟨#[0xb1]⟩ 1 none, .methodLink ST 177 Cmp3.yN, .static Cmp3.yN, .methodLink ST 47 CodL.yN, .static CodL.yN,
  .code Cmp3.yN Cmp3.yB 6 (some (.array .byte)), .initialized U16, .arrayClass .byte, .methodLink U16 115 Cmp5.yN, .static Cmp5.yN, .code Cmp5.yN Cmp5.yB 7 (some .int), .code CodL.yN CodL.yB 2 (some .byte)]
theorem tab_of {a : Array Value} {s : State} (h : ∀ w ∈ words, w.before a s = true) : New1.tab.before a s = true := by
  have h5 : Cmp5.tab.before a s = true := unparts (wk h (.code Cmp5.yN Cmp5.yB 7 (some .int))) (wks h (.initialized Cmp5.yN.cls :: Cmp5.site))
  have hc : CodL.tab.before a s = true := unparts (wk h (.code CodL.yN CodL.yB 2 (some .byte))) (wks h (.initialized CodL.yN.cls :: CodL.site))
  have q5 : ∀ w ∈ Cmp5.tab :: words, w.before a s = true := fun w hw => (List.mem_cons.mp hw).elim (fun e => e ▸ h5) (h w)
  have h3 : Cmp3.tab.before a s = true := unparts (wk q5 (.code Cmp3.yN Cmp3.yB 6 (some (.array .byte)))) (wks q5 (.initialized Cmp3.yN.cls :: Cmp3.site))
  have q3 : ∀ w ∈ Cmp3.tab :: CodL.tab :: words, w.before a s = true := fun w hw => (List.mem_cons.mp hw).elim (fun e => e ▸ h3) fun hw => (List.mem_cons.mp hw).elim (fun e => e ▸ hc) (h w)
  have h4 : New4.tab.before a s = true := unparts (wk q3 (.code New4.yN New4.yB 6 none)) (wks q3 (.initialized New4.yN.cls :: New4.site))
  have q4 : ∀ w ∈ New4.tab :: words, w.before a s = true := fun w hw => (List.mem_cons.mp hw).elim (fun e => e ▸ h4) (h w)
  exact unparts (wk q4 (.code New1.yN New1.yB 2 none)) (wks q4 (.initialized New1.yN.cls :: New1.site))
/-- the words ride from the start Z to the walk's own state -/
theorem moved {Z s : State} {a0 args : Array Value} (hZ : Z.Warmed39 s.vm) (hw : ∀ d ∈ words, d.before a0 Z = true) : ∀ d ∈ words, d.before args s = true := fun d hd => by
  have q := hw d hd
  have t : ∀ d ∈ words, d = .arrayClass .byte ∨ (d.onTables && d.keepsFace) = true := by decide +kernel
  rcases t d hd with rfl | t
  · exact RoadKit.mvA hZ q
  · exact RoadKit.mv hZ q t
/-- WHAT COMES BACK, over the tables of the start Z: h the heap at the call, h' behind it -/
def Q (Z : State) (x : Addr) (A : Cell) (h : Heap) (v : Option Value) (h' : Heap) (L : List Loc) : Prop := v = none ∧ (∀ y ∈ L, y.base = x) ∧ RoadKit.Keep h h' [x] ∧ h'.size = h.size + 1 ∧ RoadKit.Exa Z h' x ST ∧ RoadKit.Fld Z h' x ST "value" "[B" (.ref h.size) ∧ RoadKit.Fld Z h' x ST "coder" "B" (.int 0) ∧
  (∃ V : Cell, RoadKit.Arr Z h' h.size V .byte ∧ V.vm = .none ∧ Z.vm.findClass "[B" = some V.cls ∧ V.slots.size = A.slots.size ∧ ∀ j, j < A.slots.size → V.slots[j]? = some (.int (lo8 (cv A j)))) ∧
  ∀ (O n d : String) (w : Value), RoadKit.Fld Z h x O n d w → RoadKit.slotOf Z O n d ≠ RoadKit.slotOf Z ST "value" "[B" → RoadKit.slotOf Z O n d ≠ RoadKit.slotOf Z ST "coder" "B" → RoadKit.Fld Z h' x O n d w
/-- **new String(chars) AT A CALL, IN THE ROAD'S FORM**: for specialBack behind newO: x the fresh String, b the char[] with the cell A -/
theorem back {p : Program} {l : Launch} {e : Env} {R : Room} {s : State} {args : Array Value} {below : List Frame} {len W : Nat} {Z : State} {a0 : Array Value} {h : Heap} (hZ : Z.Warmed39 s.vm) (hw : ∀ d ∈ words, d.before a0 Z = true) {kI : Nat} (wi : (Jvm.Cond.instantiable ST kI).before a0 Z = true)
    {x b : Addr} {A : Cell} {z : Int32} {v0 c0 : Value} (E : RoadKit.Exa Z h x ST) (V : RoadKit.Fld Z h x ST "value" "[B" v0) (C : RoadKit.Fld Z h x ST "coder" "B" c0) (K : RoadKit.Arr Z h b A .char) (hty : Typed .char A) (S : RoadKit.Sta Z h ST "COMPACT_STRINGS" "Z" (.int z)) (hz : ¬ z = 0)
    (l0 : 0 < A.slots.size) (l2 : A.slots.size ≤ 536870912) (hp : ∀ i, i < A.slots.size → ¬ 255 < cv A i) (hfr : 4 ≤ R.frames) (hlo : W + 65 ≤ R.locals) :
    Back l R p e below s args New1.yN len W (fun P a => a = #[.ref x, .ref b] ∧ P.U.heap = h ∧ P.cells + 1 ≤ R.cells ∧ P.slots + A.slots.size ≤ R.slots)
      (fun P _ v B => ∃ L, Q Z x A h v B.U.heap L ∧ B.locs = P.locs ++ L ∧ B.cells = P.cells + 1 ∧ B.slots = P.slots + A.slots.size) := by
  intro m meth c P g ig mk a X hg hsize hdg hW hn hp'
  obtain ⟨rfl, rfl, r1, r2⟩ := hp'
  have al : Z.vm.Alike P.U.vm := hZ.alike.trans X.warmed.alike
  obtain ⟨D, cfV, kV, iV, fV, hD, gV, stV, knV, obV, asV, slV⟩ := id V
  obtain ⟨D', cfC, kC, iC, fC, hD', gC, stC, -, -, asC, slC⟩ := id C
  cases hD.symm.trans hD'
  obtain ⟨D2, kD, e1, e2, e3, e4, e5⟩ := id E
  cases hD.symm.trans e1
  obtain ⟨c2, k2, i1, i2, i3, -⟩ := Cond.instantiable_spec wi
  cases e2.symm.trans i1
  cases e3.symm.trans i2
  obtain ⟨kU, u1, u2⟩ := al.2.2 _ _ e3
  have hB : Blank ST x D P.U := ⟨hD, ⟨knV, fun q hq => by rw [hq] at obV; cases obV⟩, by rw [al.findClass]; exact e2, kU, u1, by rw [u2]; exact i3, by rw [u2]; exact e5 i3⟩
  have F1 : Found ST "value" "[B" fV P.U := ⟨SBG.found_only al ⟨cfV, kV, iV, gV⟩, stV⟩
  have F2 : Found ST "coder" "B" fC P.U := ⟨SBG.found_only al ⟨cfC, kC, iC, gC⟩, stC⟩
  have hA : Ch b A P.U := ⟨⟨K.1, State.isArrayOf_alike al K.2.1, K.2.2, by omega⟩, hty⟩
  have hS : StaticIs P.U ST "COMPACT_STRINGS" "Z" (.int z) := by
    obtain ⟨cfS, iS, kS, fS, st, cS, t1, t2, t3, t4, t5, t6, t7⟩ := S
    exact StaticIs.there (s := { Z with heap := P.U.heap }) ⟨cfS, iS, kS, fS, st, cS, t1, t2, t3, t4, t5, (fun q => by rw [q] at t6; cases t6), t7⟩ al rfl
  obtain ⟨v, B, X', ⟨⟨hv, E', V', q1, q2, q3, q4, q5, q6, q7, q8, q9, q10, q11⟩, hl, hc, hs⟩, st⟩ := New1.pays x D fV fC b A z (tab_of (moved hZ hw)) hfr hlo m meth c P g ig mk _ X hg hsize hdg hW hn ⟨r1, r2, rfl, hB, F1, F2, hA, hS, hz, l0, l2, hp⟩
  have al' : Z.vm.Alike B.U.vm := hZ.alike.trans X'.warmed.alike
  have hsz : E'.slots.size = D.slots.size := by
    obtain ⟨-, -, -, kB, w1, w2, w3⟩ := q1
    obtain ⟨kB', y1, y2⟩ := al'.2.2 _ _ e3
    rw [q2.2.1] at w1
    cases w1.symm.trans y1
    rw [w3, e5 i3, y2]
  refine ⟨v, B, X', ⟨_, ⟨hv, ?_, ⟨by omega, fun y cy hy hn' => q10 y cy (by simpa using hn') hy, fun y cy hy => ?_⟩, q11, ⟨E', _, q1.1, by rw [q2.2.1]; exact e2, by rw [q2.2.1]; exact e3, by rw [q2.1]; exact obV, fun _ => by rw [hsz]; exact e5 i3⟩,
    ⟨E', cfV, kV, iV, fV, q1.1, gV, stV, by rw [q2.1]; exact knV, by rw [q2.1]; exact obV, by rw [q2.2.1]; exact asV, q3⟩, ⟨E', cfC, kC, iC, fC, q1.1, gC, stC, by rw [q2.1]; exact knV, by rw [q2.1]; exact obV, by rw [q2.2.1]; exact asC, q4⟩,
    ⟨V', ⟨q5.1, State.isArrayOf_alike al'.symm q5.2.1, q5.2.2.1⟩, q6, by rw [← al'.findClass]; exact q7, q8, fun j hj => by have := q9 j hj; rwa [Nat.zero_add] at this⟩, fun O n d w F n1 n2 => ?_⟩, hl, hc, hs⟩, st⟩
  · intro y hy
    simp only [List.mem_cons, List.not_mem_nil, or_false] at hy
    rcases hy with rfl | rfl <;> rfl
  · by_cases q : y = x
    · subst q
      cases hD.symm.trans hy
      exact ⟨E', q1.1, q2.2.1, q2.1, hsz⟩
    · exact ⟨cy, q10 y cy q hy, rfl, rfl, rfl⟩
  · obtain ⟨D3, cf, k, i, f, g1, g2, g3, g4, g5, g6, g7⟩ := F
    cases hD.symm.trans g1
    simp only [RoadKit.slotOf, g2, gV, gC, Option.map_some, Option.getD_some] at n1 n2
    exact ⟨E', cf, k, i, f, q1.1, g2, g3, by rw [q2.1]; exact g4, by rw [q2.1]; exact g5, by rw [q2.2.1]; exact g6, by rw [q2.2.2 f.slot (by simp [n1, n2])]; exact g7⟩
end StrChars.Road
namespace StrChars.Road
open Jvm Sem ClassFile Op Lib Jvm.Stand Jvm.Free Jvm.Free.XT
/-- WHAT COMES BACK, the byte[] as a list of values -/
def QA (Z : State) (x : Addr) (zn : Int32) (cs : List Int32) (h : Heap) (v : Option Value) (h' : Heap) (L : List Loc) : Prop := v = none ∧ (∀ y ∈ L, y.base = x) ∧ RoadKit.Keep h h' [x] ∧ h'.size = h.size + 1 ∧ RoadKit.Exa Z h' x ST ∧ RoadKit.Fld Z h' x ST "value" "[B" (.ref h.size) ∧ RoadKit.Fld Z h' x ST "coder" "B" (.int 0) ∧
  (∃ kb, Z.vm.findClass "[B" = some kb ∧ RoadKit.Arv Z h' h.size kb .byte zn (cs.map fun c => .int (lo8 c)) (.int 0)) ∧
  ∀ (O n d : String) (w : Value), RoadKit.Fld Z h x O n d w → RoadKit.slotOf Z O n d ≠ RoadKit.slotOf Z ST "value" "[B" → RoadKit.slotOf Z O n d ≠ RoadKit.slotOf Z ST "coder" "B" → RoadKit.Fld Z h' x O n d w
/-- **new String(chars) AT A CALL, THE ARRAYS AS LISTS**: the char[] at b holds cs, not empty, no char above 255 -/
theorem backArv {p : Program} {l : Launch} {e : Env} {R : Room} {s : State} {args : Array Value} {below : List Frame} {len W : Nat} {Z : State} {a0 : Array Value} {h : Heap} (hZ : Z.Warmed39 s.vm) (hw : ∀ d ∈ words, d.before a0 Z = true) {kI : Nat} (wi : (Jvm.Cond.instantiable ST kI).before a0 Z = true)
    {x b : Addr} {k : ClassId} {zn z : Int32} {cs : List Int32} {dv v0 c0 : Value} (E : RoadKit.Exa Z h x ST) (V : RoadKit.Fld Z h x ST "value" "[B" v0) (C : RoadKit.Fld Z h x ST "coder" "B" c0) (K : RoadKit.Arv Z h b k .char zn (cs.map Value.int) dv) (S : RoadKit.Sta Z h ST "COMPACT_STRINGS" "Z" (.int z)) (hz : ¬ z = 0)
    (hlen : zn.toNatClampNeg = cs.length) (h0 : 0 < cs.length) (hbig : cs.length ≤ 536870912) (hall : ∀ c ∈ cs, ¬ 255 < c) (hfr : 4 ≤ R.frames) (hlo : W + 65 ≤ R.locals) :
    Back l R p e below s args New1.yN len W (fun P a => a = #[.ref x, .ref b] ∧ P.U.heap = h ∧ P.cells + 1 ≤ R.cells ∧ P.slots + cs.length ≤ R.slots)
      (fun P _ v B => ∃ L, QA Z x zn cs h v B.U.heap L ∧ B.locs = P.locs ++ L ∧ B.cells = P.cells + 1 ∧ B.slots = P.slots + cs.length) := by
  obtain ⟨A, K1, K2, K3, K4, K5, K6⟩ := K
  have e : A.slots.size = cs.length := K3.trans hlen
  have hat : ∀ (i : Nat) (hi : i < cs.length), A.slots[i]? = some (.int cs[i]) := fun i hi => by rw [K5 i (by omega)]; simp [List.getD_eq_getElem?_getD, hi]
  have hcv : ∀ (i : Nat) (hi : i < cs.length), cv A i = cs[i] := fun i hi => by unfold cv; rw [hat i hi]
  have hty : Typed .char A := fun i v hv => by
    have hi : i < A.slots.size := (Array.getElem?_eq_some_iff.mp hv).1
    have q := K5 i hi
    rw [hv] at q
    rw [Option.some.inj q]
    exact K6 i hi
  refine Back.mono (back hZ hw wi E V C K1 hty S hz (by omega) (by omega) (fun i hi => by rw [hcv i (by omega)]; exact hall _ (List.getElem_mem _)) hfr hlo) (fun P a hp => ⟨hp.1, hp.2.1, hp.2.2.1, by rw [e]; exact hp.2.2.2⟩) (fun P a v B hp hq => ?_)
  obtain ⟨L, ⟨q1, q2, q3, q4, q5, q6, q7, ⟨V', v1, v2, v3, v4, v5⟩, q9⟩, hl, hc, hs⟩ := hq
  refine ⟨L, ⟨q1, q2, q3, q4, q5, q6, q7, ⟨V'.cls, v3, V', v1, rfl, by rw [v4, e, hlen], K4, fun i hi => ?_, fun i hi => ?_⟩, q9⟩, hl, hc, by rw [hs, e]⟩
  · have hi' : i < cs.length := by omega
    rw [v5 i (by omega), hcv i hi']; simp [List.getD_eq_getElem?_getD, hi']
  · have hi' : i < cs.length := by omega
    simp only [List.getD_eq_getElem?_getD, List.getElem?_map, List.getElem?_eq_getElem hi', Option.map_some, Option.getD_some]
    exact fits_lo8 _
end StrChars.Road
namespace StrChars.Road
open Jvm Sem ClassFile Op Lib Jvm.Stand Jvm.Free Jvm.Free.XT
/-- WHAT COMES BACK, in the writer's own shape -/
def QV (Z : State) (x : Addr) (N : Int32) (bs : List Int32) (h : Heap) (n0 : Nat) (v : Option Value) (h' : Heap) (L : List Loc) : Prop := v = none ∧ RoadKit.Fr n0 L ∧ RoadKit.Keep h h' [x] ∧ RoadKit.Exa Z h' x ST ∧ RoadKit.Fld Z h' x ST "coder" "B" (.int 0) ∧
  ∃ (t : Addr) (kb : ClassId), n0 ≤ t ∧ h.size ≤ t ∧ ¬ t = x ∧ RoadKit.Fld Z h' x ST "value" "[B" (.ref t) ∧ RoadKit.Arv Z h' t kb .byte N (bs.map Value.int) (.int 0)
/-- **new String(chars) AT A CALL, FOR THE WRITER**: a char[] of n known ints, each 0 to 255 -/
theorem backV {p : Program} {l : Launch} {e : Env} {R : Room} {s : State} {args : Array Value} {below : List Frame} {len W : Nat} {Z : State} {a0 : Array Value} {h : Heap} (hZ : Z.Warmed39 s.vm) (hw : ∀ d ∈ words, d.before a0 Z = true) {kI : Nat} (wi : (Jvm.Cond.instantiable ST kI).before a0 Z = true)
    {x b : Addr} {kC : ClassId} {cs bs : List Int32} {d v0 c0 : Value} {z N : Int32} {n n0 : Nat} (hx0 : n0 ≤ x) (hh0 : n0 ≤ h.size) (E : RoadKit.Exa Z h x ST) (V : RoadKit.Fld Z h x ST "value" "[B" v0) (C : RoadKit.Fld Z h x ST "coder" "B" c0) (K : RoadKit.Arv Z h b kC .char N (cs.map Value.int) d) (S : RoadKit.Sta Z h ST "COMPACT_STRINGS" "Z" (.int z)) (hz : ¬ z = 0)
    (hn : cs.length = n) (hN : N = Int32.ofNat n) (l0 : 0 < n) (l2 : n ≤ 4000) (hp : ∀ c ∈ cs, ¬ c < 0 ∧ ¬ (255 : Int32) < c) (hb : bs = cs.map (fun c => c.toInt8.toInt32)) (hfr : 4 ≤ R.frames) (hlo : W + 65 ≤ R.locals) :
    Back l R p e below s args (⟨"java/lang/String", "<init>", "([C)V"⟩ : MethodName) len W (fun P a => a = #[.ref x, .ref b] ∧ P.U.heap = h ∧ P.cells + 1 ≤ R.cells ∧ P.slots + n ≤ R.slots)
      (fun P _ v B => ∃ L, QV Z x N bs h n0 v B.U.heap L ∧ B.locs = P.locs ++ L ∧ B.cells = P.cells + 1 ∧ B.slots = P.slots + n) := by
  subst hn hN hb
  refine Back.mono (backArv hZ hw wi E V C K S hz (n32 (by omega)) l0 (by omega) (fun c hc => (hp c hc).2) hfr hlo) (fun P a hp => hp) (fun P a v B hp hq => ?_)
  obtain ⟨L, ⟨q1, q2, q3, q4, q5, q6, q7, ⟨kb, v1, v2⟩, q9⟩, hl, hc, hs⟩ := hq
  exact ⟨L, ⟨q1, fun y hy => by rw [q2 y hy]; exact hx0, q3, q5, q7, h.size, kb, hh0, Nat.le_refl _, Nat.ne_of_gt E.lt, q6, by rw [List.map_map]; exact v2⟩, hl, hc, hs⟩
end StrChars.Road
end Jvm.Pilot.@@N@@
namespace Jvm.Pilot.@@N@@
open Jvm Jvm.ClassFile Sem Op Lib Jvm.Free Jvm.Stand Jvm.LawKit Jvm.RoadKit Bundle Jvm.Pilot.@@N@@.Jvm.D
abbrev vI (x : Int32) : Slot := .val (.int x)
abbrev vR (x : Addr) : Slot := .val (.ref x)
abbrev vU : Slot := .unset
theorem gm {α : Type} {l : List α} {a : α} (i : Nat) (h : l[i]? = some a) : a ∈ l := List.mem_of_getElem? h
def Rch (p : Program) (e : Env) (below : List Frame) (S0 T : State) (g : JFrame) : Prop := ∀ t, Steps p.tables e below (T.setTop g) t → Steps p.tables e below S0 t
theorem own_le {Z : State} {n0 : Nat} {h : Heap} (O : Old Z n0 h) : n0 ≤ h.size := O.1 ▸ O.2.1
theorem own_ge {Z : State} {n0 : Nat} {h : Heap} {x : Nat} (O : Old Z n0 h) (g : h.size ≤ x) : n0 ≤ x := Nat.le_trans (own_le O) g
theorem own_ne {y x k : Nat} (h : y < k) (g : k ≤ x) : y ≠ x := Nat.ne_of_lt (Nat.lt_of_lt_of_le h g)
section Own
variable {p : Program} {l : Launch} {e : Env} {R : Room} {s : State} {m : MethodId} {args : Array Value} {below : List Frame} {meth : Method} {c : Code} {T : State} {locs : List Loc} {cells slots : Nat}
def Like (X : Stand p l e R s m args below meth c T locs cells slots) (T' : State) : Prop := Stand p l e R s m args below meth c T' locs cells slots
def LikeL (X : Stand p l e R s m args below meth c T locs cells slots) (T' : State) (L' : List Loc) : Prop := Stand p l e R s m args below meth c T' L' cells slots
theorem LikeL.out {X : Stand p l e R s m args below meth c T locs cells slots} {T' : State} {L' : List Loc} (h : LikeL X T' L') : Stand p l e R s m args below meth c T' L' cells slots := h
theorem Like.out {X : Stand p l e R s m args below meth c T locs cells slots} {T' : State} (h : Like X T') : Stand p l e R s m args below meth c T' locs cells slots := h
end Own
theorem own_eqi {args : Array Value} {first s : State} {o : Option Outcome} {idx : List Nat} {a : Term} {n : Int32} (h : (Jvm.Cond.eq a (Jvm.Term.int n)).value args first o s idx = some true) : a.eval args first o idx s = some (.int n) := by
  simp only [Cond.value, Term.int_eval] at h
  cases ha : a.eval args first o idx s with
  | none => simp [ha] at h
  | some x => cases x <;> simp [ha] at h ⊢; exact h
theorem own_eqr {args : Array Value} {first s : State} {o : Option Outcome} {idx : List Nat} {a b : Term} {w : Addr} (eb : b.eval args first o idx s = some (.ref w)) (h : (Jvm.Cond.eq a b).value args first o s idx = some true) : a.eval args first o idx s = some (.ref w) := by
  simp only [Cond.value, eb] at h
  cases ha : a.eval args first o idx s with
  | none => simp [ha] at h
  | some x => cases x <;> simp [ha] at h ⊢; exact h
theorem own_ext {h h' : Heap} (K : Keep h h' []) : Ext h h' := ⟨K.1, fun a c q => K.2.1 a c q nin0⟩
theorem own_safe_null {Z : State} {EL : List (String × Nat)} {vm : Vm} {h : Heap} {x : Addr} {a0 : Array Value} {kI : Nat} (hal : Z.vm.Alike vm) (E : Exa Z h x "java/lang/String") (F : Fld Z h x "java/lang/String" "value" "[B" .null) (wi : (Jvm.Cond.instantiable "java/lang/String" kI).before a0 Z = true) : Safe Z EL vm h x := fun B => by
  obtain ⟨cell, k, e1, e2, e3, -, -⟩ := E
  obtain ⟨p, -, u, a, -, q, -, S, rfl | rfl⟩ := B
  · cases (show h[q.sa]? = some q.sC from S.ha).symm.trans e1
    obtain ⟨cS, ⟨⟨-, -, -, ⟨c, kf, i, ff, -⟩, -, -, -, hv, -⟩, -, -⟩, -⟩ := S
    obtain ⟨cell', cf, k', i', f', g1, g2, g3, g4, g5, g6, g7⟩ := F
    cases e1.symm.trans g1
    obtain ⟨k'', hi, -⟩ := State.fieldFound?_setVm (s := Z) hal g2
    have ff' : (Z.setVm vm).fieldFound? "java/lang/String" "value" "[B" = some (c, kf, i, q.fSV) := ff
    cases ff'.symm.trans hi
    rw [g7] at hv; cases hv
  · cases (show h[q.sd]? = some q.SA from S.hd).symm.trans e1
    obtain ⟨cS, ⟨⟨-, -, -, -, -, -, -, -, -, -, ⟨-, kB, hkB, compB, hkindB⟩, -⟩, -, -⟩, -⟩ := S
    obtain ⟨c2, k2, i1, i2, i3, -⟩ := Cond.instantiable_spec wi
    cases e2.symm.trans i1
    cases e3.symm.trans i2
    obtain ⟨k', hk', ek⟩ := hal.2.2 _ _ e3
    cases (show vm.classes[q.SA.cls]? = some kB from hkB).symm.trans hk'
    rw [ek] at hkindB
    cases (hkindB.symm.trans i3)
def ELs (Z : State) (a0 : Array Value) (EL : List (String × Nat)) (N : Nat) : Prop := ∀ p ∈ EL, ∃ text : String, (Cond.stringLink p.1 p.2 text).before a0 Z = true ∧ (∀ c ∈ text.toList, c.toNat < 256) ∧ text.toList.length ≤ N
theorem ELs.nil {Z : State} {a0 : Array Value} {N : Nat} : ELs Z a0 [] N := fun _ hp => by cases hp
theorem ELs.cons {Z : State} {a0 : Array Value} {N : Nat} {own text : String} {index : Nat} {EL : List (String × Nat)} (w : (Cond.stringLink own index text).before a0 Z = true) (ht : ∀ c ∈ text.toList, c.toNat < 256) (hl : text.toList.length ≤ N) (E : ELs Z a0 EL N) : ELs Z a0 ((own, index) :: EL) N := fun p hp => by
  rcases List.mem_cons.mp hp with rfl | hp
  · exact ⟨text, w, ht, hl⟩
  · exact E p hp
theorem own_safe_len {Z : State} {a0 : Array Value} {EL : List (String × Nat)} {N : Nat} {vm : Vm} {h : Heap} {x : Addr} {k : ClassId} {z : Int32} {vs : List Value} {dv : Value} (hZ : Z.Warmed39 vm) (w : ELs Z a0 EL N) (A : Arv Z h x k .byte z vs dv) (hN : N < z.toNatClampNeg) : Safe Z EL vm h x := fun B => by
  obtain ⟨p, hp, u, a, hb, q, -, S, rfl | rfl⟩ := B
  · obtain ⟨c, ⟨g1, g2, g3⟩, -⟩ := A
    cases (show h[q.sa]? = some q.sC from S.ha).symm.trans g1
    obtain ⟨cS, ⟨-, hfS, hcS⟩, ⟨kS, k1, k2, -⟩, -, -⟩ := S
    obtain ⟨-, kb, hkb, comp, hkind⟩ := g2
    obtain ⟨kb', hkb', ekb⟩ := hZ.alike.2.2 _ _ hkb
    have k1' : vm.classes[q.sC.cls]? = some kS := by rw [hcS]; exact k1
    cases k1'.symm.trans hkb'
    rw [ekb] at k2
    cases k2.symm.trans hkind
  · obtain ⟨c, ⟨g1, -, -⟩, -, S1, -⟩ := A
    cases (show h[q.sd]? = some q.SA from S.hd).symm.trans g1
    obtain ⟨cS, -, -, -, hbyt⟩ := S
    obtain ⟨text, wl, ht, hl⟩ := w p hp
    obtain ⟨c0, k0, cf, i, f1, f2, f3, f4, f5, -⟩ := hb
    have w2 : (Cond.stringLink p.1 p.2 text).before a0 (Wst Z vm h) = true := mvS (s := { Z with heap := h }) hZ wl
    obtain ⟨k0', cf', i', units, e1, e2, e3, e4, -, htext, -⟩ := Cond.stringLink_spec (s := Wst Z vm h) f1 w2
    cases (show vm.classes[c0]? = some k0' from e1).symm.trans f2
    cases e2.symm.trans f3
    cases e3.symm.trans f4
    cases e4.symm.trans f5
    have hlat := Jvm.ClassFile.lat_of_text htext ht
    have eu := Jvm.ClassFile.units_of_text htext ht
    have s1 : q.SA.slots.size = u.size := by rw [hbyt, Jvm.Free.SBG.stringBytes_lat hlat]; simp
    have s2 : text.toList.length = u.size := by rw [← Array.length_toList, eu, List.length_map]
    omega
theorem own_safe_exa {Z : State} {a0 : Array Value} {EL : List (String × Nat)} {vm : Vm} {h : Heap} {x : Addr} {C : String} {kI : Nat} (hZ : Z.Warmed39 vm) (E : Exa Z h x C) (wi : (Jvm.Cond.instantiable C kI).before a0 Z = true) (hC : C ≠ "java/lang/String") : Safe Z EL vm h x := fun B => by
  obtain ⟨cell, k, e1, e2, e3, -, -⟩ := E
  obtain ⟨p, -, u, a, -, q, -, S, rfl | rfl⟩ := B
  · cases (show h[q.sa]? = some q.sC from S.ha).symm.trans e1
    obtain ⟨cS, ⟨-, hfS, hcS⟩, -⟩ := S
    have f1 : Z.vm.findClass "java/lang/String" = some q.sC.cls := by rw [← hZ.alike.findClass, hcS]; exact hfS
    obtain ⟨k1, u1, u2⟩ := Vm.findClass_spec f1
    obtain ⟨k2, v1, v2⟩ := Vm.findClass_spec e2
    cases u1.symm.trans v1
    exact hC (v2.symm.trans u2)
  · cases (show h[q.sd]? = some q.SA from S.hd).symm.trans e1
    obtain ⟨cS, ⟨⟨-, -, -, -, -, -, -, -, -, -, ⟨-, kB, hkB, compB, hkindB⟩, -⟩, -, -⟩, -⟩ := S
    obtain ⟨c2, k2, i1, i2, i3, -⟩ := Cond.instantiable_spec wi
    cases e2.symm.trans i1
    cases e3.symm.trans i2
    obtain ⟨k', hk', ek⟩ := hZ.alike.2.2 _ _ e3
    cases (show vm.classes[q.SA.cls]? = some kB from hkB).symm.trans hk'
    rw [ek] at hkindB
    cases (hkindB.symm.trans i3)
theorem own_chr {Z : State} {EL : List (String × Nat)} {vm vm1 vm2 : Vm} {h h1 h2 : Heap} (A : CHr Z EL vm h vm1 h1) (B : CHr Z EL vm1 h1 vm2 h1) (e : h2 = h1) : CHr Z EL vm h vm2 h2 := by
  rw [e]; exact A.trans B
theorem own_255 (x : Int32) : ¬ (x &&& 255) < 0 ∧ ¬ (255 : Int32) < (x &&& 255) := by
  have h := c_mask x 255 8 (by decide) (by decide)
  constructor
  · rw [Int32.lt_iff_toInt_lt]; have e : (0 : Int32).toInt = 0 := by decide
    omega
  · rw [Int32.lt_iff_toInt_lt]; have e : (255 : Int32).toInt = 255 := by decide
    omega
theorem own_nar (c : Int32) (h : ¬ c < 0 ∧ ¬ (255 : Int32) < c) : nar .char c = c ∧ c.toUInt32.toUInt16.toUInt32.toInt32 = c := by
  have e : c.toUInt32.toUInt16.toUInt32.toInt32 = c := by
    apply Int32.toInt_inj.mp
    have q := c_i2c c
    have h0 : (0 : Int32).toInt = 0 := by decide
    have h1 : (255 : Int32).toInt = 255 := by decide
    rw [Int32.lt_iff_toInt_lt, Int32.lt_iff_toInt_lt] at h
    omega
  exact ⟨e, e⟩
theorem own_selects {Z : State} {a0 : Array Value} {y : MethodName} {k : Nat} (wi : (Jvm.Cond.instantiable y.cls k).before a0 Z = true) (wm : (Jvm.Cond.instanceMethod y).before a0 Z = true) (wp : (Jvm.Cond.privateMethod y).before a0 Z = true) (hy : y.cls ≠ "java/lang/invoke/MethodHandle" ∧ y.cls ≠ "java/lang/invoke/VarHandle") : (Jvm.Cond.selects y.cls y y).before a0 Z = true := by
  obtain ⟨m, meth, h1, h2, -, -⟩ := Cond.instanceMethod_spec wm
  obtain ⟨c, kc, g1, g2, -, g4, -⟩ := Cond.instantiable_spec wi
  have hc := findClass_of_methodNamed h1
  cases g1.symm.trans hc
  have hp := Cond.privateMethod_at wp m meth h1 h2
  have hf := State.methodFound?_of_named h1 hy
  have hs := selectMethod_private (p := {}) (c := m.cls) h2 hp
  have hi : kc.isInterface = false := by simp at g4; exact g4.1
  simp [Cond.before, Cond.holds, Cond.value, hc, hf, h1, hs, g2, hi]
theorem own_nf {args : Array Value} {s : State} {C : String} {y y' : MethodName} (e : y'.cls = y.cls) (ws : (Jvm.Cond.selects C y' y').before args s = true) : NotFace s y := fun r0 h0 => by
  obtain ⟨c2, r2, m2, q1, q2, q3, q4, kP, hkP, hkPi⟩ := Cond.selects_spec ws
  have hc := findClass_of_methodNamed h0
  have hc2 := findClass_of_methodNamed q3
  rw [e] at hc2
  have ec : m2.cls = r0.cls := Option.some.inj (hc2.symm.trans hc)
  rw [ec] at hkP
  exact ⟨kP, hkP, hkPi⟩
theorem own_selU {Z : State} {a0 : Array Value} {C : String} {y : MethodName} (ws : (Jvm.Cond.selects C y y).before a0 Z = true) (wm : (Jvm.Cond.instanceMethod y).before a0 Z = true) (wp : (Jvm.Cond.privateMethod y).before a0 Z = true) (hy : y.cls ≠ "java/lang/invoke/MethodHandle" ∧ y.cls ≠ "java/lang/invoke/VarHandle") : (Jvm.Cond.selects y.cls y y).before a0 Z = true := by
  obtain ⟨c2, r2, m2, -, -, q3, -, kP, hkP, hkPi⟩ := Cond.selects_spec ws
  exact selects_self_of_private (findClass_of_methodNamed q3) hkP hkPi (Cond.privateMethod_at wp) wm hy
theorem own_same {Z : State} {a0 : Array Value} {C : String} {y y' : MethodName} (e : y'.cls = y.cls) (ws : (Jvm.Cond.selects C y' y').before a0 Z = true) (wm : (Jvm.Cond.instanceMethod y).before a0 Z = true) (hy : y.cls ≠ "java/lang/invoke/MethodHandle" ∧ y.cls ≠ "java/lang/invoke/VarHandle") : (Jvm.Cond.sameMethod y.cls y.cls y.name y.desc).before a0 Z = true := by
  obtain ⟨c2, r2, m2, -, -, q3, -, kP, hkP, hkPi⟩ := Cond.selects_spec ws
  obtain ⟨m, meth, h1, h2, -, -⟩ := Cond.instanceMethod_spec wm
  have hc := findClass_of_methodNamed h1
  have hc2 := findClass_of_methodNamed q3
  rw [e] at hc2
  have ec : m2.cls = m.cls := Option.some.inj (hc2.symm.trans hc)
  rw [ec] at hkP
  have hf := State.methodFound?_of_named h1 hy
  have h1' : Z.methodNamed? ⟨y.cls, y.name, y.desc⟩ = some m := h1
  simp [Cond.before, Cond.holds, Cond.value, hc, hf, h1', hkP, hkPi]
theorem own_tn {i : Nat} (h : i < 2147483648) : (Int32.ofNat i).toNatClampNeg = i ∧ (Int32.ofNat i).toInt = i := by
  have e : (Int32.ofNat i).toInt = i := Int32.toInt_ofNat_of_lt h
  exact ⟨by simp only [Int32.toNatClampNeg, e]; rfl, e⟩
theorem own_lt30 {n : Nat} (h : n ≤ 100000) : Int32.ofNat n < (1073741823 : Int32) := by
  have e : (1073741823 : Int32).toInt = 1073741823 := rfl
  rw [Int32.lt_iff_toInt_lt, (own_tn (by omega)).2, e]; omega
theorem own_olt {i n : Nat} (hi : i < 2147483648) (hn : n < 2147483648) : (Int32.ofNat i < Int32.ofNat n) ↔ i < n := by
  rw [Int32.lt_iff_toInt_lt, (own_tn hi).2, (own_tn hn).2]; omega
theorem own_on0 {i : Nat} (hi : i < 2147483648) : ¬ Int32.ofNat i < 0 := by
  rw [Int32.lt_iff_toInt_lt, (own_tn hi).2]; have e : (0 : Int32).toInt = 0 := by decide
  omega
theorem own_inc {i : Nat} (hi : i + 1 < 2147483648) : Int32.ofNat i + 1 = Int32.ofNat (i + 1) := by
  apply Int32.toInt_inj.mp
  have a := c_iadd (Int32.ofNat i) 1
  have e : (1 : Int32).toInt = 1 := by decide
  rw [(own_tn (by omega)).2, e] at a
  rw [(own_tn hi).2]
  have r := rng32 (Int32.ofNat i + 1)
  omega
theorem own_dbl {i : Nat} (hi : 2 * i < 2147483648) : Int32.ofNat i <<< ((1 : Int32) &&& 31) = Int32.ofNat (2 * i) := by
  apply Int32.toInt_inj.mp
  have a := c_ishl (Int32.ofNat i) 1 1 (by decide)
  rw [(own_tn (by omega)).2] at a
  rw [(own_tn hi).2]
  have r := rng32 (Int32.ofNat i <<< ((1 : Int32) &&& 31))
  omega
theorem own_at (cs : List Int32) (i : Nat) (d : Int32) : (cs.map Value.int).getD i (.int d) = .int (cs.getD i d) := by
  simp only [List.getD_eq_getElem?_getD, List.getElem?_map]
  cases cs[i]? <;> rfl
theorem own_inb {i n : Nat} (h : i < n) (hn : n < 2147483648) : ¬ Int32.ofNat i < 0 ∧ Int32.ofNat i < Int32.ofNat n := ⟨own_on0 (by omega), (own_olt (by omega) hn).mpr h⟩
def own_lo (c : Int32) : Int32 := nar .byte ((c >>> ((0 : Int32) &&& 31)).toInt8.toInt32)
def own_hi (c : Int32) : Int32 := nar .byte ((c >>> ((8 : Int32) &&& 31)).toInt8.toInt32)
theorem own_narc (c : Int32) (h : ¬ c < 0 ∧ ¬ (65535 : Int32) < c) : nar .char c = c ∧ c.toUInt32.toUInt16.toUInt32.toInt32 = c := by
  have e : c.toUInt32.toUInt16.toUInt32.toInt32 = c := by
    apply Int32.toInt_inj.mp
    have q := c_i2c c
    have h0 : (0 : Int32).toInt = 0 := by decide
    have h1 : (65535 : Int32).toInt = 65535 := by decide
    rw [Int32.lt_iff_toInt_lt, Int32.lt_iff_toInt_lt] at h
    omega
  exact ⟨e, e⟩
theorem own_pair (c : Int32) (h : ¬ c < 0 ∧ ¬ (65535 : Int32) < c) : (((own_lo c &&& (255 : Int32)) <<< ((0 : Int32) &&& 31)) ||| ((own_hi c &&& (255 : Int32)) <<< ((8 : Int32) &&& 31))).toUInt32.toUInt16.toUInt32.toInt32 = c := by
  have h0 : (0 : Int32).toInt = 0 := by decide
  have h1 : (65535 : Int32).toInt = 65535 := by decide
  rw [Int32.lt_iff_toInt_lt, Int32.lt_iff_toInt_lt] at h
  have s0 := c_ishr c 0 0 (by decide)
  have s8 := c_ishr c 8 8 (by decide)
  have b0 := c_i2b (c >>> ((0 : Int32) &&& 31))
  have b8 := c_i2b (c >>> ((8 : Int32) &&& 31))
  have b0' := c_i2b ((c >>> ((0 : Int32) &&& 31)).toInt8.toInt32)
  have b8' := c_i2b ((c >>> ((8 : Int32) &&& 31)).toInt8.toInt32)
  have m0 := c_mask (own_lo c) 255 8 (by decide) (by decide)
  have m8 := c_mask (own_hi c) 255 8 (by decide) (by decide)
  have l0 : (own_lo c).toInt = ((c >>> ((0 : Int32) &&& 31)).toInt8.toInt32).toInt8.toInt32.toInt := rfl
  have l8 : (own_hi c).toInt = ((c >>> ((8 : Int32) &&& 31)).toInt8.toInt32).toInt8.toInt32.toInt := rfl
  have u0 := c_ishl (own_lo c &&& 255) 0 0 (by decide)
  have u8 := c_ishl (own_hi c &&& 255) 8 8 (by decide)
  have r0 := rng32 ((own_lo c &&& 255) <<< ((0 : Int32) &&& 31))
  have r8 := rng32 ((own_hi c &&& 255) <<< ((8 : Int32) &&& 31))
  have e0 : ((own_lo c &&& 255) <<< ((0 : Int32) &&& 31)).toInt = c.toInt % 256 := by omega
  have e8 : ((own_hi c &&& 255) <<< ((8 : Int32) &&& 31)).toInt = c.toInt / 256 * 256 := by omega
  have o := c_or' ((own_lo c &&& 255) <<< ((0 : Int32) &&& 31)) ((own_hi c &&& 255) <<< ((8 : Int32) &&& 31)) 8 (by decide) 256 (by decide) (by omega) (by omega) (by omega)
  have ro := rng32 (((own_lo c &&& 255) <<< ((0 : Int32) &&& 31)) ||| ((own_hi c &&& 255) <<< ((8 : Int32) &&& 31)))
  have eo : (((own_lo c &&& 255) <<< ((0 : Int32) &&& 31)) ||| ((own_hi c &&& 255) <<< ((8 : Int32) &&& 31))) = c := Int32.toInt_inj.mp (by omega)
  rw [eo]
  exact (own_narc c ⟨by rw [Int32.lt_iff_toInt_lt]; omega, by rw [Int32.lt_iff_toInt_lt]; omega⟩).2
theorem own_first (cs : List Int32) (h : ∃ c ∈ cs, (255 : Int32) < c) : ∃ k, k < cs.length ∧ (∀ i, i < k → ¬ (255 : Int32) < cs.getD i 0) ∧ (255 : Int32) < cs.getD k 0 := by
  induction cs with
  | nil => obtain ⟨c, hc, -⟩ := h; cases hc
  | cons a r ih =>
    by_cases q : (255 : Int32) < a
    · exact ⟨0, by simp, fun i hi => absurd hi (Nat.not_lt_zero _), q⟩
    · obtain ⟨c, hc, hq⟩ := h
      rcases List.mem_cons.mp hc with rfl | hc
      · exact absurd hq q
      · obtain ⟨k, h1, h2, h3⟩ := ih ⟨c, hc, hq⟩
        refine ⟨k + 1, by simpa using h1, fun i hi => ?_, by simpa using h3⟩
        cases i with
        | zero => simpa using q
        | succ i => simpa using h2 i (by omega)
theorem own_memD (cs : List Int32) (P : Int32 → Prop) (h : ∀ c ∈ cs, P c) (i : Nat) (hi : i < cs.length) : P (cs.getD i 0) := by
  rw [List.getD_eq_getElem?_getD, List.getElem?_eq_getElem hi]
  exact h _ (List.getElem_mem hi)
theorem own_coder {n : Nat} (h0 : 0 < n) (hn : n ≤ 4000) : ((Int32.ofNat n - Int32.ofNat (2 * n)).toUInt32 >>> ((31 : Int32) &&& 31).toUInt32).toInt32 = 1 := by
  apply Int32.toInt_inj.mp
  have a := c_iushr (Int32.ofNat n - Int32.ofNat (2 * n)) 31 31 (by decide) (by decide)
  have b := c_isub (Int32.ofNat n) (Int32.ofNat (2 * n))
  have r := rng32 (Int32.ofNat n - Int32.ofNat (2 * n))
  rw [(own_tn (by omega)).2, (own_tn (by omega)).2] at b
  have e : (1 : Int32).toInt = 1 := by decide
  rw [a, e]
  omega
theorem own_127 (y : Int32) : ¬ (y &&& 127) < 0 ∧ ¬ (127 : Int32) < (y &&& 127) := by
  have h := c_mask y 127 7 (by decide) (by decide)
  constructor
  · rw [Int32.lt_iff_toInt_lt]; have e : (0 : Int32).toInt = 0 := by decide
    omega
  · rw [Int32.lt_iff_toInt_lt]; have e : (127 : Int32).toInt = 127 := by decide
    omega
theorem own_7f8 (y : Int32) (h : ¬ y < 0 ∧ ¬ (127 : Int32) < y) : ¬ y < 0 ∧ ¬ (255 : Int32) < y := by
  refine ⟨h.1, fun q => h.2 ?_⟩
  rw [Int32.lt_iff_toInt_lt] at q ⊢
  have e : (255 : Int32).toInt = 255 := by decide
  have e' : (127 : Int32).toInt = 127 := by decide
  omega
theorem own_7b (y : Int32) (h : ¬ y < 0 ∧ ¬ (127 : Int32) < y) : y.toInt8.toInt32 = y ∧ nar .byte (y.toInt8.toInt32) = y := by
  have e0 : (0 : Int32).toInt = 0 := by decide
  have e1 : (127 : Int32).toInt = 127 := by decide
  have e : y.toInt8.toInt32 = y := by
    apply Int32.toInt_inj.mp
    have q := c_i2b y
    rw [Int32.lt_iff_toInt_lt, Int32.lt_iff_toInt_lt] at h
    omega
  refine ⟨e, ?_⟩
  show (y.toInt8.toInt32).toInt8.toInt32 = y
  rw [e, e]
def Q_rmS4 (Z : State) (a1 : Addr) (h0 : Heap) (n0 : Nat) (v : Option Value) (h : Heap) (L : List Loc) : Prop := v = none ∧ Fr n0 L ∧ Keep h0 h [a1] ∧ ∃ t kt, Fld Z h a1 "java/lang/String" "value" "[B" (.ref t) ∧ Fld Z h a1 "java/lang/String" "coder" "B" (.int (0 : Int32)) ∧ Arv Z h t kt .byte (0 : Int32) [] (.int (0 : Int32))
theorem ef_2n (m : MethodId) (x0 : Addr) (x1 : Addr) (x2 : Int32) (x3 : Int32) : entryFrame m #[(.ref x0), (.ref x1), (.int x2), (.int x3), .null] 6 = mkF m 0 #[.val (.ref x0), .val (.ref x1), .val (.int x2), .val (.int x3), .val .null, .unset] [] := by first | (simp [entryFrame, mkF, argsToLocals, Value.category]; done) | rfl
theorem pn_String : plainName "java/lang/String" = true := by first | (simp [plainName, overriddenIn]; done) | decide +kernel
theorem d2_0 : decode jdk_42_method_149_code 0 = .ok (.aload_n 0, 1) := by decide +kernel
theorem d2_1 : decode jdk_42_method_149_code 1 = .ok (.invokespecial 1, 3) := by decide +kernel
theorem d2_4 : decode jdk_42_method_149_code 4 = .ok (.iload_n 3, 1) := by decide +kernel
theorem d2_5 : decode jdk_42_method_149_code 5 = .ok (.ifCond .ne 22, 3) := by decide +kernel
theorem d2_8 : decode jdk_42_method_149_code 8 = .ok (.aload_n 0, 1) := by decide +kernel
theorem d2_9 : decode jdk_42_method_149_code 9 = .ok (.ldc 7, 2) := by decide +kernel
theorem d2_11 : decode jdk_42_method_149_code 11 = .ok (.getfield 9, 3) := by decide +kernel
theorem d2_14 : decode jdk_42_method_149_code 14 = .ok (.putfield 9, 3) := by decide +kernel
theorem d2_17 : decode jdk_42_method_149_code 17 = .ok (.aload_n 0, 1) := by decide +kernel
theorem d2_18 : decode jdk_42_method_149_code 18 = .ok (.ldc 7, 2) := by decide +kernel
theorem d2_20 : decode jdk_42_method_149_code 20 = .ok (.getfield 15, 3) := by decide +kernel
theorem d2_23 : decode jdk_42_method_149_code 23 = .ok (.putfield 15, 3) := by decide +kernel
theorem d2_26 : decode jdk_42_method_149_code 26 = .ok (.return_, 1) := by decide +kernel
set_option maxRecDepth 65536 in
set_option maxHeartbeats 40000000 in
theorem rmS4 (l : Launch) (Z : State) (a0 : Array Value) (hw : ∀ d ∈ tables_1, d.before a0 Z = true) (ws : List Jvm.Cond) (a1 : Addr) (a2 : Addr) (h0 : Heap) (n0 : Nat) (O0 : Old Z n0 h0) (ge_a1 : n0 ≤ a1) (E_a1 : Exa Z h0 a1 "java/lang/String") (F_a1_value : Fld Z h0 a1 "java/lang/String" "value" "[B" .null) (F_a1_coder : Fld Z h0 a1 "java/lang/String" "coder" "B" (.int (0 : Int32))) :
    MetFree l (⟨"java/lang/String", "<init>", "([CIILjava/lang/Void;)V"⟩ : MethodName) (head1 (Jvm.Cond.code (⟨"java/lang/String", "<init>", "([CIILjava/lang/Void;)V"⟩ : MethodName) jdk_42_method_149_code 6 none :: ws) ({ frames := 1, cells := 4, slots := 8, locals := 24 } : Room)) (fun a U => a = #[(.ref a1), (.ref a2), (.int (0 : Int32)), (.int (0 : Int32)), .null] ∧ Z.Warmed39 U.vm ∧ U.heap = h0 ∧ CHv Z consts_1 U.vm h0) (fun _ _ _ _ _ => True) (fun _ U o U' => ∃ v L, o = .returned v ∧ Q_rmS4 Z a1 h0 n0 v U'.heap L ∧ CHr Z consts_1 U.vm U.heap U'.vm U'.heap ∧ ReturnedEndW U o U' L ({ frames := 1, cells := 4, slots := 8, locals := 24 } : Room).cells ({ frames := 1, cells := 4, slots := 8, locals := 24 } : Room).slots) := by
  refine MetFree.of_bodySF (plainFor_of_name pn_String) hisR ?_
  intro p e s m args below meth c s₁ Bd hml0 hP hK
  obtain ⟨rfl, hZ, hh, hC0⟩ := hP
  have hx := Bd.exec
  have hby := Bd.bytes
  have hml : c.maxLocals = 6 := hml0
  have hown : s.vm.findClass "java/lang/String" = some m.cls := findClass_of_methodNamed Bd.named
  have hnm := (name_of_methodNamed Bd.named Bd.method).1
  have X0 : Stand p l e ({ frames := 1, cells := 4, slots := 8, locals := 24 } : Room) (s.setVm s.vm) m #[(.ref a1), (.ref a2), (.int (0 : Int32)), (.int (0 : Int32)), .null] below meth c s₁ [] 0 0 := Stand.of_body Bd
  have e0 : s₁.heap = h0 := by rw [← hh, Bd.state]; rfl
  have N0 := Fr.nil n0
  obtain ⟨S0, hS0⟩ : ∃ z, z = s₁.setTop (entryFrame m #[(.ref a1), (.ref a2), (.int (0 : Int32)), (.int (0 : Int32)), .null] 6) := ⟨_, rfl⟩
  have k0 : Rch p e below S0 s₁ (mkF m 0 #[vR a1, vR a2, vI 0, vI 0, .val .null, vU] []) := fun t kq => hS0 ▸ castTop (ef_2n m a1 a2 (0 : Int32) (0 : Int32)) kq
  have K0 : Keep h0 h0 [a1] := Keep.refl h0 _
  have hS : s.Since s.vm s.heap.size := (State.WarmedH.refl s).since _
  have hk : s.heap.size ≤ h0.size := by rw [← hh]; exact Nat.le_refl _
  have hwS : ∀ d ∈ Bundle.stringAtoms, d.before a0 Z = true := fun d hd => hw d ((by decide +kernel : ∀ d ∈ Bundle.stringAtoms, d ∈ tables_1) d hd)
  have rC0 : CHr Z consts_1 s.vm h0 s.vm h0 := CHr.refl hC0
  have hEL : EW Z a0 consts_1 := (EW.cons (hw _ (gm 47 rfl)) (by decide +kernel) (EW.cons (hw _ (gm 122 rfl)) (by decide +kernel) (EW.cons (hw _ (gm 124 rfl)) (by decide +kernel) (EW.cons (hw _ (gm 14 rfl)) (by decide +kernel) EW.nil))))
  have sf_a1 : Safe Z consts_1 s.vm h0 a1 := own_safe_null hZ.alike E_a1 F_a1_value (hw _ (gm 2 rfl))
  have k2 : Rch p e below S0 s₁ (mkF m 1 #[vR a1, vR a2, vI 0, vI 0, .val .null, vU] [(.ref a1)]) := fun t h => k0 t (by
      show Steps p.tables e below (s₁.setTop (mkF m 0 #[vR a1, vR a2, vI 0, vI 0, .val .null, vU] [])) _
      refine XS.aloadN X0.here hx rfl (hb hby d2_0) rfl rfl ?_
      exact h)
  obtain ⟨T1, X1, e1, st1⟩ := initO X0 hx hZ hown (hw _ (gm 11 rfl)) (hw _ (gm 12 rfl)) (hw _ (gm 13 rfl)) e0 (g := (mkF m 1 #[vR a1, vR a2, vI 0, vI 0, .val .null, vU] [(.ref a1)])) rfl (by rw [hml]; rfl) rfl (hb hby d2_1) (by decide) (W := 0) (by show 2 * 0 + _ ≤ _; exact Nat.le_of_eq rfl) (by decide)
  have k3 : Rch p e below S0 T1 (mkF m 4 #[vR a1, vR a2, vI 0, vI 0, .val .null, vU] []) := fun t h => k2 t (st1 t h)
  have k4 : Rch p e below S0 T1 (mkF m 9 #[vR a1, vR a2, vI 0, vI 0, .val .null, vU] [(.ref a1)]) := fun t h => k3 t (by
      show Steps p.tables e below (T1.setTop (mkF m 4 #[vR a1, vR a2, vI 0, vI 0, .val .null, vU] [])) _
      refine XS.iloadN X1.here hx rfl (hb hby d2_4) rfl ?_
      refine XS.ifNo X1.here hx rfl (hb hby d2_5) rfl ((if0 _ _).trans (teq (by decide : (0 : Int32) = (0 : Int32))).2) ?_
      refine XS.aloadN X1.here hx rfl (hb hby d2_8) rfl rfl ?_
      exact h)
  obtain ⟨a5, T5, h5, kk5, t5, kt5, X5, e5, E5, hS5, hk5, hZ5, hown5, Ea5, Ca5, Va5, At5, la5, lt5, hR5, hL5, sfa5, st5⟩ := ldcCH X1 hx hZ hown (hw _ (gm 14 rfl)) hwS e1 hS hk hEL (by decide +kernel) hC0 (vs := []) (z := (0 : Int32)) ⟨by decide +kernel, by decide +kernel⟩ (by decide) (by decide) (g := (mkF m 9 #[vR a1, vR a2, vI 0, vI 0, .val .null, vU] [(.ref a1)])) rfl (hb hby d2_9) (n := 0) (by decide +kernel) (by decide) (by decide) (by decide)
  have k6 : Rch p e below S0 T5 (mkF m 11 #[vR a1, vR a2, vI 0, vI 0, .val .null, vU] [(.ref a5), (.ref a1)]) := fun t h => k4 t (st5 t h)
  replace sf_a1 := hR5.safe E_a1.lt sf_a1
  have hC7 := hR5.1
  have rC7 := rC0.trans hR5
  have O8 := O0.ext E5
  have K9 := K0.ext E5
  replace E_a1 := E_a1.ext E5
  replace F_a1_value := F_a1_value.ext E5
  replace F_a1_coder := F_a1_coder.ext E5
  have ne_a1_a5 : a1 ≠ a5 := (sfa5 a1 sf_a1).1
  have ne_a1_t5 : a1 ≠ t5 := (sfa5 a1 sf_a1).2
  obtain ⟨T10, X10, e10, st10⟩ := getF X5 hx hZ5 hown5 (host := "") (Or.inl (hw _ (gm 20 rfl))) Via.refl e5 Va5 (g := (mkF m 11 #[vR a1, vR a2, vI 0, vI 0, .val .null, vU] [(.ref a5), (.ref a1)])) rfl rfl (hb hby d2_11)
  have k11 : Rch p e below S0 T10 (mkF m 14 #[vR a1, vR a2, vI 0, vI 0, .val .null, vU] [(.ref t5), (.ref a1)]) := fun t h => k6 t (st10 t h)
  obtain ⟨T12, h12, X12, e12, W12, st12⟩ := putF X10 hx hZ5 hown5 (host := "") (Or.inl (hw _ (gm 20 rfl))) Via.refl e10 F_a1_value E_a1 (Or.inr ⟨(hw _ (gm 16 rfl)), rfl, hnm⟩) (hw _ (gm 2 rfl)) (ty := (.array .byte)) (by decide) rfl rfl (g := (mkF m 14 #[vR a1, vR a2, vI 0, vI 0, .val .null, vU] [(.ref t5), (.ref a1)])) rfl rfl (hb hby d2_14)
  have k13 : Rch p e below S0 T12 (mkF m 17 #[vR a1, vR a2, vI 0, vI 0, .val .null, vU] []) := fun t h => k11 t (st12 t h)
  have N12 := Fr.snoc X12 N0 ge_a1
  replace F_a1_value := F_a1_value.same W12
  have hC14 := hC7.wr W12 sf_a1
  have rC14 := rC7.trans (CHr.wr W12 sf_a1 hC7)
  replace sf_a1 := Safe.wr W12 sf_a1 hC7 sf_a1
  have O15 := O8.wr W12 ge_a1
  have K16 := K9.wr W12 (Or.inl (gm 0 rfl))
  replace E_a1 := E_a1.wr W12
  replace F_a1_coder := F_a1_coder.other W12 (Or.inr (slot_ne (Or.inr (hw _ (gm 17 rfl))) (Or.inr (hw _ (gm 16 rfl))) (by decide) (t := .byte) (t' := (.array .byte)) (by decide) (by decide)))
  replace Ea5 := Ea5.wr W12
  replace Ca5 := Ca5.other W12 (Or.inl (Ne.symm ne_a1_a5))
  replace Va5 := Va5.other W12 (Or.inl (Ne.symm ne_a1_a5))
  replace At5 := At5.other W12 (Ne.symm ne_a1_t5)
  have hkk17 := Nat.le_trans hk5 (Keep.of_wr W12).1
  have k18 : Rch p e below S0 T12 (mkF m 18 #[vR a1, vR a2, vI 0, vI 0, .val .null, vU] [(.ref a1)]) := fun t h => k13 t (by
      show Steps p.tables e below (T12.setTop (mkF m 17 #[vR a1, vR a2, vI 0, vI 0, .val .null, vU] [])) _
      refine XS.aloadN X12.here hx rfl (hb hby d2_17) rfl rfl ?_
      exact h)
  obtain ⟨a19, T19, h19, kk19, t19, kt19, X19, e19, E19, hS19, hk19, hZ19, hown19, Ea19, Ca19, Va19, At19, la19, lt19, hR19, hL19, sfa19, st19⟩ := ldcCH X12 hx hZ5 hown5 (hw _ (gm 14 rfl)) hwS e12 hS5 hkk17 hEL (by decide +kernel) hC14 (vs := []) (z := (0 : Int32)) ⟨by decide +kernel, by decide +kernel⟩ (by decide) (by decide) (g := (mkF m 18 #[vR a1, vR a2, vI 0, vI 0, .val .null, vU] [(.ref a1)])) rfl (hb hby d2_18) (n := 0) (by decide +kernel) (by decide) (by decide) (by decide)
  have k20 : Rch p e below S0 T19 (mkF m 20 #[vR a1, vR a2, vI 0, vI 0, .val .null, vU] [(.ref a19), (.ref a1)]) := fun t h => k18 t (st19 t h)
  replace sf_a1 := hR19.safe E_a1.lt sf_a1
  have hC21 := hR19.1
  have rC21 := rC14.trans hR19
  have O22 := O15.ext E19
  have K23 := K16.ext E19
  replace E_a1 := E_a1.ext E19
  replace F_a1_coder := F_a1_coder.ext E19
  replace F_a1_value := F_a1_value.ext E19
  replace Ea5 := Ea5.ext E19
  replace Ca5 := Ca5.ext E19
  replace Va5 := Va5.ext E19
  replace At5 := At5.ext E19
  have ne_a1_a19 : a1 ≠ a19 := (sfa19 a1 sf_a1).1
  have ne_a1_t19 : a1 ≠ t19 := (sfa19 a1 sf_a1).2
  obtain ⟨T24, X24, e24, st24⟩ := getF X19 hx hZ19 hown19 (host := "") (Or.inl (hw _ (gm 21 rfl))) Via.refl e19 Ca19 (g := (mkF m 20 #[vR a1, vR a2, vI 0, vI 0, .val .null, vU] [(.ref a19), (.ref a1)])) rfl rfl (hb hby d2_20)
  have k25 : Rch p e below S0 T24 (mkF m 23 #[vR a1, vR a2, vI 0, vI 0, .val .null, vU] [(.int (0 : Int32)), (.ref a1)]) := fun t h => k20 t (st24 t h)
  obtain ⟨T26, h26, X26, e26, W26, st26⟩ := putFN X24 hx hZ19 hown19 (hw _ (gm 21 rfl)) Via.refl e24 F_a1_coder E_a1 (Or.inr ⟨(hw _ (gm 17 rfl)), rfl, hnm⟩) (hw _ (gm 2 rfl)) (ty := .byte) (v' := (.int (0 : Int32))) (by decide) (by decide) (by decide) (g := (mkF m 23 #[vR a1, vR a2, vI 0, vI 0, .val .null, vU] [(.int (0 : Int32)), (.ref a1)])) rfl rfl (hb hby d2_23)
  have k27 : Rch p e below S0 T26 (mkF m 26 #[vR a1, vR a2, vI 0, vI 0, .val .null, vU] []) := fun t h => k25 t (st26 t h)
  have N26 := Fr.snoc X26 N12 ge_a1
  replace F_a1_coder := F_a1_coder.same W26
  have hC28 := hC21.wr W26 sf_a1
  have rC28 := rC21.trans (CHr.wr W26 sf_a1 hC21)
  replace sf_a1 := Safe.wr W26 sf_a1 hC21 sf_a1
  have O29 := O22.wr W26 ge_a1
  have K30 := K23.wr W26 (Or.inl (gm 0 rfl))
  replace E_a1 := E_a1.wr W26
  replace F_a1_value := F_a1_value.other W26 (Or.inr (slot_ne (Or.inr (hw _ (gm 16 rfl))) (Or.inr (hw _ (gm 17 rfl))) (by decide) (t := (.array .byte)) (t' := .byte) (by decide) (by decide)))
  replace Ea5 := Ea5.wr W26
  replace Ca5 := Ca5.other W26 (Or.inl (Ne.symm ne_a1_a5))
  replace Va5 := Va5.other W26 (Or.inl (Ne.symm ne_a1_a5))
  replace At5 := At5.other W26 (Ne.symm ne_a1_t5)
  replace Ea19 := Ea19.wr W26
  replace Ca19 := Ca19.other W26 (Or.inl (Ne.symm ne_a1_a19))
  replace Va19 := Va19.other W26 (Or.inl (Ne.symm ne_a1_a19))
  replace At19 := At19.other W26 (Ne.symm ne_a1_t19)
  have hkk31 := Nat.le_trans hk19 (Keep.of_wr W26).1
  obtain ⟨fs, hr, hrun, hended, hfin⟩ := X26.leaveW hS19 (by rw [e26]; exact hkk31) (v := none) (fun _ => rfl)
  refine ⟨_, _, ?_, hrun, hended, _, _, rfl, ?_, (by rw [hh]; have q := own_chr rC28 (CHv.at X26 hZ19 hEL hC28) e26; exact q), hfin.1, hfin.2.1, hfin.2.2.1, hfin.2.2.2.mono (by decide) (by decide)⟩
  · rw [← hS0]
    refine k27 _ ?_
    show Steps p.tables e below (T26.setTop (mkF m 26 #[vR a1, vR a2, vI 0, vI 0, .val .null, vU] [])) _
    exact X26.returnOut hx Bd.returns (hb hby d2_26) hr
  · show Q_rmS4 Z a1 h0 n0 _ T26.heap _
    rw [e26]
    exact ⟨rfl, N26, K30, _, _, F_a1_value, F_a1_coder, At5⟩
def Q_rmS0 (Z : State) (a1 : Addr) (h0 : Heap) (n0 : Nat) (v : Option Value) (h : Heap) (L : List Loc) : Prop := v = none ∧ Fr n0 L ∧ Keep h0 h [a1] ∧ ∃ t kt, Fld Z h a1 "java/lang/String" "value" "[B" (.ref t) ∧ Fld Z h a1 "java/lang/String" "coder" "B" (.int (0 : Int32)) ∧ Arv Z h t kt .byte (0 : Int32) [] (.int (0 : Int32))
theorem ef_1 (m : MethodId) (x0 : Addr) (x1 : Addr) : entryFrame m #[(.ref x0), (.ref x1)] 2 = mkF m 0 #[.val (.ref x0), .val (.ref x1)] [] := by first | (simp [entryFrame, mkF, argsToLocals, Value.category]; done) | rfl
theorem d1_0 : decode jdk_42_method_3_code 0 = .ok (.aload_n 0, 1) := by decide +kernel
theorem d1_1 : decode jdk_42_method_3_code 1 = .ok (.aload_n 1, 1) := by decide +kernel
theorem d1_2 : decode jdk_42_method_3_code 2 = .ok (.iconst 0, 1) := by decide +kernel
theorem d1_3 : decode jdk_42_method_3_code 3 = .ok (.aload_n 1, 1) := by decide +kernel
theorem d1_4 : decode jdk_42_method_3_code 4 = .ok (.arraylength, 1) := by decide +kernel
theorem d1_5 : decode jdk_42_method_3_code 5 = .ok (.aconst_null, 1) := by decide +kernel
theorem pd_1 : parseMethodDescriptor "([CIILjava/lang/Void;)V" = some ⟨[(.array .char), .int, .int, (.object "java/lang/Void")], none⟩ := by decide +kernel
theorem d1_6 : decode jdk_42_method_3_code 6 = .ok (.invokespecial 27, 3) := by decide +kernel
theorem d1_9 : decode jdk_42_method_3_code 9 = .ok (.return_, 1) := by decide +kernel
set_option maxRecDepth 65536 in
set_option maxHeartbeats 40000000 in
theorem rmS0 (l : Launch) (Z : State) (a0 : Array Value) (hw : ∀ d ∈ tables_1, d.before a0 Z = true) (ws : List Jvm.Cond) (a1 : Addr) (a2 : Addr) (ka : ClassId) (h0 : Heap) (n0 : Nat) (O0 : Old Z n0 h0) (ge_a1 : n0 ≤ a1) (E_a1 : Exa Z h0 a1 "java/lang/String") (F_a1_value : Fld Z h0 a1 "java/lang/String" "value" "[B" .null) (F_a1_coder : Fld Z h0 a1 "java/lang/String" "coder" "B" (.int (0 : Int32))) (Va : Arv Z h0 a2 ka .char (0 : Int32) [] (.int (0 : Int32))) :
    MetFree l (⟨"java/lang/String", "<init>", "([C)V"⟩ : MethodName) (head1 (Jvm.Cond.code (⟨"java/lang/String", "<init>", "([C)V"⟩ : MethodName) jdk_42_method_3_code 2 none :: ws) ({ frames := 2, cells := 4, slots := 8, locals := 48 } : Room)) (fun a U => a = #[(.ref a1), (.ref a2)] ∧ Z.Warmed39 U.vm ∧ U.heap = h0 ∧ CHv Z consts_1 U.vm h0) (fun _ _ _ _ _ => True) (fun _ U o U' => ∃ v L, o = .returned v ∧ Q_rmS0 Z a1 h0 n0 v U'.heap L ∧ CHr Z consts_1 U.vm U.heap U'.vm U'.heap ∧ ReturnedEndW U o U' L ({ frames := 2, cells := 4, slots := 8, locals := 48 } : Room).cells ({ frames := 2, cells := 4, slots := 8, locals := 48 } : Room).slots) := by
  refine MetFree.of_bodySF (plainFor_of_name pn_String) hisR ?_
  intro p e s m args below meth c s₁ Bd hml0 hP hK
  obtain ⟨rfl, hZ, hh, hC0⟩ := hP
  have hx := Bd.exec
  have hby := Bd.bytes
  have hml : c.maxLocals = 2 := hml0
  have hown : s.vm.findClass "java/lang/String" = some m.cls := findClass_of_methodNamed Bd.named
  have hnm := (name_of_methodNamed Bd.named Bd.method).1
  have X0 : Stand p l e ({ frames := 2, cells := 4, slots := 8, locals := 48 } : Room) (s.setVm s.vm) m #[(.ref a1), (.ref a2)] below meth c s₁ [] 0 0 := Stand.of_body Bd
  have e0 : s₁.heap = h0 := by rw [← hh, Bd.state]; rfl
  have N0 := Fr.nil n0
  obtain ⟨S0, hS0⟩ : ∃ z, z = s₁.setTop (entryFrame m #[(.ref a1), (.ref a2)] 2) := ⟨_, rfl⟩
  have k0 : Rch p e below S0 s₁ (mkF m 0 #[vR a1, vR a2] []) := fun t kq => hS0 ▸ castTop (ef_1 m a1 a2) kq
  have K0 : Keep h0 h0 [a1] := Keep.refl h0 _
  have hS : s.Since s.vm s.heap.size := (State.WarmedH.refl s).since _
  have hk : s.heap.size ≤ h0.size := by rw [← hh]; exact Nat.le_refl _
  have hwS : ∀ d ∈ Bundle.stringAtoms, d.before a0 Z = true := fun d hd => hw d ((by decide +kernel : ∀ d ∈ Bundle.stringAtoms, d ∈ tables_1) d hd)
  have rC0 : CHr Z consts_1 s.vm h0 s.vm h0 := CHr.refl hC0
  have hEL : EW Z a0 consts_1 := (EW.cons (hw _ (gm 47 rfl)) (by decide +kernel) (EW.cons (hw _ (gm 122 rfl)) (by decide +kernel) (EW.cons (hw _ (gm 124 rfl)) (by decide +kernel) (EW.cons (hw _ (gm 14 rfl)) (by decide +kernel) EW.nil))))
  have sf_a1 : Safe Z consts_1 s.vm h0 a1 := own_safe_null hZ.alike E_a1 F_a1_value (hw _ (gm 2 rfl))
  have k33 : Rch p e below S0 s₁ (mkF m 4 #[vR a1, vR a2] [(.ref a2), (.int (0 : Int32)), (.ref a2), (.ref a1)]) := fun t h => k0 t (by
      show Steps p.tables e below (s₁.setTop (mkF m 0 #[vR a1, vR a2] [])) _
      refine XS.aloadN X0.here hx rfl (hb hby d1_0) rfl rfl ?_
      refine XS.aloadN X0.here hx rfl (hb hby d1_1) rfl rfl ?_
      refine XS.iconst X0.here hx rfl (hb hby d1_2) ?_
      refine XS.aloadN X0.here hx rfl (hb hby d1_3) rfl rfl ?_
      exact h)
  obtain ⟨cl32, Ar32, q32, Sz32, Ng32, Hs32, G32⟩ := id Va
  have k34 : Rch p e below S0 s₁ (mkF m 6 #[vR a1, vR a2] [.null, (.int (0 : Int32)), (.int (0 : Int32)), (.ref a2), (.ref a1)]) := fun t h => k33 t (by
      show Steps p.tables e below (s₁.setTop (mkF m 4 #[vR a1, vR a2] [(.ref a2), (.int (0 : Int32)), (.ref a2), (.ref a1)])) _
      refine X0.arraylength hx (by rw [e0]; exact Ar32.1) (State.isArrayOf_alike hZ.alike Ar32.2.1) (g := (mkF m 4 #[vR a1, vR a2] [(.ref a2), (.int (0 : Int32)), (.ref a2), (.ref a1)])) rfl rfl (hb hby d1_4) _ ?_
      rw [len_of Sz32 Ng32]
      refine XS.aconstNull X0.here hx rfl (hb hby d1_5) ?_
      exact h)
  obtain ⟨_, _, ⟨T35, L35, kk35, n35⟩, -, X35, hS35, gr35, ⟨Lc35, hQ35, l35, y35, z35, hR35⟩, st35⟩ := X0.specialBackS hx (y := (⟨"java/lang/String", "<init>", "([CIILjava/lang/Void;)V"⟩ : MethodName)) rfl hown (mvT hZ (hw _ (gm 7 rfl))) (mvT hZ (hw _ (gm 8 rfl))) (mvT hZ (hw _ (gm 10 rfl))) (by decide) (backOfSH (W := 0) (rmS4 l Z a0 hw [] a1 a2  h0 n0 O0 ge_a1 E_a1 F_a1_value F_a1_coder) hZ (hw _ (gm 10 rfl)) (hw _ (gm 3 rfl)) (by decide) (by decide) hEL hC0) (g := (mkF m 6 #[vR a1, vR a2] [.null, (.int (0 : Int32)), (.int (0 : Int32)), (.ref a2), (.ref a1)])) rfl (by rw [hml]; rfl) (Steps.refl _) (a := a1) (argsL := [(.ref a2), (.int (0 : Int32)), (.int (0 : Int32)), .null]) (rest := []) (lenOf pd_1 rfl) rfl (by show 2 * 0 + _ ≤ _; exact Nat.le_of_eq rfl) (hb hby d1_6) (fun _ _ => ⟨rfl, e0, (by decide : 0 + 4 ≤ _), (by decide : 0 + 8 ≤ _)⟩)
  dsimp only [Pt.U, Pt.locs, Pt.cells, Pt.slots] at X35 l35 y35 z35 st35 hQ35 hS35 gr35 hR35
  subst l35 y35 z35
  have hZ35 : Z.Warmed39 (s.setVm T35.vm).vm := State.Warmed39.trans (t := (s.setVm s.vm)) hZ hS35.1
  have hown35 : (s.setVm T35.vm).vm.findClass "java/lang/String" = some m.cls := by rw [show (s.setVm T35.vm).vm = T35.vm from rfl, hS35.1.alike.findClass]; exact hown
  replace hS35 := foldS hS (by rw [e0]; exact hk) hS35 gr35
  have hk35 := Nat.le_refl T35.heap.size
  replace X35 : Stand p l e ({ frames := 2, cells := 4, slots := 8, locals := 48 } : Room) (s.setVm T35.vm) m #[(.ref a1), (.ref a2)] below meth c T35 _ _ _ := X35
  obtain ⟨rfl, Nq35, K35, t35, kt35, Fv35, Fc35, At35⟩ := hQ35
  have N35 := Fr.app N0 Nq35
  have k36 : Rch p e below S0 T35 (mkF m 9 #[vR a1, vR a2] []) := fun t h => k34 t (st35.trans h)
  have hC37 := hR35.1
  have rC37 := rC0.trans hR35
  have O38 := O0.keep K35 (allS ge_a1 all0)
  have K39 := K0.trans K35 (allS (Or.inl (gm 0 rfl)) all0)
  replace E_a1 := E_a1.keep K35
  obtain ⟨fs, hr, hrun, hended, hfin⟩ := X35.leaveW hS35 (by exact hk35) (v := none) (fun _ => rfl)
  refine ⟨_, _, ?_, hrun, hended, _, _, rfl, ?_, (by rw [hh]; have q := own_chr rC37 (CHv.at X35 hZ35 hEL hC37) rfl; exact q), hfin.1, hfin.2.1, hfin.2.2.1, hfin.2.2.2.mono (by decide) (by decide)⟩
  · rw [← hS0]
    refine k36 _ ?_
    show Steps p.tables e below (T35.setTop (mkF m 9 #[vR a1, vR a2] [])) _
    exact X35.returnOut hx Bd.returns (hb hby d1_9) hr
  · show Q_rmS0 Z a1 h0 n0 _ T35.heap _
    exact ⟨rfl, N35, K39, _, _, Fv35, Fc35, At35⟩
theorem own_shr0 (y : Int32) : y >>> ((0 : Int32) &&& 31) = y := by
  apply Int32.toInt_inj.mp
  have q := c_ishr y 0 0 (by decide)
  rw [q]; omega
theorem own_shl0 (y : Int32) : y <<< ((0 : Int32) &&& 31) = y := by
  apply Int32.toInt_inj.mp
  have q := c_ishl y 0 0 (by decide)
  have r := rng32 y
  have r2 := rng32 (y <<< ((0 : Int32) &&& 31))
  omega
theorem own_addn {i j : Nat} (h : i + j < 1073741824) : Int32.ofNat i + Int32.ofNat j = Int32.ofNat (i + j) := by
  apply Int32.toInt_inj.mp
  have q := c_iadd (Int32.ofNat i) (Int32.ofNat j)
  rw [(own_tn (by omega)).2, (own_tn (by omega)).2] at q
  rw [(own_tn (by omega)).2]
  have r := rng32 (Int32.ofNat i + Int32.ofNat j)
  omega
theorem own_addl (bs cs : List Int32) (h : bs.length + cs.length < 1073741824) : Int32.ofNat bs.length + Int32.ofNat cs.length = Int32.ofNat (bs ++ cs).length := by
  rw [own_addn h, List.length_append]
theorem own_sub0 (y : Int32) : y - (0 : Int32) = y := Int32.sub_zero y
theorem own_nogrow {n k : Nat} (h : n ≤ k) (hk : k ≤ 1000) : ¬ (0 : Int32) < Int32.ofNat n - Int32.ofNat k := by
  have q := c_isub (Int32.ofNat n) (Int32.ofNat k)
  rw [(own_tn (by omega)).2, (own_tn (by omega)).2] at q
  have r := rng32 (Int32.ofNat n - Int32.ofNat k)
  rw [Int32.lt_iff_toInt_lt, show (0 : Int32).toInt = 0 from by decide]
  omega
theorem own_lmax {n : Nat} (h : n ≤ 1000) : Int32.ofNat n < (2147483631 : Int32) := by
  rw [Int32.lt_iff_toInt_lt, (own_tn (by omega)).2, show (2147483631 : Int32).toInt = 2147483631 from by decide]; omega
theorem own_one {n k : Nat} (h : n < k) (hk : k ≤ 1000) : ¬ Int32.ofNat n = Int32.ofNat k := fun q => by
  have r := congrArg Int32.toInt q
  rw [(own_tn (by omega)).2, (own_tn (by omega)).2] at r
  omega
theorem own_cpl (bs cs : List Int32) (m : Nat) : (((bs.map Value.int ++ List.replicate m (Value.int (0 : Int32))).take bs.length ++ (List.range cs.length).map (fun i => (cs.map Value.int).getD (0 + i) (Value.int (0 : Int32)))) ++ (bs.map Value.int ++ List.replicate m (Value.int (0 : Int32))).drop (bs.length + cs.length)) = (bs ++ cs).map Value.int ++ List.replicate (m - cs.length) (Value.int (0 : Int32)) := by
  have hA : (bs.map Value.int ++ List.replicate m (Value.int (0 : Int32))).take bs.length = bs.map Value.int := List.take_left' (by simp)
  have hB : (List.range cs.length).map (fun i => (cs.map Value.int).getD (0 + i) (Value.int (0 : Int32))) = cs.map Value.int := by
    apply List.ext_getElem (by simp)
    intro i h1 h2
    simp at h1 h2 ⊢
    simp [h1]
  have hC : (bs.map Value.int ++ List.replicate m (Value.int (0 : Int32))).drop (bs.length + cs.length) = List.replicate (m - cs.length) (Value.int (0 : Int32)) := by
    rw [List.drop_append, List.drop_eq_nil_of_le (by simp)]; simp
  rw [hA, hB, hC, ← List.map_append]
theorem own_cp {Z : State} {h : Heap} {a : Addr} {k : ClassId} {ty : FieldType} {z : Int32} (bs cs : List Int32) (m : Nat) (F : Arv Z h a k ty z (((bs.map Value.int ++ List.replicate m (Value.int (0 : Int32))).take bs.length ++ (List.range cs.length).map (fun i => (cs.map Value.int).getD (0 + i) (Value.int (0 : Int32)))) ++ (bs.map Value.int ++ List.replicate m (Value.int (0 : Int32))).drop (bs.length + cs.length)) (.int (0 : Int32))) : Arv Z h a k ty z ((bs ++ cs).map Value.int) (.int (0 : Int32)) := by
  rw [own_cpl] at F
  exact F.pad fun i => (pad_rep _ _ _ i).symm
theorem own_posn (bs : List Int32) (h : ∀ c ∈ bs, ¬ c < 0) (i : Nat) : ¬ (bs.getD i 0) < 0 := by
  rw [List.getD_eq_getElem?_getD]
  cases e : bs[i]? with
  | none => decide
  | some y => exact h y (List.mem_of_getElem? e)
def Q_rmC0 (Z : State)  (h0 : Heap) (n0 : Nat) (v : Option Value) (h : Heap) (L : List Loc) : Prop := v = some (.int (0 : Int32)) ∧ Fr n0 L ∧ h = h0
theorem ef_12 (m : MethodId) (x0 : Addr) : entryFrame m #[(.ref x0)] 1 = mkF m 0 #[.val (.ref x0)] [] := by first | (simp [entryFrame, mkF, argsToLocals, Value.category]; done) | rfl
theorem d12_0 : decode jdk_42_method_152_code 0 = .ok (.getstatic 38, 3) := by decide +kernel
theorem d12_3 : decode jdk_42_method_152_code 3 = .ok (.ifCond .eq 10, 3) := by decide +kernel
theorem d12_6 : decode jdk_42_method_152_code 6 = .ok (.aload_n 0, 1) := by decide +kernel
theorem d12_7 : decode jdk_42_method_152_code 7 = .ok (.getfield 15, 3) := by decide +kernel
theorem d12_10 : decode jdk_42_method_152_code 10 = .ok (.goto 4, 3) := by decide +kernel
theorem d12_14 : decode jdk_42_method_152_code 14 = .ok (.ireturn, 1) := by decide +kernel
set_option maxRecDepth 65536 in
set_option maxHeartbeats 40000000 in
theorem rmC0 (l : Launch) (Z : State) (a0 : Array Value) (hw : ∀ d ∈ tables_1, d.before a0 Z = true) (ws : List Jvm.Cond) (a1 : Addr) (zC : Int32) (h0 : Heap) (n0 : Nat) (O0 : Old Z n0 h0) (SC : Sta Z Z.heap "java/lang/String" "COMPACT_STRINGS" "Z" (.int zC)) (hzC : ¬ zC = 0) (Sc : Fld Z h0 a1 "java/lang/String" "coder" "B" (.int (0 : Int32))) :
    MetFree l (⟨"java/lang/String", "coder", "()B"⟩ : MethodName) (head1 (Jvm.Cond.code (⟨"java/lang/String", "coder", "()B"⟩ : MethodName) jdk_42_method_152_code 1 (some .byte) :: ws) ({ frames := 0, cells := 0, slots := 0, locals := 0 } : Room)) (fun a U => a = #[(.ref a1)] ∧ Z.Warmed39 U.vm ∧ U.heap = h0) (fun _ _ _ _ _ => True) (fun _ U o U' => ∃ v L, o = .returned v ∧ Q_rmC0 Z  h0 n0 v U'.heap L ∧ FrameEnd U o U' L ({ frames := 0, cells := 0, slots := 0, locals := 0 } : Room).cells ({ frames := 0, cells := 0, slots := 0, locals := 0 } : Room).slots) := by
  refine MetFree.of_bodySF (plainFor_of_name pn_String) hisR ?_
  intro p e s m args below meth c s₁ Bd hml0 hP hK
  obtain ⟨rfl, hZ, hh⟩ := hP
  have hx := Bd.exec
  have hby := Bd.bytes
  have hml : c.maxLocals = 1 := hml0
  have hown : s.vm.findClass "java/lang/String" = some m.cls := findClass_of_methodNamed Bd.named
  have hnm := (name_of_methodNamed Bd.named Bd.method).1
  have X0 : Stand p l e ({ frames := 0, cells := 0, slots := 0, locals := 0 } : Room) s m #[(.ref a1)] below meth c s₁ [] 0 0 := Stand.of_body Bd
  have e0 : s₁.heap = h0 := by rw [← hh, Bd.state]; rfl
  have N0 := Fr.nil n0
  obtain ⟨S0, hS0⟩ : ∃ z, z = s₁.setTop (entryFrame m #[(.ref a1)] 1) := ⟨_, rfl⟩
  have k0 : Rch p e below S0 s₁ (mkF m 0 #[vR a1] []) := fun t kq => hS0 ▸ castTop (ef_12 m a1) kq
  obtain ⟨T40, X40, e40, st40⟩ := getS2 X0 hx hZ hown (host := "") (Or.inl (hw _ (gm 25 rfl))) Via.refl e0 (SC.ext O0.2) (g := (mkF m 0 #[vR a1] [])) rfl (hb hby d12_0)
  have k41 : Rch p e below S0 T40 (mkF m 3 #[vR a1] [(.int zC)]) := fun t h => k0 t (st40 t h)
  have k43 : Rch p e below S0 T40 (mkF m 7 #[vR a1] [(.ref a1)]) := fun t h => k41 t (by
      show Steps p.tables e below (T40.setTop (mkF m 3 #[vR a1] [(.int zC)])) _
      refine XS.ifNo X40.here hx rfl (hb hby d12_3) rfl ((if0 _ _).trans (feq (hzC : ¬ (zC = (0 : Int32)))).1) ?_
      refine XS.aloadN X40.here hx rfl (hb hby d12_6) rfl rfl ?_
      exact h)
  obtain ⟨T42, X42, e42, st42⟩ := getF X40 hx hZ hown (host := "") (Or.inl (hw _ (gm 21 rfl))) Via.refl e40 Sc (g := (mkF m 7 #[vR a1] [(.ref a1)])) rfl rfl (hb hby d12_7)
  have k44 : Rch p e below S0 T42 (mkF m 10 #[vR a1] [(.int (0 : Int32))]) := fun t h => k43 t (st42 t h)
  have k45 : Rch p e below S0 T42 (mkF m 14 #[vR a1] [(.int (0 : Int32))]) := fun t h => k44 t (by
      show Steps p.tables e below (T42.setTop (mkF m 10 #[vR a1] [(.int (0 : Int32))])) _
      refine XS.goto X42.here hx rfl (pc0 := 10) (pc' := 14) rfl (hb hby d12_10) (by decide) (by decide) ?_
      exact h)
  obtain ⟨fs, hr, hrun, hended, hW, hsame⟩ := X42.leave (v := (some (.int (nar .byte (0 : Int32))))) (fun h => by rw [Bd.returns] at h; cases h)
  refine ⟨_, _, ?_, hrun, hended, _, _, rfl, ?_, ⟨_, rfl⟩, hW, hsame.mono (by decide) (by decide)⟩
  · rw [← hS0]
    refine k45 _ ?_
    show Steps p.tables e below (T42.setTop (mkF m 14 #[vR a1] [(.int (0 : Int32))])) _
    exact retN X42 hx (t := .byte) Bd.returns (by simp) (hb hby d12_14) hr
  · show Q_rmC0 Z  h0 n0 _ T42.heap _
    rw [e42]
    exact ⟨rfl, N0, rfl⟩
def Q_rmL0 (Z : State) (cs : List Int32) (h0 : Heap) (n0 : Nat) (v : Option Value) (h : Heap) (L : List Loc) : Prop := v = some (.int (Int32.ofNat cs.length)) ∧ Fr n0 L ∧ h = h0
theorem ef_11 (m : MethodId) (x0 : Addr) : entryFrame m #[(.ref x0)] 1 = mkF m 0 #[.val (.ref x0)] [] := by first | (simp [entryFrame, mkF, argsToLocals, Value.category]; done) | rfl
theorem d11_0 : decode jdk_42_method_54_code 0 = .ok (.aload_n 0, 1) := by decide +kernel
theorem d11_1 : decode jdk_42_method_54_code 1 = .ok (.getfield 9, 3) := by decide +kernel
theorem d11_4 : decode jdk_42_method_54_code 4 = .ok (.arraylength, 1) := by decide +kernel
theorem d11_5 : decode jdk_42_method_54_code 5 = .ok (.aload_n 0, 1) := by decide +kernel
theorem pd_9 : parseMethodDescriptor "()B" = some ⟨[], some .byte⟩ := by decide +kernel
theorem d11_6 : decode jdk_42_method_54_code 6 = .ok (.invokevirtual 335, 3) := by decide +kernel
theorem d11_9 : decode jdk_42_method_54_code 9 = .ok (.ishr, 1) := by decide +kernel
theorem d11_10 : decode jdk_42_method_54_code 10 = .ok (.ireturn, 1) := by decide +kernel
set_option maxRecDepth 65536 in
set_option maxHeartbeats 40000000 in
theorem rmL0 (l : Launch) (Z : State) (a0 : Array Value) (hw : ∀ d ∈ tables_1, d.before a0 Z = true) (ws : List Jvm.Cond) (a1 : Addr) (tt : Addr) (kt : ClassId) (cs : List Int32) (zC : Int32) (h0 : Heap) (n0 : Nat) (O0 : Old Z n0 h0) (SC : Sta Z Z.heap "java/lang/String" "COMPACT_STRINGS" "Z" (.int zC)) (hzC : ¬ zC = 0) (Ex : Exa Z h0 a1 "java/lang/String") (Sv : Fld Z h0 a1 "java/lang/String" "value" "[B" (.ref tt)) (Sc : Fld Z h0 a1 "java/lang/String" "coder" "B" (.int (0 : Int32))) (Vt : Arv Z h0 tt kt .byte (Int32.ofNat cs.length) (cs.map Value.int) (.int (0 : Int32))) :
    MetFree l (⟨"java/lang/String", "length", "()I"⟩ : MethodName) (head1 (Jvm.Cond.code (⟨"java/lang/String", "length", "()I"⟩ : MethodName) jdk_42_method_54_code 1 (some .int) :: ws) ({ frames := 1, cells := 0, slots := 0, locals := 20 } : Room)) (fun a U => a = #[(.ref a1)] ∧ Z.Warmed39 U.vm ∧ U.heap = h0) (fun _ _ _ _ _ => True) (fun _ U o U' => ∃ v L, o = .returned v ∧ Q_rmL0 Z cs h0 n0 v U'.heap L ∧ FrameEnd U o U' L ({ frames := 1, cells := 0, slots := 0, locals := 20 } : Room).cells ({ frames := 1, cells := 0, slots := 0, locals := 20 } : Room).slots) := by
  refine MetFree.of_bodySF (plainFor_of_name pn_String) hisR ?_
  intro p e s m args below meth c s₁ Bd hml0 hP hK
  obtain ⟨rfl, hZ, hh⟩ := hP
  have hx := Bd.exec
  have hby := Bd.bytes
  have hml : c.maxLocals = 1 := hml0
  have hown : s.vm.findClass "java/lang/String" = some m.cls := findClass_of_methodNamed Bd.named
  have hnm := (name_of_methodNamed Bd.named Bd.method).1
  have X0 : Stand p l e ({ frames := 1, cells := 0, slots := 0, locals := 20 } : Room) s m #[(.ref a1)] below meth c s₁ [] 0 0 := Stand.of_body Bd
  have e0 : s₁.heap = h0 := by rw [← hh, Bd.state]; rfl
  have N0 := Fr.nil n0
  obtain ⟨S0, hS0⟩ : ∃ z, z = s₁.setTop (entryFrame m #[(.ref a1)] 1) := ⟨_, rfl⟩
  have k0 : Rch p e below S0 s₁ (mkF m 0 #[vR a1] []) := fun t kq => hS0 ▸ castTop (ef_11 m a1) kq
  have k47 : Rch p e below S0 s₁ (mkF m 1 #[vR a1] [(.ref a1)]) := fun t h => k0 t (by
      show Steps p.tables e below (s₁.setTop (mkF m 0 #[vR a1] [])) _
      refine XS.aloadN X0.here hx rfl (hb hby d11_0) rfl rfl ?_
      exact h)
  obtain ⟨T46, X46, e46, st46⟩ := getF X0 hx hZ hown (host := "") (Or.inl (hw _ (gm 20 rfl))) Via.refl e0 Sv (g := (mkF m 1 #[vR a1] [(.ref a1)])) rfl rfl (hb hby d11_1)
  have k48 : Rch p e below S0 T46 (mkF m 4 #[vR a1] [(.ref tt)]) := fun t h => k47 t (st46 t h)
  obtain ⟨cl49, Ar49, q49, Sz49, Ng49, Hs49, G49⟩ := id Vt
  have k50 : Rch p e below S0 T46 (mkF m 6 #[vR a1] [(.ref a1), (.int (Int32.ofNat cs.length))]) := fun t h => k48 t (by
      show Steps p.tables e below (T46.setTop (mkF m 4 #[vR a1] [(.ref tt)])) _
      refine X46.arraylength hx (by rw [e46]; exact Ar49.1) (State.isArrayOf_alike hZ.alike Ar49.2.1) (g := (mkF m 4 #[vR a1] [(.ref tt)])) rfl rfl (hb hby d11_4) _ ?_
      rw [len_of Sz49 Ng49]
      refine XS.aloadN X46.here hx rfl (hb hby d11_5) rfl rfl ?_
      exact h)
  obtain ⟨cq51, kq51, q51a, q51b, q51c⟩ := isOf hZ e46 Ex
  obtain ⟨_, _, ⟨T51, L51, kk51, n51⟩, -, X51, ⟨Lc51, hQ51, l51, y51, z51⟩, st51⟩ := X46.virtualBack hx (y := (⟨"java/lang/String", "coder", "()B"⟩ : MethodName)) (z := (⟨"java/lang/String", "coder", "()B"⟩ : MethodName)) hown (mvT hZ (hw _ (gm 63 rfl))) (mvT hZ (hw _ (gm 64 rfl))) (notFace_of_selects (args := #[]) (mvT hZ (hw _ (gm 66 rfl)))) (mvT hZ (hw _ (gm 66 rfl))) (mvT hZ (hw _ (gm 65 rfl))) (by decide) (backOf (W := 1) (rmC0 l Z a0 hw [] a1 zC h0 n0 O0 SC hzC Sc) hZ (hw _ (gm 67 rfl)) (hw _ (gm 3 rfl)) (by decide) (by decide)) q51a q51c (g := (mkF m 6 #[vR a1] [(.ref a1), (.int (Int32.ofNat cs.length))])) rfl (by rw [hml]; rfl) (Steps.refl _) (argsL := []) (rest := [(.int (Int32.ofNat cs.length))]) (lenOf pd_9 rfl) rfl (by show 2 * 0 + _ ≤ _; exact Nat.le_of_eq rfl) (hb hby d11_6) (fun _ _ => ⟨rfl, e46, (by decide : 0 + 0 ≤ _), (by decide : 0 + 0 ≤ _)⟩)
  dsimp only [Pt.U, Pt.locs, Pt.cells, Pt.slots] at X51 l51 y51 z51 st51 hQ51
  subst l51 y51 z51
  obtain ⟨rfl, Nq51, hh51⟩ := hQ51
  have N51 := Fr.app N0 Nq51
  have k52 : Rch p e below S0 T51 (mkF m 9 #[vR a1] [(.int (0 : Int32)), (.int (Int32.ofNat cs.length))]) := fun t h => k50 t (st51.trans h)
  have k53 : Rch p e below S0 T51 (mkF m 10 #[vR a1] [(.int (Int32.ofNat cs.length))]) := fun t h => k52 t (by
      show Steps p.tables e below (T51.setTop (mkF m 9 #[vR a1] [(.int (0 : Int32)), (.int (Int32.ofNat cs.length))])) _
      refine XS.ishr X51.here hx rfl (hb hby d11_9) rfl ?_
      rw [own_shr0 _]
      exact h)
  obtain ⟨fs, hr, hrun, hended, hW, hsame⟩ := X51.leave (v := (some (.int (Int32.ofNat cs.length)))) (fun h => by rw [Bd.returns] at h; cases h)
  refine ⟨_, _, ?_, hrun, hended, _, _, rfl, ?_, ⟨_, rfl⟩, hW, hsame.mono (by decide) (by decide)⟩
  · rw [← hS0]
    refine k53 _ ?_
    show Steps p.tables e below (T51.setTop (mkF m 10 #[vR a1] [(.int (Int32.ofNat cs.length))])) _
    exact retI X51 hx Bd.returns (hb hby d11_10) hr
  · show Q_rmL0 Z cs h0 n0 _ T51.heap _
    rw [hh51]
    exact ⟨rfl, N51, rfl⟩
def Q_rmIN (Z : State)  (h0 : Heap) (n0 : Nat) (v : Option Value) (h : Heap) (L : List Loc) : Prop := v = none ∧ Fr n0 L ∧ h = h0
theorem ef_18 (m : MethodId) (x0 : Addr) (x1 : Addr) : entryFrame m #[(.ref x0), (.ref x1)] 2 = mkF m 0 #[.val (.ref x0), .val (.ref x1)] [] := by first | (simp [entryFrame, mkF, argsToLocals, Value.category]; done) | rfl
theorem pn_AbstractStringBuilder : plainName "java/lang/AbstractStringBuilder" = true := by first | (simp [plainName, overriddenIn]; done) | decide +kernel
theorem d18_0 : decode jdk_68_method_71_code 0 = .ok (.getstatic 18, 3) := by decide +kernel
theorem d18_3 : decode jdk_68_method_71_code 3 = .ok (.ifCond .eq 18, 3) := by decide +kernel
theorem d18_6 : decode jdk_68_method_71_code 6 = .ok (.aload_n 0, 1) := by decide +kernel
theorem d18_7 : decode jdk_68_method_71_code 7 = .ok (.getfield 22, 3) := by decide +kernel
theorem d18_10 : decode jdk_68_method_71_code 10 = .ok (.aload_n 1, 1) := by decide +kernel
theorem d18_11 : decode jdk_68_method_71_code 11 = .ok (.invokevirtual 40, 3) := by decide +kernel
theorem d18_14 : decode jdk_68_method_71_code 14 = .ok (.if_icmp .eq 7, 3) := by decide +kernel
theorem d18_21 : decode jdk_68_method_71_code 21 = .ok (.return_, 1) := by decide +kernel
set_option maxRecDepth 65536 in
set_option maxHeartbeats 40000000 in
theorem rmIN (l : Launch) (Z : State) (a0 : Array Value) (hw : ∀ d ∈ tables_1, d.before a0 Z = true) (ws : List Jvm.Cond) (sb : Addr) (a1 : Addr) (zC : Int32) (h0 : Heap) (n0 : Nat) (O0 : Old Z n0 h0) (SC : Sta Z Z.heap "java/lang/String" "COMPACT_STRINGS" "Z" (.int zC)) (hzC : ¬ zC = 0) (Fc : Fld Z h0 sb "java/lang/AbstractStringBuilder" "coder" "B" (.int (0 : Int32))) (Ex : Exa Z h0 a1 "java/lang/String") (Sc : Fld Z h0 a1 "java/lang/String" "coder" "B" (.int (0 : Int32))) :
    MetFree l (⟨"java/lang/AbstractStringBuilder", "inflateIfNeededFor", "(Ljava/lang/String;)V"⟩ : MethodName) (head1 (Jvm.Cond.code (⟨"java/lang/AbstractStringBuilder", "inflateIfNeededFor", "(Ljava/lang/String;)V"⟩ : MethodName) jdk_68_method_71_code 2 none :: ws) ({ frames := 1, cells := 0, slots := 0, locals := 16 } : Room)) (fun a U => a = #[(.ref sb), (.ref a1)] ∧ Z.Warmed39 U.vm ∧ U.heap = h0) (fun _ _ _ _ _ => True) (fun _ U o U' => ∃ v L, o = .returned v ∧ Q_rmIN Z  h0 n0 v U'.heap L ∧ FrameEnd U o U' L ({ frames := 1, cells := 0, slots := 0, locals := 16 } : Room).cells ({ frames := 1, cells := 0, slots := 0, locals := 16 } : Room).slots) := by
  refine MetFree.of_bodySF (plainFor_of_name pn_AbstractStringBuilder) hisR ?_
  intro p e s m args below meth c s₁ Bd hml0 hP hK
  obtain ⟨rfl, hZ, hh⟩ := hP
  have hx := Bd.exec
  have hby := Bd.bytes
  have hml : c.maxLocals = 2 := hml0
  have hown : s.vm.findClass "java/lang/AbstractStringBuilder" = some m.cls := findClass_of_methodNamed Bd.named
  have hnm := (name_of_methodNamed Bd.named Bd.method).1
  have X0 : Stand p l e ({ frames := 1, cells := 0, slots := 0, locals := 16 } : Room) s m #[(.ref sb), (.ref a1)] below meth c s₁ [] 0 0 := Stand.of_body Bd
  have e0 : s₁.heap = h0 := by rw [← hh, Bd.state]; rfl
  have N0 := Fr.nil n0
  obtain ⟨S0, hS0⟩ : ∃ z, z = s₁.setTop (entryFrame m #[(.ref sb), (.ref a1)] 2) := ⟨_, rfl⟩
  have k0 : Rch p e below S0 s₁ (mkF m 0 #[vR sb, vR a1] []) := fun t kq => hS0 ▸ castTop (ef_18 m sb a1) kq
  obtain ⟨T54, X54, e54, st54⟩ := getS2 X0 hx hZ hown (host := "") (Or.inl (hw _ (gm 105 rfl))) Via.refl e0 (SC.ext O0.2) (g := (mkF m 0 #[vR sb, vR a1] [])) rfl (hb hby d18_0)
  have k55 : Rch p e below S0 T54 (mkF m 3 #[vR sb, vR a1] [(.int zC)]) := fun t h => k0 t (st54 t h)
  have k57 : Rch p e below S0 T54 (mkF m 7 #[vR sb, vR a1] [(.ref sb)]) := fun t h => k55 t (by
      show Steps p.tables e below (T54.setTop (mkF m 3 #[vR sb, vR a1] [(.int zC)])) _
      refine XS.ifNo X54.here hx rfl (hb hby d18_3) rfl ((if0 _ _).trans (feq (hzC : ¬ (zC = (0 : Int32)))).1) ?_
      refine XS.aloadN X54.here hx rfl (hb hby d18_6) rfl rfl ?_
      exact h)
  obtain ⟨T56, X56, e56, st56⟩ := getF X54 hx hZ hown (host := "") (Or.inl (hw _ (gm 70 rfl))) Via.refl e54 Fc (g := (mkF m 7 #[vR sb, vR a1] [(.ref sb)])) rfl rfl (hb hby d18_7)
  have k58 : Rch p e below S0 T56 (mkF m 10 #[vR sb, vR a1] [(.int (0 : Int32))]) := fun t h => k57 t (st56 t h)
  have k59 : Rch p e below S0 T56 (mkF m 11 #[vR sb, vR a1] [(.ref a1), (.int (0 : Int32))]) := fun t h => k58 t (by
      show Steps p.tables e below (T56.setTop (mkF m 10 #[vR sb, vR a1] [(.int (0 : Int32))])) _
      refine XS.aloadN X56.here hx rfl (hb hby d18_10) rfl rfl ?_
      exact h)
  obtain ⟨cq60, kq60, q60a, q60b, q60c⟩ := isOf hZ e56 Ex
  obtain ⟨_, _, ⟨T60, L60, kk60, n60⟩, -, X60, ⟨Lc60, hQ60, l60, y60, z60⟩, st60⟩ := X56.virtualBack hx (y := (⟨"java/lang/String", "coder", "()B"⟩ : MethodName)) (z := (⟨"java/lang/String", "coder", "()B"⟩ : MethodName)) hown (mvT hZ (hw _ (gm 69 rfl))) (mvT hZ (hw _ (gm 64 rfl))) (notFace_of_selects (args := #[]) (mvT hZ (hw _ (gm 66 rfl)))) (mvT hZ (hw _ (gm 66 rfl))) (mvT hZ (hw _ (gm 65 rfl))) (by decide) (backOf (W := 1) (rmC0 l Z a0 hw [] a1 zC h0 n0 O0 SC hzC Sc) hZ (hw _ (gm 67 rfl)) (hw _ (gm 3 rfl)) (by decide) (by decide)) q60a q60c (g := (mkF m 11 #[vR sb, vR a1] [(.ref a1), (.int (0 : Int32))])) rfl (by rw [hml]; rfl) (Steps.refl _) (argsL := []) (rest := [(.int (0 : Int32))]) (lenOf pd_9 rfl) rfl (by show 2 * 0 + _ ≤ _; exact Nat.le_of_eq rfl) (hb hby d18_11) (fun _ _ => ⟨rfl, e56, (by decide : 0 + 0 ≤ _), (by decide : 0 + 0 ≤ _)⟩)
  dsimp only [Pt.U, Pt.locs, Pt.cells, Pt.slots] at X60 l60 y60 z60 st60 hQ60
  subst l60 y60 z60
  obtain ⟨rfl, Nq60, hh60⟩ := hQ60
  have N60 := Fr.app N0 Nq60
  have k61 : Rch p e below S0 T60 (mkF m 14 #[vR sb, vR a1] [(.int (0 : Int32)), (.int (0 : Int32))]) := fun t h => k59 t (st60.trans h)
  have k62 : Rch p e below S0 T60 (mkF m 21 #[vR sb, vR a1] []) := fun t h => k61 t (by
      show Steps p.tables e below (T60.setTop (mkF m 14 #[vR sb, vR a1] [(.int (0 : Int32)), (.int (0 : Int32))])) _
      refine XS.icmpYes X60.here hx rfl (pc0 := 14) (pc' := 21) rfl (hb hby d18_14) rfl (teq (by decide : (0 : Int32) = (0 : Int32))).1 (by decide) (by decide) ?_
      exact h)
  obtain ⟨fs, hr, hrun, hended, hW, hsame⟩ := X60.leave (v := none) (fun _ => rfl)
  refine ⟨_, _, ?_, hrun, hended, _, _, rfl, ?_, ⟨_, rfl⟩, hW, hsame.mono (by decide) (by decide)⟩
  · rw [← hS0]
    refine k62 _ ?_
    show Steps p.tables e below (T60.setTop (mkF m 21 #[vR sb, vR a1] [])) _
    exact X60.returnOut hx Bd.returns (hb hby d18_21) hr
  · show Q_rmIN Z  h0 n0 _ T60.heap _
    rw [hh60]
    exact ⟨rfl, N60, rfl⟩
def Q_rmGB (Z : State) (tb : Addr) (cs : List Int32) (kb : ClassId) (cap : Nat) (bs : List Int32) (h0 : Heap) (n0 : Nat) (v : Option Value) (h : Heap) (L : List Loc) : Prop := v = none ∧ Fr n0 L ∧ Keep h0 h [tb] ∧ Arv Z h tb kb .byte (Int32.ofNat cap) ((bs ++ cs).map Value.int) (.int (0 : Int32))
theorem ef_19 (m : MethodId) (x0 : Addr) (x1 : Addr) (x2 : Int32) (x3 : Int32) : entryFrame m #[(.ref x0), (.ref x1), (.int x2), (.int x3)] 4 = mkF m 0 #[.val (.ref x0), .val (.ref x1), .val (.int x2), .val (.int x3)] [] := by first | (simp [entryFrame, mkF, argsToLocals, Value.category]; done) | rfl
theorem d19_0 : decode jdk_42_method_147_code 0 = .ok (.aload_n 0, 1) := by decide +kernel
theorem d19_1 : decode jdk_42_method_147_code 1 = .ok (.invokevirtual 335, 3) := by decide +kernel
theorem d19_4 : decode jdk_42_method_147_code 4 = .ok (.iload_n 3, 1) := by decide +kernel
theorem d19_5 : decode jdk_42_method_147_code 5 = .ok (.if_icmp .ne 23, 3) := by decide +kernel
theorem d19_8 : decode jdk_42_method_147_code 8 = .ok (.aload_n 0, 1) := by decide +kernel
theorem d19_9 : decode jdk_42_method_147_code 9 = .ok (.getfield 9, 3) := by decide +kernel
theorem d19_12 : decode jdk_42_method_147_code 12 = .ok (.iconst 0, 1) := by decide +kernel
theorem d19_13 : decode jdk_42_method_147_code 13 = .ok (.aload_n 1, 1) := by decide +kernel
theorem d19_14 : decode jdk_42_method_147_code 14 = .ok (.iload_n 2, 1) := by decide +kernel
theorem d19_15 : decode jdk_42_method_147_code 15 = .ok (.iload_n 3, 1) := by decide +kernel
theorem d19_16 : decode jdk_42_method_147_code 16 = .ok (.ishl, 1) := by decide +kernel
theorem d19_17 : decode jdk_42_method_147_code 17 = .ok (.aload_n 0, 1) := by decide +kernel
theorem d19_18 : decode jdk_42_method_147_code 18 = .ok (.getfield 9, 3) := by decide +kernel
theorem d19_21 : decode jdk_42_method_147_code 21 = .ok (.arraylength, 1) := by decide +kernel
theorem d19_22 : decode jdk_42_method_147_code 22 = .ok (.invokestatic 212, 3) := by decide +kernel
theorem d19_25 : decode jdk_42_method_147_code 25 = .ok (.goto 18, 3) := by decide +kernel
theorem d19_43 : decode jdk_42_method_147_code 43 = .ok (.return_, 1) := by decide +kernel
set_option maxRecDepth 65536 in
set_option maxHeartbeats 40000000 in
theorem rmGB (l : Launch) (Z : State) (a0 : Array Value) (hw : ∀ d ∈ tables_1, d.before a0 Z = true) (ws : List Jvm.Cond) (a1 : Addr) (tb : Addr) (tt : Addr) (kt : ClassId) (cs : List Int32) (kb : ClassId) (cap : Nat) (bs : List Int32) (zC : Int32) (h0 : Heap) (n0 : Nat) (O0 : Old Z n0 h0) (SC : Sta Z Z.heap "java/lang/String" "COMPACT_STRINGS" "Z" (.int zC)) (hzC : ¬ zC = 0) (Ex : Exa Z h0 a1 "java/lang/String") (Sv : Fld Z h0 a1 "java/lang/String" "value" "[B" (.ref tt)) (Sc : Fld Z h0 a1 "java/lang/String" "coder" "B" (.int (0 : Int32))) (Vt : Arv Z h0 tt kt .byte (Int32.ofNat cs.length) (cs.map Value.int) (.int (0 : Int32))) (ge_tb : n0 ≤ tb) (Vb : Arv Z h0 tb kb .byte (Int32.ofNat cap) (bs.map Value.int) (.int (0 : Int32))) (hcap : bs.length + cs.length ≤ cap) (hc2 : cap ≤ 1000) :
    MetFree l (⟨"java/lang/String", "getBytes", "([BIB)V"⟩ : MethodName) (head1 (Jvm.Cond.code (⟨"java/lang/String", "getBytes", "([BIB)V"⟩ : MethodName) jdk_42_method_147_code 4 none :: ws) ({ frames := 1, cells := 0, slots := 0, locals := 34 } : Room)) (fun a U => a = #[(.ref a1), (.ref tb), (.int (Int32.ofNat bs.length)), (.int (0 : Int32))] ∧ Z.Warmed39 U.vm ∧ U.heap = h0) (fun _ _ _ _ _ => True) (fun _ U o U' => ∃ v L, o = .returned v ∧ Q_rmGB Z tb cs kb cap bs h0 n0 v U'.heap L ∧ FrameEnd U o U' L ({ frames := 1, cells := 0, slots := 0, locals := 34 } : Room).cells ({ frames := 1, cells := 0, slots := 0, locals := 34 } : Room).slots) := by
  refine MetFree.of_bodySF (plainFor_of_name pn_String) hisR ?_
  intro p e s m args below meth c s₁ Bd hml0 hP hK
  obtain ⟨rfl, hZ, hh⟩ := hP
  have hx := Bd.exec
  have hby := Bd.bytes
  have hml : c.maxLocals = 4 := hml0
  have hown : s.vm.findClass "java/lang/String" = some m.cls := findClass_of_methodNamed Bd.named
  have hnm := (name_of_methodNamed Bd.named Bd.method).1
  have X0 : Stand p l e ({ frames := 1, cells := 0, slots := 0, locals := 34 } : Room) s m #[(.ref a1), (.ref tb), (.int (Int32.ofNat bs.length)), (.int (0 : Int32))] below meth c s₁ [] 0 0 := Stand.of_body Bd
  have e0 : s₁.heap = h0 := by rw [← hh, Bd.state]; rfl
  have N0 := Fr.nil n0
  obtain ⟨S0, hS0⟩ : ∃ z, z = s₁.setTop (entryFrame m #[(.ref a1), (.ref tb), (.int (Int32.ofNat bs.length)), (.int (0 : Int32))] 4) := ⟨_, rfl⟩
  have k0 : Rch p e below S0 s₁ (mkF m 0 #[vR a1, vR tb, vI (Int32.ofNat bs.length), vI 0] []) := fun t kq => hS0 ▸ castTop (ef_19 m a1 tb (Int32.ofNat bs.length) (0 : Int32)) kq
  have K0 : Keep h0 h0 [tb] := Keep.refl h0 _
  have k63 : Rch p e below S0 s₁ (mkF m 1 #[vR a1, vR tb, vI (Int32.ofNat bs.length), vI 0] [(.ref a1)]) := fun t h => k0 t (by
      show Steps p.tables e below (s₁.setTop (mkF m 0 #[vR a1, vR tb, vI (Int32.ofNat bs.length), vI 0] [])) _
      refine XS.aloadN X0.here hx rfl (hb hby d19_0) rfl rfl ?_
      exact h)
  obtain ⟨cq64, kq64, q64a, q64b, q64c⟩ := isOf hZ e0 Ex
  obtain ⟨_, _, ⟨T64, L64, kk64, n64⟩, -, X64, ⟨Lc64, hQ64, l64, y64, z64⟩, st64⟩ := X0.virtualBack hx (y := (⟨"java/lang/String", "coder", "()B"⟩ : MethodName)) (z := (⟨"java/lang/String", "coder", "()B"⟩ : MethodName)) hown (mvT hZ (hw _ (gm 63 rfl))) (mvT hZ (hw _ (gm 64 rfl))) (notFace_of_selects (args := #[]) (mvT hZ (hw _ (gm 66 rfl)))) (mvT hZ (hw _ (gm 66 rfl))) (mvT hZ (hw _ (gm 65 rfl))) (by decide) (backOf (W := 0) (rmC0 l Z a0 hw [] a1 zC h0 n0 O0 SC hzC Sc) hZ (hw _ (gm 67 rfl)) (hw _ (gm 3 rfl)) (by decide) (by decide)) q64a q64c (g := (mkF m 1 #[vR a1, vR tb, vI (Int32.ofNat bs.length), vI 0] [(.ref a1)])) rfl (by rw [hml]; rfl) (Steps.refl _) (argsL := []) (rest := []) (lenOf pd_9 rfl) rfl (by show 2 * 0 + _ ≤ _; exact Nat.le_of_eq rfl) (hb hby d19_1) (fun _ _ => ⟨rfl, e0, (by decide : 0 + 0 ≤ _), (by decide : 0 + 0 ≤ _)⟩)
  dsimp only [Pt.U, Pt.locs, Pt.cells, Pt.slots] at X64 l64 y64 z64 st64 hQ64
  subst l64 y64 z64
  obtain ⟨rfl, Nq64, hh64⟩ := hQ64
  have N64 := Fr.app N0 Nq64
  have k65 : Rch p e below S0 T64 (mkF m 4 #[vR a1, vR tb, vI (Int32.ofNat bs.length), vI 0] [(.int (0 : Int32))]) := fun t h => k63 t (st64.trans h)
  have k67 : Rch p e below S0 T64 (mkF m 9 #[vR a1, vR tb, vI (Int32.ofNat bs.length), vI 0] [(.ref a1)]) := fun t h => k65 t (by
      show Steps p.tables e below (T64.setTop (mkF m 4 #[vR a1, vR tb, vI (Int32.ofNat bs.length), vI 0] [(.int (0 : Int32))])) _
      refine XS.iloadN X64.here hx rfl (hb hby d19_4) rfl ?_
      refine XS.icmpNo X64.here hx rfl (hb hby d19_5) rfl (teq (by decide : (0 : Int32) = (0 : Int32))).2 ?_
      refine XS.aloadN X64.here hx rfl (hb hby d19_8) rfl rfl ?_
      exact h)
  obtain ⟨T66, X66, e66, st66⟩ := getF X64 hx hZ hown (host := "") (Or.inl (hw _ (gm 20 rfl))) Via.refl hh64 Sv (g := (mkF m 9 #[vR a1, vR tb, vI (Int32.ofNat bs.length), vI 0] [(.ref a1)])) rfl rfl (hb hby d19_9)
  have k68 : Rch p e below S0 T66 (mkF m 12 #[vR a1, vR tb, vI (Int32.ofNat bs.length), vI 0] [(.ref tt)]) := fun t h => k67 t (st66 t h)
  have k70 : Rch p e below S0 T66 (mkF m 18 #[vR a1, vR tb, vI (Int32.ofNat bs.length), vI 0] [(.ref a1), (.int (Int32.ofNat bs.length)), (.ref tb), (.int (0 : Int32)), (.ref tt)]) := fun t h => k68 t (by
      show Steps p.tables e below (T66.setTop (mkF m 12 #[vR a1, vR tb, vI (Int32.ofNat bs.length), vI 0] [(.ref tt)])) _
      refine XS.iconst X66.here hx rfl (hb hby d19_12) ?_
      refine XS.aloadN X66.here hx rfl (hb hby d19_13) rfl rfl ?_
      refine XS.iloadN X66.here hx rfl (hb hby d19_14) rfl ?_
      refine XS.iloadN X66.here hx rfl (hb hby d19_15) rfl ?_
      show Steps p.tables e below (T66.setTop (mkF m 16 #[vR a1, vR tb, vI (Int32.ofNat bs.length), vI 0] [(.int (0 : Int32)), (.int (Int32.ofNat bs.length)), (.ref tb), (.int (0 : Int32)), (.ref tt)])) _
      refine XS.ishl X66.here hx rfl (hb hby d19_16) rfl ?_
      rw [own_shl0 _]
      refine XS.aloadN X66.here hx rfl (hb hby d19_17) rfl rfl ?_
      exact h)
  obtain ⟨T69, X69, e69, st69⟩ := getF X66 hx hZ hown (host := "") (Or.inl (hw _ (gm 20 rfl))) Via.refl e66 Sv (g := (mkF m 18 #[vR a1, vR tb, vI (Int32.ofNat bs.length), vI 0] [(.ref a1), (.int (Int32.ofNat bs.length)), (.ref tb), (.int (0 : Int32)), (.ref tt)])) rfl rfl (hb hby d19_18)
  have k71 : Rch p e below S0 T69 (mkF m 21 #[vR a1, vR tb, vI (Int32.ofNat bs.length), vI 0] [(.ref tt), (.int (Int32.ofNat bs.length)), (.ref tb), (.int (0 : Int32)), (.ref tt)]) := fun t h => k70 t (st69 t h)
  obtain ⟨cl72, Ar72, q72, Sz72, Ng72, Hs72, G72⟩ := id Vt
  have k73 : Rch p e below S0 T69 (mkF m 22 #[vR a1, vR tb, vI (Int32.ofNat bs.length), vI 0] [(.int (Int32.ofNat cs.length)), (.int (Int32.ofNat bs.length)), (.ref tb), (.int (0 : Int32)), (.ref tt)]) := fun t h => k71 t (by
      show Steps p.tables e below (T69.setTop (mkF m 21 #[vR a1, vR tb, vI (Int32.ofNat bs.length), vI 0] [(.ref tt), (.int (Int32.ofNat bs.length)), (.ref tb), (.int (0 : Int32)), (.ref tt)])) _
      refine X69.arraylength hx (by rw [e69]; exact Ar72.1) (State.isArrayOf_alike hZ.alike Ar72.2.1) (g := (mkF m 21 #[vR a1, vR tb, vI (Int32.ofNat bs.length), vI 0] [(.ref tt), (.int (Int32.ofNat bs.length)), (.ref tb), (.int (0 : Int32)), (.ref tt)])) rfl rfl (hb hby d19_21) _ ?_
      rw [len_of Sz72 Ng72]
      exact h)
  obtain ⟨T74, h74, L74, X74, e74, N74, K74, V74, st74⟩ := cpA X69 hx hZ hown (hw _ (gm 111 rfl)) (hw _ (gm 114 rfl)) (hw _ (gm 112 rfl)) (hw _ (gm 113 rfl)) e69 Vt (Vb.pad (pad_rep (bs.map Value.int) (.int (0 : Int32)) cap)) (Or.inl ⟨rfl, rfl⟩) (by decide) (own_on0 (by omega)) (own_on0 (by omega)) (by rw [show ((0 : Int32)).toNatClampNeg = 0 from rfl]; omega) (by rw [(own_tn (i := bs.length) (by omega)).1, (own_tn (i := cs.length) (by omega)).1, (own_tn (i := cap) (by omega)).1]; omega) rfl (by rw [(own_tn (i := bs.length) (by omega)).1, (own_tn (i := cs.length) (by omega)).1, List.length_append, List.length_map, List.length_replicate]; omega) N64 ge_tb (g := (mkF m 22 #[vR a1, vR tb, vI (Int32.ofNat bs.length), vI 0] [(.int (Int32.ofNat cs.length)), (.int (Int32.ofNat bs.length)), (.ref tb), (.int (0 : Int32)), (.ref tt)])) rfl (by rw [hml]; rfl) rfl (hb hby d19_22) (by decide) (W := 0) (by show 2 * 0 + _ ≤ _; exact Nat.le_of_eq rfl) (by decide)
  have k75 : Rch p e below S0 T74 (mkF m 25 #[vR a1, vR tb, vI (Int32.ofNat bs.length), vI 0] []) := fun t h => k73 t (st74 t h)
  rw [(own_tn (i := bs.length) (by omega)).1, (own_tn (i := cs.length) (by omega)).1, show ((0 : Int32)).toNatClampNeg = 0 from rfl] at V74
  replace V74 := own_cp (bs) (cs) (cap) V74
  have O76 := O0.keep K74 (allS ge_tb all0)
  have K77 := K0.trans K74 (allS (Or.inl (gm 0 rfl)) all0)
  have k78 : Rch p e below S0 T74 (mkF m 43 #[vR a1, vR tb, vI (Int32.ofNat bs.length), vI 0] []) := fun t h => k75 t (by
      show Steps p.tables e below (T74.setTop (mkF m 25 #[vR a1, vR tb, vI (Int32.ofNat bs.length), vI 0] [])) _
      refine XS.goto X74.here hx rfl (pc0 := 25) (pc' := 43) rfl (hb hby d19_25) (by decide) (by decide) ?_
      exact h)
  obtain ⟨fs, hr, hrun, hended, hW, hsame⟩ := X74.leave (v := none) (fun _ => rfl)
  refine ⟨_, _, ?_, hrun, hended, _, _, rfl, ?_, ⟨_, rfl⟩, hW, hsame.mono (by decide) (by decide)⟩
  · rw [← hS0]
    refine k78 _ ?_
    show Steps p.tables e below (T74.setTop (mkF m 43 #[vR a1, vR tb, vI (Int32.ofNat bs.length), vI 0] [])) _
    exact X74.returnOut hx Bd.returns (hb hby d19_43) hr
  · show Q_rmGB Z tb cs kb cap bs h0 n0 _ T74.heap _
    rw [e74]
    exact ⟨rfl, N74, K77, V74⟩
def Q_rmPS (Z : State) (tb : Addr) (cs : List Int32) (kb : ClassId) (cap : Nat) (bs : List Int32) (h0 : Heap) (n0 : Nat) (v : Option Value) (h : Heap) (L : List Loc) : Prop := v = none ∧ Fr n0 L ∧ Keep h0 h [tb] ∧ Arv Z h tb kb .byte (Int32.ofNat cap) ((bs ++ cs).map Value.int) (.int (0 : Int32))
theorem ef_17 (m : MethodId) (x0 : Addr) (x1 : Int32) (x2 : Addr) : entryFrame m #[(.ref x0), (.int x1), (.ref x2)] 3 = mkF m 0 #[.val (.ref x0), .val (.int x1), .val (.ref x2)] [] := by first | (simp [entryFrame, mkF, argsToLocals, Value.category]; done) | rfl
theorem d17_0 : decode jdk_68_method_73_code 0 = .ok (.aload_n 0, 1) := by decide +kernel
theorem d17_1 : decode jdk_68_method_73_code 1 = .ok (.aload_n 2, 1) := by decide +kernel
theorem pd_7 : parseMethodDescriptor "(Ljava/lang/String;)V" = some ⟨[(.object "java/lang/String")], none⟩ := by decide +kernel
theorem d17_2 : decode jdk_68_method_73_code 2 = .ok (.invokevirtual 397, 3) := by decide +kernel
theorem d17_5 : decode jdk_68_method_73_code 5 = .ok (.aload_n 2, 1) := by decide +kernel
theorem d17_6 : decode jdk_68_method_73_code 6 = .ok (.aload_n 0, 1) := by decide +kernel
theorem d17_7 : decode jdk_68_method_73_code 7 = .ok (.getfield 15, 3) := by decide +kernel
theorem d17_10 : decode jdk_68_method_73_code 10 = .ok (.iload_n 1, 1) := by decide +kernel
theorem d17_11 : decode jdk_68_method_73_code 11 = .ok (.aload_n 0, 1) := by decide +kernel
theorem d17_12 : decode jdk_68_method_73_code 12 = .ok (.getfield 22, 3) := by decide +kernel
theorem pd_14 : parseMethodDescriptor "([BIB)V" = some ⟨[(.array .byte), .int, .byte], none⟩ := by decide +kernel
theorem d17_15 : decode jdk_68_method_73_code 15 = .ok (.invokevirtual 399, 3) := by decide +kernel
theorem d17_18 : decode jdk_68_method_73_code 18 = .ok (.return_, 1) := by decide +kernel
set_option maxRecDepth 65536 in
set_option maxHeartbeats 40000000 in
theorem rmPS (l : Launch) (Z : State) (a0 : Array Value) (hw : ∀ d ∈ tables_1, d.before a0 Z = true) (ws : List Jvm.Cond) (sb : Addr) (a1 : Addr) (tb : Addr) (tt : Addr) (kt : ClassId) (cs : List Int32) (kb : ClassId) (cap : Nat) (bs : List Int32) (zC : Int32) (h0 : Heap) (n0 : Nat) (O0 : Old Z n0 h0) (SC : Sta Z Z.heap "java/lang/String" "COMPACT_STRINGS" "Z" (.int zC)) (hzC : ¬ zC = 0) (E_sb : Exa Z h0 sb "java/lang/StringBuilder") (Fc : Fld Z h0 sb "java/lang/AbstractStringBuilder" "coder" "B" (.int (0 : Int32))) (Fv : Fld Z h0 sb "java/lang/AbstractStringBuilder" "value" "[B" (.ref tb)) (Ex : Exa Z h0 a1 "java/lang/String") (Sv : Fld Z h0 a1 "java/lang/String" "value" "[B" (.ref tt)) (Sc : Fld Z h0 a1 "java/lang/String" "coder" "B" (.int (0 : Int32))) (Vt : Arv Z h0 tt kt .byte (Int32.ofNat cs.length) (cs.map Value.int) (.int (0 : Int32))) (ge_tb : n0 ≤ tb) (Vb : Arv Z h0 tb kb .byte (Int32.ofNat cap) (bs.map Value.int) (.int (0 : Int32))) (hcap : bs.length + cs.length ≤ cap) (hc2 : cap ≤ 1000) :
    MetFree l (⟨"java/lang/AbstractStringBuilder", "putStringAt", "(ILjava/lang/String;)V"⟩ : MethodName) (head1 (Jvm.Cond.code (⟨"java/lang/AbstractStringBuilder", "putStringAt", "(ILjava/lang/String;)V"⟩ : MethodName) jdk_68_method_73_code 3 none :: ws) ({ frames := 2, cells := 0, slots := 0, locals := 50 } : Room)) (fun a U => a = #[(.ref sb), (.int (Int32.ofNat bs.length)), (.ref a1)] ∧ Z.Warmed39 U.vm ∧ U.heap = h0) (fun _ _ _ _ _ => True) (fun _ U o U' => ∃ v L, o = .returned v ∧ Q_rmPS Z tb cs kb cap bs h0 n0 v U'.heap L ∧ FrameEnd U o U' L ({ frames := 2, cells := 0, slots := 0, locals := 50 } : Room).cells ({ frames := 2, cells := 0, slots := 0, locals := 50 } : Room).slots) := by
  refine MetFree.of_bodySF (plainFor_of_name pn_AbstractStringBuilder) hisR ?_
  intro p e s m args below meth c s₁ Bd hml0 hP hK
  obtain ⟨rfl, hZ, hh⟩ := hP
  have hx := Bd.exec
  have hby := Bd.bytes
  have hml : c.maxLocals = 3 := hml0
  have hown : s.vm.findClass "java/lang/AbstractStringBuilder" = some m.cls := findClass_of_methodNamed Bd.named
  have hnm := (name_of_methodNamed Bd.named Bd.method).1
  have X0 : Stand p l e ({ frames := 2, cells := 0, slots := 0, locals := 50 } : Room) s m #[(.ref sb), (.int (Int32.ofNat bs.length)), (.ref a1)] below meth c s₁ [] 0 0 := Stand.of_body Bd
  have e0 : s₁.heap = h0 := by rw [← hh, Bd.state]; rfl
  have N0 := Fr.nil n0
  obtain ⟨S0, hS0⟩ : ∃ z, z = s₁.setTop (entryFrame m #[(.ref sb), (.int (Int32.ofNat bs.length)), (.ref a1)] 3) := ⟨_, rfl⟩
  have k0 : Rch p e below S0 s₁ (mkF m 0 #[vR sb, vI (Int32.ofNat bs.length), vR a1] []) := fun t kq => hS0 ▸ castTop (ef_17 m sb (Int32.ofNat bs.length) a1) kq
  have K0 : Keep h0 h0 [tb] := Keep.refl h0 _
  have k79 : Rch p e below S0 s₁ (mkF m 2 #[vR sb, vI (Int32.ofNat bs.length), vR a1] [(.ref a1), (.ref sb)]) := fun t h => k0 t (by
      show Steps p.tables e below (s₁.setTop (mkF m 0 #[vR sb, vI (Int32.ofNat bs.length), vR a1] [])) _
      refine XS.aloadN X0.here hx rfl (hb hby d17_0) rfl rfl ?_
      refine XS.aloadN X0.here hx rfl (hb hby d17_1) rfl rfl ?_
      exact h)
  obtain ⟨cq80, q80, q80'⟩ := E_sb.cell
  obtain ⟨_, _, ⟨T80, L80, kk80, n80⟩, -, X80, ⟨Lc80, hQ80, l80, y80, z80⟩, st80⟩ := X0.privateBack hx (y := (⟨"java/lang/AbstractStringBuilder", "inflateIfNeededFor", "(Ljava/lang/String;)V"⟩ : MethodName)) hown (mvT hZ (hw _ (gm 100 rfl))) (mvT hZ (hw _ (gm 101 rfl))) (mvT hZ (own_selU (hw _ (gm 103 rfl)) (hw _ (gm 101 rfl)) (hw _ (gm 102 rfl)) (by decide))) (Cond.privateMethod_at (mvP hZ (hw _ (gm 102 rfl)) (args := #[]))) (mvT hZ (hw _ (gm 104 rfl))) (by decide) (backOf (W := 0) (rmIN l Z a0 hw [] sb a1 zC h0 n0 O0 SC hzC Fc Ex Sc) hZ (hw _ (gm 104 rfl)) (hw _ (gm 55 rfl)) (by decide) (by decide)) (g := (mkF m 2 #[vR sb, vI (Int32.ofNat bs.length), vR a1] [(.ref a1), (.ref sb)])) rfl (by rw [hml]; rfl) (Steps.refl _) (a := sb) (by rw [e0]; exact q80) q80' (argsL := [(.ref a1)]) (rest := []) (lenOf pd_7 rfl) rfl (by show 2 * 0 + _ ≤ _; exact Nat.le_of_eq rfl) (hb hby d17_2) (fun _ _ => ⟨rfl, e0, (by decide : 0 + 0 ≤ _), (by decide : 0 + 0 ≤ _)⟩)
  dsimp only [Pt.U, Pt.locs, Pt.cells, Pt.slots] at X80 l80 y80 z80 st80 hQ80
  subst l80 y80 z80
  obtain ⟨rfl, Nq80, hh80⟩ := hQ80
  have N80 := Fr.app N0 Nq80
  have k81 : Rch p e below S0 T80 (mkF m 5 #[vR sb, vI (Int32.ofNat bs.length), vR a1] []) := fun t h => k79 t (st80.trans h)
  have k83 : Rch p e below S0 T80 (mkF m 7 #[vR sb, vI (Int32.ofNat bs.length), vR a1] [(.ref sb), (.ref a1)]) := fun t h => k81 t (by
      show Steps p.tables e below (T80.setTop (mkF m 5 #[vR sb, vI (Int32.ofNat bs.length), vR a1] [])) _
      refine XS.aloadN X80.here hx rfl (hb hby d17_5) rfl rfl ?_
      refine XS.aloadN X80.here hx rfl (hb hby d17_6) rfl rfl ?_
      exact h)
  obtain ⟨T82, X82, e82, st82⟩ := getF X80 hx hZ hown (host := "") (Or.inl (hw _ (gm 72 rfl))) Via.refl hh80 Fv (g := (mkF m 7 #[vR sb, vI (Int32.ofNat bs.length), vR a1] [(.ref sb), (.ref a1)])) rfl rfl (hb hby d17_7)
  have k84 : Rch p e below S0 T82 (mkF m 10 #[vR sb, vI (Int32.ofNat bs.length), vR a1] [(.ref tb), (.ref a1)]) := fun t h => k83 t (st82 t h)
  have k86 : Rch p e below S0 T82 (mkF m 12 #[vR sb, vI (Int32.ofNat bs.length), vR a1] [(.ref sb), (.int (Int32.ofNat bs.length)), (.ref tb), (.ref a1)]) := fun t h => k84 t (by
      show Steps p.tables e below (T82.setTop (mkF m 10 #[vR sb, vI (Int32.ofNat bs.length), vR a1] [(.ref tb), (.ref a1)])) _
      refine XS.iloadN X82.here hx rfl (hb hby d17_10) rfl ?_
      refine XS.aloadN X82.here hx rfl (hb hby d17_11) rfl rfl ?_
      exact h)
  obtain ⟨T85, X85, e85, st85⟩ := getF X82 hx hZ hown (host := "") (Or.inl (hw _ (gm 70 rfl))) Via.refl e82 Fc (g := (mkF m 12 #[vR sb, vI (Int32.ofNat bs.length), vR a1] [(.ref sb), (.int (Int32.ofNat bs.length)), (.ref tb), (.ref a1)])) rfl rfl (hb hby d17_12)
  have k87 : Rch p e below S0 T85 (mkF m 15 #[vR sb, vI (Int32.ofNat bs.length), vR a1] [(.int (0 : Int32)), (.int (Int32.ofNat bs.length)), (.ref tb), (.ref a1)]) := fun t h => k86 t (st85 t h)
  obtain ⟨cq88, kq88, q88a, q88b, q88c⟩ := isOf hZ e85 Ex
  obtain ⟨_, _, ⟨T88, L88, kk88, n88⟩, -, X88, ⟨Lc88, hQ88, l88, y88, z88⟩, st88⟩ := X85.virtualBack hx (y := (⟨"java/lang/String", "getBytes", "([BIB)V"⟩ : MethodName)) (z := (⟨"java/lang/String", "getBytes", "([BIB)V"⟩ : MethodName)) hown (mvT hZ (hw _ (gm 106 rfl))) (mvT hZ (hw _ (gm 107 rfl))) (notFace_of_selects (args := #[]) (mvT hZ (hw _ (gm 109 rfl)))) (mvT hZ (hw _ (gm 109 rfl))) (mvT hZ (hw _ (gm 108 rfl))) (by decide) (backOf (W := 0) (rmGB l Z a0 hw [] a1 tb tt kt cs kb cap bs zC h0 n0 O0 SC hzC Ex Sv Sc Vt ge_tb Vb hcap hc2) hZ (hw _ (gm 110 rfl)) (hw _ (gm 3 rfl)) (by decide) (by decide)) q88a q88c (g := (mkF m 15 #[vR sb, vI (Int32.ofNat bs.length), vR a1] [(.int (0 : Int32)), (.int (Int32.ofNat bs.length)), (.ref tb), (.ref a1)])) rfl (by rw [hml]; rfl) (Steps.refl _) (argsL := [(.ref tb), (.int (Int32.ofNat bs.length)), (.int (0 : Int32))]) (rest := []) (lenOf pd_14 rfl) rfl (by show 2 * 0 + _ ≤ _; exact Nat.le_of_eq rfl) (hb hby d17_15) (fun _ _ => ⟨rfl, e85, (by decide : 0 + 0 ≤ _), (by decide : 0 + 0 ≤ _)⟩)
  dsimp only [Pt.U, Pt.locs, Pt.cells, Pt.slots] at X88 l88 y88 z88 st88 hQ88
  subst l88 y88 z88
  obtain ⟨rfl, Nq88, K88, V88⟩ := hQ88
  have N88 := Fr.app N80 Nq88
  have k89 : Rch p e below S0 T88 (mkF m 18 #[vR sb, vI (Int32.ofNat bs.length), vR a1] []) := fun t h => k87 t (st88.trans h)
  have O90 := O0.keep K88 (allS ge_tb all0)
  have K91 := K0.trans K88 (allS (Or.inl (gm 0 rfl)) all0)
  obtain ⟨fs, hr, hrun, hended, hW, hsame⟩ := X88.leave (v := none) (fun _ => rfl)
  refine ⟨_, _, ?_, hrun, hended, _, _, rfl, ?_, ⟨_, rfl⟩, hW, hsame.mono (by decide) (by decide)⟩
  · rw [← hS0]
    refine k89 _ ?_
    show Steps p.tables e below (T88.setTop (mkF m 18 #[vR sb, vI (Int32.ofNat bs.length), vR a1] [])) _
    exact X88.returnOut hx Bd.returns (hb hby d17_18) hr
  · show Q_rmPS Z tb cs kb cap bs h0 n0 _ T88.heap _
    exact ⟨rfl, N88, K91, V88⟩
def Q_rmEC (Z : State)  (h0 : Heap) (n0 : Nat) (v : Option Value) (h : Heap) (L : List Loc) : Prop := v = none ∧ Fr n0 L ∧ h = h0
theorem ef_16 (m : MethodId) (x0 : Addr) (x1 : Int32) : entryFrame m #[(.ref x0), (.int x1)] 3 = mkF m 0 #[.val (.ref x0), .val (.int x1), .unset] [] := by first | (simp [entryFrame, mkF, argsToLocals, Value.category]; done) | rfl
theorem d16_0 : decode jdk_68_method_9_code 0 = .ok (.aload_n 0, 1) := by decide +kernel
theorem d16_1 : decode jdk_68_method_9_code 1 = .ok (.getfield 15, 3) := by decide +kernel
theorem d16_4 : decode jdk_68_method_9_code 4 = .ok (.arraylength, 1) := by decide +kernel
theorem d16_5 : decode jdk_68_method_9_code 5 = .ok (.aload_n 0, 1) := by decide +kernel
theorem d16_6 : decode jdk_68_method_9_code 6 = .ok (.getfield 22, 3) := by decide +kernel
theorem d16_9 : decode jdk_68_method_9_code 9 = .ok (.ishr, 1) := by decide +kernel
theorem d16_10 : decode jdk_68_method_9_code 10 = .ok (.istore_n 2, 1) := by decide +kernel
theorem d16_11 : decode jdk_68_method_9_code 11 = .ok (.iload_n 1, 1) := by decide +kernel
theorem d16_12 : decode jdk_68_method_9_code 12 = .ok (.iload_n 2, 1) := by decide +kernel
theorem d16_13 : decode jdk_68_method_9_code 13 = .ok (.isub, 1) := by decide +kernel
theorem d16_14 : decode jdk_68_method_9_code 14 = .ok (.ifCond .le 24, 3) := by decide +kernel
theorem d16_38 : decode jdk_68_method_9_code 38 = .ok (.return_, 1) := by decide +kernel
set_option maxRecDepth 65536 in
set_option maxHeartbeats 40000000 in
theorem rmEC (l : Launch) (Z : State) (a0 : Array Value) (hw : ∀ d ∈ tables_1, d.before a0 Z = true) (ws : List Jvm.Cond) (sb : Addr) (nn : Nat) (tb : Addr) (kb : ClassId) (cap : Nat) (bs : List Int32) (h0 : Heap) (n0 : Nat) (O0 : Old Z n0 h0) (Fc : Fld Z h0 sb "java/lang/AbstractStringBuilder" "coder" "B" (.int (0 : Int32))) (Fv : Fld Z h0 sb "java/lang/AbstractStringBuilder" "value" "[B" (.ref tb)) (Vb : Arv Z h0 tb kb .byte (Int32.ofNat cap) (bs.map Value.int) (.int (0 : Int32))) (hnn : nn ≤ cap) (hc2 : cap ≤ 1000) :
    MetFree l (⟨"java/lang/AbstractStringBuilder", "ensureCapacityInternal", "(I)V"⟩ : MethodName) (head1 (Jvm.Cond.code (⟨"java/lang/AbstractStringBuilder", "ensureCapacityInternal", "(I)V"⟩ : MethodName) jdk_68_method_9_code 3 none :: ws) ({ frames := 0, cells := 0, slots := 0, locals := 0 } : Room)) (fun a U => a = #[(.ref sb), (.int (Int32.ofNat nn))] ∧ Z.Warmed39 U.vm ∧ U.heap = h0) (fun _ _ _ _ _ => True) (fun _ U o U' => ∃ v L, o = .returned v ∧ Q_rmEC Z  h0 n0 v U'.heap L ∧ FrameEnd U o U' L ({ frames := 0, cells := 0, slots := 0, locals := 0 } : Room).cells ({ frames := 0, cells := 0, slots := 0, locals := 0 } : Room).slots) := by
  refine MetFree.of_bodySF (plainFor_of_name pn_AbstractStringBuilder) hisR ?_
  intro p e s m args below meth c s₁ Bd hml0 hP hK
  obtain ⟨rfl, hZ, hh⟩ := hP
  have hx := Bd.exec
  have hby := Bd.bytes
  have hml : c.maxLocals = 3 := hml0
  have hown : s.vm.findClass "java/lang/AbstractStringBuilder" = some m.cls := findClass_of_methodNamed Bd.named
  have hnm := (name_of_methodNamed Bd.named Bd.method).1
  have X0 : Stand p l e ({ frames := 0, cells := 0, slots := 0, locals := 0 } : Room) s m #[(.ref sb), (.int (Int32.ofNat nn))] below meth c s₁ [] 0 0 := Stand.of_body Bd
  have e0 : s₁.heap = h0 := by rw [← hh, Bd.state]; rfl
  have N0 := Fr.nil n0
  obtain ⟨S0, hS0⟩ : ∃ z, z = s₁.setTop (entryFrame m #[(.ref sb), (.int (Int32.ofNat nn))] 3) := ⟨_, rfl⟩
  have k0 : Rch p e below S0 s₁ (mkF m 0 #[vR sb, vI (Int32.ofNat nn), vU] []) := fun t kq => hS0 ▸ castTop (ef_16 m sb (Int32.ofNat nn)) kq
  have k93 : Rch p e below S0 s₁ (mkF m 1 #[vR sb, vI (Int32.ofNat nn), vU] [(.ref sb)]) := fun t h => k0 t (by
      show Steps p.tables e below (s₁.setTop (mkF m 0 #[vR sb, vI (Int32.ofNat nn), vU] [])) _
      refine XS.aloadN X0.here hx rfl (hb hby d16_0) rfl rfl ?_
      exact h)
  obtain ⟨T92, X92, e92, st92⟩ := getF X0 hx hZ hown (host := "") (Or.inl (hw _ (gm 72 rfl))) Via.refl e0 Fv (g := (mkF m 1 #[vR sb, vI (Int32.ofNat nn), vU] [(.ref sb)])) rfl rfl (hb hby d16_1)
  have k94 : Rch p e below S0 T92 (mkF m 4 #[vR sb, vI (Int32.ofNat nn), vU] [(.ref tb)]) := fun t h => k93 t (st92 t h)
  obtain ⟨cl95, Ar95, q95, Sz95, Ng95, Hs95, G95⟩ := id Vb
  have k97 : Rch p e below S0 T92 (mkF m 6 #[vR sb, vI (Int32.ofNat nn), vU] [(.ref sb), (.int (Int32.ofNat cap))]) := fun t h => k94 t (by
      show Steps p.tables e below (T92.setTop (mkF m 4 #[vR sb, vI (Int32.ofNat nn), vU] [(.ref tb)])) _
      refine X92.arraylength hx (by rw [e92]; exact Ar95.1) (State.isArrayOf_alike hZ.alike Ar95.2.1) (g := (mkF m 4 #[vR sb, vI (Int32.ofNat nn), vU] [(.ref tb)])) rfl rfl (hb hby d16_4) _ ?_
      rw [len_of Sz95 Ng95]
      refine XS.aloadN X92.here hx rfl (hb hby d16_5) rfl rfl ?_
      exact h)
  obtain ⟨T96, X96, e96, st96⟩ := getF X92 hx hZ hown (host := "") (Or.inl (hw _ (gm 70 rfl))) Via.refl e92 Fc (g := (mkF m 6 #[vR sb, vI (Int32.ofNat nn), vU] [(.ref sb), (.int (Int32.ofNat cap))])) rfl rfl (hb hby d16_6)
  have k98 : Rch p e below S0 T96 (mkF m 9 #[vR sb, vI (Int32.ofNat nn), vU] [(.int (0 : Int32)), (.int (Int32.ofNat cap))]) := fun t h => k97 t (st96 t h)
  have k99 : Rch p e below S0 T96 (mkF m 38 #[vR sb, vI (Int32.ofNat nn), vI (Int32.ofNat cap)] []) := fun t h => k98 t (by
      show Steps p.tables e below (T96.setTop (mkF m 9 #[vR sb, vI (Int32.ofNat nn), vU] [(.int (0 : Int32)), (.int (Int32.ofNat cap))])) _
      refine XS.ishr X96.here hx rfl (hb hby d16_9) rfl ?_
      rw [own_shr0 _]
      refine XS.istoreN X96.here hx rfl (hb hby d16_10) rfl (l' := #[vR sb, vI (Int32.ofNat nn), vI (Int32.ofNat cap)]) rfl ?_
      refine XS.iloadN X96.here hx rfl (hb hby d16_11) rfl ?_
      refine XS.iloadN X96.here hx rfl (hb hby d16_12) rfl ?_
      refine XS.isub X96.here hx rfl (hb hby d16_13) rfl ?_
      refine XS.ifYes X96.here hx rfl (pc0 := 14) (pc' := 38) rfl (hb hby d16_14) rfl ((if0 _ _).trans (flt ((own_nogrow hnn hc2) : ¬ ((0 : Int32) < ((Int32.ofNat nn) - (Int32.ofNat cap))))).2.2.2) (by decide) (by decide) ?_
      exact h)
  obtain ⟨fs, hr, hrun, hended, hW, hsame⟩ := X96.leave (v := none) (fun _ => rfl)
  refine ⟨_, _, ?_, hrun, hended, _, _, rfl, ?_, ⟨_, rfl⟩, hW, hsame.mono (by decide) (by decide)⟩
  · rw [← hS0]
    refine k99 _ ?_
    show Steps p.tables e below (T96.setTop (mkF m 38 #[vR sb, vI (Int32.ofNat nn), vI (Int32.ofNat cap)] [])) _
    exact X96.returnOut hx Bd.returns (hb hby d16_38) hr
  · show Q_rmEC Z  h0 n0 _ T96.heap _
    rw [e96]
    exact ⟨rfl, N0, rfl⟩
def Q_rmAA (Z : State) (sb : Addr) (tb : Addr) (cs : List Int32) (kb : ClassId) (cap : Nat) (bs : List Int32) (h0 : Heap) (n0 : Nat) (v : Option Value) (h : Heap) (L : List Loc) : Prop := v = some (.ref sb) ∧ Fr n0 L ∧ Keep h0 h [sb, tb] ∧ Fld Z h sb "java/lang/AbstractStringBuilder" "coder" "B" (.int (0 : Int32)) ∧ Fld Z h sb "java/lang/AbstractStringBuilder" "value" "[B" (.ref tb) ∧ Fld Z h sb "java/lang/AbstractStringBuilder" "count" "I" (.int (Int32.ofNat (bs ++ cs).length)) ∧ Arv Z h tb kb .byte (Int32.ofNat cap) ((bs ++ cs).map Value.int) (.int (0 : Int32))
theorem ef_15 (m : MethodId) (x0 : Addr) (x1 : Addr) : entryFrame m #[(.ref x0), (.ref x1)] 3 = mkF m 0 #[.val (.ref x0), .val (.ref x1), .unset] [] := by first | (simp [entryFrame, mkF, argsToLocals, Value.category]; done) | rfl
theorem d15_0 : decode jdk_68_method_22_code 0 = .ok (.aload_n 1, 1) := by decide +kernel
theorem d15_1 : decode jdk_68_method_22_code 1 = .ok (.ifnonnull 8, 3) := by decide +kernel
theorem d15_9 : decode jdk_68_method_22_code 9 = .ok (.aload_n 1, 1) := by decide +kernel
theorem pd_8 : parseMethodDescriptor "()I" = some ⟨[], some .int⟩ := by decide +kernel
theorem d15_10 : decode jdk_68_method_22_code 10 = .ok (.invokevirtual 32, 3) := by decide +kernel
theorem d15_13 : decode jdk_68_method_22_code 13 = .ok (.istore_n 2, 1) := by decide +kernel
theorem d15_14 : decode jdk_68_method_22_code 14 = .ok (.aload_n 0, 1) := by decide +kernel
theorem d15_15 : decode jdk_68_method_22_code 15 = .ok (.aload_n 0, 1) := by decide +kernel
theorem d15_16 : decode jdk_68_method_22_code 16 = .ok (.getfield 79, 3) := by decide +kernel
theorem d15_19 : decode jdk_68_method_22_code 19 = .ok (.iload_n 2, 1) := by decide +kernel
theorem d15_20 : decode jdk_68_method_22_code 20 = .ok (.iadd, 1) := by decide +kernel
theorem pd_12 : parseMethodDescriptor "(I)V" = some ⟨[.int], none⟩ := by decide +kernel
theorem d15_21 : decode jdk_68_method_22_code 21 = .ok (.invokevirtual 100, 3) := by decide +kernel
theorem d15_24 : decode jdk_68_method_22_code 24 = .ok (.aload_n 0, 1) := by decide +kernel
theorem d15_25 : decode jdk_68_method_22_code 25 = .ok (.aload_n 0, 1) := by decide +kernel
theorem d15_26 : decode jdk_68_method_22_code 26 = .ok (.getfield 79, 3) := by decide +kernel
theorem d15_29 : decode jdk_68_method_22_code 29 = .ok (.aload_n 1, 1) := by decide +kernel
theorem pd_13 : parseMethodDescriptor "(ILjava/lang/String;)V" = some ⟨[.int, (.object "java/lang/String")], none⟩ := by decide +kernel
theorem d15_30 : decode jdk_68_method_22_code 30 = .ok (.invokevirtual 208, 3) := by decide +kernel
theorem d15_33 : decode jdk_68_method_22_code 33 = .ok (.aload_n 0, 1) := by decide +kernel
theorem d15_34 : decode jdk_68_method_22_code 34 = .ok (.dup, 1) := by decide +kernel
theorem d15_35 : decode jdk_68_method_22_code 35 = .ok (.getfield 79, 3) := by decide +kernel
theorem d15_38 : decode jdk_68_method_22_code 38 = .ok (.iload_n 2, 1) := by decide +kernel
theorem d15_39 : decode jdk_68_method_22_code 39 = .ok (.iadd, 1) := by decide +kernel
theorem d15_40 : decode jdk_68_method_22_code 40 = .ok (.putfield 79, 3) := by decide +kernel
theorem d15_43 : decode jdk_68_method_22_code 43 = .ok (.aload_n 0, 1) := by decide +kernel
theorem d15_44 : decode jdk_68_method_22_code 44 = .ok (.areturn, 1) := by decide +kernel
set_option maxRecDepth 65536 in
set_option maxHeartbeats 40000000 in
theorem rmAA (l : Launch) (Z : State) (a0 : Array Value) (hw : ∀ d ∈ tables_1, d.before a0 Z = true) (ws : List Jvm.Cond) (sb : Addr) (a1 : Addr) (tb : Addr) (tt : Addr) (kt : ClassId) (cs : List Int32) (kb : ClassId) (cap : Nat) (bs : List Int32) (zC : Int32) (h0 : Heap) (n0 : Nat) (O0 : Old Z n0 h0) (SC : Sta Z Z.heap "java/lang/String" "COMPACT_STRINGS" "Z" (.int zC)) (hzC : ¬ zC = 0) (ge_sb : n0 ≤ sb) (ge_tb : n0 ≤ tb) (ne_sb_tb : sb ≠ tb) (E_sb : Exa Z h0 sb "java/lang/StringBuilder") (Fc : Fld Z h0 sb "java/lang/AbstractStringBuilder" "coder" "B" (.int (0 : Int32))) (Fv : Fld Z h0 sb "java/lang/AbstractStringBuilder" "value" "[B" (.ref tb)) (Fn : Fld Z h0 sb "java/lang/AbstractStringBuilder" "count" "I" (.int (Int32.ofNat bs.length))) (Ex : Exa Z h0 a1 "java/lang/String") (Sv : Fld Z h0 a1 "java/lang/String" "value" "[B" (.ref tt)) (Sc : Fld Z h0 a1 "java/lang/String" "coder" "B" (.int (0 : Int32))) (Vt : Arv Z h0 tt kt .byte (Int32.ofNat cs.length) (cs.map Value.int) (.int (0 : Int32))) (Vb : Arv Z h0 tb kb .byte (Int32.ofNat cap) (bs.map Value.int) (.int (0 : Int32))) (hcap : bs.length + cs.length ≤ cap) (hc2 : cap ≤ 1000) :
    MetFree l (⟨"java/lang/AbstractStringBuilder", "append", "(Ljava/lang/String;)Ljava/lang/AbstractStringBuilder;"⟩ : MethodName) (head1 (Jvm.Cond.code (⟨"java/lang/AbstractStringBuilder", "append", "(Ljava/lang/String;)Ljava/lang/AbstractStringBuilder;"⟩ : MethodName) jdk_68_method_22_code 3 (some (.object "java/lang/AbstractStringBuilder")) :: ws) ({ frames := 3, cells := 0, slots := 0, locals := 66 } : Room)) (fun a U => a = #[(.ref sb), (.ref a1)] ∧ Z.Warmed39 U.vm ∧ U.heap = h0) (fun _ _ _ _ _ => True) (fun _ U o U' => ∃ v L, o = .returned v ∧ Q_rmAA Z sb tb cs kb cap bs h0 n0 v U'.heap L ∧ FrameEnd U o U' L ({ frames := 3, cells := 0, slots := 0, locals := 66 } : Room).cells ({ frames := 3, cells := 0, slots := 0, locals := 66 } : Room).slots) := by
  refine MetFree.of_bodySF (plainFor_of_name pn_AbstractStringBuilder) hisR ?_
  intro p e s m args below meth c s₁ Bd hml0 hP hK
  obtain ⟨rfl, hZ, hh⟩ := hP
  have hx := Bd.exec
  have hby := Bd.bytes
  have hml : c.maxLocals = 3 := hml0
  have hown : s.vm.findClass "java/lang/AbstractStringBuilder" = some m.cls := findClass_of_methodNamed Bd.named
  have hnm := (name_of_methodNamed Bd.named Bd.method).1
  have X0 : Stand p l e ({ frames := 3, cells := 0, slots := 0, locals := 66 } : Room) s m #[(.ref sb), (.ref a1)] below meth c s₁ [] 0 0 := Stand.of_body Bd
  have e0 : s₁.heap = h0 := by rw [← hh, Bd.state]; rfl
  have N0 := Fr.nil n0
  obtain ⟨S0, hS0⟩ : ∃ z, z = s₁.setTop (entryFrame m #[(.ref sb), (.ref a1)] 3) := ⟨_, rfl⟩
  have k0 : Rch p e below S0 s₁ (mkF m 0 #[vR sb, vR a1, vU] []) := fun t kq => hS0 ▸ castTop (ef_15 m sb a1) kq
  have K0 : Keep h0 h0 [sb, tb] := Keep.refl h0 _
  have k100 : Rch p e below S0 s₁ (mkF m 10 #[vR sb, vR a1, vU] [(.ref a1)]) := fun t h => k0 t (by
      show Steps p.tables e below (s₁.setTop (mkF m 0 #[vR sb, vR a1, vU] [])) _
      refine XS.aloadN X0.here hx rfl (hb hby d15_0) rfl rfl ?_
      refine XS.ifnonnullYes X0.here hx rfl (pc0 := 1) (pc' := 9) rfl (hb hby d15_1) rfl (by decide) (by decide) ?_
      refine XS.aloadN X0.here hx rfl (hb hby d15_9) rfl rfl ?_
      exact h)
  obtain ⟨cq101, kq101, q101a, q101b, q101c⟩ := isOf hZ e0 Ex
  obtain ⟨_, _, ⟨T101, L101, kk101, n101⟩, -, X101, ⟨Lc101, hQ101, l101, y101, z101⟩, st101⟩ := X0.virtualBack hx (y := (⟨"java/lang/String", "length", "()I"⟩ : MethodName)) (z := (⟨"java/lang/String", "length", "()I"⟩ : MethodName)) hown (mvT hZ (hw _ (gm 58 rfl))) (mvT hZ (hw _ (gm 59 rfl))) (notFace_of_selects (args := #[]) (mvT hZ (hw _ (gm 61 rfl)))) (mvT hZ (hw _ (gm 61 rfl))) (mvT hZ (hw _ (gm 60 rfl))) (by decide) (backOf (W := 0) (rmL0 l Z a0 hw [] a1 tt kt cs zC h0 n0 O0 SC hzC Ex Sv Sc Vt) hZ (hw _ (gm 62 rfl)) (hw _ (gm 3 rfl)) (by decide) (by decide)) q101a q101c (g := (mkF m 10 #[vR sb, vR a1, vU] [(.ref a1)])) rfl (by rw [hml]; rfl) (Steps.refl _) (argsL := []) (rest := []) (lenOf pd_8 rfl) rfl (by show 2 * 0 + _ ≤ _; exact Nat.le_of_eq rfl) (hb hby d15_10) (fun _ _ => ⟨rfl, e0, (by decide : 0 + 0 ≤ _), (by decide : 0 + 0 ≤ _)⟩)
  dsimp only [Pt.U, Pt.locs, Pt.cells, Pt.slots] at X101 l101 y101 z101 st101 hQ101
  subst l101 y101 z101
  obtain ⟨rfl, Nq101, hh101⟩ := hQ101
  have N101 := Fr.app N0 Nq101
  have k102 : Rch p e below S0 T101 (mkF m 13 #[vR sb, vR a1, vU] [(.int (Int32.ofNat cs.length))]) := fun t h => k100 t (st101.trans h)
  have k104 : Rch p e below S0 T101 (mkF m 16 #[vR sb, vR a1, vI (Int32.ofNat cs.length)] [(.ref sb), (.ref sb)]) := fun t h => k102 t (by
      show Steps p.tables e below (T101.setTop (mkF m 13 #[vR sb, vR a1, vU] [(.int (Int32.ofNat cs.length))])) _
      refine XS.istoreN X101.here hx rfl (hb hby d15_13) rfl (l' := #[vR sb, vR a1, vI (Int32.ofNat cs.length)]) rfl ?_
      refine XS.aloadN X101.here hx rfl (hb hby d15_14) rfl rfl ?_
      refine XS.aloadN X101.here hx rfl (hb hby d15_15) rfl rfl ?_
      exact h)
  obtain ⟨T103, X103, e103, st103⟩ := getF X101 hx hZ hown (host := "") (Or.inl (hw _ (gm 88 rfl))) Via.refl hh101 Fn (g := (mkF m 16 #[vR sb, vR a1, vI (Int32.ofNat cs.length)] [(.ref sb), (.ref sb)])) rfl rfl (hb hby d15_16)
  have k105 : Rch p e below S0 T103 (mkF m 19 #[vR sb, vR a1, vI (Int32.ofNat cs.length)] [(.int (Int32.ofNat bs.length)), (.ref sb)]) := fun t h => k104 t (st103 t h)
  have k106 : Rch p e below S0 T103 (mkF m 21 #[vR sb, vR a1, vI (Int32.ofNat cs.length)] [(.int (Int32.ofNat (bs ++ cs).length)), (.ref sb)]) := fun t h => k105 t (by
      show Steps p.tables e below (T103.setTop (mkF m 19 #[vR sb, vR a1, vI (Int32.ofNat cs.length)] [(.int (Int32.ofNat bs.length)), (.ref sb)])) _
      refine XS.iloadN X103.here hx rfl (hb hby d15_19) rfl ?_
      show Steps p.tables e below (T103.setTop (mkF m 20 #[vR sb, vR a1, vI (Int32.ofNat cs.length)] [(.int (Int32.ofNat cs.length)), (.int (Int32.ofNat bs.length)), (.ref sb)])) _
      refine XS.iadd X103.here hx rfl (hb hby d15_20) rfl ?_
      rw [own_addl bs cs (by omega)]
      exact h)
  obtain ⟨cq107, q107, q107'⟩ := E_sb.cell
  obtain ⟨_, _, ⟨T107, L107, kk107, n107⟩, -, X107, ⟨Lc107, hQ107, l107, y107, z107⟩, st107⟩ := X103.privateBack hx (y := (⟨"java/lang/AbstractStringBuilder", "ensureCapacityInternal", "(I)V"⟩ : MethodName)) hown (mvT hZ (hw _ (gm 90 rfl))) (mvT hZ (hw _ (gm 91 rfl))) (mvT hZ (own_selU (hw _ (gm 93 rfl)) (hw _ (gm 91 rfl)) (hw _ (gm 92 rfl)) (by decide))) (Cond.privateMethod_at (mvP hZ (hw _ (gm 92 rfl)) (args := #[]))) (mvT hZ (hw _ (gm 94 rfl))) (by decide) (backOf (W := 0) (rmEC l Z a0 hw [] sb (bs ++ cs).length tb kb cap bs h0 n0 O0 Fc Fv Vb (by rw [List.length_append]; exact hcap) hc2) hZ (hw _ (gm 94 rfl)) (hw _ (gm 55 rfl)) (by decide) (by decide)) (g := (mkF m 21 #[vR sb, vR a1, vI (Int32.ofNat cs.length)] [(.int (Int32.ofNat (bs ++ cs).length)), (.ref sb)])) rfl (by rw [hml]; rfl) (Steps.refl _) (a := sb) (by rw [e103]; exact q107) q107' (argsL := [(.int (Int32.ofNat (bs ++ cs).length))]) (rest := []) (lenOf pd_12 rfl) rfl (by show 2 * 0 + _ ≤ _; exact Nat.le_of_eq rfl) (hb hby d15_21) (fun _ _ => ⟨rfl, e103, (by decide : 0 + 0 ≤ _), (by decide : 0 + 0 ≤ _)⟩)
  dsimp only [Pt.U, Pt.locs, Pt.cells, Pt.slots] at X107 l107 y107 z107 st107 hQ107
  subst l107 y107 z107
  obtain ⟨rfl, Nq107, hh107⟩ := hQ107
  have N107 := Fr.app N101 Nq107
  have k108 : Rch p e below S0 T107 (mkF m 24 #[vR sb, vR a1, vI (Int32.ofNat cs.length)] []) := fun t h => k106 t (st107.trans h)
  have k110 : Rch p e below S0 T107 (mkF m 26 #[vR sb, vR a1, vI (Int32.ofNat cs.length)] [(.ref sb), (.ref sb)]) := fun t h => k108 t (by
      show Steps p.tables e below (T107.setTop (mkF m 24 #[vR sb, vR a1, vI (Int32.ofNat cs.length)] [])) _
      refine XS.aloadN X107.here hx rfl (hb hby d15_24) rfl rfl ?_
      refine XS.aloadN X107.here hx rfl (hb hby d15_25) rfl rfl ?_
      exact h)
  obtain ⟨T109, X109, e109, st109⟩ := getF X107 hx hZ hown (host := "") (Or.inl (hw _ (gm 88 rfl))) Via.refl hh107 Fn (g := (mkF m 26 #[vR sb, vR a1, vI (Int32.ofNat cs.length)] [(.ref sb), (.ref sb)])) rfl rfl (hb hby d15_26)
  have k111 : Rch p e below S0 T109 (mkF m 29 #[vR sb, vR a1, vI (Int32.ofNat cs.length)] [(.int (Int32.ofNat bs.length)), (.ref sb)]) := fun t h => k110 t (st109 t h)
  have k112 : Rch p e below S0 T109 (mkF m 30 #[vR sb, vR a1, vI (Int32.ofNat cs.length)] [(.ref a1), (.int (Int32.ofNat bs.length)), (.ref sb)]) := fun t h => k111 t (by
      show Steps p.tables e below (T109.setTop (mkF m 29 #[vR sb, vR a1, vI (Int32.ofNat cs.length)] [(.int (Int32.ofNat bs.length)), (.ref sb)])) _
      refine XS.aloadN X109.here hx rfl (hb hby d15_29) rfl rfl ?_
      exact h)
  obtain ⟨cq113, q113, q113'⟩ := E_sb.cell
  obtain ⟨_, _, ⟨T113, L113, kk113, n113⟩, -, X113, ⟨Lc113, hQ113, l113, y113, z113⟩, st113⟩ := X109.privateBack hx (y := (⟨"java/lang/AbstractStringBuilder", "putStringAt", "(ILjava/lang/String;)V"⟩ : MethodName)) hown (mvT hZ (hw _ (gm 95 rfl))) (mvT hZ (hw _ (gm 96 rfl))) (mvT hZ (own_selU (hw _ (gm 98 rfl)) (hw _ (gm 96 rfl)) (hw _ (gm 97 rfl)) (by decide))) (Cond.privateMethod_at (mvP hZ (hw _ (gm 97 rfl)) (args := #[]))) (mvT hZ (hw _ (gm 99 rfl))) (by decide) (backOf (W := 0) (rmPS l Z a0 hw [] sb a1 tb tt kt cs kb cap bs zC h0 n0 O0 SC hzC E_sb Fc Fv Ex Sv Sc Vt ge_tb Vb hcap hc2) hZ (hw _ (gm 99 rfl)) (hw _ (gm 55 rfl)) (by decide) (by decide)) (g := (mkF m 30 #[vR sb, vR a1, vI (Int32.ofNat cs.length)] [(.ref a1), (.int (Int32.ofNat bs.length)), (.ref sb)])) rfl (by rw [hml]; rfl) (Steps.refl _) (a := sb) (by rw [e109]; exact q113) q113' (argsL := [(.int (Int32.ofNat bs.length)), (.ref a1)]) (rest := []) (lenOf pd_13 rfl) rfl (by show 2 * 0 + _ ≤ _; exact Nat.le_of_eq rfl) (hb hby d15_30) (fun _ _ => ⟨rfl, e109, (by decide : 0 + 0 ≤ _), (by decide : 0 + 0 ≤ _)⟩)
  dsimp only [Pt.U, Pt.locs, Pt.cells, Pt.slots] at X113 l113 y113 z113 st113 hQ113
  subst l113 y113 z113
  obtain ⟨rfl, Nq113, K113, V113⟩ := hQ113
  have N113 := Fr.app N107 Nq113
  have k114 : Rch p e below S0 T113 (mkF m 33 #[vR sb, vR a1, vI (Int32.ofNat cs.length)] []) := fun t h => k112 t (st113.trans h)
  have O115 := O0.keep K113 (allS ge_tb all0)
  have K116 := K0.trans K113 (allS (Or.inl (gm 1 rfl)) all0)
  replace E_sb := E_sb.keep K113
  replace Fc := Fc.keep K113 (ninS ne_sb_tb nin0)
  replace Fv := Fv.keep K113 (ninS ne_sb_tb nin0)
  replace Fn := Fn.keep K113 (ninS ne_sb_tb nin0)
  have k118 : Rch p e below S0 T113 (mkF m 35 #[vR sb, vR a1, vI (Int32.ofNat cs.length)] [(.ref sb), (.ref sb)]) := fun t h => k114 t (by
      show Steps p.tables e below (T113.setTop (mkF m 33 #[vR sb, vR a1, vI (Int32.ofNat cs.length)] [])) _
      refine XS.aloadN X113.here hx rfl (hb hby d15_33) rfl rfl ?_
      refine XS.dup X113.here hx rfl (hb hby d15_34) rfl rfl ?_
      exact h)
  obtain ⟨T117, X117, e117, st117⟩ := getF X113 hx hZ hown (host := "") (Or.inl (hw _ (gm 88 rfl))) Via.refl rfl Fn (g := (mkF m 35 #[vR sb, vR a1, vI (Int32.ofNat cs.length)] [(.ref sb), (.ref sb)])) rfl rfl (hb hby d15_35)
  have k119 : Rch p e below S0 T117 (mkF m 38 #[vR sb, vR a1, vI (Int32.ofNat cs.length)] [(.int (Int32.ofNat bs.length)), (.ref sb)]) := fun t h => k118 t (st117 t h)
  have k121 : Rch p e below S0 T117 (mkF m 40 #[vR sb, vR a1, vI (Int32.ofNat cs.length)] [(.int (Int32.ofNat (bs ++ cs).length)), (.ref sb)]) := fun t h => k119 t (by
      show Steps p.tables e below (T117.setTop (mkF m 38 #[vR sb, vR a1, vI (Int32.ofNat cs.length)] [(.int (Int32.ofNat bs.length)), (.ref sb)])) _
      refine XS.iloadN X117.here hx rfl (hb hby d15_38) rfl ?_
      show Steps p.tables e below (T117.setTop (mkF m 39 #[vR sb, vR a1, vI (Int32.ofNat cs.length)] [(.int (Int32.ofNat cs.length)), (.int (Int32.ofNat bs.length)), (.ref sb)])) _
      refine XS.iadd X117.here hx rfl (hb hby d15_39) rfl ?_
      rw [own_addl bs cs (by omega)]
      exact h)
  obtain ⟨T120, h120, X120, e120, W120, st120⟩ := putF X117 hx hZ hown (host := "") (Or.inl (hw _ (gm 88 rfl))) Via.refl e117 Fn E_sb (Or.inl (hw _ (gm 89 rfl))) (hw _ (gm 45 rfl)) (ty := .int) (by decide) rfl rfl (g := (mkF m 40 #[vR sb, vR a1, vI (Int32.ofNat cs.length)] [(.int (Int32.ofNat (bs ++ cs).length)), (.ref sb)])) rfl rfl (hb hby d15_40)
  have k122 : Rch p e below S0 T120 (mkF m 43 #[vR sb, vR a1, vI (Int32.ofNat cs.length)] []) := fun t h => k121 t (st120 t h)
  have N120 := Fr.snoc X120 N113 ge_sb
  replace Fn := Fn.same W120
  have O123 := O115.wr W120 ge_sb
  have K124 := K116.wr W120 (Or.inl (gm 0 rfl))
  replace E_sb := E_sb.wr W120
  replace Fc := Fc.other W120 (Or.inr (slot_ne (Or.inl (hw _ (gm 71 rfl))) (Or.inl (hw _ (gm 89 rfl))) (by decide) (t := .byte) (t' := .int) (by decide) (by decide)))
  replace Fv := Fv.other W120 (Or.inr (slot_ne (Or.inl (hw _ (gm 73 rfl))) (Or.inl (hw _ (gm 89 rfl))) (by decide) (t := (.array .byte)) (t' := .int) (by decide) (by decide)))
  replace V113 := V113.other W120 (Ne.symm ne_sb_tb)
  have k125 : Rch p e below S0 T120 (mkF m 44 #[vR sb, vR a1, vI (Int32.ofNat cs.length)] [(.ref sb)]) := fun t h => k122 t (by
      show Steps p.tables e below (T120.setTop (mkF m 43 #[vR sb, vR a1, vI (Int32.ofNat cs.length)] [])) _
      refine XS.aloadN X120.here hx rfl (hb hby d15_43) rfl rfl ?_
      exact h)
  obtain ⟨fs, hr, hrun, hended, hW, hsame⟩ := X120.leave (v := (some (.ref sb))) (fun h => by rw [Bd.returns] at h; cases h)
  refine ⟨_, _, ?_, hrun, hended, _, _, rfl, ?_, ⟨_, rfl⟩, hW, hsame.mono (by decide) (by decide)⟩
  · rw [← hS0]
    refine k125 _ ?_
    show Steps p.tables e below (T120.setTop (mkF m 44 #[vR sb, vR a1, vI (Int32.ofNat cs.length)] [(.ref sb)])) _
    jvm_step X120.here [X120.here.top, hx, (hb hby d15_44), X120.method', Bd.returns, Value.isRef, FieldType.isReference]
    first | (intro acts; rw [hr _ acts rfl rfl rfl]) | rw [hr _ _ rfl rfl rfl]
    exact Steps.refl _
  · show Q_rmAA Z sb tb cs kb cap bs h0 n0 _ T120.heap _
    rw [e120]
    exact ⟨rfl, N120, K124, Fc, Fv, Fn, V113⟩
def Q_rmAS (Z : State) (sb : Addr) (tb : Addr) (cs : List Int32) (kb : ClassId) (cap : Nat) (bs : List Int32) (h0 : Heap) (n0 : Nat) (v : Option Value) (h : Heap) (L : List Loc) : Prop := v = some (.ref sb) ∧ Fr n0 L ∧ Keep h0 h [sb, tb] ∧ Fld Z h sb "java/lang/AbstractStringBuilder" "coder" "B" (.int (0 : Int32)) ∧ Fld Z h sb "java/lang/AbstractStringBuilder" "value" "[B" (.ref tb) ∧ Fld Z h sb "java/lang/AbstractStringBuilder" "count" "I" (.int (Int32.ofNat (bs ++ cs).length)) ∧ Arv Z h tb kb .byte (Int32.ofNat cap) ((bs ++ cs).map Value.int) (.int (0 : Int32))
theorem ef_14 (m : MethodId) (x0 : Addr) (x1 : Addr) : entryFrame m #[(.ref x0), (.ref x1)] 2 = mkF m 0 #[.val (.ref x0), .val (.ref x1)] [] := by first | (simp [entryFrame, mkF, argsToLocals, Value.category]; done) | rfl
theorem pn_StringBuilder : plainName "java/lang/StringBuilder" = true := by first | (simp [plainName, overriddenIn]; done) | decide +kernel
theorem d14_0 : decode jdk_67_method_7_code 0 = .ok (.aload_n 0, 1) := by decide +kernel
theorem d14_1 : decode jdk_67_method_7_code 1 = .ok (.aload_n 1, 1) := by decide +kernel
theorem pd_10 : parseMethodDescriptor "(Ljava/lang/String;)Ljava/lang/AbstractStringBuilder;" = some ⟨[(.object "java/lang/String")], some (.object "java/lang/AbstractStringBuilder")⟩ := by decide +kernel
theorem d14_2 : decode jdk_67_method_7_code 2 = .ok (.invokespecial 29, 3) := by decide +kernel
theorem d14_5 : decode jdk_67_method_7_code 5 = .ok (.pop, 1) := by decide +kernel
theorem d14_6 : decode jdk_67_method_7_code 6 = .ok (.aload_n 0, 1) := by decide +kernel
theorem d14_7 : decode jdk_67_method_7_code 7 = .ok (.areturn, 1) := by decide +kernel
set_option maxRecDepth 65536 in
set_option maxHeartbeats 40000000 in
theorem rmAS (l : Launch) (Z : State) (a0 : Array Value) (hw : ∀ d ∈ tables_1, d.before a0 Z = true) (ws : List Jvm.Cond) (sb : Addr) (a1 : Addr) (tb : Addr) (tt : Addr) (kt : ClassId) (cs : List Int32) (kb : ClassId) (cap : Nat) (bs : List Int32) (zC : Int32) (h0 : Heap) (n0 : Nat) (O0 : Old Z n0 h0) (SC : Sta Z Z.heap "java/lang/String" "COMPACT_STRINGS" "Z" (.int zC)) (hzC : ¬ zC = 0) (ge_sb : n0 ≤ sb) (ge_tb : n0 ≤ tb) (ne_sb_tb : sb ≠ tb) (E_sb : Exa Z h0 sb "java/lang/StringBuilder") (Fc : Fld Z h0 sb "java/lang/AbstractStringBuilder" "coder" "B" (.int (0 : Int32))) (Fv : Fld Z h0 sb "java/lang/AbstractStringBuilder" "value" "[B" (.ref tb)) (Fn : Fld Z h0 sb "java/lang/AbstractStringBuilder" "count" "I" (.int (Int32.ofNat bs.length))) (Ex : Exa Z h0 a1 "java/lang/String") (Sv : Fld Z h0 a1 "java/lang/String" "value" "[B" (.ref tt)) (Sc : Fld Z h0 a1 "java/lang/String" "coder" "B" (.int (0 : Int32))) (Vt : Arv Z h0 tt kt .byte (Int32.ofNat cs.length) (cs.map Value.int) (.int (0 : Int32))) (Vb : Arv Z h0 tb kb .byte (Int32.ofNat cap) (bs.map Value.int) (.int (0 : Int32))) (hcap : bs.length + cs.length ≤ cap) (hc2 : cap ≤ 1000) :
    MetFree l (⟨"java/lang/StringBuilder", "append", "(Ljava/lang/String;)Ljava/lang/StringBuilder;"⟩ : MethodName) (head1 (Jvm.Cond.code (⟨"java/lang/StringBuilder", "append", "(Ljava/lang/String;)Ljava/lang/StringBuilder;"⟩ : MethodName) jdk_67_method_7_code 2 (some (.object "java/lang/StringBuilder")) :: ws) ({ frames := 4, cells := 0, slots := 0, locals := 82 } : Room)) (fun a U => a = #[(.ref sb), (.ref a1)] ∧ Z.Warmed39 U.vm ∧ U.heap = h0) (fun _ _ _ _ _ => True) (fun _ U o U' => ∃ v L, o = .returned v ∧ Q_rmAS Z sb tb cs kb cap bs h0 n0 v U'.heap L ∧ FrameEnd U o U' L ({ frames := 4, cells := 0, slots := 0, locals := 82 } : Room).cells ({ frames := 4, cells := 0, slots := 0, locals := 82 } : Room).slots) := by
  refine MetFree.of_bodySF (plainFor_of_name pn_StringBuilder) hisR ?_
  intro p e s m args below meth c s₁ Bd hml0 hP hK
  obtain ⟨rfl, hZ, hh⟩ := hP
  have hx := Bd.exec
  have hby := Bd.bytes
  have hml : c.maxLocals = 2 := hml0
  have hown : s.vm.findClass "java/lang/StringBuilder" = some m.cls := findClass_of_methodNamed Bd.named
  have hnm := (name_of_methodNamed Bd.named Bd.method).1
  have X0 : Stand p l e ({ frames := 4, cells := 0, slots := 0, locals := 82 } : Room) s m #[(.ref sb), (.ref a1)] below meth c s₁ [] 0 0 := Stand.of_body Bd
  have e0 : s₁.heap = h0 := by rw [← hh, Bd.state]; rfl
  have N0 := Fr.nil n0
  obtain ⟨S0, hS0⟩ : ∃ z, z = s₁.setTop (entryFrame m #[(.ref sb), (.ref a1)] 2) := ⟨_, rfl⟩
  have k0 : Rch p e below S0 s₁ (mkF m 0 #[vR sb, vR a1] []) := fun t kq => hS0 ▸ castTop (ef_14 m sb a1) kq
  have K0 : Keep h0 h0 [sb, tb] := Keep.refl h0 _
  have k126 : Rch p e below S0 s₁ (mkF m 2 #[vR sb, vR a1] [(.ref a1), (.ref sb)]) := fun t h => k0 t (by
      show Steps p.tables e below (s₁.setTop (mkF m 0 #[vR sb, vR a1] [])) _
      refine XS.aloadN X0.here hx rfl (hb hby d14_0) rfl rfl ?_
      refine XS.aloadN X0.here hx rfl (hb hby d14_1) rfl rfl ?_
      exact h)
  obtain ⟨_, _, ⟨T127, L127, kk127, n127⟩, -, X127, ⟨Lc127, hQ127, l127, y127, z127⟩, st127⟩ := superBack X0 hx hZ (y := (⟨"java/lang/AbstractStringBuilder", "append", "(Ljava/lang/String;)Ljava/lang/AbstractStringBuilder;"⟩ : MethodName)) hown (hw _ (gm 85 rfl)) (own_same (y := (⟨"java/lang/AbstractStringBuilder", "append", "(Ljava/lang/String;)Ljava/lang/AbstractStringBuilder;"⟩ : MethodName)) (y' := (⟨"java/lang/AbstractStringBuilder", "ensureCapacityInternal", "(I)V"⟩ : MethodName)) rfl (hw _ (gm 93 rfl)) (hw _ (gm 76 rfl)) (by decide)) (hw _ (gm 76 rfl)) (hw _ (gm 86 rfl)) (by decide) (backOf (W := 0) (rmAA l Z a0 hw [] sb a1 tb tt kt cs kb cap bs zC h0 n0 O0 SC hzC ge_sb ge_tb ne_sb_tb E_sb Fc Fv Fn Ex Sv Sc Vt Vb hcap hc2) hZ (hw _ (gm 87 rfl)) (hw _ (gm 55 rfl)) (by decide) (by decide)) e0 (Ins.self E_sb) (g := (mkF m 2 #[vR sb, vR a1] [(.ref a1), (.ref sb)])) rfl (by rw [hml]; rfl) (hw _ (gm 87 rfl)) (argsL := [(.ref a1)]) (rest := []) (lenOf pd_10 rfl) rfl (by show 2 * 0 + _ ≤ _; exact Nat.le_of_eq rfl) (hb hby d14_2) (fun _ _ => ⟨rfl, e0, (by decide : 0 + 0 ≤ _), (by decide : 0 + 0 ≤ _)⟩)
  dsimp only [Pt.U, Pt.locs, Pt.cells, Pt.slots] at X127 l127 y127 z127 st127 hQ127
  subst l127 y127 z127
  obtain ⟨rfl, Nq127, K127, Fc127, Fv127, Fn127, V127⟩ := hQ127
  have N127 := Fr.app N0 Nq127
  have k128 : Rch p e below S0 T127 (mkF m 5 #[vR sb, vR a1] [(.ref sb)]) := fun t h => k126 t (st127.trans h)
  have O129 := O0.keep K127 (allS ge_sb (allS ge_tb all0))
  have K130 := K0.trans K127 (allS (Or.inl (gm 0 rfl)) (allS (Or.inl (gm 1 rfl)) all0))
  replace E_sb := E_sb.keep K127
  have k131 : Rch p e below S0 T127 (mkF m 7 #[vR sb, vR a1] [(.ref sb)]) := fun t h => k128 t (by
      show Steps p.tables e below (T127.setTop (mkF m 5 #[vR sb, vR a1] [(.ref sb)])) _
      refine XS.pop X127.here hx rfl (hb hby d14_5) rfl rfl ?_
      refine XS.aloadN X127.here hx rfl (hb hby d14_6) rfl rfl ?_
      exact h)
  obtain ⟨fs, hr, hrun, hended, hW, hsame⟩ := X127.leave (v := (some (.ref sb))) (fun h => by rw [Bd.returns] at h; cases h)
  refine ⟨_, _, ?_, hrun, hended, _, _, rfl, ?_, ⟨_, rfl⟩, hW, hsame.mono (by decide) (by decide)⟩
  · rw [← hS0]
    refine k131 _ ?_
    show Steps p.tables e below (T127.setTop (mkF m 7 #[vR sb, vR a1] [(.ref sb)])) _
    jvm_step X127.here [X127.here.top, hx, (hb hby d14_7), X127.method', Bd.returns, Value.isRef, FieldType.isReference]
    first | (intro acts; rw [hr _ acts rfl rfl rfl]) | rw [hr _ _ rfl rfl rfl]
    exact Steps.refl _
  · show Q_rmAS Z sb tb cs kb cap bs h0 n0 _ T127.heap _
    exact ⟨rfl, N127, K130, Fc127, Fv127, Fn127, V127⟩
def Q_rmGV (Z : State) (tb : Addr) (h0 : Heap) (n0 : Nat) (v : Option Value) (h : Heap) (L : List Loc) : Prop := v = some (.ref tb) ∧ Fr n0 L ∧ h = h0
theorem ef_25 (m : MethodId) (x0 : Addr) : entryFrame m #[(.ref x0)] 1 = mkF m 0 #[.val (.ref x0)] [] := by first | (simp [entryFrame, mkF, argsToLocals, Value.category]; done) | rfl
theorem d25_0 : decode jdk_68_method_64_code 0 = .ok (.aload_n 0, 1) := by decide +kernel
theorem d25_1 : decode jdk_68_method_64_code 1 = .ok (.getfield 15, 3) := by decide +kernel
theorem d25_4 : decode jdk_68_method_64_code 4 = .ok (.areturn, 1) := by decide +kernel
set_option maxRecDepth 65536 in
set_option maxHeartbeats 40000000 in
theorem rmGV (l : Launch) (Z : State) (a0 : Array Value) (hw : ∀ d ∈ tables_1, d.before a0 Z = true) (ws : List Jvm.Cond) (sb : Addr) (tb : Addr) (h0 : Heap) (n0 : Nat) (O0 : Old Z n0 h0) (Fv : Fld Z h0 sb "java/lang/AbstractStringBuilder" "value" "[B" (.ref tb)) :
    MetFree l (⟨"java/lang/AbstractStringBuilder", "getValue", "()[B"⟩ : MethodName) (head1 (Jvm.Cond.code (⟨"java/lang/AbstractStringBuilder", "getValue", "()[B"⟩ : MethodName) jdk_68_method_64_code 1 (some (.array .byte)) :: ws) ({ frames := 0, cells := 0, slots := 0, locals := 0 } : Room)) (fun a U => a = #[(.ref sb)] ∧ Z.Warmed39 U.vm ∧ U.heap = h0) (fun _ _ _ _ _ => True) (fun _ U o U' => ∃ v L, o = .returned v ∧ Q_rmGV Z tb h0 n0 v U'.heap L ∧ FrameEnd U o U' L ({ frames := 0, cells := 0, slots := 0, locals := 0 } : Room).cells ({ frames := 0, cells := 0, slots := 0, locals := 0 } : Room).slots) := by
  refine MetFree.of_bodySF (plainFor_of_name pn_AbstractStringBuilder) hisR ?_
  intro p e s m args below meth c s₁ Bd hml0 hP hK
  obtain ⟨rfl, hZ, hh⟩ := hP
  have hx := Bd.exec
  have hby := Bd.bytes
  have hml : c.maxLocals = 1 := hml0
  have hown : s.vm.findClass "java/lang/AbstractStringBuilder" = some m.cls := findClass_of_methodNamed Bd.named
  have hnm := (name_of_methodNamed Bd.named Bd.method).1
  have X0 : Stand p l e ({ frames := 0, cells := 0, slots := 0, locals := 0 } : Room) s m #[(.ref sb)] below meth c s₁ [] 0 0 := Stand.of_body Bd
  have e0 : s₁.heap = h0 := by rw [← hh, Bd.state]; rfl
  have N0 := Fr.nil n0
  obtain ⟨S0, hS0⟩ : ∃ z, z = s₁.setTop (entryFrame m #[(.ref sb)] 1) := ⟨_, rfl⟩
  have k0 : Rch p e below S0 s₁ (mkF m 0 #[vR sb] []) := fun t kq => hS0 ▸ castTop (ef_25 m sb) kq
  have k133 : Rch p e below S0 s₁ (mkF m 1 #[vR sb] [(.ref sb)]) := fun t h => k0 t (by
      show Steps p.tables e below (s₁.setTop (mkF m 0 #[vR sb] [])) _
      refine XS.aloadN X0.here hx rfl (hb hby d25_0) rfl rfl ?_
      exact h)
  obtain ⟨T132, X132, e132, st132⟩ := getF X0 hx hZ hown (host := "") (Or.inl (hw _ (gm 72 rfl))) Via.refl e0 Fv (g := (mkF m 1 #[vR sb] [(.ref sb)])) rfl rfl (hb hby d25_1)
  have k134 : Rch p e below S0 T132 (mkF m 4 #[vR sb] [(.ref tb)]) := fun t h => k133 t (st132 t h)
  obtain ⟨fs, hr, hrun, hended, hW, hsame⟩ := X132.leave (v := (some (.ref tb))) (fun h => by rw [Bd.returns] at h; cases h)
  refine ⟨_, _, ?_, hrun, hended, _, _, rfl, ?_, ⟨_, rfl⟩, hW, hsame.mono (by decide) (by decide)⟩
  · rw [← hS0]
    refine k134 _ ?_
    show Steps p.tables e below (T132.setTop (mkF m 4 #[vR sb] [(.ref tb)])) _
    jvm_step X132.here [X132.here.top, hx, (hb hby d25_4), X132.method', Bd.returns, Value.isRef, FieldType.isReference]
    first | (intro acts; rw [hr _ acts rfl rfl rfl]) | rw [hr _ _ rfl rfl rfl]
    exact Steps.refl _
  · show Q_rmGV Z tb h0 n0 _ T132.heap _
    rw [e132]
    exact ⟨rfl, N0, rfl⟩
def Q_rmLA (Z : State) (bs : List Int32) (h0 : Heap) (n0 : Nat) (v : Option Value) (h : Heap) (L : List Loc) : Prop := v = some (.int (Int32.ofNat bs.length)) ∧ Fr n0 L ∧ h = h0
theorem ef_27 (m : MethodId) (x0 : Addr) : entryFrame m #[(.ref x0)] 1 = mkF m 0 #[.val (.ref x0)] [] := by first | (simp [entryFrame, mkF, argsToLocals, Value.category]; done) | rfl
theorem d27_0 : decode jdk_68_method_6_code 0 = .ok (.aload_n 0, 1) := by decide +kernel
theorem d27_1 : decode jdk_68_method_6_code 1 = .ok (.getfield 79, 3) := by decide +kernel
theorem d27_4 : decode jdk_68_method_6_code 4 = .ok (.ireturn, 1) := by decide +kernel
set_option maxRecDepth 65536 in
set_option maxHeartbeats 40000000 in
theorem rmLA (l : Launch) (Z : State) (a0 : Array Value) (hw : ∀ d ∈ tables_1, d.before a0 Z = true) (ws : List Jvm.Cond) (sb : Addr) (bs : List Int32) (h0 : Heap) (n0 : Nat) (O0 : Old Z n0 h0) (E_sb : Exa Z h0 sb "java/lang/StringBuilder") (Fn : Fld Z h0 sb "java/lang/AbstractStringBuilder" "count" "I" (.int (Int32.ofNat bs.length))) :
    MetFree l (⟨"java/lang/AbstractStringBuilder", "length", "()I"⟩ : MethodName) (head1 (Jvm.Cond.code (⟨"java/lang/AbstractStringBuilder", "length", "()I"⟩ : MethodName) jdk_68_method_6_code 1 (some .int) :: ws) ({ frames := 0, cells := 0, slots := 0, locals := 0 } : Room)) (fun a U => a = #[(.ref sb)] ∧ Z.Warmed39 U.vm ∧ U.heap = h0) (fun _ _ _ _ _ => True) (fun _ U o U' => ∃ v L, o = .returned v ∧ Q_rmLA Z bs h0 n0 v U'.heap L ∧ FrameEnd U o U' L ({ frames := 0, cells := 0, slots := 0, locals := 0 } : Room).cells ({ frames := 0, cells := 0, slots := 0, locals := 0 } : Room).slots) := by
  refine MetFree.of_bodySF (plainFor_of_name pn_AbstractStringBuilder) hisR ?_
  intro p e s m args below meth c s₁ Bd hml0 hP hK
  obtain ⟨rfl, hZ, hh⟩ := hP
  have hx := Bd.exec
  have hby := Bd.bytes
  have hml : c.maxLocals = 1 := hml0
  have hown : s.vm.findClass "java/lang/AbstractStringBuilder" = some m.cls := findClass_of_methodNamed Bd.named
  have hnm := (name_of_methodNamed Bd.named Bd.method).1
  have X0 : Stand p l e ({ frames := 0, cells := 0, slots := 0, locals := 0 } : Room) s m #[(.ref sb)] below meth c s₁ [] 0 0 := Stand.of_body Bd
  have e0 : s₁.heap = h0 := by rw [← hh, Bd.state]; rfl
  have N0 := Fr.nil n0
  obtain ⟨S0, hS0⟩ : ∃ z, z = s₁.setTop (entryFrame m #[(.ref sb)] 1) := ⟨_, rfl⟩
  have k0 : Rch p e below S0 s₁ (mkF m 0 #[vR sb] []) := fun t kq => hS0 ▸ castTop (ef_27 m sb) kq
  have k136 : Rch p e below S0 s₁ (mkF m 1 #[vR sb] [(.ref sb)]) := fun t h => k0 t (by
      show Steps p.tables e below (s₁.setTop (mkF m 0 #[vR sb] [])) _
      refine XS.aloadN X0.here hx rfl (hb hby d27_0) rfl rfl ?_
      exact h)
  obtain ⟨T135, X135, e135, st135⟩ := getF X0 hx hZ hown (host := "") (Or.inl (hw _ (gm 88 rfl))) Via.refl e0 Fn (g := (mkF m 1 #[vR sb] [(.ref sb)])) rfl rfl (hb hby d27_1)
  have k137 : Rch p e below S0 T135 (mkF m 4 #[vR sb] [(.int (Int32.ofNat bs.length))]) := fun t h => k136 t (st135 t h)
  obtain ⟨fs, hr, hrun, hended, hW, hsame⟩ := X135.leave (v := (some (.int (Int32.ofNat bs.length)))) (fun h => by rw [Bd.returns] at h; cases h)
  refine ⟨_, _, ?_, hrun, hended, _, _, rfl, ?_, ⟨_, rfl⟩, hW, hsame.mono (by decide) (by decide)⟩
  · rw [← hS0]
    refine k137 _ ?_
    show Steps p.tables e below (T135.setTop (mkF m 4 #[vR sb] [(.int (Int32.ofNat bs.length))])) _
    exact retI X135 hx Bd.returns (hb hby d27_4) hr
  · show Q_rmLA Z bs h0 n0 _ T135.heap _
    rw [e135]
    exact ⟨rfl, N0, rfl⟩
def Q_rmLS (Z : State) (bs : List Int32) (h0 : Heap) (n0 : Nat) (v : Option Value) (h : Heap) (L : List Loc) : Prop := v = some (.int (Int32.ofNat bs.length)) ∧ Fr n0 L ∧ h = h0
theorem ef_26 (m : MethodId) (x0 : Addr) : entryFrame m #[(.ref x0)] 1 = mkF m 0 #[.val (.ref x0)] [] := by first | (simp [entryFrame, mkF, argsToLocals, Value.category]; done) | rfl
theorem d26_0 : decode jdk_67_method_93_code 0 = .ok (.aload_n 0, 1) := by decide +kernel
theorem d26_1 : decode jdk_67_method_93_code 1 = .ok (.invokespecial 343, 3) := by decide +kernel
theorem d26_4 : decode jdk_67_method_93_code 4 = .ok (.ireturn, 1) := by decide +kernel
set_option maxRecDepth 65536 in
set_option maxHeartbeats 40000000 in
theorem rmLS (l : Launch) (Z : State) (a0 : Array Value) (hw : ∀ d ∈ tables_1, d.before a0 Z = true) (ws : List Jvm.Cond) (sb : Addr) (bs : List Int32) (h0 : Heap) (n0 : Nat) (O0 : Old Z n0 h0) (E_sb : Exa Z h0 sb "java/lang/StringBuilder") (Fn : Fld Z h0 sb "java/lang/AbstractStringBuilder" "count" "I" (.int (Int32.ofNat bs.length))) :
    MetFree l (⟨"java/lang/StringBuilder", "length", "()I"⟩ : MethodName) (head1 (Jvm.Cond.code (⟨"java/lang/StringBuilder", "length", "()I"⟩ : MethodName) jdk_67_method_93_code 1 (some .int) :: ws) ({ frames := 1, cells := 0, slots := 0, locals := 14 } : Room)) (fun a U => a = #[(.ref sb)] ∧ Z.Warmed39 U.vm ∧ U.heap = h0) (fun _ _ _ _ _ => True) (fun _ U o U' => ∃ v L, o = .returned v ∧ Q_rmLS Z bs h0 n0 v U'.heap L ∧ FrameEnd U o U' L ({ frames := 1, cells := 0, slots := 0, locals := 14 } : Room).cells ({ frames := 1, cells := 0, slots := 0, locals := 14 } : Room).slots) := by
  refine MetFree.of_bodySF (plainFor_of_name pn_StringBuilder) hisR ?_
  intro p e s m args below meth c s₁ Bd hml0 hP hK
  obtain ⟨rfl, hZ, hh⟩ := hP
  have hx := Bd.exec
  have hby := Bd.bytes
  have hml : c.maxLocals = 1 := hml0
  have hown : s.vm.findClass "java/lang/StringBuilder" = some m.cls := findClass_of_methodNamed Bd.named
  have hnm := (name_of_methodNamed Bd.named Bd.method).1
  have X0 : Stand p l e ({ frames := 1, cells := 0, slots := 0, locals := 14 } : Room) s m #[(.ref sb)] below meth c s₁ [] 0 0 := Stand.of_body Bd
  have e0 : s₁.heap = h0 := by rw [← hh, Bd.state]; rfl
  have N0 := Fr.nil n0
  obtain ⟨S0, hS0⟩ : ∃ z, z = s₁.setTop (entryFrame m #[(.ref sb)] 1) := ⟨_, rfl⟩
  have k0 : Rch p e below S0 s₁ (mkF m 0 #[vR sb] []) := fun t kq => hS0 ▸ castTop (ef_26 m sb) kq
  have k138 : Rch p e below S0 s₁ (mkF m 1 #[vR sb] [(.ref sb)]) := fun t h => k0 t (by
      show Steps p.tables e below (s₁.setTop (mkF m 0 #[vR sb] [])) _
      refine XS.aloadN X0.here hx rfl (hb hby d26_0) rfl rfl ?_
      exact h)
  obtain ⟨_, _, ⟨T139, L139, kk139, n139⟩, -, X139, ⟨Lc139, hQ139, l139, y139, z139⟩, st139⟩ := superBack X0 hx hZ (y := (⟨"java/lang/AbstractStringBuilder", "length", "()I"⟩ : MethodName)) hown (hw _ (gm 153 rfl)) (own_same (y := (⟨"java/lang/AbstractStringBuilder", "length", "()I"⟩ : MethodName)) (y' := (⟨"java/lang/AbstractStringBuilder", "ensureCapacityInternal", "(I)V"⟩ : MethodName)) rfl (hw _ (gm 93 rfl)) (hw _ (gm 149 rfl)) (by decide)) (hw _ (gm 149 rfl)) (hw _ (gm 86 rfl)) (by decide) (backOf (W := 0) (rmLA l Z a0 hw [] sb bs h0 n0 O0 E_sb Fn) hZ (hw _ (gm 154 rfl)) (hw _ (gm 55 rfl)) (by decide) (by decide)) e0 (Ins.self E_sb) (g := (mkF m 1 #[vR sb] [(.ref sb)])) rfl (by rw [hml]; rfl) (hw _ (gm 154 rfl)) (argsL := []) (rest := []) (lenOf pd_8 rfl) rfl (by show 2 * 0 + _ ≤ _; exact Nat.le_of_eq rfl) (hb hby d26_1) (fun _ _ => ⟨rfl, e0, (by decide : 0 + 0 ≤ _), (by decide : 0 + 0 ≤ _)⟩)
  dsimp only [Pt.U, Pt.locs, Pt.cells, Pt.slots] at X139 l139 y139 z139 st139 hQ139
  subst l139 y139 z139
  obtain ⟨rfl, Nq139, hh139⟩ := hQ139
  have N139 := Fr.app N0 Nq139
  have k140 : Rch p e below S0 T139 (mkF m 4 #[vR sb] [(.int (Int32.ofNat bs.length))]) := fun t h => k138 t (st139.trans h)
  obtain ⟨fs, hr, hrun, hended, hW, hsame⟩ := X139.leave (v := (some (.int (Int32.ofNat bs.length)))) (fun h => by rw [Bd.returns] at h; cases h)
  refine ⟨_, _, ?_, hrun, hended, _, _, rfl, ?_, ⟨_, rfl⟩, hW, hsame.mono (by decide) (by decide)⟩
  · rw [← hS0]
    refine k140 _ ?_
    show Steps p.tables e below (T139.setTop (mkF m 4 #[vR sb] [(.int (Int32.ofNat bs.length))])) _
    exact retI X139 hx Bd.returns (hb hby d26_4) hr
  · show Q_rmLS Z bs h0 n0 _ T139.heap _
    rw [hh139]
    exact ⟨rfl, N139, rfl⟩
def Q_rmIA (Z : State)  (h0 : Heap) (n0 : Nat) (v : Option Value) (h : Heap) (L : List Loc) : Prop := v = some (.int (1 : Int32)) ∧ Fr n0 L ∧ h = h0
theorem ef_28 (m : MethodId) (x0 : Addr) : entryFrame m #[(.ref x0)] 1 = mkF m 0 #[.val (.ref x0)] [] := by first | (simp [entryFrame, mkF, argsToLocals, Value.category]; done) | rfl
theorem d28_0 : decode jdk_68_method_68_code 0 = .ok (.getstatic 18, 3) := by decide +kernel
theorem d28_3 : decode jdk_68_method_68_code 3 = .ok (.ifCond .eq 14, 3) := by decide +kernel
theorem d28_6 : decode jdk_68_method_68_code 6 = .ok (.aload_n 0, 1) := by decide +kernel
theorem d28_7 : decode jdk_68_method_68_code 7 = .ok (.getfield 22, 3) := by decide +kernel
theorem d28_10 : decode jdk_68_method_68_code 10 = .ok (.ifCond .ne 7, 3) := by decide +kernel
theorem d28_13 : decode jdk_68_method_68_code 13 = .ok (.iconst 1, 1) := by decide +kernel
theorem d28_14 : decode jdk_68_method_68_code 14 = .ok (.goto 4, 3) := by decide +kernel
theorem d28_18 : decode jdk_68_method_68_code 18 = .ok (.ireturn, 1) := by decide +kernel
set_option maxRecDepth 65536 in
set_option maxHeartbeats 40000000 in
theorem rmIA (l : Launch) (Z : State) (a0 : Array Value) (hw : ∀ d ∈ tables_1, d.before a0 Z = true) (ws : List Jvm.Cond) (sb : Addr) (zC : Int32) (h0 : Heap) (n0 : Nat) (O0 : Old Z n0 h0) (SC : Sta Z Z.heap "java/lang/String" "COMPACT_STRINGS" "Z" (.int zC)) (hzC : ¬ zC = 0) (Fc : Fld Z h0 sb "java/lang/AbstractStringBuilder" "coder" "B" (.int (0 : Int32))) :
    MetFree l (⟨"java/lang/AbstractStringBuilder", "isLatin1", "()Z"⟩ : MethodName) (head1 (Jvm.Cond.code (⟨"java/lang/AbstractStringBuilder", "isLatin1", "()Z"⟩ : MethodName) jdk_68_method_68_code 1 (some .boolean) :: ws) ({ frames := 0, cells := 0, slots := 0, locals := 0 } : Room)) (fun a U => a = #[(.ref sb)] ∧ Z.Warmed39 U.vm ∧ U.heap = h0) (fun _ _ _ _ _ => True) (fun _ U o U' => ∃ v L, o = .returned v ∧ Q_rmIA Z  h0 n0 v U'.heap L ∧ FrameEnd U o U' L ({ frames := 0, cells := 0, slots := 0, locals := 0 } : Room).cells ({ frames := 0, cells := 0, slots := 0, locals := 0 } : Room).slots) := by
  refine MetFree.of_bodySF (plainFor_of_name pn_AbstractStringBuilder) hisR ?_
  intro p e s m args below meth c s₁ Bd hml0 hP hK
  obtain ⟨rfl, hZ, hh⟩ := hP
  have hx := Bd.exec
  have hby := Bd.bytes
  have hml : c.maxLocals = 1 := hml0
  have hown : s.vm.findClass "java/lang/AbstractStringBuilder" = some m.cls := findClass_of_methodNamed Bd.named
  have hnm := (name_of_methodNamed Bd.named Bd.method).1
  have X0 : Stand p l e ({ frames := 0, cells := 0, slots := 0, locals := 0 } : Room) s m #[(.ref sb)] below meth c s₁ [] 0 0 := Stand.of_body Bd
  have e0 : s₁.heap = h0 := by rw [← hh, Bd.state]; rfl
  have N0 := Fr.nil n0
  obtain ⟨S0, hS0⟩ : ∃ z, z = s₁.setTop (entryFrame m #[(.ref sb)] 1) := ⟨_, rfl⟩
  have k0 : Rch p e below S0 s₁ (mkF m 0 #[vR sb] []) := fun t kq => hS0 ▸ castTop (ef_28 m sb) kq
  obtain ⟨T141, X141, e141, st141⟩ := getS2 X0 hx hZ hown (host := "") (Or.inl (hw _ (gm 105 rfl))) Via.refl e0 (SC.ext O0.2) (g := (mkF m 0 #[vR sb] [])) rfl (hb hby d28_0)
  have k142 : Rch p e below S0 T141 (mkF m 3 #[vR sb] [(.int zC)]) := fun t h => k0 t (st141 t h)
  have k144 : Rch p e below S0 T141 (mkF m 7 #[vR sb] [(.ref sb)]) := fun t h => k142 t (by
      show Steps p.tables e below (T141.setTop (mkF m 3 #[vR sb] [(.int zC)])) _
      refine XS.ifNo X141.here hx rfl (hb hby d28_3) rfl ((if0 _ _).trans (feq (hzC : ¬ (zC = (0 : Int32)))).1) ?_
      refine XS.aloadN X141.here hx rfl (hb hby d28_6) rfl rfl ?_
      exact h)
  obtain ⟨T143, X143, e143, st143⟩ := getF X141 hx hZ hown (host := "") (Or.inl (hw _ (gm 70 rfl))) Via.refl e141 Fc (g := (mkF m 7 #[vR sb] [(.ref sb)])) rfl rfl (hb hby d28_7)
  have k145 : Rch p e below S0 T143 (mkF m 10 #[vR sb] [(.int (0 : Int32))]) := fun t h => k144 t (st143 t h)
  have k146 : Rch p e below S0 T143 (mkF m 18 #[vR sb] [(.int (1 : Int32))]) := fun t h => k145 t (by
      show Steps p.tables e below (T143.setTop (mkF m 10 #[vR sb] [(.int (0 : Int32))])) _
      refine XS.ifNo X143.here hx rfl (hb hby d28_10) rfl ((if0 _ _).trans (teq (by decide : (0 : Int32) = (0 : Int32))).2) ?_
      refine XS.iconst X143.here hx rfl (hb hby d28_13) ?_
      refine XS.goto X143.here hx rfl (pc0 := 14) (pc' := 18) rfl (hb hby d28_14) (by decide) (by decide) ?_
      exact h)
  obtain ⟨fs, hr, hrun, hended, hW, hsame⟩ := X143.leave (v := (some (.int (1 : Int32)))) (fun h => by rw [Bd.returns] at h; cases h)
  refine ⟨_, _, ?_, hrun, hended, _, _, rfl, ?_, ⟨_, rfl⟩, hW, hsame.mono (by decide) (by decide)⟩
  · rw [← hS0]
    refine k146 _ ?_
    show Steps p.tables e below (T143.setTop (mkF m 18 #[vR sb] [(.int (1 : Int32))])) _
    exact retN X143 hx (t := .boolean) Bd.returns (by simp) (hb hby d28_18) hr
  · show Q_rmIA Z  h0 n0 _ T143.heap _
    rw [e143]
    exact ⟨rfl, N0, rfl⟩
def Q_rmCK (Z : State)  (h0 : Heap) (n0 : Nat) (v : Option Value) (h : Heap) (L : List Loc) : Prop := v = none ∧ Fr n0 L ∧ h = h0
theorem ef_31 (m : MethodId) (x0 : Int32) (x1 : Int32) : entryFrame m #[(.int x0), (.int x1)] 2 = mkF m 0 #[.val (.int x0), .val (.int x1)] [] := by first | (simp [entryFrame, mkF, argsToLocals, Value.category]; done) | rfl
theorem pn_Arrays : plainName "java/util/Arrays" = true := by first | (simp [plainName, overriddenIn]; done) | decide +kernel
theorem d31_0 : decode jdk_65_method_131_code 0 = .ok (.iload_n 1, 1) := by decide +kernel
theorem d31_1 : decode jdk_65_method_131_code 1 = .ok (.iload_n 0, 1) := by decide +kernel
theorem d31_2 : decode jdk_65_method_131_code 2 = .ok (.if_icmp .ge 35, 3) := by decide +kernel
theorem d31_37 : decode jdk_65_method_131_code 37 = .ok (.return_, 1) := by decide +kernel
set_option maxRecDepth 65536 in
set_option maxHeartbeats 40000000 in
theorem rmCK (l : Launch) (Z : State) (a0 : Array Value) (hw : ∀ d ∈ tables_1, d.before a0 Z = true) (ws : List Jvm.Cond) (p1 : Int32) (p2 : Int32) (h0 : Heap) (n0 : Nat) (O0 : Old Z n0 h0) (hq : ¬ (p2 < p1)) :
    MetFree l (⟨"java/util/Arrays", "checkLength", "(II)V"⟩ : MethodName) (head1 (Jvm.Cond.code (⟨"java/util/Arrays", "checkLength", "(II)V"⟩ : MethodName) jdk_65_method_131_code 2 none :: ws) ({ frames := 0, cells := 0, slots := 0, locals := 0 } : Room)) (fun a U => a = #[(.int p1), (.int p2)] ∧ Z.Warmed39 U.vm ∧ U.heap = h0) (fun _ _ _ _ _ => True) (fun _ U o U' => ∃ v L, o = .returned v ∧ Q_rmCK Z  h0 n0 v U'.heap L ∧ FrameEnd U o U' L ({ frames := 0, cells := 0, slots := 0, locals := 0 } : Room).cells ({ frames := 0, cells := 0, slots := 0, locals := 0 } : Room).slots) := by
  refine MetFree.of_bodySF (plainFor_of_name pn_Arrays) hisR ?_
  intro p e s m args below meth c s₁ Bd hml0 hP hK
  obtain ⟨rfl, hZ, hh⟩ := hP
  have hx := Bd.exec
  have hby := Bd.bytes
  have hml : c.maxLocals = 2 := hml0
  have hown : s.vm.findClass "java/util/Arrays" = some m.cls := findClass_of_methodNamed Bd.named
  have hnm := (name_of_methodNamed Bd.named Bd.method).1
  have X0 : Stand p l e ({ frames := 0, cells := 0, slots := 0, locals := 0 } : Room) s m #[(.int p1), (.int p2)] below meth c s₁ [] 0 0 := Stand.of_body Bd
  have e0 : s₁.heap = h0 := by rw [← hh, Bd.state]; rfl
  have N0 := Fr.nil n0
  obtain ⟨S0, hS0⟩ : ∃ z, z = s₁.setTop (entryFrame m #[(.int p1), (.int p2)] 2) := ⟨_, rfl⟩
  have k0 : Rch p e below S0 s₁ (mkF m 0 #[vI p1, vI p2] []) := fun t kq => hS0 ▸ castTop (ef_31 m p1 p2) kq
  have k147 : Rch p e below S0 s₁ (mkF m 37 #[vI p1, vI p2] []) := fun t h => k0 t (by
      show Steps p.tables e below (s₁.setTop (mkF m 0 #[vI p1, vI p2] [])) _
      refine XS.iloadN X0.here hx rfl (hb hby d31_0) rfl ?_
      refine XS.iloadN X0.here hx rfl (hb hby d31_1) rfl ?_
      refine XS.icmpYes X0.here hx rfl (pc0 := 2) (pc' := 37) rfl (hb hby d31_2) rfl (flt (hq : ¬ (p2 < p1))).2.1 (by decide) (by decide) ?_
      exact h)
  obtain ⟨fs, hr, hrun, hended, hW, hsame⟩ := X0.leave (v := none) (fun _ => rfl)
  refine ⟨_, _, ?_, hrun, hended, _, _, rfl, ?_, ⟨_, rfl⟩, hW, hsame.mono (by decide) (by decide)⟩
  · rw [← hS0]
    refine k147 _ ?_
    show Steps p.tables e below (s₁.setTop (mkF m 37 #[vI p1, vI p2] [])) _
    exact X0.returnOut hx Bd.returns (hb hby d31_37) hr
  · show Q_rmCK Z  h0 n0 _ s₁.heap _
    rw [e0]
    exact ⟨rfl, N0, rfl⟩
def Q_rmMN (Z : State) (p2 : Int32) (h0 : Heap) (n0 : Nat) (v : Option Value) (h : Heap) (L : List Loc) : Prop := v = some (.int p2) ∧ Fr n0 L ∧ h = h0
theorem ef_32 (m : MethodId) (x0 : Int32) (x1 : Int32) : entryFrame m #[(.int x0), (.int x1)] 2 = mkF m 0 #[.val (.int x0), .val (.int x1)] [] := by first | (simp [entryFrame, mkF, argsToLocals, Value.category]; done) | rfl
theorem d32_0 : decode jdk_29_method_69_code 0 = .ok (.iload_n 0, 1) := by decide +kernel
theorem d32_1 : decode jdk_29_method_69_code 1 = .ok (.iload_n 1, 1) := by decide +kernel
theorem d32_2 : decode jdk_29_method_69_code 2 = .ok (.if_icmp .gt 7, 3) := by decide +kernel
theorem d32_9 : decode jdk_29_method_69_code 9 = .ok (.iload_n 1, 1) := by decide +kernel
theorem d32_10 : decode jdk_29_method_69_code 10 = .ok (.ireturn, 1) := by decide +kernel
set_option maxRecDepth 65536 in
set_option maxHeartbeats 40000000 in
theorem rmMN (l : Launch) (Z : State) (a0 : Array Value) (hw : ∀ d ∈ tables_1, d.before a0 Z = true) (ws : List Jvm.Cond) (p1 : Int32) (p2 : Int32) (h0 : Heap) (n0 : Nat) (O0 : Old Z n0 h0) (hq : p2 < p1) :
    MetFree l (⟨"java/lang/Math", "min", "(II)I"⟩ : MethodName) (head1 (Jvm.Cond.code (⟨"java/lang/Math", "min", "(II)I"⟩ : MethodName) jdk_29_method_69_code 2 (some .int) :: ws) ({ frames := 0, cells := 0, slots := 0, locals := 0 } : Room)) (fun a U => a = #[(.int p1), (.int p2)] ∧ Z.Warmed39 U.vm ∧ U.heap = h0) (fun _ _ _ _ _ => True) (fun _ U o U' => ∃ v L, o = .returned v ∧ Q_rmMN Z p2 h0 n0 v U'.heap L ∧ FrameEnd U o U' L ({ frames := 0, cells := 0, slots := 0, locals := 0 } : Room).cells ({ frames := 0, cells := 0, slots := 0, locals := 0 } : Room).slots) := by
  refine MetFree.of_bodySF (Jvm.Free.JP.mathPlain rfl (by decide +kernel)) hisR ?_
  intro p e s m args below meth c s₁ Bd hml0 hP hK
  obtain ⟨rfl, hZ, hh⟩ := hP
  have hx := Bd.exec
  have hby := Bd.bytes
  have hml : c.maxLocals = 2 := hml0
  have hown : s.vm.findClass "java/lang/Math" = some m.cls := findClass_of_methodNamed Bd.named
  have hnm := (name_of_methodNamed Bd.named Bd.method).1
  have X0 : Stand p l e ({ frames := 0, cells := 0, slots := 0, locals := 0 } : Room) s m #[(.int p1), (.int p2)] below meth c s₁ [] 0 0 := Stand.of_body Bd
  have e0 : s₁.heap = h0 := by rw [← hh, Bd.state]; rfl
  have N0 := Fr.nil n0
  obtain ⟨S0, hS0⟩ : ∃ z, z = s₁.setTop (entryFrame m #[(.int p1), (.int p2)] 2) := ⟨_, rfl⟩
  have k0 : Rch p e below S0 s₁ (mkF m 0 #[vI p1, vI p2] []) := fun t kq => hS0 ▸ castTop (ef_32 m p1 p2) kq
  have k148 : Rch p e below S0 s₁ (mkF m 10 #[vI p1, vI p2] [(.int p2)]) := fun t h => k0 t (by
      show Steps p.tables e below (s₁.setTop (mkF m 0 #[vI p1, vI p2] [])) _
      refine XS.iloadN X0.here hx rfl (hb hby d32_0) rfl ?_
      refine XS.iloadN X0.here hx rfl (hb hby d32_1) rfl ?_
      refine XS.icmpYes X0.here hx rfl (pc0 := 2) (pc' := 9) rfl (hb hby d32_2) rfl (tlt (hq : p2 < p1)).2.2.1 (by decide) (by decide) ?_
      refine XS.iloadN X0.here hx rfl (hb hby d32_9) rfl ?_
      exact h)
  obtain ⟨fs, hr, hrun, hended, hW, hsame⟩ := X0.leave (v := (some (.int p2))) (fun h => by rw [Bd.returns] at h; cases h)
  refine ⟨_, _, ?_, hrun, hended, _, _, rfl, ?_, ⟨_, rfl⟩, hW, hsame.mono (by decide) (by decide)⟩
  · rw [← hS0]
    refine k148 _ ?_
    show Steps p.tables e below (s₁.setTop (mkF m 10 #[vI p1, vI p2] [(.int p2)])) _
    exact retI X0 hx Bd.returns (hb hby d32_10) hr
  · show Q_rmMN Z p2 h0 n0 _ s₁.heap _
    rw [e0]
    exact ⟨rfl, N0, rfl⟩
def Q_rmBY (Z : State) (bs : List Int32) (h0 : Heap) (n0 : Nat) (v : Option Value) (h : Heap) (L : List Loc) : Prop := ∃ y ky, v = some (.ref y) ∧ Fr n0 L ∧ Ext h0 h ∧ h0.size ≤ y ∧ Exa Z h y "[B" ∧ Arv Z h y ky .byte (Int32.ofNat bs.length) (bs.map Value.int) (.int (0 : Int32))
theorem ef_30 (m : MethodId) (x0 : Addr) (x1 : Int32) (x2 : Int32) : entryFrame m #[(.ref x0), (.int x1), (.int x2)] 5 = mkF m 0 #[.val (.ref x0), .val (.int x1), .val (.int x2), .unset, .unset] [] := by first | (simp [entryFrame, mkF, argsToLocals, Value.category]; done) | rfl
theorem d30_0 : decode jdk_65_method_133_code 0 = .ok (.iload_n 1, 1) := by decide +kernel
theorem d30_1 : decode jdk_65_method_133_code 1 = .ok (.iload_n 2, 1) := by decide +kernel
theorem pd_23 : parseMethodDescriptor "(II)V" = some ⟨[.int, .int], none⟩ := by decide +kernel
theorem d30_2 : decode jdk_65_method_133_code 2 = .ok (.invokestatic 343, 3) := by decide +kernel
theorem d30_5 : decode jdk_65_method_133_code 5 = .ok (.iload_n 2, 1) := by decide +kernel
theorem d30_6 : decode jdk_65_method_133_code 6 = .ok (.iload_n 1, 1) := by decide +kernel
theorem d30_7 : decode jdk_65_method_133_code 7 = .ok (.isub, 1) := by decide +kernel
theorem d30_8 : decode jdk_65_method_133_code 8 = .ok (.istore_n 3, 1) := by decide +kernel
theorem d30_9 : decode jdk_65_method_133_code 9 = .ok (.iload_n 3, 1) := by decide +kernel
theorem d30_10 : decode jdk_65_method_133_code 10 = .ok (.newarray .byte, 2) := by decide +kernel
theorem d30_12 : decode jdk_65_method_133_code 12 = .ok (.astore 4, 2) := by decide +kernel
theorem d30_14 : decode jdk_65_method_133_code 14 = .ok (.aload_n 0, 1) := by decide +kernel
theorem d30_15 : decode jdk_65_method_133_code 15 = .ok (.iload_n 1, 1) := by decide +kernel
theorem d30_16 : decode jdk_65_method_133_code 16 = .ok (.aload 4, 2) := by decide +kernel
theorem d30_18 : decode jdk_65_method_133_code 18 = .ok (.iconst 0, 1) := by decide +kernel
theorem d30_19 : decode jdk_65_method_133_code 19 = .ok (.aload_n 0, 1) := by decide +kernel
theorem d30_20 : decode jdk_65_method_133_code 20 = .ok (.arraylength, 1) := by decide +kernel
theorem d30_21 : decode jdk_65_method_133_code 21 = .ok (.iload_n 1, 1) := by decide +kernel
theorem d30_22 : decode jdk_65_method_133_code 22 = .ok (.isub, 1) := by decide +kernel
theorem d30_23 : decode jdk_65_method_133_code 23 = .ok (.iload_n 3, 1) := by decide +kernel
theorem pd_24 : parseMethodDescriptor "(II)I" = some ⟨[.int, .int], some .int⟩ := by decide +kernel
theorem d30_24 : decode jdk_65_method_133_code 24 = .ok (.invokestatic 304, 3) := by decide +kernel
theorem d30_27 : decode jdk_65_method_133_code 27 = .ok (.invokestatic 150, 3) := by decide +kernel
theorem d30_30 : decode jdk_65_method_133_code 30 = .ok (.aload 4, 2) := by decide +kernel
theorem d30_32 : decode jdk_65_method_133_code 32 = .ok (.areturn, 1) := by decide +kernel
set_option maxRecDepth 65536 in
set_option maxHeartbeats 40000000 in
theorem rmBY (l : Launch) (Z : State) (a0 : Array Value) (hw : ∀ d ∈ tables_1, d.before a0 Z = true) (ws : List Jvm.Cond) (tb : Addr) (kb : ClassId) (cap : Nat) (bs : List Int32) (h0 : Heap) (n0 : Nat) (O0 : Old Z n0 h0) (Vb : Arv Z h0 tb kb .byte (Int32.ofNat cap) (bs.map Value.int) (.int (0 : Int32))) (hlt : bs.length < cap) (hc2 : cap ≤ 32) :
    MetFree l (⟨"java/util/Arrays", "copyOfRangeByte", "([BII)[B"⟩ : MethodName) (head1 (Jvm.Cond.code (⟨"java/util/Arrays", "copyOfRangeByte", "([BII)[B"⟩ : MethodName) jdk_65_method_133_code 5 (some (.array .byte)) :: ws) ({ frames := 1, cells := 1, slots := 32, locals := 34 } : Room)) (fun a U => a = #[(.ref tb), (.int (0 : Int32)), (.int (Int32.ofNat bs.length))] ∧ Z.Warmed39 U.vm ∧ U.heap = h0) (fun _ _ _ _ _ => True) (fun _ U o U' => ∃ v L, o = .returned v ∧ Q_rmBY Z bs h0 n0 v U'.heap L ∧ FrameEnd U o U' L ({ frames := 1, cells := 1, slots := 32, locals := 34 } : Room).cells ({ frames := 1, cells := 1, slots := 32, locals := 34 } : Room).slots) := by
  refine MetFree.of_bodySF (plainFor_of_name pn_Arrays) hisR ?_
  intro p e s m args below meth c s₁ Bd hml0 hP hK
  obtain ⟨rfl, hZ, hh⟩ := hP
  have hx := Bd.exec
  have hby := Bd.bytes
  have hml : c.maxLocals = 5 := hml0
  have hown : s.vm.findClass "java/util/Arrays" = some m.cls := findClass_of_methodNamed Bd.named
  have hnm := (name_of_methodNamed Bd.named Bd.method).1
  have X0 : Stand p l e ({ frames := 1, cells := 1, slots := 32, locals := 34 } : Room) s m #[(.ref tb), (.int (0 : Int32)), (.int (Int32.ofNat bs.length))] below meth c s₁ [] 0 0 := Stand.of_body Bd
  have e0 : s₁.heap = h0 := by rw [← hh, Bd.state]; rfl
  have N0 := Fr.nil n0
  obtain ⟨S0, hS0⟩ : ∃ z, z = s₁.setTop (entryFrame m #[(.ref tb), (.int (0 : Int32)), (.int (Int32.ofNat bs.length))] 5) := ⟨_, rfl⟩
  have k0 : Rch p e below S0 s₁ (mkF m 0 #[vR tb, vI 0, vI (Int32.ofNat bs.length), vU, vU] []) := fun t kq => hS0 ▸ castTop (ef_30 m tb (0 : Int32) (Int32.ofNat bs.length)) kq
  have K0 : Keep h0 h0 [] := Keep.refl h0 _
  have k149 : Rch p e below S0 s₁ (mkF m 2 #[vR tb, vI 0, vI (Int32.ofNat bs.length), vU, vU] [(.int (Int32.ofNat bs.length)), (.int (0 : Int32))]) := fun t h => k0 t (by
      show Steps p.tables e below (s₁.setTop (mkF m 0 #[vR tb, vI 0, vI (Int32.ofNat bs.length), vU, vU] [])) _
      refine XS.iloadN X0.here hx rfl (hb hby d30_0) rfl ?_
      refine XS.iloadN X0.here hx rfl (hb hby d30_1) rfl ?_
      exact h)
  obtain ⟨_, _, ⟨T150, L150, kk150, n150⟩, -, X150, ⟨Lc150, hQ150, l150, y150, z150⟩, st150⟩ := Jvm.LawKit.callS X0 hx (y := (⟨"java/util/Arrays", "checkLength", "(II)V"⟩ : MethodName)) hown (mvT hZ (hw _ (gm 167 rfl))) (mvT hZ (hw _ (gm 168 rfl))) (mvT hZ (hw _ (gm 162 rfl))) (mvT hZ (hw _ (gm 169 rfl))) (by decide) (backOf (W := 0) (rmCK l Z a0 hw [] (0 : Int32) (Int32.ofNat bs.length)  h0 n0 O0 (own_on0 (by omega))) hZ (hw _ (gm 169 rfl)) (hw _ (gm 162 rfl)) (by decide) (by decide)) (g := (mkF m 2 #[vR tb, vI 0, vI (Int32.ofNat bs.length), vU, vU] [(.int (Int32.ofNat bs.length)), (.int (0 : Int32))])) rfl (by rw [hml]; rfl) (argsL := [(.int (0 : Int32)), (.int (Int32.ofNat bs.length))]) (rest := []) (lenOf pd_23 rfl) rfl (by show 2 * 0 + _ ≤ _; exact Nat.le_of_eq rfl) (hb hby d30_2) (fun _ _ => ⟨rfl, e0, (by decide : 0 + 0 ≤ _), (by decide : 0 + 0 ≤ _)⟩)
  dsimp only [Pt.U, Pt.locs, Pt.cells, Pt.slots] at X150 l150 y150 z150 st150 hQ150
  subst l150 y150 z150
  obtain ⟨rfl, Nq150, hh150⟩ := hQ150
  have N150 := Fr.app N0 Nq150
  have k151 : Rch p e below S0 T150 (mkF m 5 #[vR tb, vI 0, vI (Int32.ofNat bs.length), vU, vU] []) := fun t h => k149 t (st150 t h)
  have k153 : Rch p e below S0 T150 (mkF m 10 #[vR tb, vI 0, vI (Int32.ofNat bs.length), vI (Int32.ofNat bs.length), vU] [(.int (Int32.ofNat bs.length))]) := fun t h => k151 t (by
      show Steps p.tables e below (T150.setTop (mkF m 5 #[vR tb, vI 0, vI (Int32.ofNat bs.length), vU, vU] [])) _
      refine XS.iloadN X150.here hx rfl (hb hby d30_5) rfl ?_
      refine XS.iloadN X150.here hx rfl (hb hby d30_6) rfl ?_
      show Steps p.tables e below (T150.setTop (mkF m 7 #[vR tb, vI 0, vI (Int32.ofNat bs.length), vU, vU] [(.int (0 : Int32)), (.int (Int32.ofNat bs.length))])) _
      refine XS.isub X150.here hx rfl (hb hby d30_7) rfl ?_
      rw [own_sub0 _]
      refine XS.istoreN X150.here hx rfl (hb hby d30_8) rfl (l' := #[vR tb, vI 0, vI (Int32.ofNat bs.length), vI (Int32.ofNat bs.length), vU]) rfl ?_
      refine XS.iloadN X150.here hx rfl (hb hby d30_9) rfl ?_
      exact h)
  obtain ⟨T152, h152, k152, X152, e152, E152, A152, E_b152, st152⟩ := newPE X150 hx hZ (hw _ (gm 15 rfl)) hh150 (g := (mkF m 10 #[vR tb, vI 0, vI (Int32.ofNat bs.length), vI (Int32.ofNat bs.length), vU] [(.int (Int32.ofNat bs.length))])) rfl (hb hby d30_10) rfl (own_on0 (by omega)) (cap := 32) (by rw [(own_tn (by omega)).1]; omega) (by decide) (by decide) (by decide) (ad := "[B") (by decide)
  obtain ⟨b152, g152⟩ : ∃ z, z = h0.size := ⟨_, rfl⟩
  rw [← g152] at A152 st152 E_b152
  have k154 : Rch p e below S0 T152 (mkF m 12 #[vR tb, vI 0, vI (Int32.ofNat bs.length), vI (Int32.ofNat bs.length), vU] [(.ref b152)]) := fun t h => k153 t (st152 t h)
  have ne_tb_b152 : tb ≠ b152 := own_ne Vb.lt (Nat.le_of_eq g152.symm)
  have ge_b152 : n0 ≤ b152 := own_ge O0 (Nat.le_of_eq g152.symm)
  have sz_b152 : h0.size ≤ b152 := Nat.le_trans K0.1 (Nat.le_of_eq g152.symm)
  have O155 := O0.ext E152
  have K156 := K0.ext E152
  replace Vb := Vb.ext E152
  have V_b152 : Arv Z h152 b152 k152 .byte (Int32.ofNat bs.length) [] (.int (0 : Int32)) := Arv.new A152 (own_on0 (by omega))
  have k158 : Rch p e below S0 T152 (mkF m 20 #[vR tb, vI 0, vI (Int32.ofNat bs.length), vI (Int32.ofNat bs.length), vR b152] [(.ref tb), (.int (0 : Int32)), (.ref b152), (.int (0 : Int32)), (.ref tb)]) := fun t h => k154 t (by
      show Steps p.tables e below (T152.setTop (mkF m 12 #[vR tb, vI 0, vI (Int32.ofNat bs.length), vI (Int32.ofNat bs.length), vU] [(.ref b152)])) _
      refine XS.astore X152.here hx rfl (hb hby d30_12) rfl rfl (l' := #[vR tb, vI 0, vI (Int32.ofNat bs.length), vI (Int32.ofNat bs.length), vR b152]) rfl ?_
      refine XS.aloadN X152.here hx rfl (hb hby d30_14) rfl rfl ?_
      refine XS.iloadN X152.here hx rfl (hb hby d30_15) rfl ?_
      refine XS.aload X152.here hx rfl (hb hby d30_16) rfl rfl ?_
      refine XS.iconst X152.here hx rfl (hb hby d30_18) ?_
      refine XS.aloadN X152.here hx rfl (hb hby d30_19) rfl rfl ?_
      exact h)
  obtain ⟨cl157, Ar157, q157, Sz157, Ng157, Hs157, G157⟩ := id Vb
  have k159 : Rch p e below S0 T152 (mkF m 24 #[vR tb, vI 0, vI (Int32.ofNat bs.length), vI (Int32.ofNat bs.length), vR b152] [(.int (Int32.ofNat bs.length)), (.int (Int32.ofNat cap)), (.int (0 : Int32)), (.ref b152), (.int (0 : Int32)), (.ref tb)]) := fun t h => k158 t (by
      show Steps p.tables e below (T152.setTop (mkF m 20 #[vR tb, vI 0, vI (Int32.ofNat bs.length), vI (Int32.ofNat bs.length), vR b152] [(.ref tb), (.int (0 : Int32)), (.ref b152), (.int (0 : Int32)), (.ref tb)])) _
      refine X152.arraylength hx (by rw [e152]; exact Ar157.1) (State.isArrayOf_alike hZ.alike Ar157.2.1) (g := (mkF m 20 #[vR tb, vI 0, vI (Int32.ofNat bs.length), vI (Int32.ofNat bs.length), vR b152] [(.ref tb), (.int (0 : Int32)), (.ref b152), (.int (0 : Int32)), (.ref tb)])) rfl rfl (hb hby d30_20) _ ?_
      rw [len_of Sz157 Ng157]
      refine XS.iloadN X152.here hx rfl (hb hby d30_21) rfl ?_
      show Steps p.tables e below (T152.setTop (mkF m 22 #[vR tb, vI 0, vI (Int32.ofNat bs.length), vI (Int32.ofNat bs.length), vR b152] [(.int (0 : Int32)), (.int (Int32.ofNat cap)), (.int (0 : Int32)), (.ref b152), (.int (0 : Int32)), (.ref tb)])) _
      refine XS.isub X152.here hx rfl (hb hby d30_22) rfl ?_
      rw [own_sub0 _]
      refine XS.iloadN X152.here hx rfl (hb hby d30_23) rfl ?_
      exact h)
  obtain ⟨_, _, ⟨T160, L160, kk160, n160⟩, -, X160, ⟨Lc160, hQ160, l160, y160, z160⟩, st160⟩ := Jvm.LawKit.callS X152 hx (y := (⟨"java/lang/Math", "min", "(II)I"⟩ : MethodName)) hown (mvT hZ (hw _ (gm 170 rfl))) (mvT hZ (hw _ (gm 171 rfl))) (mvT hZ (hw _ (gm 172 rfl))) (mvT hZ (hw _ (gm 173 rfl))) (by decide) (backOf (W := 4) (rmMN l Z a0 hw [] (Int32.ofNat cap) (Int32.ofNat bs.length)  h152 n0 O155 ((own_olt (by omega) (by omega)).mpr hlt)) hZ (hw _ (gm 173 rfl)) (hw _ (gm 172 rfl)) (by decide) (by decide)) (g := (mkF m 24 #[vR tb, vI 0, vI (Int32.ofNat bs.length), vI (Int32.ofNat bs.length), vR b152] [(.int (Int32.ofNat bs.length)), (.int (Int32.ofNat cap)), (.int (0 : Int32)), (.ref b152), (.int (0 : Int32)), (.ref tb)])) rfl (by rw [hml]; rfl) (argsL := [(.int (Int32.ofNat cap)), (.int (Int32.ofNat bs.length))]) (rest := [(.int (0 : Int32)), (.ref b152), (.int (0 : Int32)), (.ref tb)]) (lenOf pd_24 rfl) rfl (by show 2 * 0 + _ ≤ _; exact Nat.le_of_eq rfl) (hb hby d30_24) (fun _ _ => ⟨rfl, e152, (by decide : 1 + 0 ≤ _), (by decide : 32 + 0 ≤ _)⟩)
  dsimp only [Pt.U, Pt.locs, Pt.cells, Pt.slots] at X160 l160 y160 z160 st160 hQ160
  subst l160 y160 z160
  obtain ⟨rfl, Nq160, hh160⟩ := hQ160
  have N160 := Fr.app N150 Nq160
  have k161 : Rch p e below S0 T160 (mkF m 27 #[vR tb, vI 0, vI (Int32.ofNat bs.length), vI (Int32.ofNat bs.length), vR b152] [(.int (Int32.ofNat bs.length)), (.int (0 : Int32)), (.ref b152), (.int (0 : Int32)), (.ref tb)]) := fun t h => k159 t (st160 t h)
  obtain ⟨T162, h162, L162, X162, e162, N162, K162, V162, st162⟩ := cpA X160 hx hZ hown (hw _ (gm 174 rfl)) (hw _ (gm 114 rfl)) (hw _ (gm 112 rfl)) (hw _ (gm 113 rfl)) hh160 Vb (V_b152.pad (pad_rep ([]) (.int (0 : Int32)) 32)) (Or.inl ⟨rfl, rfl⟩) (by decide) (by decide) (own_on0 (by omega)) (by rw [(own_tn (i := bs.length) (by omega)).1, show ((0 : Int32)).toNatClampNeg = 0 from rfl, (own_tn (i := cap) (by omega)).1]; omega) (by rw [show ((0 : Int32)).toNatClampNeg = 0 from rfl]; omega) rfl (by rw [(own_tn (i := bs.length) (by omega)).1, show ((0 : Int32)).toNatClampNeg = 0 from rfl]; simp; omega) N160 ge_b152 (g := (mkF m 27 #[vR tb, vI 0, vI (Int32.ofNat bs.length), vI (Int32.ofNat bs.length), vR b152] [(.int (Int32.ofNat bs.length)), (.int (0 : Int32)), (.ref b152), (.int (0 : Int32)), (.ref tb)])) rfl (by rw [hml]; rfl) rfl (hb hby d30_27) (by decide) (W := 0) (by show 2 * 0 + _ ≤ _; exact Nat.le_of_eq rfl) (by decide)
  have k163 : Rch p e below S0 T162 (mkF m 30 #[vR tb, vI 0, vI (Int32.ofNat bs.length), vI (Int32.ofNat bs.length), vR b152] []) := fun t h => k161 t (st162 t h)
  rw [(own_tn (i := bs.length) (by omega)).1, show ((0 : Int32)).toNatClampNeg = 0 from rfl] at V162
  replace V162 := own_cp ([]) (bs) (32) V162
  have O164 := O155.keep K162 (allS ge_b152 all0)
  have K165 := K156.trans K162 (allS (Or.inr sz_b152) all0)
  replace Vb := Vb.keep K162 (ninS ne_tb_b152 nin0)
  replace E_b152 := E_b152.keep K162
  have k166 : Rch p e below S0 T162 (mkF m 32 #[vR tb, vI 0, vI (Int32.ofNat bs.length), vI (Int32.ofNat bs.length), vR b152] [(.ref b152)]) := fun t h => k163 t (by
      show Steps p.tables e below (T162.setTop (mkF m 30 #[vR tb, vI 0, vI (Int32.ofNat bs.length), vI (Int32.ofNat bs.length), vR b152] [])) _
      refine XS.aload X162.here hx rfl (hb hby d30_30) rfl rfl ?_
      exact h)
  obtain ⟨fs, hr, hrun, hended, hW, hsame⟩ := X162.leave (v := (some (.ref b152))) (fun h => by rw [Bd.returns] at h; cases h)
  refine ⟨_, _, ?_, hrun, hended, _, _, rfl, ?_, ⟨_, rfl⟩, hW, hsame.mono (by decide) (by decide)⟩
  · rw [← hS0]
    refine k166 _ ?_
    show Steps p.tables e below (T162.setTop (mkF m 32 #[vR tb, vI 0, vI (Int32.ofNat bs.length), vI (Int32.ofNat bs.length), vR b152] [(.ref b152)])) _
    jvm_step X162.here [X162.here.top, hx, (hb hby d30_32), X162.method', Bd.returns, Value.isRef, FieldType.isReference]
    first | (intro acts; rw [hr _ acts rfl rfl rfl]) | rw [hr _ _ rfl rfl rfl]
    exact Steps.refl _
  · show Q_rmBY Z bs h0 n0 _ T162.heap _
    rw [e162]
    exact ⟨_, _, rfl, N162, own_ext K165, sz_b152, E_b152, V162⟩
def Q_rmCR (Z : State) (bs : List Int32) (h0 : Heap) (n0 : Nat) (v : Option Value) (h : Heap) (L : List Loc) : Prop := ∃ y ky, v = some (.ref y) ∧ Fr n0 L ∧ Ext h0 h ∧ h0.size ≤ y ∧ Exa Z h y "[B" ∧ Arv Z h y ky .byte (Int32.ofNat bs.length) (bs.map Value.int) (.int (0 : Int32))
theorem ef_29 (m : MethodId) (x0 : Addr) (x1 : Int32) (x2 : Int32) : entryFrame m #[(.ref x0), (.int x1), (.int x2)] 3 = mkF m 0 #[.val (.ref x0), .val (.int x1), .val (.int x2)] [] := by first | (simp [entryFrame, mkF, argsToLocals, Value.category]; done) | rfl
theorem d29_0 : decode jdk_65_method_132_code 0 = .ok (.iload_n 1, 1) := by decide +kernel
theorem d29_1 : decode jdk_65_method_132_code 1 = .ok (.ifCond .ne 9, 3) := by decide +kernel
theorem d29_4 : decode jdk_65_method_132_code 4 = .ok (.iload_n 2, 1) := by decide +kernel
theorem d29_5 : decode jdk_65_method_132_code 5 = .ok (.aload_n 0, 1) := by decide +kernel
theorem d29_6 : decode jdk_65_method_132_code 6 = .ok (.arraylength, 1) := by decide +kernel
theorem d29_7 : decode jdk_65_method_132_code 7 = .ok (.if_icmp .eq 10, 3) := by decide +kernel
theorem d29_10 : decode jdk_65_method_132_code 10 = .ok (.aload_n 0, 1) := by decide +kernel
theorem d29_11 : decode jdk_65_method_132_code 11 = .ok (.iload_n 1, 1) := by decide +kernel
theorem d29_12 : decode jdk_65_method_132_code 12 = .ok (.iload_n 2, 1) := by decide +kernel
theorem pd_22 : parseMethodDescriptor "([BII)[B" = some ⟨[(.array .byte), .int, .int], some (.array .byte)⟩ := by decide +kernel
theorem d29_13 : decode jdk_65_method_132_code 13 = .ok (.invokestatic 339, 3) := by decide +kernel
theorem d29_16 : decode jdk_65_method_132_code 16 = .ok (.areturn, 1) := by decide +kernel
set_option maxRecDepth 65536 in
set_option maxHeartbeats 40000000 in
theorem rmCR (l : Launch) (Z : State) (a0 : Array Value) (hw : ∀ d ∈ tables_1, d.before a0 Z = true) (ws : List Jvm.Cond) (tb : Addr) (kb : ClassId) (cap : Nat) (bs : List Int32) (h0 : Heap) (n0 : Nat) (O0 : Old Z n0 h0) (Vb : Arv Z h0 tb kb .byte (Int32.ofNat cap) (bs.map Value.int) (.int (0 : Int32))) (hlt : bs.length < cap) (hc2 : cap ≤ 32) :
    MetFree l (⟨"java/util/Arrays", "copyOfRange", "([BII)[B"⟩ : MethodName) (head1 (Jvm.Cond.code (⟨"java/util/Arrays", "copyOfRange", "([BII)[B"⟩ : MethodName) jdk_65_method_132_code 3 (some (.array .byte)) :: ws) ({ frames := 2, cells := 1, slots := 32, locals := 50 } : Room)) (fun a U => a = #[(.ref tb), (.int (0 : Int32)), (.int (Int32.ofNat bs.length))] ∧ Z.Warmed39 U.vm ∧ U.heap = h0) (fun _ _ _ _ _ => True) (fun _ U o U' => ∃ v L, o = .returned v ∧ Q_rmCR Z bs h0 n0 v U'.heap L ∧ FrameEnd U o U' L ({ frames := 2, cells := 1, slots := 32, locals := 50 } : Room).cells ({ frames := 2, cells := 1, slots := 32, locals := 50 } : Room).slots) := by
  refine MetFree.of_bodySF (plainFor_of_name pn_Arrays) hisR ?_
  intro p e s m args below meth c s₁ Bd hml0 hP hK
  obtain ⟨rfl, hZ, hh⟩ := hP
  have hx := Bd.exec
  have hby := Bd.bytes
  have hml : c.maxLocals = 3 := hml0
  have hown : s.vm.findClass "java/util/Arrays" = some m.cls := findClass_of_methodNamed Bd.named
  have hnm := (name_of_methodNamed Bd.named Bd.method).1
  have X0 : Stand p l e ({ frames := 2, cells := 1, slots := 32, locals := 50 } : Room) s m #[(.ref tb), (.int (0 : Int32)), (.int (Int32.ofNat bs.length))] below meth c s₁ [] 0 0 := Stand.of_body Bd
  have e0 : s₁.heap = h0 := by rw [← hh, Bd.state]; rfl
  have N0 := Fr.nil n0
  obtain ⟨S0, hS0⟩ : ∃ z, z = s₁.setTop (entryFrame m #[(.ref tb), (.int (0 : Int32)), (.int (Int32.ofNat bs.length))] 3) := ⟨_, rfl⟩
  have k0 : Rch p e below S0 s₁ (mkF m 0 #[vR tb, vI 0, vI (Int32.ofNat bs.length)] []) := fun t kq => hS0 ▸ castTop (ef_29 m tb (0 : Int32) (Int32.ofNat bs.length)) kq
  have K0 : Keep h0 h0 [] := Keep.refl h0 _
  have k168 : Rch p e below S0 s₁ (mkF m 6 #[vR tb, vI 0, vI (Int32.ofNat bs.length)] [(.ref tb), (.int (Int32.ofNat bs.length))]) := fun t h => k0 t (by
      show Steps p.tables e below (s₁.setTop (mkF m 0 #[vR tb, vI 0, vI (Int32.ofNat bs.length)] [])) _
      refine XS.iloadN X0.here hx rfl (hb hby d29_0) rfl ?_
      refine XS.ifNo X0.here hx rfl (hb hby d29_1) rfl ((if0 _ _).trans (teq (by decide : (0 : Int32) = (0 : Int32))).2) ?_
      refine XS.iloadN X0.here hx rfl (hb hby d29_4) rfl ?_
      refine XS.aloadN X0.here hx rfl (hb hby d29_5) rfl rfl ?_
      exact h)
  obtain ⟨cl167, Ar167, q167, Sz167, Ng167, Hs167, G167⟩ := id Vb
  have k169 : Rch p e below S0 s₁ (mkF m 13 #[vR tb, vI 0, vI (Int32.ofNat bs.length)] [(.int (Int32.ofNat bs.length)), (.int (0 : Int32)), (.ref tb)]) := fun t h => k168 t (by
      show Steps p.tables e below (s₁.setTop (mkF m 6 #[vR tb, vI 0, vI (Int32.ofNat bs.length)] [(.ref tb), (.int (Int32.ofNat bs.length))])) _
      refine X0.arraylength hx (by rw [e0]; exact Ar167.1) (State.isArrayOf_alike hZ.alike Ar167.2.1) (g := (mkF m 6 #[vR tb, vI 0, vI (Int32.ofNat bs.length)] [(.ref tb), (.int (Int32.ofNat bs.length))])) rfl rfl (hb hby d29_6) _ ?_
      rw [len_of Sz167 Ng167]
      refine XS.icmpNo X0.here hx rfl (hb hby d29_7) rfl (feq ((own_one hlt (by omega)) : ¬ ((Int32.ofNat bs.length) = (Int32.ofNat cap)))).1 ?_
      refine XS.aloadN X0.here hx rfl (hb hby d29_10) rfl rfl ?_
      refine XS.iloadN X0.here hx rfl (hb hby d29_11) rfl ?_
      refine XS.iloadN X0.here hx rfl (hb hby d29_12) rfl ?_
      exact h)
  obtain ⟨_, _, ⟨T170, L170, kk170, n170⟩, -, X170, ⟨Lc170, hQ170, l170, y170, z170⟩, st170⟩ := Jvm.LawKit.callS X0 hx (y := (⟨"java/util/Arrays", "copyOfRangeByte", "([BII)[B"⟩ : MethodName)) hown (mvT hZ (hw _ (gm 164 rfl))) (mvT hZ (hw _ (gm 165 rfl))) (mvT hZ (hw _ (gm 162 rfl))) (mvT hZ (hw _ (gm 166 rfl))) (by decide) (backOf (W := 0) (rmBY l Z a0 hw [] tb kb cap bs h0 n0 O0 Vb hlt hc2) hZ (hw _ (gm 166 rfl)) (hw _ (gm 162 rfl)) (by decide) (by decide)) (g := (mkF m 13 #[vR tb, vI 0, vI (Int32.ofNat bs.length)] [(.int (Int32.ofNat bs.length)), (.int (0 : Int32)), (.ref tb)])) rfl (by rw [hml]; rfl) (argsL := [(.ref tb), (.int (0 : Int32)), (.int (Int32.ofNat bs.length))]) (rest := []) (lenOf pd_22 rfl) rfl (by show 2 * 0 + _ ≤ _; exact Nat.le_of_eq rfl) (hb hby d29_13) (fun _ _ => ⟨rfl, e0, (by decide : 0 + 1 ≤ _), (by decide : 0 + 32 ≤ _)⟩)
  dsimp only [Pt.U, Pt.locs, Pt.cells, Pt.slots] at X170 l170 y170 z170 st170 hQ170
  subst l170 y170 z170
  obtain ⟨y170, ky170, rfl, Nq170, E170, z170, Ey170, V170⟩ := hQ170
  have N170 := Fr.app N0 Nq170
  have k171 : Rch p e below S0 T170 (mkF m 16 #[vR tb, vI 0, vI (Int32.ofNat bs.length)] [(.ref y170)]) := fun t h => k169 t (st170 t h)
  have ne_tb_y170 : tb ≠ y170 := own_ne Vb.lt z170
  have ge_y170 : n0 ≤ y170 := own_ge O0 z170
  have sz_y170 : h0.size ≤ y170 := Nat.le_trans K0.1 z170
  have O172 := O0.ext E170
  have K173 := K0.ext E170
  replace Vb := Vb.ext E170
  obtain ⟨fs, hr, hrun, hended, hW, hsame⟩ := X170.leave (v := (some (.ref y170))) (fun h => by rw [Bd.returns] at h; cases h)
  refine ⟨_, _, ?_, hrun, hended, _, _, rfl, ?_, ⟨_, rfl⟩, hW, hsame.mono (by decide) (by decide)⟩
  · rw [← hS0]
    refine k171 _ ?_
    show Steps p.tables e below (T170.setTop (mkF m 16 #[vR tb, vI 0, vI (Int32.ofNat bs.length)] [(.ref y170)])) _
    jvm_step X170.here [X170.here.top, hx, (hb hby d29_16), X170.method', Bd.returns, Value.isRef, FieldType.isReference]
    first | (intro acts; rw [hr _ acts rfl rfl rfl]) | rw [hr _ _ rfl rfl rfl]
    exact Steps.refl _
  · show Q_rmCR Z bs h0 n0 _ T170.heap _
    exact ⟨_, _, rfl, N170, own_ext K173, sz_y170, Ey170, V170⟩
def Q_rmSV (Z : State) (b1 : Addr) (bs : List Int32) (h0 : Heap) (n0 : Nat) (v : Option Value) (h : Heap) (L : List Loc) : Prop := v = none ∧ Fr n0 L ∧ Keep h0 h [b1] ∧ ∃ y ky, h0.size ≤ y ∧ Exa Z h y "[B" ∧ Fld Z h b1 "java/lang/String" "value" "[B" (.ref y) ∧ Fld Z h b1 "java/lang/String" "coder" "B" (.int (0 : Int32)) ∧ Arv Z h y ky .byte (Int32.ofNat bs.length) (bs.map Value.int) (.int (0 : Int32))
theorem ef_24n (m : MethodId) (x0 : Addr) (x1 : Addr) : entryFrame m #[(.ref x0), (.ref x1), .null] 5 = mkF m 0 #[.val (.ref x0), .val (.ref x1), .val .null, .unset, .unset] [] := by first | (simp [entryFrame, mkF, argsToLocals, Value.category]; done) | rfl
theorem d24_0 : decode jdk_42_method_150_code 0 = .ok (.aload_n 0, 1) := by decide +kernel
theorem d24_1 : decode jdk_42_method_150_code 1 = .ok (.invokespecial 1, 3) := by decide +kernel
theorem d24_4 : decode jdk_42_method_150_code 4 = .ok (.aload_n 1, 1) := by decide +kernel
theorem pd_17 : parseMethodDescriptor "()[B" = some ⟨[], some (.array .byte)⟩ := by decide +kernel
theorem d24_5 : decode jdk_42_method_150_code 5 = .ok (.invokevirtual 552, 3) := by decide +kernel
theorem d24_8 : decode jdk_42_method_150_code 8 = .ok (.astore_n 3, 1) := by decide +kernel
theorem d24_9 : decode jdk_42_method_150_code 9 = .ok (.aload_n 1, 1) := by decide +kernel
theorem d24_10 : decode jdk_42_method_150_code 10 = .ok (.invokevirtual 549, 3) := by decide +kernel
theorem d24_13 : decode jdk_42_method_150_code 13 = .ok (.istore 4, 2) := by decide +kernel
theorem d24_15 : decode jdk_42_method_150_code 15 = .ok (.aload_n 1, 1) := by decide +kernel
theorem pd_21 : parseMethodDescriptor "()Z" = some ⟨[], some .boolean⟩ := by decide +kernel
theorem d24_16 : decode jdk_42_method_150_code 16 = .ok (.invokevirtual 1047, 3) := by decide +kernel
theorem d24_19 : decode jdk_42_method_150_code 19 = .ok (.ifCond .eq 22, 3) := by decide +kernel
theorem d24_22 : decode jdk_42_method_150_code 22 = .ok (.aload_n 0, 1) := by decide +kernel
theorem d24_23 : decode jdk_42_method_150_code 23 = .ok (.iconst 0, 1) := by decide +kernel
theorem d24_24 : decode jdk_42_method_150_code 24 = .ok (.putfield 15, 3) := by decide +kernel
theorem d24_27 : decode jdk_42_method_150_code 27 = .ok (.aload_n 0, 1) := by decide +kernel
theorem d24_28 : decode jdk_42_method_150_code 28 = .ok (.aload_n 3, 1) := by decide +kernel
theorem d24_29 : decode jdk_42_method_150_code 29 = .ok (.iconst 0, 1) := by decide +kernel
theorem d24_30 : decode jdk_42_method_150_code 30 = .ok (.iload 4, 2) := by decide +kernel
theorem d24_32 : decode jdk_42_method_150_code 32 = .ok (.invokestatic 54, 3) := by decide +kernel
theorem d24_35 : decode jdk_42_method_150_code 35 = .ok (.putfield 9, 3) := by decide +kernel
theorem d24_38 : decode jdk_42_method_150_code 38 = .ok (.goto 59, 3) := by decide +kernel
theorem d24_97 : decode jdk_42_method_150_code 97 = .ok (.return_, 1) := by decide +kernel
set_option maxRecDepth 65536 in
set_option maxHeartbeats 40000000 in
theorem rmSV (l : Launch) (Z : State) (a0 : Array Value) (hw : ∀ d ∈ tables_1, d.before a0 Z = true) (ws : List Jvm.Cond) (b1 : Addr) (sb : Addr) (tb : Addr) (kb : ClassId) (cap : Nat) (bs : List Int32) (zC : Int32) (h0 : Heap) (n0 : Nat) (O0 : Old Z n0 h0) (SC : Sta Z Z.heap "java/lang/String" "COMPACT_STRINGS" "Z" (.int zC)) (hzC : ¬ zC = 0) (ge_b1 : n0 ≤ b1) (E_b1 : Exa Z h0 b1 "java/lang/String") (F_b1_value : Fld Z h0 b1 "java/lang/String" "value" "[B" .null) (F_b1_coder : Fld Z h0 b1 "java/lang/String" "coder" "B" (.int (0 : Int32))) (ne_tb_b1 : tb ≠ b1) (E_sb : Exa Z h0 sb "java/lang/StringBuilder") (Fc : Fld Z h0 sb "java/lang/AbstractStringBuilder" "coder" "B" (.int (0 : Int32))) (Fv : Fld Z h0 sb "java/lang/AbstractStringBuilder" "value" "[B" (.ref tb)) (Fn : Fld Z h0 sb "java/lang/AbstractStringBuilder" "count" "I" (.int (Int32.ofNat bs.length))) (Vb : Arv Z h0 tb kb .byte (Int32.ofNat cap) (bs.map Value.int) (.int (0 : Int32))) (hlt : bs.length < cap) (hc2 : cap ≤ 32) :
    MetFree l (⟨"java/lang/String", "<init>", "(Ljava/lang/AbstractStringBuilder;Ljava/lang/Void;)V"⟩ : MethodName) (head1 (Jvm.Cond.code (⟨"java/lang/String", "<init>", "(Ljava/lang/AbstractStringBuilder;Ljava/lang/Void;)V"⟩ : MethodName) jdk_42_method_150_code 5 none :: ws) ({ frames := 3, cells := 1, slots := 32, locals := 70 } : Room)) (fun a U => a = #[(.ref b1), (.ref sb), .null] ∧ Z.Warmed39 U.vm ∧ U.heap = h0) (fun _ _ _ _ _ => True) (fun _ U o U' => ∃ v L, o = .returned v ∧ Q_rmSV Z b1 bs h0 n0 v U'.heap L ∧ FrameEnd U o U' L ({ frames := 3, cells := 1, slots := 32, locals := 70 } : Room).cells ({ frames := 3, cells := 1, slots := 32, locals := 70 } : Room).slots) := by
  refine MetFree.of_bodySF (plainFor_of_name pn_String) hisR ?_
  intro p e s m args below meth c s₁ Bd hml0 hP hK
  obtain ⟨rfl, hZ, hh⟩ := hP
  have hx := Bd.exec
  have hby := Bd.bytes
  have hml : c.maxLocals = 5 := hml0
  have hown : s.vm.findClass "java/lang/String" = some m.cls := findClass_of_methodNamed Bd.named
  have hnm := (name_of_methodNamed Bd.named Bd.method).1
  have X0 : Stand p l e ({ frames := 3, cells := 1, slots := 32, locals := 70 } : Room) s m #[(.ref b1), (.ref sb), .null] below meth c s₁ [] 0 0 := Stand.of_body Bd
  have e0 : s₁.heap = h0 := by rw [← hh, Bd.state]; rfl
  have N0 := Fr.nil n0
  obtain ⟨S0, hS0⟩ : ∃ z, z = s₁.setTop (entryFrame m #[(.ref b1), (.ref sb), .null] 5) := ⟨_, rfl⟩
  have k0 : Rch p e below S0 s₁ (mkF m 0 #[vR b1, vR sb, .val .null, vU, vU] []) := fun t kq => hS0 ▸ castTop (ef_24n m b1 sb) kq
  have K0 : Keep h0 h0 [b1] := Keep.refl h0 _
  have k175 : Rch p e below S0 s₁ (mkF m 1 #[vR b1, vR sb, .val .null, vU, vU] [(.ref b1)]) := fun t h => k0 t (by
      show Steps p.tables e below (s₁.setTop (mkF m 0 #[vR b1, vR sb, .val .null, vU, vU] [])) _
      refine XS.aloadN X0.here hx rfl (hb hby d24_0) rfl rfl ?_
      exact h)
  obtain ⟨T174, X174, e174, st174⟩ := initO X0 hx hZ hown (hw _ (gm 11 rfl)) (hw _ (gm 12 rfl)) (hw _ (gm 13 rfl)) e0 (g := (mkF m 1 #[vR b1, vR sb, .val .null, vU, vU] [(.ref b1)])) rfl (by rw [hml]; rfl) rfl (hb hby d24_1) (by decide) (W := 0) (by show 2 * 0 + _ ≤ _; exact Nat.le_of_eq rfl) (by decide)
  have k176 : Rch p e below S0 T174 (mkF m 4 #[vR b1, vR sb, .val .null, vU, vU] []) := fun t h => k175 t (st174 t h)
  have k177 : Rch p e below S0 T174 (mkF m 5 #[vR b1, vR sb, .val .null, vU, vU] [(.ref sb)]) := fun t h => k176 t (by
      show Steps p.tables e below (T174.setTop (mkF m 4 #[vR b1, vR sb, .val .null, vU, vU] [])) _
      refine XS.aloadN X174.here hx rfl (hb hby d24_4) rfl rfl ?_
      exact h)
  obtain ⟨cq178, kq178, q178a, q178b, q178c⟩ := isOf hZ e174 E_sb
  obtain ⟨_, _, ⟨T178, L178, kk178, n178⟩, -, X178, ⟨Lc178, hQ178, l178, y178, z178⟩, st178⟩ := X174.virtualBack hx (y := (⟨"java/lang/AbstractStringBuilder", "getValue", "()[B"⟩ : MethodName)) (z := (⟨"java/lang/AbstractStringBuilder", "getValue", "()[B"⟩ : MethodName)) hown (mvT hZ (hw _ (gm 142 rfl))) (mvT hZ (hw _ (gm 143 rfl))) (notFace_of_selects (args := #[]) (mvT hZ (hw _ (gm 145 rfl)))) (mvT hZ (hw _ (gm 145 rfl))) (mvT hZ (hw _ (gm 144 rfl))) (by decide) (backOf (W := 0) (rmGV l Z a0 hw [] sb tb  h0 n0 O0 Fv) hZ (hw _ (gm 146 rfl)) (hw _ (gm 55 rfl)) (by decide) (by decide)) q178a q178c (g := (mkF m 5 #[vR b1, vR sb, .val .null, vU, vU] [(.ref sb)])) rfl (by rw [hml]; rfl) (Steps.refl _) (argsL := []) (rest := []) (lenOf pd_17 rfl) rfl (by show 2 * 0 + _ ≤ _; exact Nat.le_of_eq rfl) (hb hby d24_5) (fun _ _ => ⟨rfl, e174, (by decide : 0 + 0 ≤ _), (by decide : 0 + 0 ≤ _)⟩)
  dsimp only [Pt.U, Pt.locs, Pt.cells, Pt.slots] at X178 l178 y178 z178 st178 hQ178
  subst l178 y178 z178
  obtain ⟨rfl, Nq178, hh178⟩ := hQ178
  have N178 := Fr.app N0 Nq178
  have k179 : Rch p e below S0 T178 (mkF m 8 #[vR b1, vR sb, .val .null, vU, vU] [(.ref tb)]) := fun t h => k177 t (st178.trans h)
  have k180 : Rch p e below S0 T178 (mkF m 10 #[vR b1, vR sb, .val .null, vR tb, vU] [(.ref sb)]) := fun t h => k179 t (by
      show Steps p.tables e below (T178.setTop (mkF m 8 #[vR b1, vR sb, .val .null, vU, vU] [(.ref tb)])) _
      refine XS.astoreN X178.here hx rfl (hb hby d24_8) rfl rfl (l' := #[vR b1, vR sb, .val .null, vR tb, vU]) rfl ?_
      refine XS.aloadN X178.here hx rfl (hb hby d24_9) rfl rfl ?_
      exact h)
  obtain ⟨cq181, kq181, q181a, q181b, q181c⟩ := isOf hZ hh178 E_sb
  obtain ⟨_, _, ⟨T181, L181, kk181, n181⟩, -, X181, ⟨Lc181, hQ181, l181, y181, z181⟩, st181⟩ := X178.virtualBack hx (y := (⟨"java/lang/AbstractStringBuilder", "length", "()I"⟩ : MethodName)) (z := (⟨"java/lang/StringBuilder", "length", "()I"⟩ : MethodName)) hown (mvT hZ (hw _ (gm 147 rfl))) (mvT hZ (hw _ (gm 148 rfl))) (own_nf (args := #[]) (y' := (⟨"java/lang/AbstractStringBuilder", "ensureCapacityInternal", "(I)V"⟩ : MethodName)) rfl (mvT hZ (hw _ (gm 93 rfl)))) (mvT hZ (hw _ (gm 150 rfl))) (mvT hZ (hw _ (gm 151 rfl))) (by decide) (backOf (W := 0) (rmLS l Z a0 hw [] sb bs h0 n0 O0 E_sb Fn) hZ (hw _ (gm 152 rfl)) (hw _ (gm 46 rfl)) (by decide) (by decide)) q181a q181c (g := (mkF m 10 #[vR b1, vR sb, .val .null, vR tb, vU] [(.ref sb)])) rfl (by rw [hml]; rfl) (Steps.refl _) (argsL := []) (rest := []) (lenOf pd_8 rfl) rfl (by show 2 * 0 + _ ≤ _; exact Nat.le_of_eq rfl) (hb hby d24_10) (fun _ _ => ⟨rfl, hh178, (by decide : 0 + 0 ≤ _), (by decide : 0 + 0 ≤ _)⟩)
  dsimp only [Pt.U, Pt.locs, Pt.cells, Pt.slots] at X181 l181 y181 z181 st181 hQ181
  subst l181 y181 z181
  obtain ⟨rfl, Nq181, hh181⟩ := hQ181
  have N181 := Fr.app N178 Nq181
  have k182 : Rch p e below S0 T181 (mkF m 13 #[vR b1, vR sb, .val .null, vR tb, vU] [(.int (Int32.ofNat bs.length))]) := fun t h => k180 t (st181.trans h)
  have k183 : Rch p e below S0 T181 (mkF m 16 #[vR b1, vR sb, .val .null, vR tb, vI (Int32.ofNat bs.length)] [(.ref sb)]) := fun t h => k182 t (by
      show Steps p.tables e below (T181.setTop (mkF m 13 #[vR b1, vR sb, .val .null, vR tb, vU] [(.int (Int32.ofNat bs.length))])) _
      refine XS.istore X181.here hx rfl (hb hby d24_13) rfl (l' := #[vR b1, vR sb, .val .null, vR tb, vI (Int32.ofNat bs.length)]) rfl ?_
      refine XS.aloadN X181.here hx rfl (hb hby d24_15) rfl rfl ?_
      exact h)
  obtain ⟨cq184, kq184, q184a, q184b, q184c⟩ := isOf hZ hh181 E_sb
  obtain ⟨_, _, ⟨T184, L184, kk184, n184⟩, -, X184, ⟨Lc184, hQ184, l184, y184, z184⟩, st184⟩ := X181.virtualBack hx (y := (⟨"java/lang/AbstractStringBuilder", "isLatin1", "()Z"⟩ : MethodName)) (z := (⟨"java/lang/AbstractStringBuilder", "isLatin1", "()Z"⟩ : MethodName)) hown (mvT hZ (hw _ (gm 155 rfl))) (mvT hZ (hw _ (gm 156 rfl))) (notFace_of_selects (args := #[]) (mvT hZ (hw _ (gm 158 rfl)))) (mvT hZ (hw _ (gm 158 rfl))) (mvT hZ (hw _ (gm 157 rfl))) (by decide) (backOf (W := 0) (rmIA l Z a0 hw [] sb zC h0 n0 O0 SC hzC Fc) hZ (hw _ (gm 159 rfl)) (hw _ (gm 55 rfl)) (by decide) (by decide)) q184a q184c (g := (mkF m 16 #[vR b1, vR sb, .val .null, vR tb, vI (Int32.ofNat bs.length)] [(.ref sb)])) rfl (by rw [hml]; rfl) (Steps.refl _) (argsL := []) (rest := []) (lenOf pd_21 rfl) rfl (by show 2 * 0 + _ ≤ _; exact Nat.le_of_eq rfl) (hb hby d24_16) (fun _ _ => ⟨rfl, hh181, (by decide : 0 + 0 ≤ _), (by decide : 0 + 0 ≤ _)⟩)
  dsimp only [Pt.U, Pt.locs, Pt.cells, Pt.slots] at X184 l184 y184 z184 st184 hQ184
  subst l184 y184 z184
  obtain ⟨rfl, Nq184, hh184⟩ := hQ184
  have N184 := Fr.app N181 Nq184
  have k185 : Rch p e below S0 T184 (mkF m 19 #[vR b1, vR sb, .val .null, vR tb, vI (Int32.ofNat bs.length)] [(.int (1 : Int32))]) := fun t h => k183 t (st184.trans h)
  have k187 : Rch p e below S0 T184 (mkF m 24 #[vR b1, vR sb, .val .null, vR tb, vI (Int32.ofNat bs.length)] [(.int (0 : Int32)), (.ref b1)]) := fun t h => k185 t (by
      show Steps p.tables e below (T184.setTop (mkF m 19 #[vR b1, vR sb, .val .null, vR tb, vI (Int32.ofNat bs.length)] [(.int (1 : Int32))])) _
      refine XS.ifNo X184.here hx rfl (hb hby d24_19) rfl ((if0 _ _).trans (feq (by decide : ¬ ((1 : Int32) = (0 : Int32)))).1) ?_
      refine XS.aloadN X184.here hx rfl (hb hby d24_22) rfl rfl ?_
      refine XS.iconst X184.here hx rfl (hb hby d24_23) ?_
      exact h)
  obtain ⟨T186, h186, X186, e186, W186, st186⟩ := putFN X184 hx hZ hown (hw _ (gm 21 rfl)) Via.refl hh184 F_b1_coder E_b1 (Or.inr ⟨(hw _ (gm 17 rfl)), rfl, hnm⟩) (hw _ (gm 2 rfl)) (ty := .byte) (v' := (.int (0 : Int32))) (by decide) (by decide) (by decide) (g := (mkF m 24 #[vR b1, vR sb, .val .null, vR tb, vI (Int32.ofNat bs.length)] [(.int (0 : Int32)), (.ref b1)])) rfl rfl (hb hby d24_24)
  have k188 : Rch p e below S0 T186 (mkF m 27 #[vR b1, vR sb, .val .null, vR tb, vI (Int32.ofNat bs.length)] []) := fun t h => k187 t (st186 t h)
  have N186 := Fr.snoc X186 N184 ge_b1
  replace F_b1_coder := F_b1_coder.same W186
  have O189 := O0.wr W186 ge_b1
  have K190 := K0.wr W186 (Or.inl (gm 0 rfl))
  replace Vb := Vb.other W186 ne_tb_b1
  replace E_b1 := E_b1.wr W186
  replace F_b1_value := F_b1_value.other W186 (Or.inr (slot_ne (Or.inr (hw _ (gm 16 rfl))) (Or.inr (hw _ (gm 17 rfl))) (by decide) (t := (.array .byte)) (t' := .byte) (by decide) (by decide)))
  have k191 : Rch p e below S0 T186 (mkF m 32 #[vR b1, vR sb, .val .null, vR tb, vI (Int32.ofNat bs.length)] [(.int (Int32.ofNat bs.length)), (.int (0 : Int32)), (.ref tb), (.ref b1)]) := fun t h => k188 t (by
      show Steps p.tables e below (T186.setTop (mkF m 27 #[vR b1, vR sb, .val .null, vR tb, vI (Int32.ofNat bs.length)] [])) _
      refine XS.aloadN X186.here hx rfl (hb hby d24_27) rfl rfl ?_
      refine XS.aloadN X186.here hx rfl (hb hby d24_28) rfl rfl ?_
      refine XS.iconst X186.here hx rfl (hb hby d24_29) ?_
      refine XS.iload X186.here hx rfl (hb hby d24_30) rfl ?_
      exact h)
  obtain ⟨_, _, ⟨T192, L192, kk192, n192⟩, -, X192, ⟨Lc192, hQ192, l192, y192, z192⟩, st192⟩ := Jvm.LawKit.callS X186 hx (y := (⟨"java/util/Arrays", "copyOfRange", "([BII)[B"⟩ : MethodName)) hown (mvT hZ (hw _ (gm 160 rfl))) (mvT hZ (hw _ (gm 161 rfl))) (mvT hZ (hw _ (gm 162 rfl))) (mvT hZ (hw _ (gm 163 rfl))) (by decide) (backOf (W := 1) (rmCR l Z a0 hw [] tb kb cap bs h186 n0 O189 Vb hlt hc2) hZ (hw _ (gm 163 rfl)) (hw _ (gm 162 rfl)) (by decide) (by decide)) (g := (mkF m 32 #[vR b1, vR sb, .val .null, vR tb, vI (Int32.ofNat bs.length)] [(.int (Int32.ofNat bs.length)), (.int (0 : Int32)), (.ref tb), (.ref b1)])) rfl (by rw [hml]; rfl) (argsL := [(.ref tb), (.int (0 : Int32)), (.int (Int32.ofNat bs.length))]) (rest := [(.ref b1)]) (lenOf pd_22 rfl) rfl (by show 2 * 0 + _ ≤ _; exact Nat.le_of_eq rfl) (hb hby d24_32) (fun _ _ => ⟨rfl, e186, (by decide : 0 + 1 ≤ _), (by decide : 0 + 32 ≤ _)⟩)
  dsimp only [Pt.U, Pt.locs, Pt.cells, Pt.slots] at X192 l192 y192 z192 st192 hQ192
  subst l192 y192 z192
  obtain ⟨y192, ky192, rfl, Nq192, E192, z192, Ey192, V192⟩ := hQ192
  have N192 := Fr.app N186 Nq192
  have k193 : Rch p e below S0 T192 (mkF m 35 #[vR b1, vR sb, .val .null, vR tb, vI (Int32.ofNat bs.length)] [(.ref y192), (.ref b1)]) := fun t h => k191 t (st192 t h)
  have ne_tb_y192 : tb ≠ y192 := own_ne Vb.lt z192
  have ne_b1_y192 : b1 ≠ y192 := own_ne E_b1.lt z192
  have ge_y192 : n0 ≤ y192 := own_ge O189 z192
  have sz_y192 : h0.size ≤ y192 := Nat.le_trans K190.1 z192
  have O194 := O189.ext E192
  have K195 := K190.ext E192
  replace Vb := Vb.ext E192
  replace E_b1 := E_b1.ext E192
  replace F_b1_value := F_b1_value.ext E192
  replace F_b1_coder := F_b1_coder.ext E192
  obtain ⟨T196, h196, X196, e196, W196, st196⟩ := putF X192 hx hZ hown (host := "") (Or.inl (hw _ (gm 20 rfl))) Via.refl rfl F_b1_value E_b1 (Or.inr ⟨(hw _ (gm 16 rfl)), rfl, hnm⟩) (hw _ (gm 2 rfl)) (ty := (.array .byte)) (by decide) rfl rfl (g := (mkF m 35 #[vR b1, vR sb, .val .null, vR tb, vI (Int32.ofNat bs.length)] [(.ref y192), (.ref b1)])) rfl rfl (hb hby d24_35)
  have k197 : Rch p e below S0 T196 (mkF m 38 #[vR b1, vR sb, .val .null, vR tb, vI (Int32.ofNat bs.length)] []) := fun t h => k193 t (st196 t h)
  have N196 := Fr.snoc X196 N192 ge_b1
  replace F_b1_value := F_b1_value.same W196
  have O198 := O194.wr W196 ge_b1
  have K199 := K195.wr W196 (Or.inl (gm 0 rfl))
  replace E_b1 := E_b1.wr W196
  replace F_b1_coder := F_b1_coder.other W196 (Or.inr (slot_ne (Or.inr (hw _ (gm 17 rfl))) (Or.inr (hw _ (gm 16 rfl))) (by decide) (t := .byte) (t' := (.array .byte)) (by decide) (by decide)))
  replace Ey192 := Ey192.wr W196
  replace V192 := V192.other W196 (Ne.symm ne_b1_y192)
  have k200 : Rch p e below S0 T196 (mkF m 97 #[vR b1, vR sb, .val .null, vR tb, vI (Int32.ofNat bs.length)] []) := fun t h => k197 t (by
      show Steps p.tables e below (T196.setTop (mkF m 38 #[vR b1, vR sb, .val .null, vR tb, vI (Int32.ofNat bs.length)] [])) _
      refine XS.goto X196.here hx rfl (pc0 := 38) (pc' := 97) rfl (hb hby d24_38) (by decide) (by decide) ?_
      exact h)
  obtain ⟨fs, hr, hrun, hended, hW, hsame⟩ := X196.leave (v := none) (fun _ => rfl)
  refine ⟨_, _, ?_, hrun, hended, _, _, rfl, ?_, ⟨_, rfl⟩, hW, hsame.mono (by decide) (by decide)⟩
  · rw [← hS0]
    refine k200 _ ?_
    show Steps p.tables e below (T196.setTop (mkF m 97 #[vR b1, vR sb, .val .null, vR tb, vI (Int32.ofNat bs.length)] [])) _
    exact X196.returnOut hx Bd.returns (hb hby d24_97) hr
  · show Q_rmSV Z b1 bs h0 n0 _ T196.heap _
    rw [e196]
    exact ⟨rfl, N196, K199, _, _, sz_y192, Ey192, F_b1_value, F_b1_coder, V192⟩
def Q_rmSS (Z : State) (b1 : Addr) (bs : List Int32) (h0 : Heap) (n0 : Nat) (v : Option Value) (h : Heap) (L : List Loc) : Prop := v = none ∧ Fr n0 L ∧ Keep h0 h [b1] ∧ ∃ y ky, h0.size ≤ y ∧ Exa Z h y "[B" ∧ Fld Z h b1 "java/lang/String" "value" "[B" (.ref y) ∧ Fld Z h b1 "java/lang/String" "coder" "B" (.int (0 : Int32)) ∧ Arv Z h y ky .byte (Int32.ofNat bs.length) (bs.map Value.int) (.int (0 : Int32))
theorem ef_23 (m : MethodId) (x0 : Addr) (x1 : Addr) : entryFrame m #[(.ref x0), (.ref x1)] 2 = mkF m 0 #[.val (.ref x0), .val (.ref x1)] [] := by first | (simp [entryFrame, mkF, argsToLocals, Value.category]; done) | rfl
theorem d23_0 : decode jdk_42_method_53_code 0 = .ok (.aload_n 0, 1) := by decide +kernel
theorem d23_1 : decode jdk_42_method_53_code 1 = .ok (.aload_n 1, 1) := by decide +kernel
theorem d23_2 : decode jdk_42_method_53_code 2 = .ok (.aconst_null, 1) := by decide +kernel
theorem pd_20 : parseMethodDescriptor "(Ljava/lang/AbstractStringBuilder;Ljava/lang/Void;)V" = some ⟨[(.object "java/lang/AbstractStringBuilder"), (.object "java/lang/Void")], none⟩ := by decide +kernel
theorem d23_3 : decode jdk_42_method_53_code 3 = .ok (.invokespecial 489, 3) := by decide +kernel
theorem d23_6 : decode jdk_42_method_53_code 6 = .ok (.return_, 1) := by decide +kernel
set_option maxRecDepth 65536 in
set_option maxHeartbeats 40000000 in
theorem rmSS (l : Launch) (Z : State) (a0 : Array Value) (hw : ∀ d ∈ tables_1, d.before a0 Z = true) (ws : List Jvm.Cond) (b1 : Addr) (sb : Addr) (tb : Addr) (kb : ClassId) (cap : Nat) (bs : List Int32) (zC : Int32) (h0 : Heap) (n0 : Nat) (O0 : Old Z n0 h0) (SC : Sta Z Z.heap "java/lang/String" "COMPACT_STRINGS" "Z" (.int zC)) (hzC : ¬ zC = 0) (ge_b1 : n0 ≤ b1) (E_b1 : Exa Z h0 b1 "java/lang/String") (F_b1_value : Fld Z h0 b1 "java/lang/String" "value" "[B" .null) (F_b1_coder : Fld Z h0 b1 "java/lang/String" "coder" "B" (.int (0 : Int32))) (ne_tb_b1 : tb ≠ b1) (E_sb : Exa Z h0 sb "java/lang/StringBuilder") (Fc : Fld Z h0 sb "java/lang/AbstractStringBuilder" "coder" "B" (.int (0 : Int32))) (Fv : Fld Z h0 sb "java/lang/AbstractStringBuilder" "value" "[B" (.ref tb)) (Fn : Fld Z h0 sb "java/lang/AbstractStringBuilder" "count" "I" (.int (Int32.ofNat bs.length))) (Vb : Arv Z h0 tb kb .byte (Int32.ofNat cap) (bs.map Value.int) (.int (0 : Int32))) (hlt : bs.length < cap) (hc2 : cap ≤ 32) :
    MetFree l (⟨"java/lang/String", "<init>", "(Ljava/lang/StringBuilder;)V"⟩ : MethodName) (head1 (Jvm.Cond.code (⟨"java/lang/String", "<init>", "(Ljava/lang/StringBuilder;)V"⟩ : MethodName) jdk_42_method_53_code 2 none :: ws) ({ frames := 4, cells := 1, slots := 32, locals := 88 } : Room)) (fun a U => a = #[(.ref b1), (.ref sb)] ∧ Z.Warmed39 U.vm ∧ U.heap = h0) (fun _ _ _ _ _ => True) (fun _ U o U' => ∃ v L, o = .returned v ∧ Q_rmSS Z b1 bs h0 n0 v U'.heap L ∧ FrameEnd U o U' L ({ frames := 4, cells := 1, slots := 32, locals := 88 } : Room).cells ({ frames := 4, cells := 1, slots := 32, locals := 88 } : Room).slots) := by
  refine MetFree.of_bodySF (plainFor_of_name pn_String) hisR ?_
  intro p e s m args below meth c s₁ Bd hml0 hP hK
  obtain ⟨rfl, hZ, hh⟩ := hP
  have hx := Bd.exec
  have hby := Bd.bytes
  have hml : c.maxLocals = 2 := hml0
  have hown : s.vm.findClass "java/lang/String" = some m.cls := findClass_of_methodNamed Bd.named
  have hnm := (name_of_methodNamed Bd.named Bd.method).1
  have X0 : Stand p l e ({ frames := 4, cells := 1, slots := 32, locals := 88 } : Room) s m #[(.ref b1), (.ref sb)] below meth c s₁ [] 0 0 := Stand.of_body Bd
  have e0 : s₁.heap = h0 := by rw [← hh, Bd.state]; rfl
  have N0 := Fr.nil n0
  obtain ⟨S0, hS0⟩ : ∃ z, z = s₁.setTop (entryFrame m #[(.ref b1), (.ref sb)] 2) := ⟨_, rfl⟩
  have k0 : Rch p e below S0 s₁ (mkF m 0 #[vR b1, vR sb] []) := fun t kq => hS0 ▸ castTop (ef_23 m b1 sb) kq
  have K0 : Keep h0 h0 [b1] := Keep.refl h0 _
  have k201 : Rch p e below S0 s₁ (mkF m 3 #[vR b1, vR sb] [.null, (.ref sb), (.ref b1)]) := fun t h => k0 t (by
      show Steps p.tables e below (s₁.setTop (mkF m 0 #[vR b1, vR sb] [])) _
      refine XS.aloadN X0.here hx rfl (hb hby d23_0) rfl rfl ?_
      refine XS.aloadN X0.here hx rfl (hb hby d23_1) rfl rfl ?_
      refine XS.aconstNull X0.here hx rfl (hb hby d23_2) ?_
      exact h)
  obtain ⟨_, _, ⟨T202, L202, kk202, n202⟩, -, X202, ⟨Lc202, hQ202, l202, y202, z202⟩, st202⟩ := X0.specialBack hx (y := (⟨"java/lang/String", "<init>", "(Ljava/lang/AbstractStringBuilder;Ljava/lang/Void;)V"⟩ : MethodName)) rfl hown (mvT hZ (hw _ (gm 139 rfl))) (mvT hZ (hw _ (gm 140 rfl))) (mvT hZ (hw _ (gm 141 rfl))) (by decide) (backOf (W := 0) (rmSV l Z a0 hw [] b1 sb tb kb cap bs zC h0 n0 O0 SC hzC ge_b1 E_b1 F_b1_value F_b1_coder ne_tb_b1 E_sb Fc Fv Fn Vb hlt hc2) hZ (hw _ (gm 141 rfl)) (hw _ (gm 3 rfl)) (by decide) (by decide)) (g := (mkF m 3 #[vR b1, vR sb] [.null, (.ref sb), (.ref b1)])) rfl (by rw [hml]; rfl) (Steps.refl _) (a := b1) (argsL := [(.ref sb), .null]) (rest := []) (lenOf pd_20 rfl) rfl (by show 2 * 0 + _ ≤ _; exact Nat.le_of_eq rfl) (hb hby d23_3) (fun _ _ => ⟨rfl, e0, (by decide : 0 + 1 ≤ _), (by decide : 0 + 32 ≤ _)⟩)
  dsimp only [Pt.U, Pt.locs, Pt.cells, Pt.slots] at X202 l202 y202 z202 st202 hQ202
  subst l202 y202 z202
  obtain ⟨rfl, Nq202, K202, y202, ky202, z202, Ey202, Gv202, Gc202, V202⟩ := hQ202
  have N202 := Fr.app N0 Nq202
  have k203 : Rch p e below S0 T202 (mkF m 6 #[vR b1, vR sb] []) := fun t h => k201 t (st202.trans h)
  have O204 := O0.keep K202 (allS ge_b1 all0)
  have K205 := K0.trans K202 (allS (Or.inl (gm 0 rfl)) all0)
  replace E_b1 := E_b1.keep K202
  obtain ⟨fs, hr, hrun, hended, hW, hsame⟩ := X202.leave (v := none) (fun _ => rfl)
  refine ⟨_, _, ?_, hrun, hended, _, _, rfl, ?_, ⟨_, rfl⟩, hW, hsame.mono (by decide) (by decide)⟩
  · rw [← hS0]
    refine k203 _ ?_
    show Steps p.tables e below (T202.setTop (mkF m 6 #[vR b1, vR sb] [])) _
    exact X202.returnOut hx Bd.returns (hb hby d23_6) hr
  · show Q_rmSS Z b1 bs h0 n0 _ T202.heap _
    exact ⟨rfl, N202, K205, _, _, z202, Ey202, Gv202, Gc202, V202⟩
def Q_rmTS (Z : State) (bs : List Int32) (h0 : Heap) (n0 : Nat) (v : Option Value) (h : Heap) (L : List Loc) : Prop := ∃ b1 y ky, v = some (.ref b1) ∧ Fr n0 L ∧ Ext h0 h ∧ h0.size ≤ b1 ∧ Exa Z h b1 "java/lang/String" ∧ h0.size ≤ y ∧ Exa Z h y "[B" ∧ Fld Z h b1 "java/lang/String" "value" "[B" (.ref y) ∧ Fld Z h b1 "java/lang/String" "coder" "B" (.int (0 : Int32)) ∧ Arv Z h y ky .byte (Int32.ofNat bs.length) (bs.map Value.int) (.int (0 : Int32))
theorem ef_22 (m : MethodId) (x0 : Addr) : entryFrame m #[(.ref x0)] 1 = mkF m 0 #[.val (.ref x0)] [] := by first | (simp [entryFrame, mkF, argsToLocals, Value.category]; done) | rfl
theorem d22_0 : decode jdk_67_method_42_code 0 = .ok (.new 18, 3) := by decide +kernel
theorem d22_3 : decode jdk_67_method_42_code 3 = .ok (.dup, 1) := by decide +kernel
theorem d22_4 : decode jdk_67_method_42_code 4 = .ok (.aload_n 0, 1) := by decide +kernel
theorem pd_19 : parseMethodDescriptor "(Ljava/lang/StringBuilder;)V" = some ⟨[(.object "java/lang/StringBuilder")], none⟩ := by decide +kernel
theorem d22_5 : decode jdk_67_method_42_code 5 = .ok (.invokespecial 137, 3) := by decide +kernel
theorem d22_8 : decode jdk_67_method_42_code 8 = .ok (.areturn, 1) := by decide +kernel
set_option maxRecDepth 65536 in
set_option maxHeartbeats 40000000 in
theorem rmTS (l : Launch) (Z : State) (a0 : Array Value) (hw : ∀ d ∈ tables_1, d.before a0 Z = true) (ws : List Jvm.Cond) (sb : Addr) (tb : Addr) (kb : ClassId) (cap : Nat) (bs : List Int32) (zC : Int32) (h0 : Heap) (n0 : Nat) (O0 : Old Z n0 h0) (SC : Sta Z Z.heap "java/lang/String" "COMPACT_STRINGS" "Z" (.int zC)) (hzC : ¬ zC = 0) (E_sb : Exa Z h0 sb "java/lang/StringBuilder") (Fc : Fld Z h0 sb "java/lang/AbstractStringBuilder" "coder" "B" (.int (0 : Int32))) (Fv : Fld Z h0 sb "java/lang/AbstractStringBuilder" "value" "[B" (.ref tb)) (Fn : Fld Z h0 sb "java/lang/AbstractStringBuilder" "count" "I" (.int (Int32.ofNat bs.length))) (Vb : Arv Z h0 tb kb .byte (Int32.ofNat cap) (bs.map Value.int) (.int (0 : Int32))) (hlt : bs.length < cap) (hc2 : cap ≤ 32) :
    MetFree l (⟨"java/lang/StringBuilder", "toString", "()Ljava/lang/String;"⟩ : MethodName) (head1 (Jvm.Cond.code (⟨"java/lang/StringBuilder", "toString", "()Ljava/lang/String;"⟩ : MethodName) jdk_67_method_42_code 1 (some (.object "java/lang/String")) :: ws) ({ frames := 5, cells := 2, slots := 36, locals := 104 } : Room)) (fun a U => a = #[(.ref sb)] ∧ Z.Warmed39 U.vm ∧ U.heap = h0) (fun _ _ _ _ _ => True) (fun _ U o U' => ∃ v L, o = .returned v ∧ Q_rmTS Z bs h0 n0 v U'.heap L ∧ FrameEnd U o U' L ({ frames := 5, cells := 2, slots := 36, locals := 104 } : Room).cells ({ frames := 5, cells := 2, slots := 36, locals := 104 } : Room).slots) := by
  refine MetFree.of_bodySF (plainFor_of_name pn_StringBuilder) hisR ?_
  intro p e s m args below meth c s₁ Bd hml0 hP hK
  obtain ⟨rfl, hZ, hh⟩ := hP
  have hx := Bd.exec
  have hby := Bd.bytes
  have hml : c.maxLocals = 1 := hml0
  have hown : s.vm.findClass "java/lang/StringBuilder" = some m.cls := findClass_of_methodNamed Bd.named
  have hnm := (name_of_methodNamed Bd.named Bd.method).1
  have X0 : Stand p l e ({ frames := 5, cells := 2, slots := 36, locals := 104 } : Room) s m #[(.ref sb)] below meth c s₁ [] 0 0 := Stand.of_body Bd
  have e0 : s₁.heap = h0 := by rw [← hh, Bd.state]; rfl
  have N0 := Fr.nil n0
  obtain ⟨S0, hS0⟩ : ∃ z, z = s₁.setTop (entryFrame m #[(.ref sb)] 1) := ⟨_, rfl⟩
  have k0 : Rch p e below S0 s₁ (mkF m 0 #[vR sb] []) := fun t kq => hS0 ▸ castTop (ef_22 m sb) kq
  have K0 : Keep h0 h0 [] := Keep.refl h0 _
  obtain ⟨T206, h206, X206, e206, E206, A206, D206, -, st206⟩ := newO X0 hx hZ hown (hw _ (gm 135 rfl)) (hw _ (gm 2 rfl)) (hw _ (gm 3 rfl)) e0 (g := (mkF m 0 #[vR sb] [])) rfl (hb hby d22_0) (by decide) (by decide)
  obtain ⟨b206, g206⟩ : ∃ z, z = h0.size := ⟨_, rfl⟩
  rw [← g206] at A206 D206 st206
  have k207 : Rch p e below S0 T206 (mkF m 3 #[vR sb] [(.ref b206)]) := fun t h => k0 t (st206 t h)
  have ne_sb_b206 : sb ≠ b206 := own_ne E_sb.lt (Nat.le_of_eq g206.symm)
  have ne_tb_b206 : tb ≠ b206 := own_ne Vb.lt (Nat.le_of_eq g206.symm)
  have ge_b206 : n0 ≤ b206 := own_ge O0 (Nat.le_of_eq g206.symm)
  have sz_b206 : h0.size ≤ b206 := Nat.le_trans K0.1 (Nat.le_of_eq g206.symm)
  have O208 := O0.ext E206
  have K209 := K0.ext E206
  replace E_sb := E_sb.ext E206
  replace Fc := Fc.ext E206
  replace Fv := Fv.ext E206
  replace Fn := Fn.ext E206
  replace Vb := Vb.ext E206
  have E_b206 := A206
  have F_b206_value : Fld Z h206 b206 "java/lang/String" "value" "[B" .null := D206 (Or.inr (hw _ (gm 16 rfl))) (ty := (.array .byte)) (by decide)
  have F_b206_coder : Fld Z h206 b206 "java/lang/String" "coder" "B" (.int (0 : Int32)) := D206 (Or.inr (hw _ (gm 17 rfl))) (ty := .byte) (by decide)
  have k210 : Rch p e below S0 T206 (mkF m 5 #[vR sb] [(.ref sb), (.ref b206), (.ref b206)]) := fun t h => k207 t (by
      show Steps p.tables e below (T206.setTop (mkF m 3 #[vR sb] [(.ref b206)])) _
      refine XS.dup X206.here hx rfl (hb hby d22_3) rfl rfl ?_
      refine XS.aloadN X206.here hx rfl (hb hby d22_4) rfl rfl ?_
      exact h)
  obtain ⟨_, _, ⟨T211, L211, kk211, n211⟩, -, X211, ⟨Lc211, hQ211, l211, y211, z211⟩, st211⟩ := X206.specialBack hx (y := (⟨"java/lang/String", "<init>", "(Ljava/lang/StringBuilder;)V"⟩ : MethodName)) rfl hown (mvT hZ (hw _ (gm 136 rfl))) (mvT hZ (hw _ (gm 137 rfl))) (mvT hZ (hw _ (gm 138 rfl))) (by decide) (backOf (W := 1) (rmSS l Z a0 hw [] b206 sb tb kb cap bs zC h206 n0 O208 SC hzC ge_b206 E_b206 F_b206_value F_b206_coder ne_tb_b206 E_sb Fc Fv Fn Vb hlt hc2) hZ (hw _ (gm 138 rfl)) (hw _ (gm 3 rfl)) (by decide) (by decide)) (g := (mkF m 5 #[vR sb] [(.ref sb), (.ref b206), (.ref b206)])) rfl (by rw [hml]; rfl) (Steps.refl _) (a := b206) (argsL := [(.ref sb)]) (rest := [(.ref b206)]) (lenOf pd_19 rfl) rfl (by show 2 * 0 + _ ≤ _; exact Nat.le_of_eq rfl) (hb hby d22_5) (fun _ _ => ⟨rfl, e206, (by decide : 1 + 1 ≤ _), (by decide : 4 + 32 ≤ _)⟩)
  dsimp only [Pt.U, Pt.locs, Pt.cells, Pt.slots] at X211 l211 y211 z211 st211 hQ211
  subst l211 y211 z211
  obtain ⟨rfl, Nq211, K211, y211, ky211, z211, Ey211, Gv211, Gc211, V211⟩ := hQ211
  have N211 := Fr.app N0 Nq211
  have k212 : Rch p e below S0 T211 (mkF m 8 #[vR sb] [(.ref b206)]) := fun t h => k210 t (st211.trans h)
  have szy211 := Nat.le_trans K209.1 z211
  have O213 := O208.keep K211 (allS ge_b206 all0)
  have K214 := K209.trans K211 (allS (Or.inr sz_b206) all0)
  replace E_b206 := E_b206.keep K211
  obtain ⟨fs, hr, hrun, hended, hW, hsame⟩ := X211.leave (v := (some (.ref b206))) (fun h => by rw [Bd.returns] at h; cases h)
  refine ⟨_, _, ?_, hrun, hended, _, _, rfl, ?_, ⟨_, rfl⟩, hW, hsame.mono (by decide) (by decide)⟩
  · rw [← hS0]
    refine k212 _ ?_
    show Steps p.tables e below (T211.setTop (mkF m 8 #[vR sb] [(.ref b206)])) _
    jvm_step X211.here [X211.here.top, hx, (hb hby d22_8), X211.method', Bd.returns, Value.isRef, FieldType.isReference]
    first | (intro acts; rw [hr _ acts rfl rfl rfl]) | rw [hr _ _ rfl rfl rfl]
    exact Steps.refl _
  · show Q_rmTS Z bs h0 n0 _ T211.heap _
    exact ⟨_, _, _, rfl, N211, own_ext K214, sz_b206, E_b206, szy211, Ey211, Gv211, Gc211, V211⟩
def Q_rmAB (Z : State) (sb : Addr) (tb : Addr) (cs : List Int32) (kb : ClassId) (cap : Nat) (bs : List Int32) (h0 : Heap) (n0 : Nat) (v : Option Value) (h : Heap) (L : List Loc) : Prop := v = some (.ref sb) ∧ Fr n0 L ∧ Keep h0 h [sb, tb] ∧ Fld Z h sb "java/lang/AbstractStringBuilder" "coder" "B" (.int (0 : Int32)) ∧ Fld Z h sb "java/lang/AbstractStringBuilder" "value" "[B" (.ref tb) ∧ Fld Z h sb "java/lang/AbstractStringBuilder" "count" "I" (.int (Int32.ofNat (bs ++ cs).length)) ∧ Arv Z h tb kb .byte (Int32.ofNat cap) ((bs ++ cs).map Value.int) (.int (0 : Int32))
theorem ef_13 (m : MethodId) (x0 : Addr) (x1 : Addr) : entryFrame m #[(.ref x0), (.ref x1)] 2 = mkF m 0 #[.val (.ref x0), .val (.ref x1)] [] := by first | (simp [entryFrame, mkF, argsToLocals, Value.category]; done) | rfl
theorem d13_0 : decode jdk_67_method_80_code 0 = .ok (.aload_n 0, 1) := by decide +kernel
theorem d13_1 : decode jdk_67_method_80_code 1 = .ok (.aload_n 1, 1) := by decide +kernel
theorem pd_11 : parseMethodDescriptor "(Ljava/lang/String;)Ljava/lang/StringBuilder;" = some ⟨[(.object "java/lang/String")], some (.object "java/lang/StringBuilder")⟩ := by decide +kernel
theorem d13_2 : decode jdk_67_method_80_code 2 = .ok (.invokevirtual 23, 3) := by decide +kernel
theorem d13_5 : decode jdk_67_method_80_code 5 = .ok (.areturn, 1) := by decide +kernel
set_option maxRecDepth 65536 in
set_option maxHeartbeats 40000000 in
theorem rmAB (l : Launch) (Z : State) (a0 : Array Value) (hw : ∀ d ∈ tables_1, d.before a0 Z = true) (ws : List Jvm.Cond) (sb : Addr) (a1 : Addr) (tb : Addr) (tt : Addr) (kt : ClassId) (cs : List Int32) (kb : ClassId) (cap : Nat) (bs : List Int32) (zC : Int32) (h0 : Heap) (n0 : Nat) (O0 : Old Z n0 h0) (SC : Sta Z Z.heap "java/lang/String" "COMPACT_STRINGS" "Z" (.int zC)) (hzC : ¬ zC = 0) (ge_sb : n0 ≤ sb) (ge_tb : n0 ≤ tb) (ne_sb_tb : sb ≠ tb) (E_sb : Exa Z h0 sb "java/lang/StringBuilder") (Fc : Fld Z h0 sb "java/lang/AbstractStringBuilder" "coder" "B" (.int (0 : Int32))) (Fv : Fld Z h0 sb "java/lang/AbstractStringBuilder" "value" "[B" (.ref tb)) (Fn : Fld Z h0 sb "java/lang/AbstractStringBuilder" "count" "I" (.int (Int32.ofNat bs.length))) (Ex : Exa Z h0 a1 "java/lang/String") (Sv : Fld Z h0 a1 "java/lang/String" "value" "[B" (.ref tt)) (Sc : Fld Z h0 a1 "java/lang/String" "coder" "B" (.int (0 : Int32))) (Vt : Arv Z h0 tt kt .byte (Int32.ofNat cs.length) (cs.map Value.int) (.int (0 : Int32))) (Vb : Arv Z h0 tb kb .byte (Int32.ofNat cap) (bs.map Value.int) (.int (0 : Int32))) (hcap : bs.length + cs.length ≤ cap) (hc2 : cap ≤ 1000) :
    MetFree l (⟨"java/lang/StringBuilder", "append", "(Ljava/lang/String;)Ljava/lang/AbstractStringBuilder;"⟩ : MethodName) (head1 (Jvm.Cond.code (⟨"java/lang/StringBuilder", "append", "(Ljava/lang/String;)Ljava/lang/AbstractStringBuilder;"⟩ : MethodName) jdk_67_method_80_code 2 (some (.object "java/lang/AbstractStringBuilder")) :: ws) ({ frames := 5, cells := 0, slots := 0, locals := 96 } : Room)) (fun a U => a = #[(.ref sb), (.ref a1)] ∧ Z.Warmed39 U.vm ∧ U.heap = h0) (fun _ _ _ _ _ => True) (fun _ U o U' => ∃ v L, o = .returned v ∧ Q_rmAB Z sb tb cs kb cap bs h0 n0 v U'.heap L ∧ FrameEnd U o U' L ({ frames := 5, cells := 0, slots := 0, locals := 96 } : Room).cells ({ frames := 5, cells := 0, slots := 0, locals := 96 } : Room).slots) := by
  refine MetFree.of_bodySF (plainFor_of_name pn_StringBuilder) hisR ?_
  intro p e s m args below meth c s₁ Bd hml0 hP hK
  obtain ⟨rfl, hZ, hh⟩ := hP
  have hx := Bd.exec
  have hby := Bd.bytes
  have hml : c.maxLocals = 2 := hml0
  have hown : s.vm.findClass "java/lang/StringBuilder" = some m.cls := findClass_of_methodNamed Bd.named
  have hnm := (name_of_methodNamed Bd.named Bd.method).1
  have X0 : Stand p l e ({ frames := 5, cells := 0, slots := 0, locals := 96 } : Room) s m #[(.ref sb), (.ref a1)] below meth c s₁ [] 0 0 := Stand.of_body Bd
  have e0 : s₁.heap = h0 := by rw [← hh, Bd.state]; rfl
  have N0 := Fr.nil n0
  obtain ⟨S0, hS0⟩ : ∃ z, z = s₁.setTop (entryFrame m #[(.ref sb), (.ref a1)] 2) := ⟨_, rfl⟩
  have k0 : Rch p e below S0 s₁ (mkF m 0 #[vR sb, vR a1] []) := fun t kq => hS0 ▸ castTop (ef_13 m sb a1) kq
  have K0 : Keep h0 h0 [sb, tb] := Keep.refl h0 _
  have k215 : Rch p e below S0 s₁ (mkF m 2 #[vR sb, vR a1] [(.ref a1), (.ref sb)]) := fun t h => k0 t (by
      show Steps p.tables e below (s₁.setTop (mkF m 0 #[vR sb, vR a1] [])) _
      refine XS.aloadN X0.here hx rfl (hb hby d13_0) rfl rfl ?_
      refine XS.aloadN X0.here hx rfl (hb hby d13_1) rfl rfl ?_
      exact h)
  obtain ⟨cq216, kq216, q216a, q216b, q216c⟩ := isOf hZ e0 E_sb
  obtain ⟨_, _, ⟨T216, L216, kk216, n216⟩, -, X216, ⟨Lc216, hQ216, l216, y216, z216⟩, st216⟩ := X0.virtualBack hx (y := (⟨"java/lang/StringBuilder", "append", "(Ljava/lang/String;)Ljava/lang/StringBuilder;"⟩ : MethodName)) (z := (⟨"java/lang/StringBuilder", "append", "(Ljava/lang/String;)Ljava/lang/StringBuilder;"⟩ : MethodName)) hown (mvT hZ (hw _ (gm 80 rfl))) (mvT hZ (hw _ (gm 81 rfl))) (notFace_of_selects (args := #[]) (mvT hZ (hw _ (gm 83 rfl)))) (mvT hZ (hw _ (gm 83 rfl))) (mvT hZ (hw _ (gm 82 rfl))) (by decide) (backOf (W := 0) (rmAS l Z a0 hw [] sb a1 tb tt kt cs kb cap bs zC h0 n0 O0 SC hzC ge_sb ge_tb ne_sb_tb E_sb Fc Fv Fn Ex Sv Sc Vt Vb hcap hc2) hZ (hw _ (gm 84 rfl)) (hw _ (gm 46 rfl)) (by decide) (by decide)) q216a q216c (g := (mkF m 2 #[vR sb, vR a1] [(.ref a1), (.ref sb)])) rfl (by rw [hml]; rfl) (Steps.refl _) (argsL := [(.ref a1)]) (rest := []) (lenOf pd_11 rfl) rfl (by show 2 * 0 + _ ≤ _; exact Nat.le_of_eq rfl) (hb hby d13_2) (fun _ _ => ⟨rfl, e0, (by decide : 0 + 0 ≤ _), (by decide : 0 + 0 ≤ _)⟩)
  dsimp only [Pt.U, Pt.locs, Pt.cells, Pt.slots] at X216 l216 y216 z216 st216 hQ216
  subst l216 y216 z216
  obtain ⟨rfl, Nq216, K216, Fc216, Fv216, Fn216, V216⟩ := hQ216
  have N216 := Fr.app N0 Nq216
  have k217 : Rch p e below S0 T216 (mkF m 5 #[vR sb, vR a1] [(.ref sb)]) := fun t h => k215 t (st216.trans h)
  have O218 := O0.keep K216 (allS ge_sb (allS ge_tb all0))
  have K219 := K0.trans K216 (allS (Or.inl (gm 0 rfl)) (allS (Or.inl (gm 1 rfl)) all0))
  replace E_sb := E_sb.keep K216
  obtain ⟨fs, hr, hrun, hended, hW, hsame⟩ := X216.leave (v := (some (.ref sb))) (fun h => by rw [Bd.returns] at h; cases h)
  refine ⟨_, _, ?_, hrun, hended, _, _, rfl, ?_, ⟨_, rfl⟩, hW, hsame.mono (by decide) (by decide)⟩
  · rw [← hS0]
    refine k217 _ ?_
    show Steps p.tables e below (T216.setTop (mkF m 5 #[vR sb, vR a1] [(.ref sb)])) _
    jvm_step X216.here [X216.here.top, hx, (hb hby d13_5), X216.method', Bd.returns, Value.isRef, FieldType.isReference]
    first | (intro acts; rw [hr _ acts rfl rfl rfl]) | rw [hr _ _ rfl rfl rfl]
    exact Steps.refl _
  · show Q_rmAB Z sb tb cs kb cap bs h0 n0 _ T216.heap _
    exact ⟨rfl, N216, K219, Fc216, Fv216, Fn216, V216⟩
def Q_rmAI (Z : State) (sb : Addr) (cs : List Int32) (h0 : Heap) (n0 : Nat) (v : Option Value) (h : Heap) (L : List Loc) : Prop := v = none ∧ Fr n0 L ∧ Keep h0 h [sb] ∧ ∃ tb kb, h0.size ≤ tb ∧ sb ≠ tb ∧ Fld Z h sb "java/lang/AbstractStringBuilder" "coder" "B" (.int (0 : Int32)) ∧ Fld Z h sb "java/lang/AbstractStringBuilder" "value" "[B" (.ref tb) ∧ Fld Z h sb "java/lang/AbstractStringBuilder" "count" "I" (.int (Int32.ofNat cs.length)) ∧ Arv Z h tb kb .byte (Int32.ofNat (cs.length + 16)) (cs.map Value.int) (.int (0 : Int32))
theorem ef_10 (m : MethodId) (x0 : Addr) (x1 : Addr) : entryFrame m #[(.ref x0), (.ref x1)] 5 = mkF m 0 #[.val (.ref x0), .val (.ref x1), .unset, .unset, .unset] [] := by first | (simp [entryFrame, mkF, argsToLocals, Value.category]; done) | rfl
theorem d10_0 : decode jdk_68_method_3_code 0 = .ok (.aload_n 0, 1) := by decide +kernel
theorem d10_1 : decode jdk_68_method_3_code 1 = .ok (.invokespecial 3, 3) := by decide +kernel
theorem d10_4 : decode jdk_68_method_3_code 4 = .ok (.aload_n 1, 1) := by decide +kernel
theorem d10_5 : decode jdk_68_method_3_code 5 = .ok (.invokevirtual 32, 3) := by decide +kernel
theorem d10_8 : decode jdk_68_method_3_code 8 = .ok (.istore_n 2, 1) := by decide +kernel
theorem d10_9 : decode jdk_68_method_3_code 9 = .ok (.iload_n 2, 1) := by decide +kernel
theorem d10_10 : decode jdk_68_method_3_code 10 = .ok (.ldc 38, 2) := by decide +kernel
theorem d10_12 : decode jdk_68_method_3_code 12 = .ok (.if_icmp .ge 10, 3) := by decide +kernel
theorem d10_15 : decode jdk_68_method_3_code 15 = .ok (.iload_n 2, 1) := by decide +kernel
theorem d10_16 : decode jdk_68_method_3_code 16 = .ok (.bipush 16, 2) := by decide +kernel
theorem d10_18 : decode jdk_68_method_3_code 18 = .ok (.iadd, 1) := by decide +kernel
theorem d10_19 : decode jdk_68_method_3_code 19 = .ok (.goto 5, 3) := by decide +kernel
theorem d10_24 : decode jdk_68_method_3_code 24 = .ok (.istore_n 3, 1) := by decide +kernel
theorem d10_25 : decode jdk_68_method_3_code 25 = .ok (.aload_n 1, 1) := by decide +kernel
theorem d10_26 : decode jdk_68_method_3_code 26 = .ok (.invokevirtual 40, 3) := by decide +kernel
theorem d10_29 : decode jdk_68_method_3_code 29 = .ok (.istore 4, 2) := by decide +kernel
theorem d10_31 : decode jdk_68_method_3_code 31 = .ok (.aload_n 0, 1) := by decide +kernel
theorem d10_32 : decode jdk_68_method_3_code 32 = .ok (.iload 4, 2) := by decide +kernel
theorem d10_34 : decode jdk_68_method_3_code 34 = .ok (.putfield 22, 3) := by decide +kernel
theorem d10_37 : decode jdk_68_method_3_code 37 = .ok (.aload_n 0, 1) := by decide +kernel
theorem d10_38 : decode jdk_68_method_3_code 38 = .ok (.iload 4, 2) := by decide +kernel
theorem d10_40 : decode jdk_68_method_3_code 40 = .ok (.ifCond .ne 9, 3) := by decide +kernel
theorem d10_43 : decode jdk_68_method_3_code 43 = .ok (.iload_n 3, 1) := by decide +kernel
theorem d10_44 : decode jdk_68_method_3_code 44 = .ok (.newarray .byte, 2) := by decide +kernel
theorem d10_46 : decode jdk_68_method_3_code 46 = .ok (.goto 7, 3) := by decide +kernel
theorem d10_53 : decode jdk_68_method_3_code 53 = .ok (.putfield 15, 3) := by decide +kernel
theorem d10_56 : decode jdk_68_method_3_code 56 = .ok (.aload_n 0, 1) := by decide +kernel
theorem d10_57 : decode jdk_68_method_3_code 57 = .ok (.aload_n 1, 1) := by decide +kernel
theorem d10_58 : decode jdk_68_method_3_code 58 = .ok (.invokevirtual 43, 3) := by decide +kernel
theorem d10_61 : decode jdk_68_method_3_code 61 = .ok (.pop, 1) := by decide +kernel
theorem d10_62 : decode jdk_68_method_3_code 62 = .ok (.return_, 1) := by decide +kernel
set_option maxRecDepth 65536 in
set_option maxHeartbeats 40000000 in
theorem rmAI (l : Launch) (Z : State) (a0 : Array Value) (hw : ∀ d ∈ tables_1, d.before a0 Z = true) (ws : List Jvm.Cond) (sb : Addr) (a1 : Addr) (tt : Addr) (kt : ClassId) (cs : List Int32) (zC : Int32) (h0 : Heap) (n0 : Nat) (O0 : Old Z n0 h0) (SC : Sta Z Z.heap "java/lang/String" "COMPACT_STRINGS" "Z" (.int zC)) (hzC : ¬ zC = 0) (ge_sb : n0 ≤ sb) (E_sb : Exa Z h0 sb "java/lang/StringBuilder") (Fc : Fld Z h0 sb "java/lang/AbstractStringBuilder" "coder" "B" (.int (0 : Int32))) (Fv : Fld Z h0 sb "java/lang/AbstractStringBuilder" "value" "[B" .null) (Fn : Fld Z h0 sb "java/lang/AbstractStringBuilder" "count" "I" (.int (0 : Int32))) (Ex : Exa Z h0 a1 "java/lang/String") (Sv : Fld Z h0 a1 "java/lang/String" "value" "[B" (.ref tt)) (Sc : Fld Z h0 a1 "java/lang/String" "coder" "B" (.int (0 : Int32))) (Vt : Arv Z h0 tt kt .byte (Int32.ofNat cs.length) (cs.map Value.int) (.int (0 : Int32))) (hk16 : cs.length ≤ 16) :
    MetFree l (⟨"java/lang/AbstractStringBuilder", "<init>", "(Ljava/lang/String;)V"⟩ : MethodName) (head1 (Jvm.Cond.code (⟨"java/lang/AbstractStringBuilder", "<init>", "(Ljava/lang/String;)V"⟩ : MethodName) jdk_68_method_3_code 5 none :: ws) ({ frames := 6, cells := 1, slots := 32, locals := 114 } : Room)) (fun a U => a = #[(.ref sb), (.ref a1)] ∧ Z.Warmed39 U.vm ∧ U.heap = h0) (fun _ _ _ _ _ => True) (fun _ U o U' => ∃ v L, o = .returned v ∧ Q_rmAI Z sb cs h0 n0 v U'.heap L ∧ FrameEnd U o U' L ({ frames := 6, cells := 1, slots := 32, locals := 114 } : Room).cells ({ frames := 6, cells := 1, slots := 32, locals := 114 } : Room).slots) := by
  refine MetFree.of_bodySF (plainFor_of_name pn_AbstractStringBuilder) hisR ?_
  intro p e s m args below meth c s₁ Bd hml0 hP hK
  obtain ⟨rfl, hZ, hh⟩ := hP
  have hx := Bd.exec
  have hby := Bd.bytes
  have hml : c.maxLocals = 5 := hml0
  have hown : s.vm.findClass "java/lang/AbstractStringBuilder" = some m.cls := findClass_of_methodNamed Bd.named
  have hnm := (name_of_methodNamed Bd.named Bd.method).1
  have X0 : Stand p l e ({ frames := 6, cells := 1, slots := 32, locals := 114 } : Room) s m #[(.ref sb), (.ref a1)] below meth c s₁ [] 0 0 := Stand.of_body Bd
  have e0 : s₁.heap = h0 := by rw [← hh, Bd.state]; rfl
  have N0 := Fr.nil n0
  obtain ⟨S0, hS0⟩ : ∃ z, z = s₁.setTop (entryFrame m #[(.ref sb), (.ref a1)] 5) := ⟨_, rfl⟩
  have k0 : Rch p e below S0 s₁ (mkF m 0 #[vR sb, vR a1, vU, vU, vU] []) := fun t kq => hS0 ▸ castTop (ef_10 m sb a1) kq
  have K0 : Keep h0 h0 [sb] := Keep.refl h0 _
  have ne_a1_sb : a1 ≠ sb := fun q => by
    obtain ⟨c1, k1, u1, u2, -⟩ := Ex
    obtain ⟨c2, k2, v1, v2, -⟩ := E_sb
    rw [q] at u1
    cases u1.symm.trans v1
    obtain ⟨k3, x1, x2⟩ := Vm.findClass_spec u2
    obtain ⟨k4, y1, y2⟩ := Vm.findClass_spec v2
    cases x1.symm.trans y1
    exact absurd (x2.symm.trans y2) (by decide)
  have ne_tt_sb : tt ≠ sb := fun q => by
    obtain ⟨c1, ⟨u1, ⟨u0, k1, u2, cp, u3⟩, u4⟩, u5⟩ := Vt
    obtain ⟨c2, k2, v1, v2, v3, -, -⟩ := E_sb
    rw [q] at u1
    cases u1.symm.trans v1
    obtain ⟨c3, k3, i1, i2, i3, -⟩ := Cond.instantiable_spec (hw _ (gm 45 rfl))
    cases v2.symm.trans i1
    cases u2.symm.trans i2
    cases u3.symm.trans i3
  have k221 : Rch p e below S0 s₁ (mkF m 1 #[vR sb, vR a1, vU, vU, vU] [(.ref sb)]) := fun t h => k0 t (by
      show Steps p.tables e below (s₁.setTop (mkF m 0 #[vR sb, vR a1, vU, vU, vU] [])) _
      refine XS.aloadN X0.here hx rfl (hb hby d10_0) rfl rfl ?_
      exact h)
  obtain ⟨T220, X220, e220, st220⟩ := initO X0 hx hZ hown (hw _ (gm 57 rfl)) (hw _ (gm 12 rfl)) (hw _ (gm 13 rfl)) e0 (g := (mkF m 1 #[vR sb, vR a1, vU, vU, vU] [(.ref sb)])) rfl (by rw [hml]; rfl) rfl (hb hby d10_1) (by decide) (W := 0) (by show 2 * 0 + _ ≤ _; exact Nat.le_of_eq rfl) (by decide)
  have k222 : Rch p e below S0 T220 (mkF m 4 #[vR sb, vR a1, vU, vU, vU] []) := fun t h => k221 t (st220 t h)
  have k223 : Rch p e below S0 T220 (mkF m 5 #[vR sb, vR a1, vU, vU, vU] [(.ref a1)]) := fun t h => k222 t (by
      show Steps p.tables e below (T220.setTop (mkF m 4 #[vR sb, vR a1, vU, vU, vU] [])) _
      refine XS.aloadN X220.here hx rfl (hb hby d10_4) rfl rfl ?_
      exact h)
  obtain ⟨cq224, kq224, q224a, q224b, q224c⟩ := isOf hZ e220 Ex
  obtain ⟨_, _, ⟨T224, L224, kk224, n224⟩, -, X224, ⟨Lc224, hQ224, l224, y224, z224⟩, st224⟩ := X220.virtualBack hx (y := (⟨"java/lang/String", "length", "()I"⟩ : MethodName)) (z := (⟨"java/lang/String", "length", "()I"⟩ : MethodName)) hown (mvT hZ (hw _ (gm 58 rfl))) (mvT hZ (hw _ (gm 59 rfl))) (notFace_of_selects (args := #[]) (mvT hZ (hw _ (gm 61 rfl)))) (mvT hZ (hw _ (gm 61 rfl))) (mvT hZ (hw _ (gm 60 rfl))) (by decide) (backOf (W := 0) (rmL0 l Z a0 hw [] a1 tt kt cs zC h0 n0 O0 SC hzC Ex Sv Sc Vt) hZ (hw _ (gm 62 rfl)) (hw _ (gm 3 rfl)) (by decide) (by decide)) q224a q224c (g := (mkF m 5 #[vR sb, vR a1, vU, vU, vU] [(.ref a1)])) rfl (by rw [hml]; rfl) (Steps.refl _) (argsL := []) (rest := []) (lenOf pd_8 rfl) rfl (by show 2 * 0 + _ ≤ _; exact Nat.le_of_eq rfl) (hb hby d10_5) (fun _ _ => ⟨rfl, e220, (by decide : 0 + 0 ≤ _), (by decide : 0 + 0 ≤ _)⟩)
  dsimp only [Pt.U, Pt.locs, Pt.cells, Pt.slots] at X224 l224 y224 z224 st224 hQ224
  subst l224 y224 z224
  obtain ⟨rfl, Nq224, hh224⟩ := hQ224
  have N224 := Fr.app N0 Nq224
  have k225 : Rch p e below S0 T224 (mkF m 8 #[vR sb, vR a1, vU, vU, vU] [(.int (Int32.ofNat cs.length))]) := fun t h => k223 t (st224.trans h)
  have k226 : Rch p e below S0 T224 (mkF m 26 #[vR sb, vR a1, vI (Int32.ofNat cs.length), vI (Int32.ofNat (cs.length + 16)), vU] [(.ref a1)]) := fun t h => k225 t (by
      show Steps p.tables e below (T224.setTop (mkF m 8 #[vR sb, vR a1, vU, vU, vU] [(.int (Int32.ofNat cs.length))])) _
      refine XS.istoreN X224.here hx rfl (hb hby d10_8) rfl (l' := #[vR sb, vR a1, vI (Int32.ofNat cs.length), vU, vU]) rfl ?_
      refine XS.iloadN X224.here hx rfl (hb hby d10_9) rfl ?_
      refine X224.ldcInt hx hown (mvT hZ (hw _ (gm 68 rfl))) (g := (mkF m 10 #[vR sb, vR a1, vI (Int32.ofNat cs.length), vU, vU] [(.int (Int32.ofNat cs.length))])) rfl (hb hby d10_10) _ ?_
      refine XS.icmpNo X224.here hx rfl (hb hby d10_12) rfl (tlt ((own_lmax (by omega)) : (Int32.ofNat cs.length) < (2147483631 : Int32))).2.1 ?_
      refine XS.iloadN X224.here hx rfl (hb hby d10_15) rfl ?_
      refine XS.bipush X224.here hx rfl (hb hby d10_16) ?_
      show Steps p.tables e below (T224.setTop (mkF m 18 #[vR sb, vR a1, vI (Int32.ofNat cs.length), vU, vU] [(.int (16 : Int32)), (.int (Int32.ofNat cs.length))])) _
      refine XS.iadd X224.here hx rfl (hb hby d10_18) rfl ?_
      rw [show Int32.ofNat cs.length + (16 : Int32) = _ from own_addn (j := 16) (by omega)]
      refine XS.goto X224.here hx rfl (pc0 := 19) (pc' := 24) rfl (hb hby d10_19) (by decide) (by decide) ?_
      refine XS.istoreN X224.here hx rfl (hb hby d10_24) rfl (l' := #[vR sb, vR a1, vI (Int32.ofNat cs.length), vI (Int32.ofNat (cs.length + 16)), vU]) rfl ?_
      refine XS.aloadN X224.here hx rfl (hb hby d10_25) rfl rfl ?_
      exact h)
  obtain ⟨cq227, kq227, q227a, q227b, q227c⟩ := isOf hZ hh224 Ex
  obtain ⟨_, _, ⟨T227, L227, kk227, n227⟩, -, X227, ⟨Lc227, hQ227, l227, y227, z227⟩, st227⟩ := X224.virtualBack hx (y := (⟨"java/lang/String", "coder", "()B"⟩ : MethodName)) (z := (⟨"java/lang/String", "coder", "()B"⟩ : MethodName)) hown (mvT hZ (hw _ (gm 69 rfl))) (mvT hZ (hw _ (gm 64 rfl))) (notFace_of_selects (args := #[]) (mvT hZ (hw _ (gm 66 rfl)))) (mvT hZ (hw _ (gm 66 rfl))) (mvT hZ (hw _ (gm 65 rfl))) (by decide) (backOf (W := 0) (rmC0 l Z a0 hw [] a1 zC h0 n0 O0 SC hzC Sc) hZ (hw _ (gm 67 rfl)) (hw _ (gm 3 rfl)) (by decide) (by decide)) q227a q227c (g := (mkF m 26 #[vR sb, vR a1, vI (Int32.ofNat cs.length), vI (Int32.ofNat (cs.length + 16)), vU] [(.ref a1)])) rfl (by rw [hml]; rfl) (Steps.refl _) (argsL := []) (rest := []) (lenOf pd_9 rfl) rfl (by show 2 * 0 + _ ≤ _; exact Nat.le_of_eq rfl) (hb hby d10_26) (fun _ _ => ⟨rfl, hh224, (by decide : 0 + 0 ≤ _), (by decide : 0 + 0 ≤ _)⟩)
  dsimp only [Pt.U, Pt.locs, Pt.cells, Pt.slots] at X227 l227 y227 z227 st227 hQ227
  subst l227 y227 z227
  obtain ⟨rfl, Nq227, hh227⟩ := hQ227
  have N227 := Fr.app N224 Nq227
  have k228 : Rch p e below S0 T227 (mkF m 29 #[vR sb, vR a1, vI (Int32.ofNat cs.length), vI (Int32.ofNat (cs.length + 16)), vU] [(.int (0 : Int32))]) := fun t h => k226 t (st227.trans h)
  have k230 : Rch p e below S0 T227 (mkF m 34 #[vR sb, vR a1, vI (Int32.ofNat cs.length), vI (Int32.ofNat (cs.length + 16)), vI 0] [(.int (0 : Int32)), (.ref sb)]) := fun t h => k228 t (by
      show Steps p.tables e below (T227.setTop (mkF m 29 #[vR sb, vR a1, vI (Int32.ofNat cs.length), vI (Int32.ofNat (cs.length + 16)), vU] [(.int (0 : Int32))])) _
      refine XS.istore X227.here hx rfl (hb hby d10_29) rfl (l' := #[vR sb, vR a1, vI (Int32.ofNat cs.length), vI (Int32.ofNat (cs.length + 16)), vI 0]) rfl ?_
      refine XS.aloadN X227.here hx rfl (hb hby d10_31) rfl rfl ?_
      refine XS.iload X227.here hx rfl (hb hby d10_32) rfl ?_
      exact h)
  obtain ⟨T229, h229, X229, e229, W229, st229⟩ := putFN X227 hx hZ hown (hw _ (gm 70 rfl)) Via.refl hh227 Fc E_sb (Or.inl (hw _ (gm 71 rfl))) (hw _ (gm 45 rfl)) (ty := .byte) (v' := (.int (0 : Int32))) (by decide) (by decide) (by decide) (g := (mkF m 34 #[vR sb, vR a1, vI (Int32.ofNat cs.length), vI (Int32.ofNat (cs.length + 16)), vI 0] [(.int (0 : Int32)), (.ref sb)])) rfl rfl (hb hby d10_34)
  have k231 : Rch p e below S0 T229 (mkF m 37 #[vR sb, vR a1, vI (Int32.ofNat cs.length), vI (Int32.ofNat (cs.length + 16)), vI 0] []) := fun t h => k230 t (st229 t h)
  have N229 := Fr.snoc X229 N227 ge_sb
  replace Fc := Fc.same W229
  have O232 := O0.wr W229 ge_sb
  have K233 := K0.wr W229 (Or.inl (gm 0 rfl))
  replace Ex := Ex.wr W229
  replace Sv := Sv.other W229 (Or.inl ne_a1_sb)
  replace Sc := Sc.other W229 (Or.inl ne_a1_sb)
  replace Vt := Vt.other W229 ne_tt_sb
  replace E_sb := E_sb.wr W229
  replace Fv := Fv.other W229 (Or.inr (slot_ne (Or.inl (hw _ (gm 73 rfl))) (Or.inl (hw _ (gm 71 rfl))) (by decide) (t := (.array .byte)) (t' := .byte) (by decide) (by decide)))
  replace Fn := Fn.other W229 (Or.inr (slot_ne (Or.inl (hw _ (gm 89 rfl))) (Or.inl (hw _ (gm 71 rfl))) (by decide) (t := .int) (t' := .byte) (by decide) (by decide)))
  have k235 : Rch p e below S0 T229 (mkF m 44 #[vR sb, vR a1, vI (Int32.ofNat cs.length), vI (Int32.ofNat (cs.length + 16)), vI 0] [(.int (Int32.ofNat (cs.length + 16))), (.ref sb)]) := fun t h => k231 t (by
      show Steps p.tables e below (T229.setTop (mkF m 37 #[vR sb, vR a1, vI (Int32.ofNat cs.length), vI (Int32.ofNat (cs.length + 16)), vI 0] [])) _
      refine XS.aloadN X229.here hx rfl (hb hby d10_37) rfl rfl ?_
      refine XS.iload X229.here hx rfl (hb hby d10_38) rfl ?_
      refine XS.ifNo X229.here hx rfl (hb hby d10_40) rfl ((if0 _ _).trans (teq (by decide : (0 : Int32) = (0 : Int32))).2) ?_
      refine XS.iloadN X229.here hx rfl (hb hby d10_43) rfl ?_
      exact h)
  obtain ⟨T234, h234, k234, X234, e234, E234, A234, st234⟩ := newP X229 hx hZ (hw _ (gm 15 rfl)) e229 (g := (mkF m 44 #[vR sb, vR a1, vI (Int32.ofNat cs.length), vI (Int32.ofNat (cs.length + 16)), vI 0] [(.int (Int32.ofNat (cs.length + 16))), (.ref sb)])) rfl (hb hby d10_44) rfl (own_on0 (by omega)) (cap := 32) (by rw [(own_tn (by omega)).1]; omega) (by decide) (by decide) (by decide)
  obtain ⟨b234, g234⟩ : ∃ z, z = h229.size := ⟨_, rfl⟩
  rw [← g234] at A234 st234
  have k236 : Rch p e below S0 T234 (mkF m 46 #[vR sb, vR a1, vI (Int32.ofNat cs.length), vI (Int32.ofNat (cs.length + 16)), vI 0] [(.ref b234), (.ref sb)]) := fun t h => k235 t (st234 t h)
  have ne_a1_b234 : a1 ≠ b234 := own_ne Ex.lt (Nat.le_of_eq g234.symm)
  have ne_tt_b234 : tt ≠ b234 := own_ne Vt.lt (Nat.le_of_eq g234.symm)
  have ne_sb_b234 : sb ≠ b234 := own_ne E_sb.lt (Nat.le_of_eq g234.symm)
  have ge_b234 : n0 ≤ b234 := own_ge O232 (Nat.le_of_eq g234.symm)
  have sz_b234 : h0.size ≤ b234 := Nat.le_trans K233.1 (Nat.le_of_eq g234.symm)
  have O237 := O232.ext E234
  have K238 := K233.ext E234
  replace Ex := Ex.ext E234
  replace Sv := Sv.ext E234
  replace Sc := Sc.ext E234
  replace Vt := Vt.ext E234
  replace E_sb := E_sb.ext E234
  replace Fv := Fv.ext E234
  replace Fn := Fn.ext E234
  replace Fc := Fc.ext E234
  have V_b234 : Arv Z h234 b234 k234 .byte (Int32.ofNat (cs.length + 16)) [] (.int (0 : Int32)) := Arv.new A234 (own_on0 (by omega))
  have k240 : Rch p e below S0 T234 (mkF m 53 #[vR sb, vR a1, vI (Int32.ofNat cs.length), vI (Int32.ofNat (cs.length + 16)), vI 0] [(.ref b234), (.ref sb)]) := fun t h => k236 t (by
      show Steps p.tables e below (T234.setTop (mkF m 46 #[vR sb, vR a1, vI (Int32.ofNat cs.length), vI (Int32.ofNat (cs.length + 16)), vI 0] [(.ref b234), (.ref sb)])) _
      refine XS.goto X234.here hx rfl (pc0 := 46) (pc' := 53) rfl (hb hby d10_46) (by decide) (by decide) ?_
      exact h)
  obtain ⟨T239, h239, X239, e239, W239, st239⟩ := putF X234 hx hZ hown (host := "") (Or.inl (hw _ (gm 72 rfl))) Via.refl e234 Fv E_sb (Or.inl (hw _ (gm 73 rfl))) (hw _ (gm 45 rfl)) (ty := (.array .byte)) (by decide) rfl rfl (g := (mkF m 53 #[vR sb, vR a1, vI (Int32.ofNat cs.length), vI (Int32.ofNat (cs.length + 16)), vI 0] [(.ref b234), (.ref sb)])) rfl rfl (hb hby d10_53)
  have k241 : Rch p e below S0 T239 (mkF m 56 #[vR sb, vR a1, vI (Int32.ofNat cs.length), vI (Int32.ofNat (cs.length + 16)), vI 0] []) := fun t h => k240 t (st239 t h)
  have N239 := Fr.snoc X239 N229 ge_sb
  replace Fv := Fv.same W239
  have O242 := O237.wr W239 ge_sb
  have K243 := K238.wr W239 (Or.inl (gm 0 rfl))
  replace Ex := Ex.wr W239
  replace Sv := Sv.other W239 (Or.inl ne_a1_sb)
  replace Sc := Sc.other W239 (Or.inl ne_a1_sb)
  replace Vt := Vt.other W239 ne_tt_sb
  replace E_sb := E_sb.wr W239
  replace Fn := Fn.other W239 (Or.inr (slot_ne (Or.inl (hw _ (gm 89 rfl))) (Or.inl (hw _ (gm 73 rfl))) (by decide) (t := .int) (t' := (.array .byte)) (by decide) (by decide)))
  replace Fc := Fc.other W239 (Or.inr (slot_ne (Or.inl (hw _ (gm 71 rfl))) (Or.inl (hw _ (gm 73 rfl))) (by decide) (t := .byte) (t' := (.array .byte)) (by decide) (by decide)))
  replace V_b234 := V_b234.other W239 (Ne.symm ne_sb_b234)
  have k244 : Rch p e below S0 T239 (mkF m 58 #[vR sb, vR a1, vI (Int32.ofNat cs.length), vI (Int32.ofNat (cs.length + 16)), vI 0] [(.ref a1), (.ref sb)]) := fun t h => k241 t (by
      show Steps p.tables e below (T239.setTop (mkF m 56 #[vR sb, vR a1, vI (Int32.ofNat cs.length), vI (Int32.ofNat (cs.length + 16)), vI 0] [])) _
      refine XS.aloadN X239.here hx rfl (hb hby d10_56) rfl rfl ?_
      refine XS.aloadN X239.here hx rfl (hb hby d10_57) rfl rfl ?_
      exact h)
  obtain ⟨cq245, kq245, q245a, q245b, q245c⟩ := isOf hZ e239 E_sb
  obtain ⟨_, _, ⟨T245, L245, kk245, n245⟩, -, X245, ⟨Lc245, hQ245, l245, y245, z245⟩, st245⟩ := X239.virtualBack hx (y := (⟨"java/lang/AbstractStringBuilder", "append", "(Ljava/lang/String;)Ljava/lang/AbstractStringBuilder;"⟩ : MethodName)) (z := (⟨"java/lang/StringBuilder", "append", "(Ljava/lang/String;)Ljava/lang/AbstractStringBuilder;"⟩ : MethodName)) hown (mvT hZ (hw _ (gm 74 rfl))) (mvT hZ (hw _ (gm 75 rfl))) (own_nf (args := #[]) (y' := (⟨"java/lang/AbstractStringBuilder", "ensureCapacityInternal", "(I)V"⟩ : MethodName)) rfl (mvT hZ (hw _ (gm 93 rfl)))) (mvT hZ (hw _ (gm 77 rfl))) (mvT hZ (hw _ (gm 78 rfl))) (by decide) (backOf (W := 0) (rmAB l Z a0 hw [] sb a1 b234 tt kt cs k234 (cs.length + 16) [] zC h239 n0 O242 SC hzC ge_sb ge_b234 ne_sb_b234 E_sb Fc Fv Fn Ex Sv Sc Vt V_b234 (by simp) (by omega)) hZ (hw _ (gm 79 rfl)) (hw _ (gm 46 rfl)) (by decide) (by decide)) q245a q245c (g := (mkF m 58 #[vR sb, vR a1, vI (Int32.ofNat cs.length), vI (Int32.ofNat (cs.length + 16)), vI 0] [(.ref a1), (.ref sb)])) rfl (by rw [hml]; rfl) (Steps.refl _) (argsL := [(.ref a1)]) (rest := []) (lenOf pd_10 rfl) rfl (by show 2 * 0 + _ ≤ _; exact Nat.le_of_eq rfl) (hb hby d10_58) (fun _ _ => ⟨rfl, e239, (by decide : 1 + 0 ≤ _), (by decide : 32 + 0 ≤ _)⟩)
  dsimp only [Pt.U, Pt.locs, Pt.cells, Pt.slots] at X245 l245 y245 z245 st245 hQ245
  subst l245 y245 z245
  obtain ⟨rfl, Nq245, K245, Fc245, Fv245, Fn245, V245⟩ := hQ245
  have N245 := Fr.app N239 Nq245
  have k246 : Rch p e below S0 T245 (mkF m 61 #[vR sb, vR a1, vI (Int32.ofNat cs.length), vI (Int32.ofNat (cs.length + 16)), vI 0] [(.ref sb)]) := fun t h => k244 t (st245.trans h)
  have O247 := O242.keep K245 (allS ge_sb (allS ge_b234 all0))
  have K248 := K243.trans K245 (allS (Or.inl (gm 0 rfl)) (allS (Or.inr sz_b234) all0))
  replace E_sb := E_sb.keep K245
  have k249 : Rch p e below S0 T245 (mkF m 62 #[vR sb, vR a1, vI (Int32.ofNat cs.length), vI (Int32.ofNat (cs.length + 16)), vI 0] []) := fun t h => k246 t (by
      show Steps p.tables e below (T245.setTop (mkF m 61 #[vR sb, vR a1, vI (Int32.ofNat cs.length), vI (Int32.ofNat (cs.length + 16)), vI 0] [(.ref sb)])) _
      refine XS.pop X245.here hx rfl (hb hby d10_61) rfl rfl ?_
      exact h)
  obtain ⟨fs, hr, hrun, hended, hW, hsame⟩ := X245.leave (v := none) (fun _ => rfl)
  refine ⟨_, _, ?_, hrun, hended, _, _, rfl, ?_, ⟨_, rfl⟩, hW, hsame.mono (by decide) (by decide)⟩
  · rw [← hS0]
    refine k249 _ ?_
    show Steps p.tables e below (T245.setTop (mkF m 62 #[vR sb, vR a1, vI (Int32.ofNat cs.length), vI (Int32.ofNat (cs.length + 16)), vI 0] [])) _
    exact X245.returnOut hx Bd.returns (hb hby d10_62) hr
  · show Q_rmAI Z sb cs h0 n0 _ T245.heap _
    exact ⟨rfl, N245, K248, _, _, sz_b234, ne_sb_b234, Fc245, Fv245, Fn245, V245⟩
def Q_rmSI (Z : State) (sb : Addr) (cs : List Int32) (h0 : Heap) (n0 : Nat) (v : Option Value) (h : Heap) (L : List Loc) : Prop := v = none ∧ Fr n0 L ∧ Keep h0 h [sb] ∧ ∃ tb kb, h0.size ≤ tb ∧ sb ≠ tb ∧ Fld Z h sb "java/lang/AbstractStringBuilder" "coder" "B" (.int (0 : Int32)) ∧ Fld Z h sb "java/lang/AbstractStringBuilder" "value" "[B" (.ref tb) ∧ Fld Z h sb "java/lang/AbstractStringBuilder" "count" "I" (.int (Int32.ofNat cs.length)) ∧ Arv Z h tb kb .byte (Int32.ofNat (cs.length + 16)) (cs.map Value.int) (.int (0 : Int32))
theorem ef_9 (m : MethodId) (x0 : Addr) (x1 : Addr) : entryFrame m #[(.ref x0), (.ref x1)] 2 = mkF m 0 #[.val (.ref x0), .val (.ref x1)] [] := by first | (simp [entryFrame, mkF, argsToLocals, Value.category]; done) | rfl
theorem d9_0 : decode jdk_67_method_3_code 0 = .ok (.aload_n 0, 1) := by decide +kernel
theorem d9_1 : decode jdk_67_method_3_code 1 = .ok (.aload_n 1, 1) := by decide +kernel
theorem d9_2 : decode jdk_67_method_3_code 2 = .ok (.invokespecial 7, 3) := by decide +kernel
theorem d9_5 : decode jdk_67_method_3_code 5 = .ok (.return_, 1) := by decide +kernel
set_option maxRecDepth 65536 in
set_option maxHeartbeats 40000000 in
theorem rmSI (l : Launch) (Z : State) (a0 : Array Value) (hw : ∀ d ∈ tables_1, d.before a0 Z = true) (ws : List Jvm.Cond) (sb : Addr) (a1 : Addr) (tt : Addr) (kt : ClassId) (cs : List Int32) (zC : Int32) (h0 : Heap) (n0 : Nat) (O0 : Old Z n0 h0) (SC : Sta Z Z.heap "java/lang/String" "COMPACT_STRINGS" "Z" (.int zC)) (hzC : ¬ zC = 0) (ge_sb : n0 ≤ sb) (E_sb : Exa Z h0 sb "java/lang/StringBuilder") (Fc : Fld Z h0 sb "java/lang/AbstractStringBuilder" "coder" "B" (.int (0 : Int32))) (Fv : Fld Z h0 sb "java/lang/AbstractStringBuilder" "value" "[B" .null) (Fn : Fld Z h0 sb "java/lang/AbstractStringBuilder" "count" "I" (.int (0 : Int32))) (Ex : Exa Z h0 a1 "java/lang/String") (Sv : Fld Z h0 a1 "java/lang/String" "value" "[B" (.ref tt)) (Sc : Fld Z h0 a1 "java/lang/String" "coder" "B" (.int (0 : Int32))) (Vt : Arv Z h0 tt kt .byte (Int32.ofNat cs.length) (cs.map Value.int) (.int (0 : Int32))) (hk16 : cs.length ≤ 16) :
    MetFree l (⟨"java/lang/StringBuilder", "<init>", "(Ljava/lang/String;)V"⟩ : MethodName) (head1 (Jvm.Cond.code (⟨"java/lang/StringBuilder", "<init>", "(Ljava/lang/String;)V"⟩ : MethodName) jdk_67_method_3_code 2 none :: ws) ({ frames := 7, cells := 1, slots := 32, locals := 132 } : Room)) (fun a U => a = #[(.ref sb), (.ref a1)] ∧ Z.Warmed39 U.vm ∧ U.heap = h0) (fun _ _ _ _ _ => True) (fun _ U o U' => ∃ v L, o = .returned v ∧ Q_rmSI Z sb cs h0 n0 v U'.heap L ∧ FrameEnd U o U' L ({ frames := 7, cells := 1, slots := 32, locals := 132 } : Room).cells ({ frames := 7, cells := 1, slots := 32, locals := 132 } : Room).slots) := by
  refine MetFree.of_bodySF (plainFor_of_name pn_StringBuilder) hisR ?_
  intro p e s m args below meth c s₁ Bd hml0 hP hK
  obtain ⟨rfl, hZ, hh⟩ := hP
  have hx := Bd.exec
  have hby := Bd.bytes
  have hml : c.maxLocals = 2 := hml0
  have hown : s.vm.findClass "java/lang/StringBuilder" = some m.cls := findClass_of_methodNamed Bd.named
  have hnm := (name_of_methodNamed Bd.named Bd.method).1
  have X0 : Stand p l e ({ frames := 7, cells := 1, slots := 32, locals := 132 } : Room) s m #[(.ref sb), (.ref a1)] below meth c s₁ [] 0 0 := Stand.of_body Bd
  have e0 : s₁.heap = h0 := by rw [← hh, Bd.state]; rfl
  have N0 := Fr.nil n0
  obtain ⟨S0, hS0⟩ : ∃ z, z = s₁.setTop (entryFrame m #[(.ref sb), (.ref a1)] 2) := ⟨_, rfl⟩
  have k0 : Rch p e below S0 s₁ (mkF m 0 #[vR sb, vR a1] []) := fun t kq => hS0 ▸ castTop (ef_9 m sb a1) kq
  have K0 : Keep h0 h0 [sb] := Keep.refl h0 _
  have k250 : Rch p e below S0 s₁ (mkF m 2 #[vR sb, vR a1] [(.ref a1), (.ref sb)]) := fun t h => k0 t (by
      show Steps p.tables e below (s₁.setTop (mkF m 0 #[vR sb, vR a1] [])) _
      refine XS.aloadN X0.here hx rfl (hb hby d9_0) rfl rfl ?_
      refine XS.aloadN X0.here hx rfl (hb hby d9_1) rfl rfl ?_
      exact h)
  obtain ⟨_, _, ⟨T251, L251, kk251, n251⟩, -, X251, ⟨Lc251, hQ251, l251, y251, z251⟩, st251⟩ := X0.specialBack hx (y := (⟨"java/lang/AbstractStringBuilder", "<init>", "(Ljava/lang/String;)V"⟩ : MethodName)) rfl hown (mvT hZ (hw _ (gm 51 rfl))) (mvT hZ (hw _ (gm 52 rfl))) (mvT hZ (hw _ (gm 56 rfl))) (by decide) (backOf (W := 0) (rmAI l Z a0 hw [] sb a1 tt kt cs zC h0 n0 O0 SC hzC ge_sb E_sb Fc Fv Fn Ex Sv Sc Vt hk16) hZ (hw _ (gm 56 rfl)) (hw _ (gm 55 rfl)) (by decide) (by decide)) (g := (mkF m 2 #[vR sb, vR a1] [(.ref a1), (.ref sb)])) rfl (by rw [hml]; rfl) (Steps.refl _) (a := sb) (argsL := [(.ref a1)]) (rest := []) (lenOf pd_7 rfl) rfl (by show 2 * 0 + _ ≤ _; exact Nat.le_of_eq rfl) (hb hby d9_2) (fun _ _ => ⟨rfl, e0, (by decide : 0 + 1 ≤ _), (by decide : 0 + 32 ≤ _)⟩)
  dsimp only [Pt.U, Pt.locs, Pt.cells, Pt.slots] at X251 l251 y251 z251 st251 hQ251
  subst l251 y251 z251
  obtain ⟨rfl, Nq251, K251, tb251, kb251, z251, ne251, Fc251, Fv251, Fn251, V251⟩ := hQ251
  have N251 := Fr.app N0 Nq251
  have k252 : Rch p e below S0 T251 (mkF m 5 #[vR sb, vR a1] []) := fun t h => k250 t (st251.trans h)
  have O253 := O0.keep K251 (allS ge_sb all0)
  have K254 := K0.trans K251 (allS (Or.inl (gm 0 rfl)) all0)
  replace E_sb := E_sb.keep K251
  obtain ⟨fs, hr, hrun, hended, hW, hsame⟩ := X251.leave (v := none) (fun _ => rfl)
  refine ⟨_, _, ?_, hrun, hended, _, _, rfl, ?_, ⟨_, rfl⟩, hW, hsame.mono (by decide) (by decide)⟩
  · rw [← hS0]
    refine k252 _ ?_
    show Steps p.tables e below (T251.setTop (mkF m 5 #[vR sb, vR a1] [])) _
    exact X251.returnOut hx Bd.returns (hb hby d9_5) hr
  · show Q_rmSI Z sb cs h0 n0 _ T251.heap _
    exact ⟨rfl, N251, K254, _, _, z251, ne251, Fc251, Fv251, Fn251, V251⟩
def Q_rmHI (Z : State) (h1 : Addr) (h0 : Heap) (n0 : Nat) (v : Option Value) (h : Heap) (L : List Loc) : Prop := v = none ∧ Fr n0 L ∧ Keep h0 h [h1] ∧ ∃ sb tb kb, h0.size ≤ sb ∧ h0.size ≤ tb ∧ sb ≠ tb ∧ Exa Z h sb "java/lang/StringBuilder" ∧ Fld Z h sb "java/lang/AbstractStringBuilder" "coder" "B" (.int (0 : Int32)) ∧ Fld Z h sb "java/lang/AbstractStringBuilder" "value" "[B" (.ref tb) ∧ Fld Z h sb "java/lang/AbstractStringBuilder" "count" "I" (.int (Int32.ofNat 16)) ∧ Arv Z h tb kb .byte (Int32.ofNat 32) (([(60 : Int32), (33 : Int32), (68 : Int32), (79 : Int32), (67 : Int32), (84 : Int32), (89 : Int32), (80 : Int32), (69 : Int32), (32 : Int32), (104 : Int32), (116 : Int32), (109 : Int32), (108 : Int32), (62 : Int32), (10 : Int32)] : List Int32).map Value.int) (.int (0 : Int32)) ∧ Fld Z h h1 "com/example/usko/usko/server/Html" "out" "Ljava/lang/StringBuilder;" (.ref sb)
theorem ef_8 (m : MethodId) (x0 : Addr) : entryFrame m #[(.ref x0)] 1 = mkF m 0 #[.val (.ref x0)] [] := by first | (simp [entryFrame, mkF, argsToLocals, Value.category]; done) | rfl
theorem pn_Html : plainName "com/example/usko/usko/server/Html" = true := by first | (simp [plainName, overriddenIn]; done) | decide +kernel
theorem d8_0 : decode prog_31_method_1_code 0 = .ok (.aload_n 0, 1) := by decide +kernel
theorem d8_1 : decode prog_31_method_1_code 1 = .ok (.invokespecial 1, 3) := by decide +kernel
theorem d8_4 : decode prog_31_method_1_code 4 = .ok (.aload_n 0, 1) := by decide +kernel
theorem d8_5 : decode prog_31_method_1_code 5 = .ok (.new 7, 3) := by decide +kernel
theorem d8_8 : decode prog_31_method_1_code 8 = .ok (.dup, 1) := by decide +kernel
theorem d8_9 : decode prog_31_method_1_code 9 = .ok (.ldc 9, 2) := by decide +kernel
theorem d8_11 : decode prog_31_method_1_code 11 = .ok (.invokespecial 11, 3) := by decide +kernel
theorem d8_14 : decode prog_31_method_1_code 14 = .ok (.putfield 14, 3) := by decide +kernel
theorem d8_17 : decode prog_31_method_1_code 17 = .ok (.return_, 1) := by decide +kernel
set_option maxRecDepth 65536 in
set_option maxHeartbeats 40000000 in
theorem rmHI (l : Launch) (Z : State) (a0 : Array Value) (hw : ∀ d ∈ tables_1, d.before a0 Z = true) (ws : List Jvm.Cond) (h1 : Addr) (zC : Int32) (h0 : Heap) (n0 : Nat) (O0 : Old Z n0 h0) (SC : Sta Z Z.heap "java/lang/String" "COMPACT_STRINGS" "Z" (.int zC)) (hzC : ¬ zC = 0) (ge_h1 : n0 ≤ h1) (E_h1 : Exa Z h0 h1 "com/example/usko/usko/server/Html") (Fo : Fld Z h0 h1 "com/example/usko/usko/server/Html" "out" "Ljava/lang/StringBuilder;" .null) :
    MetFree l (⟨"com/example/usko/usko/server/Html", "<init>", "()V"⟩ : MethodName) (head1 (Jvm.Cond.code (⟨"com/example/usko/usko/server/Html", "<init>", "()V"⟩ : MethodName) prog_31_method_1_code 1 none :: ws) ({ frames := 8, cells := 4, slots := 104, locals := 150 } : Room)) (fun a U => a = #[(.ref h1)] ∧ Z.Warmed39 U.vm ∧ U.heap = h0 ∧ CHv Z consts_1 U.vm h0) (fun _ _ _ _ _ => True) (fun _ U o U' => ∃ v L, o = .returned v ∧ Q_rmHI Z h1 h0 n0 v U'.heap L ∧ CHr Z consts_1 U.vm U.heap U'.vm U'.heap ∧ ReturnedEndW U o U' L ({ frames := 8, cells := 4, slots := 104, locals := 150 } : Room).cells ({ frames := 8, cells := 4, slots := 104, locals := 150 } : Room).slots) := by
  refine MetFree.of_bodySF (plainFor_of_name pn_Html) hisR ?_
  intro p e s m args below meth c s₁ Bd hml0 hP hK
  obtain ⟨rfl, hZ, hh, hC0⟩ := hP
  have hx := Bd.exec
  have hby := Bd.bytes
  have hml : c.maxLocals = 1 := hml0
  have hown : s.vm.findClass "com/example/usko/usko/server/Html" = some m.cls := findClass_of_methodNamed Bd.named
  have hnm := (name_of_methodNamed Bd.named Bd.method).1
  have X0 : Stand p l e ({ frames := 8, cells := 4, slots := 104, locals := 150 } : Room) (s.setVm s.vm) m #[(.ref h1)] below meth c s₁ [] 0 0 := Stand.of_body Bd
  have e0 : s₁.heap = h0 := by rw [← hh, Bd.state]; rfl
  have N0 := Fr.nil n0
  obtain ⟨S0, hS0⟩ : ∃ z, z = s₁.setTop (entryFrame m #[(.ref h1)] 1) := ⟨_, rfl⟩
  have k0 : Rch p e below S0 s₁ (mkF m 0 #[vR h1] []) := fun t kq => hS0 ▸ castTop (ef_8 m h1) kq
  have K0 : Keep h0 h0 [h1] := Keep.refl h0 _
  have hS : s.Since s.vm s.heap.size := (State.WarmedH.refl s).since _
  have hk : s.heap.size ≤ h0.size := by rw [← hh]; exact Nat.le_refl _
  have hwS : ∀ d ∈ Bundle.stringAtoms, d.before a0 Z = true := fun d hd => hw d ((by decide +kernel : ∀ d ∈ Bundle.stringAtoms, d ∈ tables_1) d hd)
  have rC0 : CHr Z consts_1 s.vm h0 s.vm h0 := CHr.refl hC0
  have hEL : EW Z a0 consts_1 := (EW.cons (hw _ (gm 47 rfl)) (by decide +kernel) (EW.cons (hw _ (gm 122 rfl)) (by decide +kernel) (EW.cons (hw _ (gm 124 rfl)) (by decide +kernel) (EW.cons (hw _ (gm 14 rfl)) (by decide +kernel) EW.nil))))
  have hlt1 : h1 < h0.size := E_h1.lt
  have sf_h1 : Safe Z consts_1 s.vm h0 h1 := own_safe_exa hZ E_h1 (hw _ (gm 38 rfl)) (by decide)
  have k256 : Rch p e below S0 s₁ (mkF m 1 #[vR h1] [(.ref h1)]) := fun t h => k0 t (by
      show Steps p.tables e below (s₁.setTop (mkF m 0 #[vR h1] [])) _
      refine XS.aloadN X0.here hx rfl (hb hby d8_0) rfl rfl ?_
      exact h)
  obtain ⟨T255, X255, e255, st255⟩ := initO X0 hx hZ hown (hw _ (gm 43 rfl)) (hw _ (gm 12 rfl)) (hw _ (gm 13 rfl)) e0 (g := (mkF m 1 #[vR h1] [(.ref h1)])) rfl (by rw [hml]; rfl) rfl (hb hby d8_1) (by decide) (W := 0) (by show 2 * 0 + _ ≤ _; exact Nat.le_of_eq rfl) (by decide)
  have k257 : Rch p e below S0 T255 (mkF m 4 #[vR h1] []) := fun t h => k256 t (st255 t h)
  have k259 : Rch p e below S0 T255 (mkF m 5 #[vR h1] [(.ref h1)]) := fun t h => k257 t (by
      show Steps p.tables e below (T255.setTop (mkF m 4 #[vR h1] [])) _
      refine XS.aloadN X255.here hx rfl (hb hby d8_4) rfl rfl ?_
      exact h)
  obtain ⟨T258, h258, X258, e258, E258, A258, D258, -, st258⟩ := newO X255 hx hZ hown (hw _ (gm 44 rfl)) (hw _ (gm 45 rfl)) (hw _ (gm 46 rfl)) e255 (g := (mkF m 5 #[vR h1] [(.ref h1)])) rfl (hb hby d8_5) (by decide) (by decide)
  obtain ⟨b258, g258⟩ : ∃ z, z = h0.size := ⟨_, rfl⟩
  rw [← g258] at A258 D258 st258
  have k260 : Rch p e below S0 T258 (mkF m 8 #[vR h1] [(.ref b258), (.ref h1)]) := fun t h => k259 t (st258 t h)
  have ne_h1_b258 : h1 ≠ b258 := own_ne E_h1.lt (Nat.le_of_eq g258.symm)
  have ge_b258 : n0 ≤ b258 := own_ge O0 (Nat.le_of_eq g258.symm)
  have sf_b258 : Safe Z consts_1 s.vm h0 b258 := Safe.new (Nat.le_of_eq g258.symm)
  have sz_b258 : h0.size ≤ b258 := Nat.le_trans K0.1 (Nat.le_of_eq g258.symm)
  replace sf_h1 := Safe.ext E258 hC0 sf_h1
  replace sf_b258 := Safe.ext E258 hC0 sf_b258
  have hC261 := hC0.ext E258
  have rC261 := rC0.trans (CHr.ext E258 hC0)
  have O262 := O0.ext E258
  have K263 := K0.ext E258
  replace E_h1 := E_h1.ext E258
  replace Fo := Fo.ext E258
  have hkk264 := Nat.le_trans hk E258.1
  have E_b258 := A258
  have F_b258_coder : Fld Z h258 b258 "java/lang/AbstractStringBuilder" "coder" "B" (.int (0 : Int32)) := D258 (Or.inl (hw _ (gm 71 rfl))) (ty := .byte) (by decide)
  have F_b258_value : Fld Z h258 b258 "java/lang/AbstractStringBuilder" "value" "[B" .null := D258 (Or.inl (hw _ (gm 73 rfl))) (ty := (.array .byte)) (by decide)
  have F_b258_count : Fld Z h258 b258 "java/lang/AbstractStringBuilder" "count" "I" (.int (0 : Int32)) := D258 (Or.inl (hw _ (gm 89 rfl))) (ty := .int) (by decide)
  have k265 : Rch p e below S0 T258 (mkF m 9 #[vR h1] [(.ref b258), (.ref b258), (.ref h1)]) := fun t h => k260 t (by
      show Steps p.tables e below (T258.setTop (mkF m 8 #[vR h1] [(.ref b258), (.ref h1)])) _
      refine XS.dup X258.here hx rfl (hb hby d8_8) rfl rfl ?_
      exact h)
  obtain ⟨a266, T266, h266, kk266, t266, kt266, X266, e266, E266, hS266, hk266, hZ266, hown266, Ea266, Ca266, Va266, At266, la266, lt266, hR266, hL266, sfa266, st266⟩ := ldcCH X258 hx hZ hown (hw _ (gm 47 rfl)) hwS e258 hS hkk264 hEL (by decide +kernel) hC261 (vs := [(.int (60 : Int32)), (.int (33 : Int32)), (.int (68 : Int32)), (.int (79 : Int32)), (.int (67 : Int32)), (.int (84 : Int32)), (.int (89 : Int32)), (.int (80 : Int32)), (.int (69 : Int32)), (.int (32 : Int32)), (.int (104 : Int32)), (.int (116 : Int32)), (.int (109 : Int32)), (.int (108 : Int32)), (.int (62 : Int32)), (.int (10 : Int32))]) (z := (16 : Int32)) ⟨by decide +kernel, by decide +kernel⟩ (by decide) (by decide) (g := (mkF m 9 #[vR h1] [(.ref b258), (.ref b258), (.ref h1)])) rfl (hb hby d8_9) (n := 64) (by decide +kernel) (by decide) (by decide) (by decide)
  have k267 : Rch p e below S0 T266 (mkF m 11 #[vR h1] [(.ref a266), (.ref b258), (.ref b258), (.ref h1)]) := fun t h => k265 t (st266 t h)
  replace sf_h1 := hR266.safe E_h1.lt sf_h1
  replace sf_b258 := hR266.safe E_b258.lt sf_b258
  have hC268 := hR266.1
  have rC268 := rC261.trans hR266
  have O269 := O262.ext E266
  have K270 := K263.ext E266
  replace E_h1 := E_h1.ext E266
  replace Fo := Fo.ext E266
  replace E_b258 := E_b258.ext E266
  replace F_b258_coder := F_b258_coder.ext E266
  replace F_b258_value := F_b258_value.ext E266
  replace F_b258_count := F_b258_count.ext E266
  have ne_h1_a266 : h1 ≠ a266 := (sfa266 h1 sf_h1).1
  have ne_h1_t266 : h1 ≠ t266 := (sfa266 h1 sf_h1).2
  have ne_b258_a266 : b258 ≠ a266 := (sfa266 b258 sf_b258).1
  have ne_b258_t266 : b258 ≠ t266 := (sfa266 b258 sf_b258).2
  obtain ⟨_, _, ⟨T271, L271, kk271, n271⟩, -, X271, ⟨Lc271, hQ271, l271, y271, z271⟩, st271⟩ := X266.specialBack hx (y := (⟨"java/lang/StringBuilder", "<init>", "(Ljava/lang/String;)V"⟩ : MethodName)) rfl hown266 (mvT hZ266 (hw _ (gm 48 rfl))) (mvT hZ266 (hw _ (gm 49 rfl))) (mvT hZ266 (hw _ (gm 50 rfl))) (by decide) (backOf (W := 2) (rmSI l Z a0 hw [] b258 a266 t266 kt266 [(60 : Int32), (33 : Int32), (68 : Int32), (79 : Int32), (67 : Int32), (84 : Int32), (89 : Int32), (80 : Int32), (69 : Int32), (32 : Int32), (104 : Int32), (116 : Int32), (109 : Int32), (108 : Int32), (62 : Int32), (10 : Int32)] zC h266 n0 O269 SC hzC ge_b258 E_b258 F_b258_coder F_b258_value F_b258_count Ea266 Va266 Ca266 At266 (by decide)) hZ266 (hw _ (gm 50 rfl)) (hw _ (gm 46 rfl)) (by decide) (by decide)) (g := (mkF m 11 #[vR h1] [(.ref a266), (.ref b258), (.ref b258), (.ref h1)])) rfl (by rw [hml]; rfl) (Steps.refl _) (a := b258) (argsL := [(.ref a266)]) (rest := [(.ref b258), (.ref h1)]) (lenOf pd_7 rfl) rfl (by show 2 * 0 + _ ≤ _; exact Nat.le_of_eq rfl) (hb hby d8_11) (fun _ _ => ⟨rfl, e266, (by decide : 3 + 1 ≤ _), (by decide : 72 + 32 ≤ _)⟩)
  dsimp only [Pt.U, Pt.locs, Pt.cells, Pt.slots] at X271 l271 y271 z271 st271 hQ271
  subst l271 y271 z271
  obtain ⟨rfl, Nq271, K271, tb271, kb271, z271, ne271, Fc271, Fv271, Fn271, V271⟩ := hQ271
  have N271 := Fr.app N0 Nq271
  have k272 : Rch p e below S0 T271 (mkF m 14 #[vR h1] [(.ref b258), (.ref h1)]) := fun t h => k267 t (st271.trans h)
  have sz_tb271 := Nat.le_trans K270.1 z271
  have hC273 := hC268.keep K271 (sfS sf_b258 sf0)
  have rC273 := rC268.trans (CHr.keep K271 (sfS sf_b258 sf0) hC268)
  have sfx274 := (sfS sf_b258 sf0)
  replace sf_h1 := Safe.keep K271 sfx274 hC268 sf_h1
  replace sf_b258 := Safe.keep K271 sfx274 hC268 sf_b258
  have O275 := O269.keep K271 (allS ge_b258 all0)
  have K276 := K270.trans K271 (allS (Or.inr sz_b258) all0)
  replace E_h1 := E_h1.keep K271
  replace Fo := Fo.keep K271 (ninS ne_h1_b258 nin0)
  replace E_b258 := E_b258.keep K271
  have hkk277 := Nat.le_trans hk266 K271.1
  have ne_tb_h1 : tb271 ≠ h1 := fun q => by
    have q2 := hlt1
    have q3 := sz_tb271
    rw [q] at q3
    exact absurd q2 (Nat.not_lt.mpr q3)
  have ne_tb271_h1 := ne_tb_h1
  obtain ⟨T278, h278, X278, e278, W278, st278⟩ := putF X271 hx hZ266 hown266 (host := "") (Or.inl (hw _ (gm 115 rfl))) Via.refl rfl Fo E_h1 (Or.inr ⟨(hw _ (gm 116 rfl)), rfl, hnm⟩) (hw _ (gm 38 rfl)) (ty := (.object "java/lang/StringBuilder")) (by decide) rfl rfl (g := (mkF m 14 #[vR h1] [(.ref b258), (.ref h1)])) rfl rfl (hb hby d8_14)
  have k279 : Rch p e below S0 T278 (mkF m 17 #[vR h1] []) := fun t h => k272 t (st278 t h)
  have N278 := Fr.snoc X278 N271 ge_h1
  replace Fo := Fo.same W278
  have hC280 := hC273.wr W278 sf_h1
  have rC280 := rC273.trans (CHr.wr W278 sf_h1 hC273)
  replace sf_b258 := Safe.wr W278 sf_h1 hC273 sf_b258
  replace sf_h1 := Safe.wr W278 sf_h1 hC273 sf_h1
  have O281 := O275.wr W278 ge_h1
  have K282 := K276.wr W278 (Or.inl (gm 0 rfl))
  replace E_h1 := E_h1.wr W278
  replace E_b258 := E_b258.wr W278
  replace Fc271 := Fc271.other W278 (Or.inl (Ne.symm ne_h1_b258))
  replace Fv271 := Fv271.other W278 (Or.inl (Ne.symm ne_h1_b258))
  replace Fn271 := Fn271.other W278 (Or.inl (Ne.symm ne_h1_b258))
  replace V271 := V271.other W278 ne_tb271_h1
  have hkk283 := Nat.le_trans hkk277 (Keep.of_wr W278).1
  obtain ⟨fs, hr, hrun, hended, hfin⟩ := X278.leaveW hS266 (by rw [e278]; exact hkk283) (v := none) (fun _ => rfl)
  refine ⟨_, _, ?_, hrun, hended, _, _, rfl, ?_, (by rw [hh]; have q := own_chr rC280 (CHv.at X278 hZ266 hEL hC280) e278; exact q), hfin.1, hfin.2.1, hfin.2.2.1, hfin.2.2.2.mono (by decide) (by decide)⟩
  · rw [← hS0]
    refine k279 _ ?_
    show Steps p.tables e below (T278.setTop (mkF m 17 #[vR h1] [])) _
    exact X278.returnOut hx Bd.returns (hb hby d8_17) hr
  · show Q_rmHI Z h1 h0 n0 _ T278.heap _
    rw [e278]
    exact ⟨rfl, N278, K282, _, _, _, sz_b258, sz_tb271, ne271, E_b258, Fc271, Fv271, Fn271, V271, Fo⟩
def Q_rmCL (Z : State) (h1 : Addr) (sb : Addr) (tb : Addr) (cs : List Int32) (kb : ClassId) (cap : Nat) (bs : List Int32) (h0 : Heap) (n0 : Nat) (v : Option Value) (h : Heap) (L : List Loc) : Prop := v = some (.ref h1) ∧ Fr n0 L ∧ Keep h0 h [sb, tb] ∧ Fld Z h sb "java/lang/AbstractStringBuilder" "coder" "B" (.int (0 : Int32)) ∧ Fld Z h sb "java/lang/AbstractStringBuilder" "value" "[B" (.ref tb) ∧ Fld Z h sb "java/lang/AbstractStringBuilder" "count" "I" (.int (Int32.ofNat (((bs ++ [60, 47]) ++ cs) ++ [62, 10]).length)) ∧ Arv Z h tb kb .byte (Int32.ofNat cap) ((((bs ++ [60, 47]) ++ cs) ++ [62, 10]).map Value.int) (.int (0 : Int32))
theorem ef_20 (m : MethodId) (x0 : Addr) (x1 : Addr) : entryFrame m #[(.ref x0), (.ref x1)] 2 = mkF m 0 #[.val (.ref x0), .val (.ref x1)] [] := by first | (simp [entryFrame, mkF, argsToLocals, Value.category]; done) | rfl
theorem d20_0 : decode prog_31_method_3_code 0 = .ok (.aload_n 0, 1) := by decide +kernel
theorem d20_1 : decode prog_31_method_3_code 1 = .ok (.getfield 14, 3) := by decide +kernel
theorem d20_4 : decode prog_31_method_3_code 4 = .ok (.ldc 39, 2) := by decide +kernel
theorem d20_6 : decode prog_31_method_3_code 6 = .ok (.invokevirtual 31, 3) := by decide +kernel
theorem d20_9 : decode prog_31_method_3_code 9 = .ok (.aload_n 1, 1) := by decide +kernel
theorem d20_10 : decode prog_31_method_3_code 10 = .ok (.invokevirtual 31, 3) := by decide +kernel
theorem d20_13 : decode prog_31_method_3_code 13 = .ok (.ldc 41, 2) := by decide +kernel
theorem d20_15 : decode prog_31_method_3_code 15 = .ok (.invokevirtual 31, 3) := by decide +kernel
theorem d20_18 : decode prog_31_method_3_code 18 = .ok (.pop, 1) := by decide +kernel
theorem d20_19 : decode prog_31_method_3_code 19 = .ok (.aload_n 0, 1) := by decide +kernel
theorem d20_20 : decode prog_31_method_3_code 20 = .ok (.areturn, 1) := by decide +kernel
set_option maxRecDepth 65536 in
set_option maxHeartbeats 40000000 in
theorem rmCL (l : Launch) (Z : State) (a0 : Array Value) (hw : ∀ d ∈ tables_1, d.before a0 Z = true) (ws : List Jvm.Cond) (h1 : Addr) (a1 : Addr) (sb : Addr) (tb : Addr) (tt : Addr) (kt : ClassId) (cs : List Int32) (kb : ClassId) (cap : Nat) (bs : List Int32) (zC : Int32) (h0 : Heap) (n0 : Nat) (O0 : Old Z n0 h0) (SC : Sta Z Z.heap "java/lang/String" "COMPACT_STRINGS" "Z" (.int zC)) (hzC : ¬ zC = 0) (Fo : Fld Z h0 h1 "com/example/usko/usko/server/Html" "out" "Ljava/lang/StringBuilder;" (.ref sb)) (ge_sb : n0 ≤ sb) (ge_tb : n0 ≤ tb) (ne_sb_tb : sb ≠ tb) (E_sb : Exa Z h0 sb "java/lang/StringBuilder") (Fc : Fld Z h0 sb "java/lang/AbstractStringBuilder" "coder" "B" (.int (0 : Int32))) (Fv : Fld Z h0 sb "java/lang/AbstractStringBuilder" "value" "[B" (.ref tb)) (Fn : Fld Z h0 sb "java/lang/AbstractStringBuilder" "count" "I" (.int (Int32.ofNat bs.length))) (Ex : Exa Z h0 a1 "java/lang/String") (Sv : Fld Z h0 a1 "java/lang/String" "value" "[B" (.ref tt)) (Sc : Fld Z h0 a1 "java/lang/String" "coder" "B" (.int (0 : Int32))) (Vt : Arv Z h0 tt kt .byte (Int32.ofNat cs.length) (cs.map Value.int) (.int (0 : Int32))) (Vb : Arv Z h0 tb kb .byte (Int32.ofNat cap) (bs.map Value.int) (.int (0 : Int32))) (ne_a1_sb : a1 ≠ sb) (ne_a1_tb : a1 ≠ tb) (ne_tt_sb : tt ≠ sb) (ne_tt_tb : tt ≠ tb) (hcap : bs.length + cs.length + 4 ≤ cap) (hc2 : cap ≤ 32) (hc3 : 16 < cap) :
    MetFree l (⟨"com/example/usko/usko/server/Html", "close", "(Ljava/lang/String;)Lcom/example/usko/usko/server/Html;"⟩ : MethodName) (head1 (Jvm.Cond.code (⟨"com/example/usko/usko/server/Html", "close", "(Ljava/lang/String;)Lcom/example/usko/usko/server/Html;"⟩ : MethodName) prog_31_method_3_code 2 (some (.object "com/example/usko/usko/server/Html")) :: ws) ({ frames := 5, cells := 4, slots := 24, locals := 98 } : Room)) (fun a U => a = #[(.ref h1), (.ref a1)] ∧ Z.Warmed39 U.vm ∧ U.heap = h0 ∧ CHv Z consts_1 U.vm h0) (fun _ _ _ _ _ => True) (fun _ U o U' => ∃ v L, o = .returned v ∧ Q_rmCL Z h1 sb tb cs kb cap bs h0 n0 v U'.heap L ∧ CHr Z consts_1 U.vm U.heap U'.vm U'.heap ∧ ReturnedEndW U o U' L ({ frames := 5, cells := 4, slots := 24, locals := 98 } : Room).cells ({ frames := 5, cells := 4, slots := 24, locals := 98 } : Room).slots) := by
  refine MetFree.of_bodySF (plainFor_of_name pn_Html) hisR ?_
  intro p e s m args below meth c s₁ Bd hml0 hP hK
  obtain ⟨rfl, hZ, hh, hC0⟩ := hP
  have hx := Bd.exec
  have hby := Bd.bytes
  have hml : c.maxLocals = 2 := hml0
  have hown : s.vm.findClass "com/example/usko/usko/server/Html" = some m.cls := findClass_of_methodNamed Bd.named
  have hnm := (name_of_methodNamed Bd.named Bd.method).1
  have X0 : Stand p l e ({ frames := 5, cells := 4, slots := 24, locals := 98 } : Room) (s.setVm s.vm) m #[(.ref h1), (.ref a1)] below meth c s₁ [] 0 0 := Stand.of_body Bd
  have e0 : s₁.heap = h0 := by rw [← hh, Bd.state]; rfl
  have N0 := Fr.nil n0
  obtain ⟨S0, hS0⟩ : ∃ z, z = s₁.setTop (entryFrame m #[(.ref h1), (.ref a1)] 2) := ⟨_, rfl⟩
  have k0 : Rch p e below S0 s₁ (mkF m 0 #[vR h1, vR a1] []) := fun t kq => hS0 ▸ castTop (ef_20 m h1 a1) kq
  have K0 : Keep h0 h0 [sb, tb] := Keep.refl h0 _
  have hS : s.Since s.vm s.heap.size := (State.WarmedH.refl s).since _
  have hk : s.heap.size ≤ h0.size := by rw [← hh]; exact Nat.le_refl _
  have hwS : ∀ d ∈ Bundle.stringAtoms, d.before a0 Z = true := fun d hd => hw d ((by decide +kernel : ∀ d ∈ Bundle.stringAtoms, d ∈ tables_1) d hd)
  have rC0 : CHr Z consts_1 s.vm h0 s.vm h0 := CHr.refl hC0
  have hEL : EW Z a0 consts_1 := (EW.cons (hw _ (gm 47 rfl)) (by decide +kernel) (EW.cons (hw _ (gm 122 rfl)) (by decide +kernel) (EW.cons (hw _ (gm 124 rfl)) (by decide +kernel) (EW.cons (hw _ (gm 14 rfl)) (by decide +kernel) EW.nil))))
  have hE16 : ELs Z a0 consts_1 16 := (ELs.cons (hw _ (gm 47 rfl)) (by decide +kernel) (by decide +kernel) (ELs.cons (hw _ (gm 122 rfl)) (by decide +kernel) (by decide +kernel) (ELs.cons (hw _ (gm 124 rfl)) (by decide +kernel) (by decide +kernel) (ELs.cons (hw _ (gm 14 rfl)) (by decide +kernel) (by decide +kernel) ELs.nil))))
  have sf_sb : Safe Z consts_1 s.vm h0 sb := own_safe_exa hZ E_sb (hw _ (gm 45 rfl)) (by decide)
  have sf_tb : Safe Z consts_1 s.vm h0 tb := own_safe_len hZ hE16 Vb (by rw [(own_tn (by omega)).1]; exact hc3)
  have k285 : Rch p e below S0 s₁ (mkF m 1 #[vR h1, vR a1] [(.ref h1)]) := fun t h => k0 t (by
      show Steps p.tables e below (s₁.setTop (mkF m 0 #[vR h1, vR a1] [])) _
      refine XS.aloadN X0.here hx rfl (hb hby d20_0) rfl rfl ?_
      exact h)
  obtain ⟨T284, X284, e284, st284⟩ := getF X0 hx hZ hown (host := "") (Or.inl (hw _ (gm 115 rfl))) Via.refl e0 Fo (g := (mkF m 1 #[vR h1, vR a1] [(.ref h1)])) rfl rfl (hb hby d20_1)
  have k286 : Rch p e below S0 T284 (mkF m 4 #[vR h1, vR a1] [(.ref sb)]) := fun t h => k285 t (st284 t h)
  obtain ⟨a287, T287, h287, kk287, t287, kt287, X287, e287, E287, hS287, hk287, hZ287, hown287, Ea287, Ca287, Va287, At287, la287, lt287, hR287, hL287, sfa287, st287⟩ := ldcCH X284 hx hZ hown (hw _ (gm 122 rfl)) hwS e284 hS hk hEL (by decide +kernel) hC0 (vs := [(.int (60 : Int32)), (.int (47 : Int32))]) (z := (2 : Int32)) ⟨by decide +kernel, by decide +kernel⟩ (by decide) (by decide) (g := (mkF m 4 #[vR h1, vR a1] [(.ref sb)])) rfl (hb hby d20_4) (n := 8) (by decide +kernel) (by decide) (by decide) (by decide)
  have k288 : Rch p e below S0 T287 (mkF m 6 #[vR h1, vR a1] [(.ref a287), (.ref sb)]) := fun t h => k286 t (st287 t h)
  replace sf_sb := hR287.safe E_sb.lt sf_sb
  replace sf_tb := hR287.safe Vb.lt sf_tb
  have hC289 := hR287.1
  have rC289 := rC0.trans hR287
  have O290 := O0.ext E287
  have K291 := K0.ext E287
  replace Ex := Ex.ext E287
  replace Sv := Sv.ext E287
  replace Sc := Sc.ext E287
  replace Vt := Vt.ext E287
  replace E_sb := E_sb.ext E287
  replace Fc := Fc.ext E287
  replace Fv := Fv.ext E287
  replace Fn := Fn.ext E287
  replace Vb := Vb.ext E287
  have ne_sb_a287 : sb ≠ a287 := (sfa287 sb sf_sb).1
  have ne_sb_t287 : sb ≠ t287 := (sfa287 sb sf_sb).2
  have ne_tb_a287 : tb ≠ a287 := (sfa287 tb sf_tb).1
  have ne_tb_t287 : tb ≠ t287 := (sfa287 tb sf_tb).2
  obtain ⟨cq292, kq292, q292a, q292b, q292c⟩ := isOf hZ287 e287 E_sb
  obtain ⟨_, _, ⟨T292, L292, kk292, n292⟩, -, X292, ⟨Lc292, hQ292, l292, y292, z292⟩, st292⟩ := X287.virtualBack hx (y := (⟨"java/lang/StringBuilder", "append", "(Ljava/lang/String;)Ljava/lang/StringBuilder;"⟩ : MethodName)) (z := (⟨"java/lang/StringBuilder", "append", "(Ljava/lang/String;)Ljava/lang/StringBuilder;"⟩ : MethodName)) hown287 (mvT hZ287 (hw _ (gm 123 rfl))) (mvT hZ287 (hw _ (gm 81 rfl))) (notFace_of_selects (args := #[]) (mvT hZ287 (hw _ (gm 83 rfl)))) (mvT hZ287 (hw _ (gm 83 rfl))) (mvT hZ287 (hw _ (gm 82 rfl))) (by decide) (backOf (W := 0) (rmAS l Z a0 hw [] sb a287 tb t287 kt287 [60, 47] kb cap bs zC h287 n0 O290 SC hzC ge_sb ge_tb ne_sb_tb E_sb Fc Fv Fn Ea287 Va287 Ca287 At287 Vb (by simp only [List.length_append, List.length_cons, List.length_nil]; omega) (by omega)) hZ287 (hw _ (gm 84 rfl)) (hw _ (gm 46 rfl)) (by decide) (by decide)) q292a q292c (g := (mkF m 6 #[vR h1, vR a1] [(.ref a287), (.ref sb)])) rfl (by rw [hml]; rfl) (Steps.refl _) (argsL := [(.ref a287)]) (rest := []) (lenOf pd_11 rfl) rfl (by show 2 * 0 + _ ≤ _; exact Nat.le_of_eq rfl) (hb hby d20_6) (fun _ _ => ⟨rfl, e287, (by decide : 2 + 0 ≤ _), (by decide : 12 + 0 ≤ _)⟩)
  dsimp only [Pt.U, Pt.locs, Pt.cells, Pt.slots] at X292 l292 y292 z292 st292 hQ292
  subst l292 y292 z292
  obtain ⟨rfl, Nq292, K292, Fc292, Fv292, Fn292, V292⟩ := hQ292
  have N292 := Fr.app N0 Nq292
  have k293 : Rch p e below S0 T292 (mkF m 9 #[vR h1, vR a1] [(.ref sb)]) := fun t h => k288 t (st292.trans h)
  have hC294 := hC289.keep K292 (sfS sf_sb (sfS sf_tb sf0))
  have rC294 := rC289.trans (CHr.keep K292 (sfS sf_sb (sfS sf_tb sf0)) hC289)
  have sfx295 := (sfS sf_sb (sfS sf_tb sf0))
  replace sf_sb := Safe.keep K292 sfx295 hC289 sf_sb
  replace sf_tb := Safe.keep K292 sfx295 hC289 sf_tb
  have O296 := O290.keep K292 (allS ge_sb (allS ge_tb all0))
  have K297 := K291.trans K292 (allS (Or.inl (gm 0 rfl)) (allS (Or.inl (gm 1 rfl)) all0))
  replace Ex := Ex.keep K292
  replace Sv := Sv.keep K292 (ninS ne_a1_sb (ninS ne_a1_tb nin0))
  replace Sc := Sc.keep K292 (ninS ne_a1_sb (ninS ne_a1_tb nin0))
  replace Vt := Vt.keep K292 (ninS ne_tt_sb (ninS ne_tt_tb nin0))
  replace E_sb := E_sb.keep K292
  have hkk298 := Nat.le_trans hk287 K292.1
  have k299 : Rch p e below S0 T292 (mkF m 10 #[vR h1, vR a1] [(.ref a1), (.ref sb)]) := fun t h => k293 t (by
      show Steps p.tables e below (T292.setTop (mkF m 9 #[vR h1, vR a1] [(.ref sb)])) _
      refine XS.aloadN X292.here hx rfl (hb hby d20_9) rfl rfl ?_
      exact h)
  obtain ⟨cq300, kq300, q300a, q300b, q300c⟩ := isOf hZ287 rfl E_sb
  obtain ⟨_, _, ⟨T300, L300, kk300, n300⟩, -, X300, ⟨Lc300, hQ300, l300, y300, z300⟩, st300⟩ := X292.virtualBack hx (y := (⟨"java/lang/StringBuilder", "append", "(Ljava/lang/String;)Ljava/lang/StringBuilder;"⟩ : MethodName)) (z := (⟨"java/lang/StringBuilder", "append", "(Ljava/lang/String;)Ljava/lang/StringBuilder;"⟩ : MethodName)) hown287 (mvT hZ287 (hw _ (gm 123 rfl))) (mvT hZ287 (hw _ (gm 81 rfl))) (notFace_of_selects (args := #[]) (mvT hZ287 (hw _ (gm 83 rfl)))) (mvT hZ287 (hw _ (gm 83 rfl))) (mvT hZ287 (hw _ (gm 82 rfl))) (by decide) (backOf (W := 0) (rmAS l Z a0 hw [] sb a1 tb tt kt cs kb cap (bs ++ [60, 47]) zC T292.heap n0 O296 SC hzC ge_sb ge_tb ne_sb_tb E_sb Fc292 Fv292 Fn292 Ex Sv Sc Vt V292 (by simp only [List.length_append, List.length_cons, List.length_nil]; omega) (by omega)) hZ287 (hw _ (gm 84 rfl)) (hw _ (gm 46 rfl)) (by decide) (by decide)) q300a q300c (g := (mkF m 10 #[vR h1, vR a1] [(.ref a1), (.ref sb)])) rfl (by rw [hml]; rfl) (Steps.refl _) (argsL := [(.ref a1)]) (rest := []) (lenOf pd_11 rfl) rfl (by show 2 * 0 + _ ≤ _; exact Nat.le_of_eq rfl) (hb hby d20_10) (fun _ _ => ⟨rfl, rfl, (by decide : 2 + 0 ≤ _), (by decide : 12 + 0 ≤ _)⟩)
  dsimp only [Pt.U, Pt.locs, Pt.cells, Pt.slots] at X300 l300 y300 z300 st300 hQ300
  subst l300 y300 z300
  obtain ⟨rfl, Nq300, K300, Fc300, Fv300, Fn300, V300⟩ := hQ300
  have N300 := Fr.app N292 Nq300
  have k301 : Rch p e below S0 T300 (mkF m 13 #[vR h1, vR a1] [(.ref sb)]) := fun t h => k299 t (st300.trans h)
  have hC302 := hC294.keep K300 (sfS sf_sb (sfS sf_tb sf0))
  have rC302 := rC294.trans (CHr.keep K300 (sfS sf_sb (sfS sf_tb sf0)) hC294)
  have sfx303 := (sfS sf_sb (sfS sf_tb sf0))
  replace sf_sb := Safe.keep K300 sfx303 hC294 sf_sb
  replace sf_tb := Safe.keep K300 sfx303 hC294 sf_tb
  have O304 := O296.keep K300 (allS ge_sb (allS ge_tb all0))
  have K305 := K297.trans K300 (allS (Or.inl (gm 0 rfl)) (allS (Or.inl (gm 1 rfl)) all0))
  replace E_sb := E_sb.keep K300
  have hkk306 := Nat.le_trans hkk298 K300.1
  obtain ⟨a307, T307, h307, kk307, t307, kt307, X307, e307, E307, hS307, hk307, hZ307, hown307, Ea307, Ca307, Va307, At307, la307, lt307, hR307, hL307, sfa307, st307⟩ := ldcCH X300 hx hZ287 hown287 (hw _ (gm 124 rfl)) hwS rfl hS287 hkk306 hEL (by decide +kernel) hC302 (vs := [(.int (62 : Int32)), (.int (10 : Int32))]) (z := (2 : Int32)) ⟨by decide +kernel, by decide +kernel⟩ (by decide) (by decide) (g := (mkF m 13 #[vR h1, vR a1] [(.ref sb)])) rfl (hb hby d20_13) (n := 8) (by decide +kernel) (by decide) (by decide) (by decide)
  have k308 : Rch p e below S0 T307 (mkF m 15 #[vR h1, vR a1] [(.ref a307), (.ref sb)]) := fun t h => k301 t (st307 t h)
  replace sf_sb := hR307.safe E_sb.lt sf_sb
  replace sf_tb := hR307.safe V300.lt sf_tb
  have hC309 := hR307.1
  have rC309 := rC302.trans hR307
  have O310 := O304.ext E307
  have K311 := K305.ext E307
  replace E_sb := E_sb.ext E307
  replace Fc300 := Fc300.ext E307
  replace Fv300 := Fv300.ext E307
  replace Fn300 := Fn300.ext E307
  replace V300 := V300.ext E307
  have ne_sb_a307 : sb ≠ a307 := (sfa307 sb sf_sb).1
  have ne_sb_t307 : sb ≠ t307 := (sfa307 sb sf_sb).2
  have ne_tb_a307 : tb ≠ a307 := (sfa307 tb sf_tb).1
  have ne_tb_t307 : tb ≠ t307 := (sfa307 tb sf_tb).2
  obtain ⟨cq312, kq312, q312a, q312b, q312c⟩ := isOf hZ307 e307 E_sb
  obtain ⟨_, _, ⟨T312, L312, kk312, n312⟩, -, X312, ⟨Lc312, hQ312, l312, y312, z312⟩, st312⟩ := X307.virtualBack hx (y := (⟨"java/lang/StringBuilder", "append", "(Ljava/lang/String;)Ljava/lang/StringBuilder;"⟩ : MethodName)) (z := (⟨"java/lang/StringBuilder", "append", "(Ljava/lang/String;)Ljava/lang/StringBuilder;"⟩ : MethodName)) hown307 (mvT hZ307 (hw _ (gm 123 rfl))) (mvT hZ307 (hw _ (gm 81 rfl))) (notFace_of_selects (args := #[]) (mvT hZ307 (hw _ (gm 83 rfl)))) (mvT hZ307 (hw _ (gm 83 rfl))) (mvT hZ307 (hw _ (gm 82 rfl))) (by decide) (backOf (W := 0) (rmAS l Z a0 hw [] sb a307 tb t307 kt307 [62, 10] kb cap ((bs ++ [60, 47]) ++ cs) zC h307 n0 O310 SC hzC ge_sb ge_tb ne_sb_tb E_sb Fc300 Fv300 Fn300 Ea307 Va307 Ca307 At307 V300 (by simp only [List.length_append, List.length_cons, List.length_nil]; omega) (by omega)) hZ307 (hw _ (gm 84 rfl)) (hw _ (gm 46 rfl)) (by decide) (by decide)) q312a q312c (g := (mkF m 15 #[vR h1, vR a1] [(.ref a307), (.ref sb)])) rfl (by rw [hml]; rfl) (Steps.refl _) (argsL := [(.ref a307)]) (rest := []) (lenOf pd_11 rfl) rfl (by show 2 * 0 + _ ≤ _; exact Nat.le_of_eq rfl) (hb hby d20_15) (fun _ _ => ⟨rfl, e307, (by decide : 4 + 0 ≤ _), (by decide : 24 + 0 ≤ _)⟩)
  dsimp only [Pt.U, Pt.locs, Pt.cells, Pt.slots] at X312 l312 y312 z312 st312 hQ312
  subst l312 y312 z312
  obtain ⟨rfl, Nq312, K312, Fc312, Fv312, Fn312, V312⟩ := hQ312
  have N312 := Fr.app N300 Nq312
  have k313 : Rch p e below S0 T312 (mkF m 18 #[vR h1, vR a1] [(.ref sb)]) := fun t h => k308 t (st312.trans h)
  have hC314 := hC309.keep K312 (sfS sf_sb (sfS sf_tb sf0))
  have rC314 := rC309.trans (CHr.keep K312 (sfS sf_sb (sfS sf_tb sf0)) hC309)
  have sfx315 := (sfS sf_sb (sfS sf_tb sf0))
  replace sf_sb := Safe.keep K312 sfx315 hC309 sf_sb
  replace sf_tb := Safe.keep K312 sfx315 hC309 sf_tb
  have O316 := O310.keep K312 (allS ge_sb (allS ge_tb all0))
  have K317 := K311.trans K312 (allS (Or.inl (gm 0 rfl)) (allS (Or.inl (gm 1 rfl)) all0))
  replace E_sb := E_sb.keep K312
  have hkk318 := Nat.le_trans hk307 K312.1
  have k319 : Rch p e below S0 T312 (mkF m 20 #[vR h1, vR a1] [(.ref h1)]) := fun t h => k313 t (by
      show Steps p.tables e below (T312.setTop (mkF m 18 #[vR h1, vR a1] [(.ref sb)])) _
      refine XS.pop X312.here hx rfl (hb hby d20_18) rfl rfl ?_
      refine XS.aloadN X312.here hx rfl (hb hby d20_19) rfl rfl ?_
      exact h)
  obtain ⟨fs, hr, hrun, hended, hfin⟩ := X312.leaveW hS307 (by exact hkk318) (v := (some (.ref h1))) (fun h => by rw [Bd.returns] at h; cases h)
  refine ⟨_, _, ?_, hrun, hended, _, _, rfl, ?_, (by rw [hh]; have q := own_chr rC314 (CHv.at X312 hZ307 hEL hC314) rfl; exact q), hfin.1, hfin.2.1, hfin.2.2.1, hfin.2.2.2.mono (by decide) (by decide)⟩
  · rw [← hS0]
    refine k319 _ ?_
    show Steps p.tables e below (T312.setTop (mkF m 20 #[vR h1, vR a1] [(.ref h1)])) _
    jvm_step X312.here [X312.here.top, hx, (hb hby d20_20), X312.method', Bd.returns, Value.isRef, FieldType.isReference]
    first | (intro acts; rw [hr _ acts rfl rfl rfl]) | rw [hr _ _ rfl rfl rfl]
    exact Steps.refl _
  · show Q_rmCL Z h1 sb tb cs kb cap bs h0 n0 _ T312.heap _
    exact ⟨rfl, N312, K317, Fc312, Fv312, Fn312, V312⟩
def Q_rmCP (Z : State) (bs : List Int32) (h0 : Heap) (n0 : Nat) (v : Option Value) (h : Heap) (L : List Loc) : Prop := v = some (.int (Int32.ofNat bs.length)) ∧ Fr n0 L ∧ h = h0
theorem ef_37 (m : MethodId) (x0 : Addr) (x1 : Int32) (x2 : Int32) : entryFrame m #[(.ref x0), (.int x1), (.int x2)] 5 = mkF m 0 #[.val (.ref x0), .val (.int x1), .val (.int x2), .unset, .unset] [] := by first | (simp [entryFrame, mkF, argsToLocals, Value.category]; done) | rfl
theorem pn_StringCoding : plainName "java/lang/StringCoding" = true := by first | (simp [plainName, overriddenIn]; done) | decide +kernel
theorem d37_0 : decode jdk_123_method_3_code 0 = .ok (.iload_n 1, 1) := by decide +kernel
theorem d37_1 : decode jdk_123_method_3_code 1 = .ok (.iload_n 2, 1) := by decide +kernel
theorem d37_2 : decode jdk_123_method_3_code 2 = .ok (.iadd, 1) := by decide +kernel
theorem d37_3 : decode jdk_123_method_3_code 3 = .ok (.istore_n 3, 1) := by decide +kernel
theorem d37_4 : decode jdk_123_method_3_code 4 = .ok (.iload_n 1, 1) := by decide +kernel
theorem d37_5 : decode jdk_123_method_3_code 5 = .ok (.istore 4, 2) := by decide +kernel
theorem d37_7 : decode jdk_123_method_3_code 7 = .ok (.iload 4, 2) := by decide +kernel
theorem d37_9 : decode jdk_123_method_3_code 9 = .ok (.iload_n 3, 1) := by decide +kernel
theorem d37_10 : decode jdk_123_method_3_code 10 = .ok (.if_icmp .ge 21, 3) := by decide +kernel
theorem d37_31 : decode jdk_123_method_3_code 31 = .ok (.iload_n 2, 1) := by decide +kernel
theorem d37_32 : decode jdk_123_method_3_code 32 = .ok (.ireturn, 1) := by decide +kernel
theorem d37_13 : decode jdk_123_method_3_code 13 = .ok (.aload_n 0, 1) := by decide +kernel
theorem d37_14 : decode jdk_123_method_3_code 14 = .ok (.iload 4, 2) := by decide +kernel
theorem d37_16 : decode jdk_123_method_3_code 16 = .ok (.baload, 1) := by decide +kernel
theorem d37_17 : decode jdk_123_method_3_code 17 = .ok (.ifCond .ge 8, 3) := by decide +kernel
theorem d37_25 : decode jdk_123_method_3_code 25 = .ok (.iinc 4 1, 3) := by decide +kernel
theorem d37_28 : decode jdk_123_method_3_code 28 = .ok (.goto (-21), 3) := by decide +kernel
set_option maxRecDepth 65536 in
set_option maxHeartbeats 40000000 in
theorem rmCP (l : Launch) (Z : State) (a0 : Array Value) (hw : ∀ d ∈ tables_1, d.before a0 Z = true) (ws : List Jvm.Cond) (y1 : Addr) (ky : ClassId) (bs : List Int32) (h0 : Heap) (n0 : Nat) (O0 : Old Z n0 h0) (Vy : Arv Z h0 y1 ky .byte (Int32.ofNat bs.length) (bs.map Value.int) (.int (0 : Int32))) (hbl : bs.length ≤ 32) (hp : ∀ c ∈ bs, ¬ c < 0) :
    MetFree l (⟨"java/lang/StringCoding", "countPositives", "([BII)I"⟩ : MethodName) (head1 (Jvm.Cond.code (⟨"java/lang/StringCoding", "countPositives", "([BII)I"⟩ : MethodName) jdk_123_method_3_code 5 (some .int) :: ws) ({ frames := 0, cells := 0, slots := 0, locals := 0 } : Room)) (fun a U => a = #[(.ref y1), (.int (0 : Int32)), (.int (Int32.ofNat bs.length))] ∧ Z.Warmed39 U.vm ∧ U.heap = h0) (fun _ _ _ _ _ => True) (fun _ U o U' => ∃ v L, o = .returned v ∧ Q_rmCP Z bs h0 n0 v U'.heap L ∧ FrameEnd U o U' L ({ frames := 0, cells := 0, slots := 0, locals := 0 } : Room).cells ({ frames := 0, cells := 0, slots := 0, locals := 0 } : Room).slots) := by
  refine MetFree.of_bodySF (plainFor_of_name pn_StringCoding) hisR ?_
  intro p e s m args below meth c s₁ Bd hml0 hP hK
  obtain ⟨rfl, hZ, hh⟩ := hP
  have hx := Bd.exec
  have hby := Bd.bytes
  have hml : c.maxLocals = 5 := hml0
  have hown : s.vm.findClass "java/lang/StringCoding" = some m.cls := findClass_of_methodNamed Bd.named
  have hnm := (name_of_methodNamed Bd.named Bd.method).1
  have X0 : Stand p l e ({ frames := 0, cells := 0, slots := 0, locals := 0 } : Room) s m #[(.ref y1), (.int (0 : Int32)), (.int (Int32.ofNat bs.length))] below meth c s₁ [] 0 0 := Stand.of_body Bd
  have e0 : s₁.heap = h0 := by rw [← hh, Bd.state]; rfl
  have N0 := Fr.nil n0
  obtain ⟨S0, hS0⟩ : ∃ z, z = s₁.setTop (entryFrame m #[(.ref y1), (.int (0 : Int32)), (.int (Int32.ofNat bs.length))] 5) := ⟨_, rfl⟩
  have k0 : Rch p e below S0 s₁ (mkF m 0 #[vR y1, vI 0, vI (Int32.ofNat bs.length), vU, vU] []) := fun t kq => hS0 ▸ castTop (ef_37 m y1 (0 : Int32) (Int32.ofNat bs.length)) kq
  have k320 : Rch p e below S0 s₁ (mkF m 7 #[vR y1, vI 0, vI (Int32.ofNat bs.length), vI (Int32.ofNat bs.length), vI 0] []) := fun t h => k0 t (by
      show Steps p.tables e below (s₁.setTop (mkF m 0 #[vR y1, vI 0, vI (Int32.ofNat bs.length), vU, vU] [])) _
      refine XS.iloadN X0.here hx rfl (hb hby d37_0) rfl ?_
      refine XS.iloadN X0.here hx rfl (hb hby d37_1) rfl ?_
      show Steps p.tables e below (s₁.setTop (mkF m 2 #[vR y1, vI 0, vI (Int32.ofNat bs.length), vU, vU] [(.int (Int32.ofNat bs.length)), (.int (0 : Int32))])) _
      refine XS.iadd X0.here hx rfl (hb hby d37_2) rfl ?_
      rw [Int32.zero_add _]
      refine XS.istoreN X0.here hx rfl (hb hby d37_3) rfl (l' := #[vR y1, vI 0, vI (Int32.ofNat bs.length), vI (Int32.ofNat bs.length), vU]) rfl ?_
      refine XS.iloadN X0.here hx rfl (hb hby d37_4) rfl ?_
      refine XS.istore X0.here hx rfl (hb hby d37_5) rfl (l' := #[vR y1, vI 0, vI (Int32.ofNat bs.length), vI (Int32.ofNat bs.length), vI 0]) rfl ?_
      exact h)
  refine (?_ : ∀ (k i : Nat), i + k = bs.length → ∀ (T : State), Like X0 T → T.heap = h0 → Rch p e below S0 T (mkF m 7 #[vR y1, vI 0, vI (Int32.ofNat bs.length), vI (Int32.ofNat bs.length), vI (Int32.ofNat i)] []) → _) bs.length 0 (by omega) _ X0 e0 k320
  intro k
  induction k with
  | zero =>
    intro i hi T X eT kk
    replace X := X.out
    have hie : i = bs.length := by omega
    rw [hie] at kk
    have k321 : Rch p e below S0 T (mkF m 32 #[vR y1, vI 0, vI (Int32.ofNat bs.length), vI (Int32.ofNat bs.length), vI (Int32.ofNat bs.length)] [(.int (Int32.ofNat bs.length))]) := fun t h => kk t (by
        show Steps p.tables e below (T.setTop (mkF m 7 #[vR y1, vI 0, vI (Int32.ofNat bs.length), vI (Int32.ofNat bs.length), vI (Int32.ofNat bs.length)] [])) _
        refine XS.iload X.here hx rfl (hb hby d37_7) rfl ?_
        refine XS.iloadN X.here hx rfl (hb hby d37_9) rfl ?_
        refine XS.icmpYes X.here hx rfl (pc0 := 10) (pc' := 31) rfl (hb hby d37_10) rfl (flt ((fun q => Nat.lt_irrefl _ ((own_olt (by omega) (by omega)).mp q)) : ¬ ((Int32.ofNat bs.length) < (Int32.ofNat bs.length)))).2.1 (by decide) (by decide) ?_
        refine XS.iloadN X.here hx rfl (hb hby d37_31) rfl ?_
        exact h)
    obtain ⟨fs, hr, hrun, hended, hW, hsame⟩ := X.leave (v := (some (.int (Int32.ofNat bs.length)))) (fun h => by rw [Bd.returns] at h; cases h)
    refine ⟨_, _, ?_, hrun, hended, _, _, rfl, ?_, ⟨_, rfl⟩, hW, hsame.mono (by decide) (by decide)⟩
    · rw [← hS0]
      refine k321 _ ?_
      show Steps p.tables e below (T.setTop (mkF m 32 #[vR y1, vI 0, vI (Int32.ofNat bs.length), vI (Int32.ofNat bs.length), vI (Int32.ofNat bs.length)] [(.int (Int32.ofNat bs.length))])) _
      exact retI X hx Bd.returns (hb hby d37_32) hr
    · show Q_rmCP Z bs h0 n0 _ T.heap _
      rw [eT]
      exact ⟨rfl, N0, rfl⟩
  | succ k ih =>
    intro i hi T X eT kk
    replace X := X.out
    have k323 : Rch p e below S0 T (mkF m 16 #[vR y1, vI 0, vI (Int32.ofNat bs.length), vI (Int32.ofNat bs.length), vI (Int32.ofNat i)] [(.int (Int32.ofNat i)), (.ref y1)]) := fun t h => kk t (by
        show Steps p.tables e below (T.setTop (mkF m 7 #[vR y1, vI 0, vI (Int32.ofNat bs.length), vI (Int32.ofNat bs.length), vI (Int32.ofNat i)] [])) _
        refine XS.iload X.here hx rfl (hb hby d37_7) rfl ?_
        refine XS.iloadN X.here hx rfl (hb hby d37_9) rfl ?_
        refine XS.icmpNo X.here hx rfl (hb hby d37_10) rfl (tlt (((own_olt (by omega) (by omega)).mpr (by omega)) : (Int32.ofNat i) < (Int32.ofNat bs.length))).2.1 ?_
        refine XS.aloadN X.here hx rfl (hb hby d37_13) rfl rfl ?_
        refine XS.iload X.here hx rfl (hb hby d37_14) rfl ?_
        exact h)
    obtain ⟨cl322, Ar322, q322, Sz322, Ng322, Hs322, G322⟩ := id Vy
    have hin322 : ¬ ((Int32.ofNat i) < 0 ∨ cl322.slots.size ≤ ((Int32.ofNat i)).toNatClampNeg) := inb_of Sz322 (own_inb (by omega) (by omega))
    have hat322 : cl322.slots[((Int32.ofNat i)).toNatClampNeg]? = some (.int (bs.getD i 0)) := Hs322.at hin322 (by rw [(own_tn (by omega)).1]; exact own_at bs i 0)
    have k324 : Rch p e below S0 T (mkF m 7 #[vR y1, vI 0, vI (Int32.ofNat bs.length), vI (Int32.ofNat bs.length), vI (Int32.ofNat (i + 1))] []) := fun t h => k323 t (by
        show Steps p.tables e below (T.setTop (mkF m 16 #[vR y1, vI 0, vI (Int32.ofNat bs.length), vI (Int32.ofNat bs.length), vI (Int32.ofNat i)] [(.int (Int32.ofNat i)), (.ref y1)])) _
        refine X.baloadBytes hx (j := (Int32.ofNat i)) (v := (.int (bs.getD i 0))) (by rw [eT]; exact Ar322.1) (State.isArrayOf_alike hZ.alike Ar322.2.1) Ar322.2.2 hin322 hat322 (g := (mkF m 16 #[vR y1, vI 0, vI (Int32.ofNat bs.length), vI (Int32.ofNat bs.length), vI (Int32.ofNat i)] [(.int (Int32.ofNat i)), (.ref y1)])) rfl rfl (hb hby d37_16) _ ?_
        refine XS.ifYes X.here hx rfl (pc0 := 17) (pc' := 25) rfl (hb hby d37_17) rfl ((if0 _ _).trans (flt ((own_posn bs hp i) : ¬ ((bs.getD i 0) < (0 : Int32)))).2.1) (by decide) (by decide) ?_
        show Steps p.tables e below (T.setTop (mkF m 25 #[vR y1, vI 0, vI (Int32.ofNat bs.length), vI (Int32.ofNat bs.length), vI (Int32.ofNat i)] [])) _
        refine XS.iinc X.here hx rfl (hb hby d37_25) rfl (l' := #[vR y1, vI 0, vI (Int32.ofNat bs.length), vI (Int32.ofNat bs.length), vI ((Int32.ofNat i) + (1 : Int32))]) rfl ?_
        rw [own_inc (i := i) (by omega)]
        refine XS.goto X.here hx rfl (pc0 := 28) (pc' := 7) rfl (hb hby d37_28) (by decide) (by decide) ?_
        exact h)
    exact ih (i + 1) (by omega) _ X eT k324
def Q_rmHN (Z : State)  (h0 : Heap) (n0 : Nat) (v : Option Value) (h : Heap) (L : List Loc) : Prop := v = some (.int (0 : Int32)) ∧ Fr n0 L ∧ h = h0
theorem ef_36 (m : MethodId) (x0 : Addr) (x1 : Int32) (x2 : Int32) : entryFrame m #[(.ref x0), (.int x1), (.int x2)] 3 = mkF m 0 #[.val (.ref x0), .val (.int x1), .val (.int x2)] [] := by first | (simp [entryFrame, mkF, argsToLocals, Value.category]; done) | rfl
theorem d36_0 : decode jdk_123_method_2_code 0 = .ok (.aload_n 0, 1) := by decide +kernel
theorem d36_1 : decode jdk_123_method_2_code 1 = .ok (.iload_n 1, 1) := by decide +kernel
theorem d36_2 : decode jdk_123_method_2_code 2 = .ok (.iload_n 2, 1) := by decide +kernel
theorem pd_29 : parseMethodDescriptor "([BII)I" = some ⟨[(.array .byte), .int, .int], some .int⟩ := by decide +kernel
theorem d36_3 : decode jdk_123_method_2_code 3 = .ok (.invokestatic 7, 3) := by decide +kernel
theorem d36_6 : decode jdk_123_method_2_code 6 = .ok (.iload_n 2, 1) := by decide +kernel
theorem d36_7 : decode jdk_123_method_2_code 7 = .ok (.if_icmp .eq 7, 3) := by decide +kernel
theorem d36_14 : decode jdk_123_method_2_code 14 = .ok (.iconst 0, 1) := by decide +kernel
theorem d36_15 : decode jdk_123_method_2_code 15 = .ok (.ireturn, 1) := by decide +kernel
set_option maxRecDepth 65536 in
set_option maxHeartbeats 40000000 in
theorem rmHN (l : Launch) (Z : State) (a0 : Array Value) (hw : ∀ d ∈ tables_1, d.before a0 Z = true) (ws : List Jvm.Cond) (y1 : Addr) (ky : ClassId) (bs : List Int32) (h0 : Heap) (n0 : Nat) (O0 : Old Z n0 h0) (Vy : Arv Z h0 y1 ky .byte (Int32.ofNat bs.length) (bs.map Value.int) (.int (0 : Int32))) (hbl : bs.length ≤ 32) (hp : ∀ c ∈ bs, ¬ c < 0) :
    MetFree l (⟨"java/lang/StringCoding", "hasNegatives", "([BII)Z"⟩ : MethodName) (head1 (Jvm.Cond.code (⟨"java/lang/StringCoding", "hasNegatives", "([BII)Z"⟩ : MethodName) jdk_123_method_2_code 3 (some .boolean) :: ws) ({ frames := 1, cells := 0, slots := 0, locals := 18 } : Room)) (fun a U => a = #[(.ref y1), (.int (0 : Int32)), (.int (Int32.ofNat bs.length))] ∧ Z.Warmed39 U.vm ∧ U.heap = h0) (fun _ _ _ _ _ => True) (fun _ U o U' => ∃ v L, o = .returned v ∧ Q_rmHN Z  h0 n0 v U'.heap L ∧ FrameEnd U o U' L ({ frames := 1, cells := 0, slots := 0, locals := 18 } : Room).cells ({ frames := 1, cells := 0, slots := 0, locals := 18 } : Room).slots) := by
  refine MetFree.of_bodySF (plainFor_of_name pn_StringCoding) hisR ?_
  intro p e s m args below meth c s₁ Bd hml0 hP hK
  obtain ⟨rfl, hZ, hh⟩ := hP
  have hx := Bd.exec
  have hby := Bd.bytes
  have hml : c.maxLocals = 3 := hml0
  have hown : s.vm.findClass "java/lang/StringCoding" = some m.cls := findClass_of_methodNamed Bd.named
  have hnm := (name_of_methodNamed Bd.named Bd.method).1
  have X0 : Stand p l e ({ frames := 1, cells := 0, slots := 0, locals := 18 } : Room) s m #[(.ref y1), (.int (0 : Int32)), (.int (Int32.ofNat bs.length))] below meth c s₁ [] 0 0 := Stand.of_body Bd
  have e0 : s₁.heap = h0 := by rw [← hh, Bd.state]; rfl
  have N0 := Fr.nil n0
  obtain ⟨S0, hS0⟩ : ∃ z, z = s₁.setTop (entryFrame m #[(.ref y1), (.int (0 : Int32)), (.int (Int32.ofNat bs.length))] 3) := ⟨_, rfl⟩
  have k0 : Rch p e below S0 s₁ (mkF m 0 #[vR y1, vI 0, vI (Int32.ofNat bs.length)] []) := fun t kq => hS0 ▸ castTop (ef_36 m y1 (0 : Int32) (Int32.ofNat bs.length)) kq
  have k325 : Rch p e below S0 s₁ (mkF m 3 #[vR y1, vI 0, vI (Int32.ofNat bs.length)] [(.int (Int32.ofNat bs.length)), (.int (0 : Int32)), (.ref y1)]) := fun t h => k0 t (by
      show Steps p.tables e below (s₁.setTop (mkF m 0 #[vR y1, vI 0, vI (Int32.ofNat bs.length)] [])) _
      refine XS.aloadN X0.here hx rfl (hb hby d36_0) rfl rfl ?_
      refine XS.iloadN X0.here hx rfl (hb hby d36_1) rfl ?_
      refine XS.iloadN X0.here hx rfl (hb hby d36_2) rfl ?_
      exact h)
  obtain ⟨_, _, ⟨T326, L326, kk326, n326⟩, -, X326, ⟨Lc326, hQ326, l326, y326, z326⟩, st326⟩ := Jvm.LawKit.callS X0 hx (y := (⟨"java/lang/StringCoding", "countPositives", "([BII)I"⟩ : MethodName)) hown (mvT hZ (hw _ (gm 194 rfl))) (mvT hZ (hw _ (gm 195 rfl))) (mvT hZ (hw _ (gm 192 rfl))) (mvT hZ (hw _ (gm 196 rfl))) (by decide) (backOf (W := 0) (rmCP l Z a0 hw [] y1 ky bs h0 n0 O0 Vy hbl hp) hZ (hw _ (gm 196 rfl)) (hw _ (gm 192 rfl)) (by decide) (by decide)) (g := (mkF m 3 #[vR y1, vI 0, vI (Int32.ofNat bs.length)] [(.int (Int32.ofNat bs.length)), (.int (0 : Int32)), (.ref y1)])) rfl (by rw [hml]; rfl) (argsL := [(.ref y1), (.int (0 : Int32)), (.int (Int32.ofNat bs.length))]) (rest := []) (lenOf pd_29 rfl) rfl (by show 2 * 0 + _ ≤ _; exact Nat.le_of_eq rfl) (hb hby d36_3) (fun _ _ => ⟨rfl, e0, (by decide : 0 + 0 ≤ _), (by decide : 0 + 0 ≤ _)⟩)
  dsimp only [Pt.U, Pt.locs, Pt.cells, Pt.slots] at X326 l326 y326 z326 st326 hQ326
  subst l326 y326 z326
  obtain ⟨rfl, Nq326, hh326⟩ := hQ326
  have N326 := Fr.app N0 Nq326
  have k327 : Rch p e below S0 T326 (mkF m 6 #[vR y1, vI 0, vI (Int32.ofNat bs.length)] [(.int (Int32.ofNat bs.length))]) := fun t h => k325 t (st326 t h)
  have k328 : Rch p e below S0 T326 (mkF m 15 #[vR y1, vI 0, vI (Int32.ofNat bs.length)] [(.int (0 : Int32))]) := fun t h => k327 t (by
      show Steps p.tables e below (T326.setTop (mkF m 6 #[vR y1, vI 0, vI (Int32.ofNat bs.length)] [(.int (Int32.ofNat bs.length))])) _
      refine XS.iloadN X326.here hx rfl (hb hby d36_6) rfl ?_
      refine XS.icmpYes X326.here hx rfl (pc0 := 7) (pc' := 14) rfl (hb hby d36_7) rfl (teq (rfl : (Int32.ofNat bs.length) = (Int32.ofNat bs.length))).1 (by decide) (by decide) ?_
      refine XS.iconst X326.here hx rfl (hb hby d36_14) ?_
      exact h)
  obtain ⟨fs, hr, hrun, hended, hW, hsame⟩ := X326.leave (v := (some (.int (0 : Int32)))) (fun h => by rw [Bd.returns] at h; cases h)
  refine ⟨_, _, ?_, hrun, hended, _, _, rfl, ?_, ⟨_, rfl⟩, hW, hsame.mono (by decide) (by decide)⟩
  · rw [← hS0]
    refine k328 _ ?_
    show Steps p.tables e below (T326.setTop (mkF m 15 #[vR y1, vI 0, vI (Int32.ofNat bs.length)] [(.int (0 : Int32))])) _
    exact retN X326 hx (t := .boolean) Bd.returns (by simp) (hb hby d36_15) hr
  · show Q_rmHN Z  h0 n0 _ T326.heap _
    rw [hh326]
    exact ⟨rfl, N326, rfl⟩
def Q_rmEU (Z : State) (bs : List Int32) (h0 : Heap) (n0 : Nat) (v : Option Value) (h : Heap) (L : List Loc) : Prop := ∃ y ky, v = some (.ref y) ∧ Fr n0 L ∧ Ext h0 h ∧ h0.size ≤ y ∧ Arv Z h y ky .byte (Int32.ofNat bs.length) (bs.map Value.int) (.int (0 : Int32))
theorem ef_35 (m : MethodId) (x0 : Int32) (x1 : Addr) (x2 : Int32) : entryFrame m #[(.int x0), (.ref x1), (.int x2)] 9 = mkF m 0 #[.val (.int x0), .val (.ref x1), .val (.int x2), .unset, .unset, .unset, .unset, .unset, .unset] [] := by first | (simp [entryFrame, mkF, argsToLocals, Value.category]; done) | rfl
theorem d35_0 : decode jdk_42_method_46_code 0 = .ok (.iload_n 0, 1) := by decide +kernel
theorem d35_1 : decode jdk_42_method_46_code 1 = .ok (.iconst 1, 1) := by decide +kernel
theorem d35_2 : decode jdk_42_method_46_code 2 = .ok (.if_icmp .ne 9, 3) := by decide +kernel
theorem d35_11 : decode jdk_42_method_46_code 11 = .ok (.aload_n 1, 1) := by decide +kernel
theorem d35_12 : decode jdk_42_method_46_code 12 = .ok (.iconst 0, 1) := by decide +kernel
theorem d35_13 : decode jdk_42_method_46_code 13 = .ok (.aload_n 1, 1) := by decide +kernel
theorem d35_14 : decode jdk_42_method_46_code 14 = .ok (.arraylength, 1) := by decide +kernel
theorem pd_28 : parseMethodDescriptor "([BII)Z" = some ⟨[(.array .byte), .int, .int], some .boolean⟩ := by decide +kernel
theorem d35_15 : decode jdk_42_method_46_code 15 = .ok (.invokestatic 128, 3) := by decide +kernel
theorem d35_18 : decode jdk_42_method_46_code 18 = .ok (.ifCond .ne 11, 3) := by decide +kernel
theorem d35_21 : decode jdk_42_method_46_code 21 = .ok (.aload_n 1, 1) := by decide +kernel
theorem d35_22 : decode jdk_42_method_46_code 22 = .ok (.invokevirtual 279, 3) := by decide +kernel
theorem d35_25 : decode jdk_42_method_46_code 25 = .ok (.checkcast 280, 3) := by decide +kernel
theorem d35_28 : decode jdk_42_method_46_code 28 = .ok (.areturn, 1) := by decide +kernel
set_option maxRecDepth 65536 in
set_option maxHeartbeats 40000000 in
theorem rmEU (l : Launch) (Z : State) (a0 : Array Value) (hw : ∀ d ∈ tables_1, d.before a0 Z = true) (ws : List Jvm.Cond) (y1 : Addr) (ky : ClassId) (bs : List Int32) (h0 : Heap) (n0 : Nat) (O0 : Old Z n0 h0) (Ey : Exa Z h0 y1 "[B") (Vy : Arv Z h0 y1 ky .byte (Int32.ofNat bs.length) (bs.map Value.int) (.int (0 : Int32))) (hbl : bs.length ≤ 32) (hp : ∀ c ∈ bs, ¬ c < 0) :
    MetFree l (⟨"java/lang/String", "encodeUTF8", "(B[BZ)[B"⟩ : MethodName) (head1 (Jvm.Cond.code (⟨"java/lang/String", "encodeUTF8", "(B[BZ)[B"⟩ : MethodName) jdk_42_method_46_code 9 (some (.array .byte)) :: ws) ({ frames := 2, cells := 1, slots := 32, locals := 34 } : Room)) (fun a U => a = #[(.int (0 : Int32)), (.ref y1), (.int (1 : Int32))] ∧ Z.Warmed39 U.vm ∧ U.heap = h0) (fun _ _ _ _ _ => True) (fun _ U o U' => ∃ v L, o = .returned v ∧ Q_rmEU Z bs h0 n0 v U'.heap L ∧ FrameEnd U o U' L ({ frames := 2, cells := 1, slots := 32, locals := 34 } : Room).cells ({ frames := 2, cells := 1, slots := 32, locals := 34 } : Room).slots) := by
  refine MetFree.of_bodySF (plainFor_of_name pn_String) hisR ?_
  intro p e s m args below meth c s₁ Bd hml0 hP hK
  obtain ⟨rfl, hZ, hh⟩ := hP
  have hx := Bd.exec
  have hby := Bd.bytes
  have hml : c.maxLocals = 9 := hml0
  have hown : s.vm.findClass "java/lang/String" = some m.cls := findClass_of_methodNamed Bd.named
  have hnm := (name_of_methodNamed Bd.named Bd.method).1
  have X0 : Stand p l e ({ frames := 2, cells := 1, slots := 32, locals := 34 } : Room) s m #[(.int (0 : Int32)), (.ref y1), (.int (1 : Int32))] below meth c s₁ [] 0 0 := Stand.of_body Bd
  have e0 : s₁.heap = h0 := by rw [← hh, Bd.state]; rfl
  have N0 := Fr.nil n0
  obtain ⟨S0, hS0⟩ : ∃ z, z = s₁.setTop (entryFrame m #[(.int (0 : Int32)), (.ref y1), (.int (1 : Int32))] 9) := ⟨_, rfl⟩
  have k0 : Rch p e below S0 s₁ (mkF m 0 #[vI 0, vR y1, vI 1, vU, vU, vU, vU, vU, vU] []) := fun t kq => hS0 ▸ castTop (ef_35 m (0 : Int32) y1 (1 : Int32)) kq
  have K0 : Keep h0 h0 [] := Keep.refl h0 _
  have k330 : Rch p e below S0 s₁ (mkF m 14 #[vI 0, vR y1, vI 1, vU, vU, vU, vU, vU, vU] [(.ref y1), (.int (0 : Int32)), (.ref y1)]) := fun t h => k0 t (by
      show Steps p.tables e below (s₁.setTop (mkF m 0 #[vI 0, vR y1, vI 1, vU, vU, vU, vU, vU, vU] [])) _
      refine XS.iloadN X0.here hx rfl (hb hby d35_0) rfl ?_
      refine XS.iconst X0.here hx rfl (hb hby d35_1) ?_
      refine XS.icmpYes X0.here hx rfl (pc0 := 2) (pc' := 11) rfl (hb hby d35_2) rfl (feq (by decide : ¬ ((0 : Int32) = (1 : Int32)))).2 (by decide) (by decide) ?_
      refine XS.aloadN X0.here hx rfl (hb hby d35_11) rfl rfl ?_
      refine XS.iconst X0.here hx rfl (hb hby d35_12) ?_
      refine XS.aloadN X0.here hx rfl (hb hby d35_13) rfl rfl ?_
      exact h)
  obtain ⟨cl329, Ar329, q329, Sz329, Ng329, Hs329, G329⟩ := id Vy
  have k331 : Rch p e below S0 s₁ (mkF m 15 #[vI 0, vR y1, vI 1, vU, vU, vU, vU, vU, vU] [(.int (Int32.ofNat bs.length)), (.int (0 : Int32)), (.ref y1)]) := fun t h => k330 t (by
      show Steps p.tables e below (s₁.setTop (mkF m 14 #[vI 0, vR y1, vI 1, vU, vU, vU, vU, vU, vU] [(.ref y1), (.int (0 : Int32)), (.ref y1)])) _
      refine X0.arraylength hx (by rw [e0]; exact Ar329.1) (State.isArrayOf_alike hZ.alike Ar329.2.1) (g := (mkF m 14 #[vI 0, vR y1, vI 1, vU, vU, vU, vU, vU, vU] [(.ref y1), (.int (0 : Int32)), (.ref y1)])) rfl rfl (hb hby d35_14) _ ?_
      rw [len_of Sz329 Ng329]
      exact h)
  obtain ⟨_, _, ⟨T332, L332, kk332, n332⟩, -, X332, ⟨Lc332, hQ332, l332, y332, z332⟩, st332⟩ := Jvm.LawKit.callS X0 hx (y := (⟨"java/lang/StringCoding", "hasNegatives", "([BII)Z"⟩ : MethodName)) hown (mvT hZ (hw _ (gm 190 rfl))) (mvT hZ (hw _ (gm 191 rfl))) (mvT hZ (hw _ (gm 192 rfl))) (mvT hZ (hw _ (gm 193 rfl))) (by decide) (backOf (W := 0) (rmHN l Z a0 hw [] y1 ky bs h0 n0 O0 Vy hbl hp) hZ (hw _ (gm 193 rfl)) (hw _ (gm 192 rfl)) (by decide) (by decide)) (g := (mkF m 15 #[vI 0, vR y1, vI 1, vU, vU, vU, vU, vU, vU] [(.int (Int32.ofNat bs.length)), (.int (0 : Int32)), (.ref y1)])) rfl (by rw [hml]; rfl) (argsL := [(.ref y1), (.int (0 : Int32)), (.int (Int32.ofNat bs.length))]) (rest := []) (lenOf pd_28 rfl) rfl (by show 2 * 0 + _ ≤ _; exact Nat.le_of_eq rfl) (hb hby d35_15) (fun _ _ => ⟨rfl, e0, (by decide : 0 + 0 ≤ _), (by decide : 0 + 0 ≤ _)⟩)
  dsimp only [Pt.U, Pt.locs, Pt.cells, Pt.slots] at X332 l332 y332 z332 st332 hQ332
  subst l332 y332 z332
  obtain ⟨rfl, Nq332, hh332⟩ := hQ332
  have N332 := Fr.app N0 Nq332
  have k333 : Rch p e below S0 T332 (mkF m 18 #[vI 0, vR y1, vI 1, vU, vU, vU, vU, vU, vU] [(.int (0 : Int32))]) := fun t h => k331 t (st332 t h)
  have k335 : Rch p e below S0 T332 (mkF m 22 #[vI 0, vR y1, vI 1, vU, vU, vU, vU, vU, vU] [(.ref y1)]) := fun t h => k333 t (by
      show Steps p.tables e below (T332.setTop (mkF m 18 #[vI 0, vR y1, vI 1, vU, vU, vU, vU, vU, vU] [(.int (0 : Int32))])) _
      refine XS.ifNo X332.here hx rfl (hb hby d35_18) rfl ((if0 _ _).trans (teq (by decide : (0 : Int32) = (0 : Int32))).2) ?_
      refine XS.aloadN X332.here hx rfl (hb hby d35_21) rfl rfl ?_
      exact h)
  obtain ⟨T334, h334, X334, e334, E334, V334, A334, st334⟩ := cloneH X332 hx hZ hown (hw _ (gm 197 rfl)) (hw _ (gm 198 rfl)) (hw _ (gm 202 rfl)) (hw _ (gm 200 rfl)) (hw _ (gm 201 rfl)) (hw _ (gm 203 rfl)) hh332 Vy.arh Ey (g := (mkF m 22 #[vI 0, vR y1, vI 1, vU, vU, vU, vU, vU, vU] [(.ref y1)])) rfl (by rw [hml]; rfl) rfl (hb hby d35_22) (by decide) (W := 0) (by show 2 * 0 + _ ≤ _; exact Nat.le_of_eq rfl) (by decide) (cap := 32) (by rw [(own_tn (by omega)).1]; omega) (by decide) (by decide)
  obtain ⟨b334, g334⟩ : ∃ z, z = h0.size := ⟨_, rfl⟩
  rw [← g334] at V334 A334 st334
  have k336 : Rch p e below S0 T334 (mkF m 25 #[vI 0, vR y1, vI 1, vU, vU, vU, vU, vU, vU] [(.ref b334)]) := fun t h => k335 t (st334 t h)
  have ne_y1_b334 : y1 ≠ b334 := own_ne Ey.lt (Nat.le_of_eq g334.symm)
  have ge_b334 : n0 ≤ b334 := own_ge O0 (Nat.le_of_eq g334.symm)
  have sz_b334 : h0.size ≤ b334 := Nat.le_trans K0.1 (Nat.le_of_eq g334.symm)
  have O337 := O0.ext E334
  have K338 := K0.ext E334
  obtain ⟨T339, X339, e339, st339⟩ := castY X334 hx hZ hown (hw _ (gm 204 rfl)) e334 (Ins.self A334) (g := (mkF m 25 #[vI 0, vR y1, vI 1, vU, vU, vU, vU, vU, vU] [(.ref b334)])) rfl rfl (hb hby d35_25)
  have k340 : Rch p e below S0 T339 (mkF m 28 #[vI 0, vR y1, vI 1, vU, vU, vU, vU, vU, vU] [(.ref b334)]) := fun t h => k336 t (st339 t h)
  obtain ⟨fs, hr, hrun, hended, hW, hsame⟩ := X339.leave (v := (some (.ref b334))) (fun h => by rw [Bd.returns] at h; cases h)
  refine ⟨_, _, ?_, hrun, hended, _, _, rfl, ?_, ⟨_, rfl⟩, hW, hsame.mono (by decide) (by decide)⟩
  · rw [← hS0]
    refine k340 _ ?_
    show Steps p.tables e below (T339.setTop (mkF m 28 #[vI 0, vR y1, vI 1, vU, vU, vU, vU, vU, vU] [(.ref b334)])) _
    jvm_step X339.here [X339.here.top, hx, (hb hby d35_28), X339.method', Bd.returns, Value.isRef, FieldType.isReference]
    first | (intro acts; rw [hr _ acts rfl rfl rfl]) | rw [hr _ _ rfl rfl rfl]
    exact Steps.refl _
  · show Q_rmEU Z bs h0 n0 _ T339.heap _
    rw [e339]
    exact ⟨_, _, rfl, N332, own_ext K338, sz_b334, V334⟩
def Q_rmEN (Z : State) (bs : List Int32) (h0 : Heap) (n0 : Nat) (v : Option Value) (h : Heap) (L : List Loc) : Prop := ∃ y ky, v = some (.ref y) ∧ Fr n0 L ∧ Ext h0 h ∧ h0.size ≤ y ∧ Arv Z h y ky .byte (Int32.ofNat bs.length) (bs.map Value.int) (.int (0 : Int32))
theorem ef_34 (m : MethodId) (x0 : Addr) (x1 : Int32) (x2 : Addr) : entryFrame m #[(.ref x0), (.int x1), (.ref x2)] 3 = mkF m 0 #[.val (.ref x0), .val (.int x1), .val (.ref x2)] [] := by first | (simp [entryFrame, mkF, argsToLocals, Value.category]; done) | rfl
theorem d34_0 : decode jdk_42_method_18_code 0 = .ok (.aload_n 0, 1) := by decide +kernel
theorem d34_1 : decode jdk_42_method_18_code 1 = .ok (.getstatic 86, 3) := by decide +kernel
theorem d34_4 : decode jdk_42_method_18_code 4 = .ok (.if_acmp .ne 10, 3) := by decide +kernel
theorem d34_7 : decode jdk_42_method_18_code 7 = .ok (.iload_n 1, 1) := by decide +kernel
theorem d34_8 : decode jdk_42_method_18_code 8 = .ok (.aload_n 2, 1) := by decide +kernel
theorem d34_9 : decode jdk_42_method_18_code 9 = .ok (.iconst 1, 1) := by decide +kernel
theorem pd_27 : parseMethodDescriptor "(B[BZ)[B" = some ⟨[.byte, (.array .byte), .boolean], some (.array .byte)⟩ := by decide +kernel
theorem d34_10 : decode jdk_42_method_18_code 10 = .ok (.invokestatic 252, 3) := by decide +kernel
theorem d34_13 : decode jdk_42_method_18_code 13 = .ok (.areturn, 1) := by decide +kernel
set_option maxRecDepth 65536 in
set_option maxHeartbeats 40000000 in
theorem rmEN (l : Launch) (Z : State) (a0 : Array Value) (hw : ∀ d ∈ tables_1, d.before a0 Z = true) (ws : List Jvm.Cond) (u8 : Addr) (y1 : Addr) (ky : ClassId) (bs : List Int32) (h0 : Heap) (n0 : Nat) (O0 : Old Z n0 h0) (SI : Sta Z Z.heap "sun/nio/cs/UTF_8" "INSTANCE" "Lsun/nio/cs/UTF_8;" (.ref u8)) (Ey : Exa Z h0 y1 "[B") (Vy : Arv Z h0 y1 ky .byte (Int32.ofNat bs.length) (bs.map Value.int) (.int (0 : Int32))) (hbl : bs.length ≤ 32) (hp : ∀ c ∈ bs, ¬ c < 0) :
    MetFree l (⟨"java/lang/String", "encode", "(Ljava/nio/charset/Charset;B[B)[B"⟩ : MethodName) (head1 (Jvm.Cond.code (⟨"java/lang/String", "encode", "(Ljava/nio/charset/Charset;B[B)[B"⟩ : MethodName) jdk_42_method_18_code 3 (some (.array .byte)) :: ws) ({ frames := 3, cells := 1, slots := 32, locals := 56 } : Room)) (fun a U => a = #[(.ref u8), (.int (0 : Int32)), (.ref y1)] ∧ Z.Warmed39 U.vm ∧ U.heap = h0) (fun _ _ _ _ _ => True) (fun _ U o U' => ∃ v L, o = .returned v ∧ Q_rmEN Z bs h0 n0 v U'.heap L ∧ FrameEnd U o U' L ({ frames := 3, cells := 1, slots := 32, locals := 56 } : Room).cells ({ frames := 3, cells := 1, slots := 32, locals := 56 } : Room).slots) := by
  refine MetFree.of_bodySF (plainFor_of_name pn_String) hisR ?_
  intro p e s m args below meth c s₁ Bd hml0 hP hK
  obtain ⟨rfl, hZ, hh⟩ := hP
  have hx := Bd.exec
  have hby := Bd.bytes
  have hml : c.maxLocals = 3 := hml0
  have hown : s.vm.findClass "java/lang/String" = some m.cls := findClass_of_methodNamed Bd.named
  have hnm := (name_of_methodNamed Bd.named Bd.method).1
  have X0 : Stand p l e ({ frames := 3, cells := 1, slots := 32, locals := 56 } : Room) s m #[(.ref u8), (.int (0 : Int32)), (.ref y1)] below meth c s₁ [] 0 0 := Stand.of_body Bd
  have e0 : s₁.heap = h0 := by rw [← hh, Bd.state]; rfl
  have N0 := Fr.nil n0
  obtain ⟨S0, hS0⟩ : ∃ z, z = s₁.setTop (entryFrame m #[(.ref u8), (.int (0 : Int32)), (.ref y1)] 3) := ⟨_, rfl⟩
  have k0 : Rch p e below S0 s₁ (mkF m 0 #[vR u8, vI 0, vR y1] []) := fun t kq => hS0 ▸ castTop (ef_34 m u8 (0 : Int32) y1) kq
  have K0 : Keep h0 h0 [] := Keep.refl h0 _
  have k342 : Rch p e below S0 s₁ (mkF m 1 #[vR u8, vI 0, vR y1] [(.ref u8)]) := fun t h => k0 t (by
      show Steps p.tables e below (s₁.setTop (mkF m 0 #[vR u8, vI 0, vR y1] [])) _
      refine XS.aloadN X0.here hx rfl (hb hby d34_0) rfl rfl ?_
      exact h)
  obtain ⟨T341, X341, e341, st341⟩ := getS2 X0 hx hZ hown (host := "") (Or.inl (hw _ (gm 185 rfl))) Via.refl e0 (SI.ext O0.2) (g := (mkF m 1 #[vR u8, vI 0, vR y1] [(.ref u8)])) rfl (hb hby d34_1)
  have k343 : Rch p e below S0 T341 (mkF m 4 #[vR u8, vI 0, vR y1] [(.ref u8), (.ref u8)]) := fun t h => k342 t (st341 t h)
  have k344 : Rch p e below S0 T341 (mkF m 10 #[vR u8, vI 0, vR y1] [(.int (1 : Int32)), (.ref y1), (.int (0 : Int32))]) := fun t h => k343 t (by
      show Steps p.tables e below (T341.setTop (mkF m 4 #[vR u8, vI 0, vR y1] [(.ref u8), (.ref u8)])) _
      refine Jvm.RoadKit.acmp (g := (mkF m 4 #[vR u8, vI 0, vR y1] [(.ref u8), (.ref u8)])) X341 hx rfl rfl rfl (pc0 := 4) (pc' := 7) (same := true) rfl (hb hby d34_4) rfl (decide_eq_true rfl) (by decide) (by decide) ?_
      refine XS.iloadN X341.here hx rfl (hb hby d34_7) rfl ?_
      refine XS.aloadN X341.here hx rfl (hb hby d34_8) rfl rfl ?_
      refine XS.iconst X341.here hx rfl (hb hby d34_9) ?_
      exact h)
  obtain ⟨_, _, ⟨T345, L345, kk345, n345⟩, -, X345, ⟨Lc345, hQ345, l345, y345, z345⟩, st345⟩ := Jvm.LawKit.callS X341 hx (y := (⟨"java/lang/String", "encodeUTF8", "(B[BZ)[B"⟩ : MethodName)) hown (mvT hZ (hw _ (gm 187 rfl))) (mvT hZ (hw _ (gm 188 rfl))) (mvT hZ (hw _ (gm 3 rfl))) (mvT hZ (hw _ (gm 189 rfl))) (by decide) (backOf (W := 0) (rmEU l Z a0 hw [] y1 ky bs h0 n0 O0 Ey Vy hbl hp) hZ (hw _ (gm 189 rfl)) (hw _ (gm 3 rfl)) (by decide) (by decide)) (g := (mkF m 10 #[vR u8, vI 0, vR y1] [(.int (1 : Int32)), (.ref y1), (.int (0 : Int32))])) rfl (by rw [hml]; rfl) (argsL := [(.int (0 : Int32)), (.ref y1), (.int (1 : Int32))]) (rest := []) (lenOf pd_27 rfl) rfl (by show 2 * 0 + _ ≤ _; exact Nat.le_of_eq rfl) (hb hby d34_10) (fun _ _ => ⟨rfl, e341, (by decide : 0 + 1 ≤ _), (by decide : 0 + 32 ≤ _)⟩)
  dsimp only [Pt.U, Pt.locs, Pt.cells, Pt.slots] at X345 l345 y345 z345 st345 hQ345
  subst l345 y345 z345
  obtain ⟨y345, ky345, rfl, Nq345, E345, z345, V345⟩ := hQ345
  have N345 := Fr.app N0 Nq345
  have k346 : Rch p e below S0 T345 (mkF m 13 #[vR u8, vI 0, vR y1] [(.ref y345)]) := fun t h => k344 t (st345 t h)
  have ne_y1_y345 : y1 ≠ y345 := own_ne Ey.lt z345
  have ge_y345 : n0 ≤ y345 := own_ge O0 z345
  have sz_y345 : h0.size ≤ y345 := Nat.le_trans K0.1 z345
  have O347 := O0.ext E345
  have K348 := K0.ext E345
  obtain ⟨fs, hr, hrun, hended, hW, hsame⟩ := X345.leave (v := (some (.ref y345))) (fun h => by rw [Bd.returns] at h; cases h)
  refine ⟨_, _, ?_, hrun, hended, _, _, rfl, ?_, ⟨_, rfl⟩, hW, hsame.mono (by decide) (by decide)⟩
  · rw [← hS0]
    refine k346 _ ?_
    show Steps p.tables e below (T345.setTop (mkF m 13 #[vR u8, vI 0, vR y1] [(.ref y345)])) _
    jvm_step X345.here [X345.here.top, hx, (hb hby d34_13), X345.method', Bd.returns, Value.isRef, FieldType.isReference]
    first | (intro acts; rw [hr _ acts rfl rfl rfl]) | rw [hr _ _ rfl rfl rfl]
    exact Steps.refl _
  · show Q_rmEN Z bs h0 n0 _ T345.heap _
    exact ⟨_, _, rfl, N345, own_ext K348, sz_y345, V345⟩
def Q_rmGC (Z : State) (bs : List Int32) (h0 : Heap) (n0 : Nat) (v : Option Value) (h : Heap) (L : List Loc) : Prop := ∃ y ky, v = some (.ref y) ∧ Fr n0 L ∧ Ext h0 h ∧ h0.size ≤ y ∧ Arv Z h y ky .byte (Int32.ofNat bs.length) (bs.map Value.int) (.int (0 : Int32))
theorem ef_33 (m : MethodId) (x0 : Addr) (x1 : Addr) : entryFrame m #[(.ref x0), (.ref x1)] 2 = mkF m 0 #[.val (.ref x0), .val (.ref x1)] [] := by first | (simp [entryFrame, mkF, argsToLocals, Value.category]; done) | rfl
theorem d33_0 : decode jdk_42_method_64_code 0 = .ok (.aload_n 1, 1) := by decide +kernel
theorem d33_1 : decode jdk_42_method_64_code 1 = .ok (.ifnonnull 11, 3) := by decide +kernel
theorem d33_12 : decode jdk_42_method_64_code 12 = .ok (.aload_n 1, 1) := by decide +kernel
theorem d33_13 : decode jdk_42_method_64_code 13 = .ok (.aload_n 0, 1) := by decide +kernel
theorem d33_14 : decode jdk_42_method_64_code 14 = .ok (.invokevirtual 335, 3) := by decide +kernel
theorem d33_17 : decode jdk_42_method_64_code 17 = .ok (.aload_n 0, 1) := by decide +kernel
theorem d33_18 : decode jdk_42_method_64_code 18 = .ok (.getfield 9, 3) := by decide +kernel
theorem pd_26 : parseMethodDescriptor "(Ljava/nio/charset/Charset;B[B)[B" = some ⟨[(.object "java/nio/charset/Charset"), .byte, (.array .byte)], some (.array .byte)⟩ := by decide +kernel
theorem d33_21 : decode jdk_42_method_64_code 21 = .ok (.invokestatic 535, 3) := by decide +kernel
theorem d33_24 : decode jdk_42_method_64_code 24 = .ok (.areturn, 1) := by decide +kernel
set_option maxRecDepth 65536 in
set_option maxHeartbeats 40000000 in
theorem rmGC (l : Launch) (Z : State) (a0 : Array Value) (hw : ∀ d ∈ tables_1, d.before a0 Z = true) (ws : List Jvm.Cond) (a1 : Addr) (u8 : Addr) (y1 : Addr) (ky : ClassId) (bs : List Int32) (zC : Int32) (h0 : Heap) (n0 : Nat) (O0 : Old Z n0 h0) (SC : Sta Z Z.heap "java/lang/String" "COMPACT_STRINGS" "Z" (.int zC)) (hzC : ¬ zC = 0) (SI : Sta Z Z.heap "sun/nio/cs/UTF_8" "INSTANCE" "Lsun/nio/cs/UTF_8;" (.ref u8)) (Ex : Exa Z h0 a1 "java/lang/String") (Sv : Fld Z h0 a1 "java/lang/String" "value" "[B" (.ref y1)) (Sc : Fld Z h0 a1 "java/lang/String" "coder" "B" (.int (0 : Int32))) (Ey : Exa Z h0 y1 "[B") (Vy : Arv Z h0 y1 ky .byte (Int32.ofNat bs.length) (bs.map Value.int) (.int (0 : Int32))) (hbl : bs.length ≤ 32) (hp : ∀ c ∈ bs, ¬ c < 0) :
    MetFree l (⟨"java/lang/String", "getBytes", "(Ljava/nio/charset/Charset;)[B"⟩ : MethodName) (head1 (Jvm.Cond.code (⟨"java/lang/String", "getBytes", "(Ljava/nio/charset/Charset;)[B"⟩ : MethodName) jdk_42_method_64_code 2 (some (.array .byte)) :: ws) ({ frames := 4, cells := 1, slots := 32, locals := 74 } : Room)) (fun a U => a = #[(.ref a1), (.ref u8)] ∧ Z.Warmed39 U.vm ∧ U.heap = h0) (fun _ _ _ _ _ => True) (fun _ U o U' => ∃ v L, o = .returned v ∧ Q_rmGC Z bs h0 n0 v U'.heap L ∧ FrameEnd U o U' L ({ frames := 4, cells := 1, slots := 32, locals := 74 } : Room).cells ({ frames := 4, cells := 1, slots := 32, locals := 74 } : Room).slots) := by
  refine MetFree.of_bodySF (plainFor_of_name pn_String) hisR ?_
  intro p e s m args below meth c s₁ Bd hml0 hP hK
  obtain ⟨rfl, hZ, hh⟩ := hP
  have hx := Bd.exec
  have hby := Bd.bytes
  have hml : c.maxLocals = 2 := hml0
  have hown : s.vm.findClass "java/lang/String" = some m.cls := findClass_of_methodNamed Bd.named
  have hnm := (name_of_methodNamed Bd.named Bd.method).1
  have X0 : Stand p l e ({ frames := 4, cells := 1, slots := 32, locals := 74 } : Room) s m #[(.ref a1), (.ref u8)] below meth c s₁ [] 0 0 := Stand.of_body Bd
  have e0 : s₁.heap = h0 := by rw [← hh, Bd.state]; rfl
  have N0 := Fr.nil n0
  obtain ⟨S0, hS0⟩ : ∃ z, z = s₁.setTop (entryFrame m #[(.ref a1), (.ref u8)] 2) := ⟨_, rfl⟩
  have k0 : Rch p e below S0 s₁ (mkF m 0 #[vR a1, vR u8] []) := fun t kq => hS0 ▸ castTop (ef_33 m a1 u8) kq
  have K0 : Keep h0 h0 [] := Keep.refl h0 _
  have k349 : Rch p e below S0 s₁ (mkF m 14 #[vR a1, vR u8] [(.ref a1), (.ref u8)]) := fun t h => k0 t (by
      show Steps p.tables e below (s₁.setTop (mkF m 0 #[vR a1, vR u8] [])) _
      refine XS.aloadN X0.here hx rfl (hb hby d33_0) rfl rfl ?_
      refine XS.ifnonnullYes X0.here hx rfl (pc0 := 1) (pc' := 12) rfl (hb hby d33_1) rfl (by decide) (by decide) ?_
      refine XS.aloadN X0.here hx rfl (hb hby d33_12) rfl rfl ?_
      refine XS.aloadN X0.here hx rfl (hb hby d33_13) rfl rfl ?_
      exact h)
  obtain ⟨cq350, kq350, q350a, q350b, q350c⟩ := isOf hZ e0 Ex
  obtain ⟨_, _, ⟨T350, L350, kk350, n350⟩, -, X350, ⟨Lc350, hQ350, l350, y350, z350⟩, st350⟩ := X0.virtualBack hx (y := (⟨"java/lang/String", "coder", "()B"⟩ : MethodName)) (z := (⟨"java/lang/String", "coder", "()B"⟩ : MethodName)) hown (mvT hZ (hw _ (gm 63 rfl))) (mvT hZ (hw _ (gm 64 rfl))) (notFace_of_selects (args := #[]) (mvT hZ (hw _ (gm 66 rfl)))) (mvT hZ (hw _ (gm 66 rfl))) (mvT hZ (hw _ (gm 65 rfl))) (by decide) (backOf (W := 1) (rmC0 l Z a0 hw [] a1 zC h0 n0 O0 SC hzC Sc) hZ (hw _ (gm 67 rfl)) (hw _ (gm 3 rfl)) (by decide) (by decide)) q350a q350c (g := (mkF m 14 #[vR a1, vR u8] [(.ref a1), (.ref u8)])) rfl (by rw [hml]; rfl) (Steps.refl _) (argsL := []) (rest := [(.ref u8)]) (lenOf pd_9 rfl) rfl (by show 2 * 0 + _ ≤ _; exact Nat.le_of_eq rfl) (hb hby d33_14) (fun _ _ => ⟨rfl, e0, (by decide : 0 + 0 ≤ _), (by decide : 0 + 0 ≤ _)⟩)
  dsimp only [Pt.U, Pt.locs, Pt.cells, Pt.slots] at X350 l350 y350 z350 st350 hQ350
  subst l350 y350 z350
  obtain ⟨rfl, Nq350, hh350⟩ := hQ350
  have N350 := Fr.app N0 Nq350
  have k351 : Rch p e below S0 T350 (mkF m 17 #[vR a1, vR u8] [(.int (0 : Int32)), (.ref u8)]) := fun t h => k349 t (st350.trans h)
  have k353 : Rch p e below S0 T350 (mkF m 18 #[vR a1, vR u8] [(.ref a1), (.int (0 : Int32)), (.ref u8)]) := fun t h => k351 t (by
      show Steps p.tables e below (T350.setTop (mkF m 17 #[vR a1, vR u8] [(.int (0 : Int32)), (.ref u8)])) _
      refine XS.aloadN X350.here hx rfl (hb hby d33_17) rfl rfl ?_
      exact h)
  obtain ⟨T352, X352, e352, st352⟩ := getF X350 hx hZ hown (host := "") (Or.inl (hw _ (gm 20 rfl))) Via.refl hh350 Sv (g := (mkF m 18 #[vR a1, vR u8] [(.ref a1), (.int (0 : Int32)), (.ref u8)])) rfl rfl (hb hby d33_18)
  have k354 : Rch p e below S0 T352 (mkF m 21 #[vR a1, vR u8] [(.ref y1), (.int (0 : Int32)), (.ref u8)]) := fun t h => k353 t (st352 t h)
  obtain ⟨_, _, ⟨T355, L355, kk355, n355⟩, -, X355, ⟨Lc355, hQ355, l355, y355, z355⟩, st355⟩ := Jvm.LawKit.callS X352 hx (y := (⟨"java/lang/String", "encode", "(Ljava/nio/charset/Charset;B[B)[B"⟩ : MethodName)) hown (mvT hZ (hw _ (gm 182 rfl))) (mvT hZ (hw _ (gm 183 rfl))) (mvT hZ (hw _ (gm 3 rfl))) (mvT hZ (hw _ (gm 184 rfl))) (by decide) (backOf (W := 0) (rmEN l Z a0 hw [] u8 y1 ky bs h0 n0 O0 SI Ey Vy hbl hp) hZ (hw _ (gm 184 rfl)) (hw _ (gm 3 rfl)) (by decide) (by decide)) (g := (mkF m 21 #[vR a1, vR u8] [(.ref y1), (.int (0 : Int32)), (.ref u8)])) rfl (by rw [hml]; rfl) (argsL := [(.ref u8), (.int (0 : Int32)), (.ref y1)]) (rest := []) (lenOf pd_26 rfl) rfl (by show 2 * 0 + _ ≤ _; exact Nat.le_of_eq rfl) (hb hby d33_21) (fun _ _ => ⟨rfl, e352, (by decide : 0 + 1 ≤ _), (by decide : 0 + 32 ≤ _)⟩)
  dsimp only [Pt.U, Pt.locs, Pt.cells, Pt.slots] at X355 l355 y355 z355 st355 hQ355
  subst l355 y355 z355
  obtain ⟨y355, ky355, rfl, Nq355, E355, z355, V355⟩ := hQ355
  have N355 := Fr.app N350 Nq355
  have k356 : Rch p e below S0 T355 (mkF m 24 #[vR a1, vR u8] [(.ref y355)]) := fun t h => k354 t (st355 t h)
  have ne_y1_y355 : y1 ≠ y355 := own_ne Ey.lt z355
  have ne_a1_y355 : a1 ≠ y355 := own_ne Ex.lt z355
  have ge_y355 : n0 ≤ y355 := own_ge O0 z355
  have sz_y355 : h0.size ≤ y355 := Nat.le_trans K0.1 z355
  have O357 := O0.ext E355
  have K358 := K0.ext E355
  obtain ⟨fs, hr, hrun, hended, hW, hsame⟩ := X355.leave (v := (some (.ref y355))) (fun h => by rw [Bd.returns] at h; cases h)
  refine ⟨_, _, ?_, hrun, hended, _, _, rfl, ?_, ⟨_, rfl⟩, hW, hsame.mono (by decide) (by decide)⟩
  · rw [← hS0]
    refine k356 _ ?_
    show Steps p.tables e below (T355.setTop (mkF m 24 #[vR a1, vR u8] [(.ref y355)])) _
    jvm_step X355.here [X355.here.top, hx, (hb hby d33_24), X355.method', Bd.returns, Value.isRef, FieldType.isReference]
    first | (intro acts; rw [hr _ acts rfl rfl rfl]) | rw [hr _ _ rfl rfl rfl]
    exact Steps.refl _
  · show Q_rmGC Z bs h0 n0 _ T355.heap _
    exact ⟨_, _, rfl, N355, own_ext K358, sz_y355, V355⟩
def Q_rmTO (Z : State) (bs : List Int32) (h0 : Heap) (n0 : Nat) (v : Option Value) (h : Heap) (L : List Loc) : Prop := ∃ y ky, v = some (.ref y) ∧ Fr n0 L ∧ Ext h0 h ∧ h0.size ≤ y ∧ Arv Z h y ky .byte (Int32.ofNat bs.length) (bs.map Value.int) (.int (0 : Int32))
theorem ef_21 (m : MethodId) (x0 : Addr) : entryFrame m #[(.ref x0)] 1 = mkF m 0 #[.val (.ref x0)] [] := by first | (simp [entryFrame, mkF, argsToLocals, Value.category]; done) | rfl
theorem d21_0 : decode prog_31_method_7_code 0 = .ok (.aload_n 0, 1) := by decide +kernel
theorem d21_1 : decode prog_31_method_7_code 1 = .ok (.getfield 14, 3) := by decide +kernel
theorem pd_18 : parseMethodDescriptor "()Ljava/lang/String;" = some ⟨[], some (.object "java/lang/String")⟩ := by decide +kernel
theorem d21_4 : decode prog_31_method_7_code 4 = .ok (.invokevirtual 54, 3) := by decide +kernel
theorem d21_7 : decode prog_31_method_7_code 7 = .ok (.getstatic 58, 3) := by decide +kernel
theorem pd_25 : parseMethodDescriptor "(Ljava/nio/charset/Charset;)[B" = some ⟨[(.object "java/nio/charset/Charset")], some (.array .byte)⟩ := by decide +kernel
theorem d21_10 : decode prog_31_method_7_code 10 = .ok (.invokevirtual 64, 3) := by decide +kernel
theorem d21_13 : decode prog_31_method_7_code 13 = .ok (.areturn, 1) := by decide +kernel
set_option maxRecDepth 65536 in
set_option maxHeartbeats 40000000 in
theorem rmTO (l : Launch) (Z : State) (a0 : Array Value) (hw : ∀ d ∈ tables_1, d.before a0 Z = true) (ws : List Jvm.Cond) (h1 : Addr) (u8 : Addr) (sb : Addr) (tb : Addr) (kb : ClassId) (cap : Nat) (bs : List Int32) (zC : Int32) (h0 : Heap) (n0 : Nat) (O0 : Old Z n0 h0) (SC : Sta Z Z.heap "java/lang/String" "COMPACT_STRINGS" "Z" (.int zC)) (hzC : ¬ zC = 0) (SI : Sta Z Z.heap "sun/nio/cs/UTF_8" "INSTANCE" "Lsun/nio/cs/UTF_8;" (.ref u8)) (SU : Sta Z Z.heap "java/nio/charset/StandardCharsets" "UTF_8" "Ljava/nio/charset/Charset;" (.ref u8)) (Fo : Fld Z h0 h1 "com/example/usko/usko/server/Html" "out" "Ljava/lang/StringBuilder;" (.ref sb)) (E_sb : Exa Z h0 sb "java/lang/StringBuilder") (Fc : Fld Z h0 sb "java/lang/AbstractStringBuilder" "coder" "B" (.int (0 : Int32))) (Fv : Fld Z h0 sb "java/lang/AbstractStringBuilder" "value" "[B" (.ref tb)) (Fn : Fld Z h0 sb "java/lang/AbstractStringBuilder" "count" "I" (.int (Int32.ofNat bs.length))) (Vb : Arv Z h0 tb kb .byte (Int32.ofNat cap) (bs.map Value.int) (.int (0 : Int32))) (hlt : bs.length < cap) (hc2 : cap ≤ 32) (hp : ∀ c ∈ bs, ¬ c < 0) :
    MetFree l (⟨"com/example/usko/usko/server/Html", "toBytes", "()[B"⟩ : MethodName) (head1 (Jvm.Cond.code (⟨"com/example/usko/usko/server/Html", "toBytes", "()[B"⟩ : MethodName) prog_31_method_7_code 1 (some (.array .byte)) :: ws) ({ frames := 6, cells := 3, slots := 68, locals := 118 } : Room)) (fun a U => a = #[(.ref h1)] ∧ Z.Warmed39 U.vm ∧ U.heap = h0) (fun _ _ _ _ _ => True) (fun _ U o U' => ∃ v L, o = .returned v ∧ Q_rmTO Z bs h0 n0 v U'.heap L ∧ FrameEnd U o U' L ({ frames := 6, cells := 3, slots := 68, locals := 118 } : Room).cells ({ frames := 6, cells := 3, slots := 68, locals := 118 } : Room).slots) := by
  refine MetFree.of_bodySF (plainFor_of_name pn_Html) hisR ?_
  intro p e s m args below meth c s₁ Bd hml0 hP hK
  obtain ⟨rfl, hZ, hh⟩ := hP
  have hx := Bd.exec
  have hby := Bd.bytes
  have hml : c.maxLocals = 1 := hml0
  have hown : s.vm.findClass "com/example/usko/usko/server/Html" = some m.cls := findClass_of_methodNamed Bd.named
  have hnm := (name_of_methodNamed Bd.named Bd.method).1
  have X0 : Stand p l e ({ frames := 6, cells := 3, slots := 68, locals := 118 } : Room) s m #[(.ref h1)] below meth c s₁ [] 0 0 := Stand.of_body Bd
  have e0 : s₁.heap = h0 := by rw [← hh, Bd.state]; rfl
  have N0 := Fr.nil n0
  obtain ⟨S0, hS0⟩ : ∃ z, z = s₁.setTop (entryFrame m #[(.ref h1)] 1) := ⟨_, rfl⟩
  have k0 : Rch p e below S0 s₁ (mkF m 0 #[vR h1] []) := fun t kq => hS0 ▸ castTop (ef_21 m h1) kq
  have K0 : Keep h0 h0 [] := Keep.refl h0 _
  have k360 : Rch p e below S0 s₁ (mkF m 1 #[vR h1] [(.ref h1)]) := fun t h => k0 t (by
      show Steps p.tables e below (s₁.setTop (mkF m 0 #[vR h1] [])) _
      refine XS.aloadN X0.here hx rfl (hb hby d21_0) rfl rfl ?_
      exact h)
  obtain ⟨T359, X359, e359, st359⟩ := getF X0 hx hZ hown (host := "") (Or.inl (hw _ (gm 115 rfl))) Via.refl e0 Fo (g := (mkF m 1 #[vR h1] [(.ref h1)])) rfl rfl (hb hby d21_1)
  have k361 : Rch p e below S0 T359 (mkF m 4 #[vR h1] [(.ref sb)]) := fun t h => k360 t (st359 t h)
  obtain ⟨cq362, kq362, q362a, q362b, q362c⟩ := isOf hZ e359 E_sb
  obtain ⟨_, _, ⟨T362, L362, kk362, n362⟩, -, X362, ⟨Lc362, hQ362, l362, y362, z362⟩, st362⟩ := X359.virtualBack hx (y := (⟨"java/lang/StringBuilder", "toString", "()Ljava/lang/String;"⟩ : MethodName)) (z := (⟨"java/lang/StringBuilder", "toString", "()Ljava/lang/String;"⟩ : MethodName)) hown (mvT hZ (hw _ (gm 130 rfl))) (mvT hZ (hw _ (gm 131 rfl))) (notFace_of_selects (args := #[]) (mvT hZ (hw _ (gm 133 rfl)))) (mvT hZ (hw _ (gm 133 rfl))) (mvT hZ (hw _ (gm 132 rfl))) (by decide) (backOf (W := 0) (rmTS l Z a0 hw [] sb tb kb cap bs zC h0 n0 O0 SC hzC E_sb Fc Fv Fn Vb hlt hc2) hZ (hw _ (gm 134 rfl)) (hw _ (gm 46 rfl)) (by decide) (by decide)) q362a q362c (g := (mkF m 4 #[vR h1] [(.ref sb)])) rfl (by rw [hml]; rfl) (Steps.refl _) (argsL := []) (rest := []) (lenOf pd_18 rfl) rfl (by show 2 * 0 + _ ≤ _; exact Nat.le_of_eq rfl) (hb hby d21_4) (fun _ _ => ⟨rfl, e359, (by decide : 0 + 2 ≤ _), (by decide : 0 + 36 ≤ _)⟩)
  dsimp only [Pt.U, Pt.locs, Pt.cells, Pt.slots] at X362 l362 y362 z362 st362 hQ362
  subst l362 y362 z362
  obtain ⟨b362, y362, ky362, rfl, Nq362, E362, z362, Eb362, zy362, Ey362, Gv362, Gc362, V362⟩ := hQ362
  have N362 := Fr.app N0 Nq362
  have k363 : Rch p e below S0 T362 (mkF m 7 #[vR h1] [(.ref b362)]) := fun t h => k361 t (st362.trans h)
  have O364 := O0.ext E362
  have K365 := K0.ext E362
  obtain ⟨T366, X366, e366, st366⟩ := getS2 X362 hx hZ hown (host := "") (Or.inl (hw _ (gm 175 rfl))) Via.refl rfl (SU.ext O364.2) (g := (mkF m 7 #[vR h1] [(.ref b362)])) rfl (hb hby d21_7)
  have k367 : Rch p e below S0 T366 (mkF m 10 #[vR h1] [(.ref u8), (.ref b362)]) := fun t h => k363 t (st366 t h)
  obtain ⟨cq368, kq368, q368a, q368b, q368c⟩ := isOf hZ e366 Eb362
  obtain ⟨_, _, ⟨T368, L368, kk368, n368⟩, -, X368, ⟨Lc368, hQ368, l368, y368, z368⟩, st368⟩ := X366.virtualBack hx (y := (⟨"java/lang/String", "getBytes", "(Ljava/nio/charset/Charset;)[B"⟩ : MethodName)) (z := (⟨"java/lang/String", "getBytes", "(Ljava/nio/charset/Charset;)[B"⟩ : MethodName)) hown (mvT hZ (hw _ (gm 177 rfl))) (mvT hZ (hw _ (gm 178 rfl))) (notFace_of_selects (args := #[]) (mvT hZ (hw _ (gm 180 rfl)))) (mvT hZ (hw _ (gm 180 rfl))) (mvT hZ (hw _ (gm 179 rfl))) (by decide) (backOf (W := 0) (rmGC l Z a0 hw [] b362 u8 y362 ky362 bs zC T362.heap n0 O364 SC hzC SI Eb362 Gv362 Gc362 Ey362 V362 (by omega) hp) hZ (hw _ (gm 181 rfl)) (hw _ (gm 3 rfl)) (by decide) (by decide)) q368a q368c (g := (mkF m 10 #[vR h1] [(.ref u8), (.ref b362)])) rfl (by rw [hml]; rfl) (Steps.refl _) (argsL := [(.ref u8)]) (rest := []) (lenOf pd_25 rfl) rfl (by show 2 * 0 + _ ≤ _; exact Nat.le_of_eq rfl) (hb hby d21_10) (fun _ _ => ⟨rfl, e366, (by decide : 2 + 1 ≤ _), (by decide : 36 + 32 ≤ _)⟩)
  dsimp only [Pt.U, Pt.locs, Pt.cells, Pt.slots] at X368 l368 y368 z368 st368 hQ368
  subst l368 y368 z368
  obtain ⟨y368, ky368, rfl, Nq368, E368, z368, V368⟩ := hQ368
  have N368 := Fr.app N362 Nq368
  have k369 : Rch p e below S0 T368 (mkF m 13 #[vR h1] [(.ref y368)]) := fun t h => k367 t (st368.trans h)
  have ne_b362_y368 : b362 ≠ y368 := own_ne Eb362.lt z368
  have ne_y362_y368 : y362 ≠ y368 := own_ne Ey362.lt z368
  have ge_y368 : n0 ≤ y368 := own_ge O364 z368
  have sz_y368 : h0.size ≤ y368 := Nat.le_trans K365.1 z368
  have O370 := O364.ext E368
  have K371 := K365.ext E368
  obtain ⟨fs, hr, hrun, hended, hW, hsame⟩ := X368.leave (v := (some (.ref y368))) (fun h => by rw [Bd.returns] at h; cases h)
  refine ⟨_, _, ?_, hrun, hended, _, _, rfl, ?_, ⟨_, rfl⟩, hW, hsame.mono (by decide) (by decide)⟩
  · rw [← hS0]
    refine k369 _ ?_
    show Steps p.tables e below (T368.setTop (mkF m 13 #[vR h1] [(.ref y368)])) _
    jvm_step X368.here [X368.here.top, hx, (hb hby d21_13), X368.method', Bd.returns, Value.isRef, FieldType.isReference]
    first | (intro acts; rw [hr _ acts rfl rfl rfl]) | rw [hr _ _ rfl rfl rfl]
    exact Steps.refl _
  · show Q_rmTO Z bs h0 n0 _ T368.heap _
    exact ⟨_, _, rfl, N368, own_ext K371, sz_y368, V368⟩
def Q_rmPX (Z : State)  (h0 : Heap) (n0 : Nat) (v : Option Value) (h : Heap) (L : List Loc) : Prop := v = some (.int (1 : Int32)) ∧ Fr n0 L ∧ h = h0
theorem ef_38 (m : MethodId) (x0 : Addr) : entryFrame m #[(.ref x0)] 1 = mkF m 0 #[.val (.ref x0)] [] := by first | (simp [entryFrame, mkF, argsToLocals, Value.category]; done) | rfl
theorem pn_HtmlClosePinLaw : plainName "com/example/usko/usko/server/HtmlClosePinLaw" = true := by first | (simp [plainName, overriddenIn]; done) | decide +kernel
theorem d38_0 : decode method_3_code 0 = .ok (.aload_n 0, 1) := by decide +kernel
theorem d38_1 : decode method_3_code 1 = .ok (.iconst 0, 1) := by decide +kernel
theorem d38_2 : decode method_3_code 2 = .ok (.baload, 1) := by decide +kernel
theorem d38_3 : decode method_3_code 3 = .ok (.bipush 60, 2) := by decide +kernel
theorem d38_5 : decode method_3_code 5 = .ok (.if_icmp .ne 137, 3) := by decide +kernel
theorem d38_8 : decode method_3_code 8 = .ok (.aload_n 0, 1) := by decide +kernel
theorem d38_9 : decode method_3_code 9 = .ok (.iconst 1, 1) := by decide +kernel
theorem d38_10 : decode method_3_code 10 = .ok (.baload, 1) := by decide +kernel
theorem d38_11 : decode method_3_code 11 = .ok (.bipush 33, 2) := by decide +kernel
theorem d38_13 : decode method_3_code 13 = .ok (.if_icmp .ne 129, 3) := by decide +kernel
theorem d38_16 : decode method_3_code 16 = .ok (.aload_n 0, 1) := by decide +kernel
theorem d38_17 : decode method_3_code 17 = .ok (.iconst 2, 1) := by decide +kernel
theorem d38_18 : decode method_3_code 18 = .ok (.baload, 1) := by decide +kernel
theorem d38_19 : decode method_3_code 19 = .ok (.bipush 68, 2) := by decide +kernel
theorem d38_21 : decode method_3_code 21 = .ok (.if_icmp .ne 121, 3) := by decide +kernel
theorem d38_24 : decode method_3_code 24 = .ok (.aload_n 0, 1) := by decide +kernel
theorem d38_25 : decode method_3_code 25 = .ok (.iconst 3, 1) := by decide +kernel
theorem d38_26 : decode method_3_code 26 = .ok (.baload, 1) := by decide +kernel
theorem d38_27 : decode method_3_code 27 = .ok (.bipush 79, 2) := by decide +kernel
theorem d38_29 : decode method_3_code 29 = .ok (.if_icmp .ne 113, 3) := by decide +kernel
theorem d38_32 : decode method_3_code 32 = .ok (.aload_n 0, 1) := by decide +kernel
theorem d38_33 : decode method_3_code 33 = .ok (.iconst 4, 1) := by decide +kernel
theorem d38_34 : decode method_3_code 34 = .ok (.baload, 1) := by decide +kernel
theorem d38_35 : decode method_3_code 35 = .ok (.bipush 67, 2) := by decide +kernel
theorem d38_37 : decode method_3_code 37 = .ok (.if_icmp .ne 105, 3) := by decide +kernel
theorem d38_40 : decode method_3_code 40 = .ok (.aload_n 0, 1) := by decide +kernel
theorem d38_41 : decode method_3_code 41 = .ok (.iconst 5, 1) := by decide +kernel
theorem d38_42 : decode method_3_code 42 = .ok (.baload, 1) := by decide +kernel
theorem d38_43 : decode method_3_code 43 = .ok (.bipush 84, 2) := by decide +kernel
theorem d38_45 : decode method_3_code 45 = .ok (.if_icmp .ne 97, 3) := by decide +kernel
theorem d38_48 : decode method_3_code 48 = .ok (.aload_n 0, 1) := by decide +kernel
theorem d38_49 : decode method_3_code 49 = .ok (.bipush 6, 2) := by decide +kernel
theorem d38_51 : decode method_3_code 51 = .ok (.baload, 1) := by decide +kernel
theorem d38_52 : decode method_3_code 52 = .ok (.bipush 89, 2) := by decide +kernel
theorem d38_54 : decode method_3_code 54 = .ok (.if_icmp .ne 88, 3) := by decide +kernel
theorem d38_57 : decode method_3_code 57 = .ok (.aload_n 0, 1) := by decide +kernel
theorem d38_58 : decode method_3_code 58 = .ok (.bipush 7, 2) := by decide +kernel
theorem d38_60 : decode method_3_code 60 = .ok (.baload, 1) := by decide +kernel
theorem d38_61 : decode method_3_code 61 = .ok (.bipush 80, 2) := by decide +kernel
theorem d38_63 : decode method_3_code 63 = .ok (.if_icmp .ne 79, 3) := by decide +kernel
theorem d38_66 : decode method_3_code 66 = .ok (.aload_n 0, 1) := by decide +kernel
theorem d38_67 : decode method_3_code 67 = .ok (.bipush 8, 2) := by decide +kernel
theorem d38_69 : decode method_3_code 69 = .ok (.baload, 1) := by decide +kernel
theorem d38_70 : decode method_3_code 70 = .ok (.bipush 69, 2) := by decide +kernel
theorem d38_72 : decode method_3_code 72 = .ok (.if_icmp .ne 70, 3) := by decide +kernel
theorem d38_75 : decode method_3_code 75 = .ok (.aload_n 0, 1) := by decide +kernel
theorem d38_76 : decode method_3_code 76 = .ok (.bipush 9, 2) := by decide +kernel
theorem d38_78 : decode method_3_code 78 = .ok (.baload, 1) := by decide +kernel
theorem d38_79 : decode method_3_code 79 = .ok (.bipush 32, 2) := by decide +kernel
theorem d38_81 : decode method_3_code 81 = .ok (.if_icmp .ne 61, 3) := by decide +kernel
theorem d38_84 : decode method_3_code 84 = .ok (.aload_n 0, 1) := by decide +kernel
theorem d38_85 : decode method_3_code 85 = .ok (.bipush 10, 2) := by decide +kernel
theorem d38_87 : decode method_3_code 87 = .ok (.baload, 1) := by decide +kernel
theorem d38_88 : decode method_3_code 88 = .ok (.bipush 104, 2) := by decide +kernel
theorem d38_90 : decode method_3_code 90 = .ok (.if_icmp .ne 52, 3) := by decide +kernel
theorem d38_93 : decode method_3_code 93 = .ok (.aload_n 0, 1) := by decide +kernel
theorem d38_94 : decode method_3_code 94 = .ok (.bipush 11, 2) := by decide +kernel
theorem d38_96 : decode method_3_code 96 = .ok (.baload, 1) := by decide +kernel
theorem d38_97 : decode method_3_code 97 = .ok (.bipush 116, 2) := by decide +kernel
theorem d38_99 : decode method_3_code 99 = .ok (.if_icmp .ne 43, 3) := by decide +kernel
theorem d38_102 : decode method_3_code 102 = .ok (.aload_n 0, 1) := by decide +kernel
theorem d38_103 : decode method_3_code 103 = .ok (.bipush 12, 2) := by decide +kernel
theorem d38_105 : decode method_3_code 105 = .ok (.baload, 1) := by decide +kernel
theorem d38_106 : decode method_3_code 106 = .ok (.bipush 109, 2) := by decide +kernel
theorem d38_108 : decode method_3_code 108 = .ok (.if_icmp .ne 34, 3) := by decide +kernel
theorem d38_111 : decode method_3_code 111 = .ok (.aload_n 0, 1) := by decide +kernel
theorem d38_112 : decode method_3_code 112 = .ok (.bipush 13, 2) := by decide +kernel
theorem d38_114 : decode method_3_code 114 = .ok (.baload, 1) := by decide +kernel
theorem d38_115 : decode method_3_code 115 = .ok (.bipush 108, 2) := by decide +kernel
theorem d38_117 : decode method_3_code 117 = .ok (.if_icmp .ne 25, 3) := by decide +kernel
theorem d38_120 : decode method_3_code 120 = .ok (.aload_n 0, 1) := by decide +kernel
theorem d38_121 : decode method_3_code 121 = .ok (.bipush 14, 2) := by decide +kernel
theorem d38_123 : decode method_3_code 123 = .ok (.baload, 1) := by decide +kernel
theorem d38_124 : decode method_3_code 124 = .ok (.bipush 62, 2) := by decide +kernel
theorem d38_126 : decode method_3_code 126 = .ok (.if_icmp .ne 16, 3) := by decide +kernel
theorem d38_129 : decode method_3_code 129 = .ok (.aload_n 0, 1) := by decide +kernel
theorem d38_130 : decode method_3_code 130 = .ok (.bipush 15, 2) := by decide +kernel
theorem d38_132 : decode method_3_code 132 = .ok (.baload, 1) := by decide +kernel
theorem d38_133 : decode method_3_code 133 = .ok (.bipush 10, 2) := by decide +kernel
theorem d38_135 : decode method_3_code 135 = .ok (.if_icmp .ne 7, 3) := by decide +kernel
theorem d38_138 : decode method_3_code 138 = .ok (.iconst 1, 1) := by decide +kernel
theorem d38_139 : decode method_3_code 139 = .ok (.goto 4, 3) := by decide +kernel
theorem d38_143 : decode method_3_code 143 = .ok (.ireturn, 1) := by decide +kernel
set_option maxRecDepth 65536 in
set_option maxHeartbeats 40000000 in
theorem rmPX (l : Launch) (Z : State) (a0 : Array Value) (hw : ∀ d ∈ tables_1, d.before a0 Z = true) (ws : List Jvm.Cond) (y1 : Addr) (ky : ClassId) (n : Nat) (rs : List Int32) (h0 : Heap) (n0 : Nat) (O0 : Old Z n0 h0) (Vy : Arv Z h0 y1 ky .byte (Int32.ofNat n) (([(60 : Int32), (33 : Int32), (68 : Int32), (79 : Int32), (67 : Int32), (84 : Int32), (89 : Int32), (80 : Int32), (69 : Int32), (32 : Int32), (104 : Int32), (116 : Int32), (109 : Int32), (108 : Int32), (62 : Int32), (10 : Int32)] ++ rs).map Value.int) (.int (0 : Int32))) (hn : 16 ≤ n) (hn2 : n ≤ 32) :
    MetFree l (⟨"com/example/usko/usko/server/HtmlClosePinLaw", "prefix", "([B)Z"⟩ : MethodName) (head1 (Jvm.Cond.code (⟨"com/example/usko/usko/server/HtmlClosePinLaw", "prefix", "([B)Z"⟩ : MethodName) method_3_code 1 (some .boolean) :: ws) ({ frames := 0, cells := 0, slots := 0, locals := 0 } : Room)) (fun a U => a = #[(.ref y1)] ∧ Z.Warmed39 U.vm ∧ U.heap = h0) (fun _ _ _ _ _ => True) (fun _ U o U' => ∃ v L, o = .returned v ∧ Q_rmPX Z  h0 n0 v U'.heap L ∧ FrameEnd U o U' L ({ frames := 0, cells := 0, slots := 0, locals := 0 } : Room).cells ({ frames := 0, cells := 0, slots := 0, locals := 0 } : Room).slots) := by
  refine MetFree.of_bodySF (plainFor_of_name pn_HtmlClosePinLaw) hisR ?_
  intro p e s m args below meth c s₁ Bd hml0 hP hK
  obtain ⟨rfl, hZ, hh⟩ := hP
  have hx := Bd.exec
  have hby := Bd.bytes
  have hml : c.maxLocals = 1 := hml0
  have hown : s.vm.findClass "com/example/usko/usko/server/HtmlClosePinLaw" = some m.cls := findClass_of_methodNamed Bd.named
  have hnm := (name_of_methodNamed Bd.named Bd.method).1
  have X0 : Stand p l e ({ frames := 0, cells := 0, slots := 0, locals := 0 } : Room) s m #[(.ref y1)] below meth c s₁ [] 0 0 := Stand.of_body Bd
  have e0 : s₁.heap = h0 := by rw [← hh, Bd.state]; rfl
  have N0 := Fr.nil n0
  obtain ⟨S0, hS0⟩ : ∃ z, z = s₁.setTop (entryFrame m #[(.ref y1)] 1) := ⟨_, rfl⟩
  have k0 : Rch p e below S0 s₁ (mkF m 0 #[vR y1] []) := fun t kq => hS0 ▸ castTop (ef_38 m y1) kq
  have k373 : Rch p e below S0 s₁ (mkF m 2 #[vR y1] [(.int (0 : Int32)), (.ref y1)]) := fun t h => k0 t (by
      show Steps p.tables e below (s₁.setTop (mkF m 0 #[vR y1] [])) _
      refine XS.aloadN X0.here hx rfl (hb hby d38_0) rfl rfl ?_
      refine XS.iconst X0.here hx rfl (hb hby d38_1) ?_
      exact h)
  obtain ⟨cl372, Ar372, q372, Sz372, Ng372, Hs372, G372⟩ := id Vy
  have hin372 : ¬ ((0 : Int32) < 0 ∨ cl372.slots.size ≤ ((0 : Int32)).toNatClampNeg) := inb_of Sz372 (own_inb (i := 0) (by omega) (by omega))
  have hat372 : cl372.slots[((0 : Int32)).toNatClampNeg]? = some (.int (60 : Int32)) := Hs372.at hin372 (rfl)
  have k375 : Rch p e below S0 s₁ (mkF m 10 #[vR y1] [(.int (1 : Int32)), (.ref y1)]) := fun t h => k373 t (by
      show Steps p.tables e below (s₁.setTop (mkF m 2 #[vR y1] [(.int (0 : Int32)), (.ref y1)])) _
      refine X0.baloadBytes hx (j := (0 : Int32)) (v := (.int (60 : Int32))) (by rw [e0]; exact Ar372.1) (State.isArrayOf_alike hZ.alike Ar372.2.1) Ar372.2.2 hin372 hat372 (g := (mkF m 2 #[vR y1] [(.int (0 : Int32)), (.ref y1)])) rfl rfl (hb hby d38_2) _ ?_
      refine XS.bipush X0.here hx rfl (hb hby d38_3) ?_
      refine XS.icmpNo X0.here hx rfl (hb hby d38_5) rfl (teq (by decide : (60 : Int32) = (60 : Int32))).2 ?_
      refine XS.aloadN X0.here hx rfl (hb hby d38_8) rfl rfl ?_
      refine XS.iconst X0.here hx rfl (hb hby d38_9) ?_
      exact h)
  obtain ⟨cl374, Ar374, q374, Sz374, Ng374, Hs374, G374⟩ := id Vy
  have hin374 : ¬ ((1 : Int32) < 0 ∨ cl374.slots.size ≤ ((1 : Int32)).toNatClampNeg) := inb_of Sz374 (own_inb (i := 1) (by omega) (by omega))
  have hat374 : cl374.slots[((1 : Int32)).toNatClampNeg]? = some (.int (33 : Int32)) := Hs374.at hin374 (rfl)
  have k377 : Rch p e below S0 s₁ (mkF m 18 #[vR y1] [(.int (2 : Int32)), (.ref y1)]) := fun t h => k375 t (by
      show Steps p.tables e below (s₁.setTop (mkF m 10 #[vR y1] [(.int (1 : Int32)), (.ref y1)])) _
      refine X0.baloadBytes hx (j := (1 : Int32)) (v := (.int (33 : Int32))) (by rw [e0]; exact Ar374.1) (State.isArrayOf_alike hZ.alike Ar374.2.1) Ar374.2.2 hin374 hat374 (g := (mkF m 10 #[vR y1] [(.int (1 : Int32)), (.ref y1)])) rfl rfl (hb hby d38_10) _ ?_
      refine XS.bipush X0.here hx rfl (hb hby d38_11) ?_
      refine XS.icmpNo X0.here hx rfl (hb hby d38_13) rfl (teq (by decide : (33 : Int32) = (33 : Int32))).2 ?_
      refine XS.aloadN X0.here hx rfl (hb hby d38_16) rfl rfl ?_
      refine XS.iconst X0.here hx rfl (hb hby d38_17) ?_
      exact h)
  obtain ⟨cl376, Ar376, q376, Sz376, Ng376, Hs376, G376⟩ := id Vy
  have hin376 : ¬ ((2 : Int32) < 0 ∨ cl376.slots.size ≤ ((2 : Int32)).toNatClampNeg) := inb_of Sz376 (own_inb (i := 2) (by omega) (by omega))
  have hat376 : cl376.slots[((2 : Int32)).toNatClampNeg]? = some (.int (68 : Int32)) := Hs376.at hin376 (rfl)
  have k379 : Rch p e below S0 s₁ (mkF m 26 #[vR y1] [(.int (3 : Int32)), (.ref y1)]) := fun t h => k377 t (by
      show Steps p.tables e below (s₁.setTop (mkF m 18 #[vR y1] [(.int (2 : Int32)), (.ref y1)])) _
      refine X0.baloadBytes hx (j := (2 : Int32)) (v := (.int (68 : Int32))) (by rw [e0]; exact Ar376.1) (State.isArrayOf_alike hZ.alike Ar376.2.1) Ar376.2.2 hin376 hat376 (g := (mkF m 18 #[vR y1] [(.int (2 : Int32)), (.ref y1)])) rfl rfl (hb hby d38_18) _ ?_
      refine XS.bipush X0.here hx rfl (hb hby d38_19) ?_
      refine XS.icmpNo X0.here hx rfl (hb hby d38_21) rfl (teq (by decide : (68 : Int32) = (68 : Int32))).2 ?_
      refine XS.aloadN X0.here hx rfl (hb hby d38_24) rfl rfl ?_
      refine XS.iconst X0.here hx rfl (hb hby d38_25) ?_
      exact h)
  obtain ⟨cl378, Ar378, q378, Sz378, Ng378, Hs378, G378⟩ := id Vy
  have hin378 : ¬ ((3 : Int32) < 0 ∨ cl378.slots.size ≤ ((3 : Int32)).toNatClampNeg) := inb_of Sz378 (own_inb (i := 3) (by omega) (by omega))
  have hat378 : cl378.slots[((3 : Int32)).toNatClampNeg]? = some (.int (79 : Int32)) := Hs378.at hin378 (rfl)
  have k381 : Rch p e below S0 s₁ (mkF m 34 #[vR y1] [(.int (4 : Int32)), (.ref y1)]) := fun t h => k379 t (by
      show Steps p.tables e below (s₁.setTop (mkF m 26 #[vR y1] [(.int (3 : Int32)), (.ref y1)])) _
      refine X0.baloadBytes hx (j := (3 : Int32)) (v := (.int (79 : Int32))) (by rw [e0]; exact Ar378.1) (State.isArrayOf_alike hZ.alike Ar378.2.1) Ar378.2.2 hin378 hat378 (g := (mkF m 26 #[vR y1] [(.int (3 : Int32)), (.ref y1)])) rfl rfl (hb hby d38_26) _ ?_
      refine XS.bipush X0.here hx rfl (hb hby d38_27) ?_
      refine XS.icmpNo X0.here hx rfl (hb hby d38_29) rfl (teq (by decide : (79 : Int32) = (79 : Int32))).2 ?_
      refine XS.aloadN X0.here hx rfl (hb hby d38_32) rfl rfl ?_
      refine XS.iconst X0.here hx rfl (hb hby d38_33) ?_
      exact h)
  obtain ⟨cl380, Ar380, q380, Sz380, Ng380, Hs380, G380⟩ := id Vy
  have hin380 : ¬ ((4 : Int32) < 0 ∨ cl380.slots.size ≤ ((4 : Int32)).toNatClampNeg) := inb_of Sz380 (own_inb (i := 4) (by omega) (by omega))
  have hat380 : cl380.slots[((4 : Int32)).toNatClampNeg]? = some (.int (67 : Int32)) := Hs380.at hin380 (rfl)
  have k383 : Rch p e below S0 s₁ (mkF m 42 #[vR y1] [(.int (5 : Int32)), (.ref y1)]) := fun t h => k381 t (by
      show Steps p.tables e below (s₁.setTop (mkF m 34 #[vR y1] [(.int (4 : Int32)), (.ref y1)])) _
      refine X0.baloadBytes hx (j := (4 : Int32)) (v := (.int (67 : Int32))) (by rw [e0]; exact Ar380.1) (State.isArrayOf_alike hZ.alike Ar380.2.1) Ar380.2.2 hin380 hat380 (g := (mkF m 34 #[vR y1] [(.int (4 : Int32)), (.ref y1)])) rfl rfl (hb hby d38_34) _ ?_
      refine XS.bipush X0.here hx rfl (hb hby d38_35) ?_
      refine XS.icmpNo X0.here hx rfl (hb hby d38_37) rfl (teq (by decide : (67 : Int32) = (67 : Int32))).2 ?_
      refine XS.aloadN X0.here hx rfl (hb hby d38_40) rfl rfl ?_
      refine XS.iconst X0.here hx rfl (hb hby d38_41) ?_
      exact h)
  obtain ⟨cl382, Ar382, q382, Sz382, Ng382, Hs382, G382⟩ := id Vy
  have hin382 : ¬ ((5 : Int32) < 0 ∨ cl382.slots.size ≤ ((5 : Int32)).toNatClampNeg) := inb_of Sz382 (own_inb (i := 5) (by omega) (by omega))
  have hat382 : cl382.slots[((5 : Int32)).toNatClampNeg]? = some (.int (84 : Int32)) := Hs382.at hin382 (rfl)
  have k385 : Rch p e below S0 s₁ (mkF m 51 #[vR y1] [(.int (6 : Int32)), (.ref y1)]) := fun t h => k383 t (by
      show Steps p.tables e below (s₁.setTop (mkF m 42 #[vR y1] [(.int (5 : Int32)), (.ref y1)])) _
      refine X0.baloadBytes hx (j := (5 : Int32)) (v := (.int (84 : Int32))) (by rw [e0]; exact Ar382.1) (State.isArrayOf_alike hZ.alike Ar382.2.1) Ar382.2.2 hin382 hat382 (g := (mkF m 42 #[vR y1] [(.int (5 : Int32)), (.ref y1)])) rfl rfl (hb hby d38_42) _ ?_
      refine XS.bipush X0.here hx rfl (hb hby d38_43) ?_
      refine XS.icmpNo X0.here hx rfl (hb hby d38_45) rfl (teq (by decide : (84 : Int32) = (84 : Int32))).2 ?_
      refine XS.aloadN X0.here hx rfl (hb hby d38_48) rfl rfl ?_
      refine XS.bipush X0.here hx rfl (hb hby d38_49) ?_
      exact h)
  obtain ⟨cl384, Ar384, q384, Sz384, Ng384, Hs384, G384⟩ := id Vy
  have hin384 : ¬ ((6 : Int32) < 0 ∨ cl384.slots.size ≤ ((6 : Int32)).toNatClampNeg) := inb_of Sz384 (own_inb (i := 6) (by omega) (by omega))
  have hat384 : cl384.slots[((6 : Int32)).toNatClampNeg]? = some (.int (89 : Int32)) := Hs384.at hin384 (rfl)
  have k387 : Rch p e below S0 s₁ (mkF m 60 #[vR y1] [(.int (7 : Int32)), (.ref y1)]) := fun t h => k385 t (by
      show Steps p.tables e below (s₁.setTop (mkF m 51 #[vR y1] [(.int (6 : Int32)), (.ref y1)])) _
      refine X0.baloadBytes hx (j := (6 : Int32)) (v := (.int (89 : Int32))) (by rw [e0]; exact Ar384.1) (State.isArrayOf_alike hZ.alike Ar384.2.1) Ar384.2.2 hin384 hat384 (g := (mkF m 51 #[vR y1] [(.int (6 : Int32)), (.ref y1)])) rfl rfl (hb hby d38_51) _ ?_
      refine XS.bipush X0.here hx rfl (hb hby d38_52) ?_
      refine XS.icmpNo X0.here hx rfl (hb hby d38_54) rfl (teq (by decide : (89 : Int32) = (89 : Int32))).2 ?_
      refine XS.aloadN X0.here hx rfl (hb hby d38_57) rfl rfl ?_
      refine XS.bipush X0.here hx rfl (hb hby d38_58) ?_
      exact h)
  obtain ⟨cl386, Ar386, q386, Sz386, Ng386, Hs386, G386⟩ := id Vy
  have hin386 : ¬ ((7 : Int32) < 0 ∨ cl386.slots.size ≤ ((7 : Int32)).toNatClampNeg) := inb_of Sz386 (own_inb (i := 7) (by omega) (by omega))
  have hat386 : cl386.slots[((7 : Int32)).toNatClampNeg]? = some (.int (80 : Int32)) := Hs386.at hin386 (rfl)
  have k389 : Rch p e below S0 s₁ (mkF m 69 #[vR y1] [(.int (8 : Int32)), (.ref y1)]) := fun t h => k387 t (by
      show Steps p.tables e below (s₁.setTop (mkF m 60 #[vR y1] [(.int (7 : Int32)), (.ref y1)])) _
      refine X0.baloadBytes hx (j := (7 : Int32)) (v := (.int (80 : Int32))) (by rw [e0]; exact Ar386.1) (State.isArrayOf_alike hZ.alike Ar386.2.1) Ar386.2.2 hin386 hat386 (g := (mkF m 60 #[vR y1] [(.int (7 : Int32)), (.ref y1)])) rfl rfl (hb hby d38_60) _ ?_
      refine XS.bipush X0.here hx rfl (hb hby d38_61) ?_
      refine XS.icmpNo X0.here hx rfl (hb hby d38_63) rfl (teq (by decide : (80 : Int32) = (80 : Int32))).2 ?_
      refine XS.aloadN X0.here hx rfl (hb hby d38_66) rfl rfl ?_
      refine XS.bipush X0.here hx rfl (hb hby d38_67) ?_
      exact h)
  obtain ⟨cl388, Ar388, q388, Sz388, Ng388, Hs388, G388⟩ := id Vy
  have hin388 : ¬ ((8 : Int32) < 0 ∨ cl388.slots.size ≤ ((8 : Int32)).toNatClampNeg) := inb_of Sz388 (own_inb (i := 8) (by omega) (by omega))
  have hat388 : cl388.slots[((8 : Int32)).toNatClampNeg]? = some (.int (69 : Int32)) := Hs388.at hin388 (rfl)
  have k391 : Rch p e below S0 s₁ (mkF m 78 #[vR y1] [(.int (9 : Int32)), (.ref y1)]) := fun t h => k389 t (by
      show Steps p.tables e below (s₁.setTop (mkF m 69 #[vR y1] [(.int (8 : Int32)), (.ref y1)])) _
      refine X0.baloadBytes hx (j := (8 : Int32)) (v := (.int (69 : Int32))) (by rw [e0]; exact Ar388.1) (State.isArrayOf_alike hZ.alike Ar388.2.1) Ar388.2.2 hin388 hat388 (g := (mkF m 69 #[vR y1] [(.int (8 : Int32)), (.ref y1)])) rfl rfl (hb hby d38_69) _ ?_
      refine XS.bipush X0.here hx rfl (hb hby d38_70) ?_
      refine XS.icmpNo X0.here hx rfl (hb hby d38_72) rfl (teq (by decide : (69 : Int32) = (69 : Int32))).2 ?_
      refine XS.aloadN X0.here hx rfl (hb hby d38_75) rfl rfl ?_
      refine XS.bipush X0.here hx rfl (hb hby d38_76) ?_
      exact h)
  obtain ⟨cl390, Ar390, q390, Sz390, Ng390, Hs390, G390⟩ := id Vy
  have hin390 : ¬ ((9 : Int32) < 0 ∨ cl390.slots.size ≤ ((9 : Int32)).toNatClampNeg) := inb_of Sz390 (own_inb (i := 9) (by omega) (by omega))
  have hat390 : cl390.slots[((9 : Int32)).toNatClampNeg]? = some (.int (32 : Int32)) := Hs390.at hin390 (rfl)
  have k393 : Rch p e below S0 s₁ (mkF m 87 #[vR y1] [(.int (10 : Int32)), (.ref y1)]) := fun t h => k391 t (by
      show Steps p.tables e below (s₁.setTop (mkF m 78 #[vR y1] [(.int (9 : Int32)), (.ref y1)])) _
      refine X0.baloadBytes hx (j := (9 : Int32)) (v := (.int (32 : Int32))) (by rw [e0]; exact Ar390.1) (State.isArrayOf_alike hZ.alike Ar390.2.1) Ar390.2.2 hin390 hat390 (g := (mkF m 78 #[vR y1] [(.int (9 : Int32)), (.ref y1)])) rfl rfl (hb hby d38_78) _ ?_
      refine XS.bipush X0.here hx rfl (hb hby d38_79) ?_
      refine XS.icmpNo X0.here hx rfl (hb hby d38_81) rfl (teq (by decide : (32 : Int32) = (32 : Int32))).2 ?_
      refine XS.aloadN X0.here hx rfl (hb hby d38_84) rfl rfl ?_
      refine XS.bipush X0.here hx rfl (hb hby d38_85) ?_
      exact h)
  obtain ⟨cl392, Ar392, q392, Sz392, Ng392, Hs392, G392⟩ := id Vy
  have hin392 : ¬ ((10 : Int32) < 0 ∨ cl392.slots.size ≤ ((10 : Int32)).toNatClampNeg) := inb_of Sz392 (own_inb (i := 10) (by omega) (by omega))
  have hat392 : cl392.slots[((10 : Int32)).toNatClampNeg]? = some (.int (104 : Int32)) := Hs392.at hin392 (rfl)
  have k395 : Rch p e below S0 s₁ (mkF m 96 #[vR y1] [(.int (11 : Int32)), (.ref y1)]) := fun t h => k393 t (by
      show Steps p.tables e below (s₁.setTop (mkF m 87 #[vR y1] [(.int (10 : Int32)), (.ref y1)])) _
      refine X0.baloadBytes hx (j := (10 : Int32)) (v := (.int (104 : Int32))) (by rw [e0]; exact Ar392.1) (State.isArrayOf_alike hZ.alike Ar392.2.1) Ar392.2.2 hin392 hat392 (g := (mkF m 87 #[vR y1] [(.int (10 : Int32)), (.ref y1)])) rfl rfl (hb hby d38_87) _ ?_
      refine XS.bipush X0.here hx rfl (hb hby d38_88) ?_
      refine XS.icmpNo X0.here hx rfl (hb hby d38_90) rfl (teq (by decide : (104 : Int32) = (104 : Int32))).2 ?_
      refine XS.aloadN X0.here hx rfl (hb hby d38_93) rfl rfl ?_
      refine XS.bipush X0.here hx rfl (hb hby d38_94) ?_
      exact h)
  obtain ⟨cl394, Ar394, q394, Sz394, Ng394, Hs394, G394⟩ := id Vy
  have hin394 : ¬ ((11 : Int32) < 0 ∨ cl394.slots.size ≤ ((11 : Int32)).toNatClampNeg) := inb_of Sz394 (own_inb (i := 11) (by omega) (by omega))
  have hat394 : cl394.slots[((11 : Int32)).toNatClampNeg]? = some (.int (116 : Int32)) := Hs394.at hin394 (rfl)
  have k397 : Rch p e below S0 s₁ (mkF m 105 #[vR y1] [(.int (12 : Int32)), (.ref y1)]) := fun t h => k395 t (by
      show Steps p.tables e below (s₁.setTop (mkF m 96 #[vR y1] [(.int (11 : Int32)), (.ref y1)])) _
      refine X0.baloadBytes hx (j := (11 : Int32)) (v := (.int (116 : Int32))) (by rw [e0]; exact Ar394.1) (State.isArrayOf_alike hZ.alike Ar394.2.1) Ar394.2.2 hin394 hat394 (g := (mkF m 96 #[vR y1] [(.int (11 : Int32)), (.ref y1)])) rfl rfl (hb hby d38_96) _ ?_
      refine XS.bipush X0.here hx rfl (hb hby d38_97) ?_
      refine XS.icmpNo X0.here hx rfl (hb hby d38_99) rfl (teq (by decide : (116 : Int32) = (116 : Int32))).2 ?_
      show Steps p.tables e below (s₁.setTop (mkF m 102 #[vR y1] [])) _
      refine XS.aloadN X0.here hx rfl (hb hby d38_102) rfl rfl ?_
      refine XS.bipush X0.here hx rfl (hb hby d38_103) ?_
      exact h)
  obtain ⟨cl396, Ar396, q396, Sz396, Ng396, Hs396, G396⟩ := id Vy
  have hin396 : ¬ ((12 : Int32) < 0 ∨ cl396.slots.size ≤ ((12 : Int32)).toNatClampNeg) := inb_of Sz396 (own_inb (i := 12) (by omega) (by omega))
  have hat396 : cl396.slots[((12 : Int32)).toNatClampNeg]? = some (.int (109 : Int32)) := Hs396.at hin396 (rfl)
  have k399 : Rch p e below S0 s₁ (mkF m 114 #[vR y1] [(.int (13 : Int32)), (.ref y1)]) := fun t h => k397 t (by
      show Steps p.tables e below (s₁.setTop (mkF m 105 #[vR y1] [(.int (12 : Int32)), (.ref y1)])) _
      refine X0.baloadBytes hx (j := (12 : Int32)) (v := (.int (109 : Int32))) (by rw [e0]; exact Ar396.1) (State.isArrayOf_alike hZ.alike Ar396.2.1) Ar396.2.2 hin396 hat396 (g := (mkF m 105 #[vR y1] [(.int (12 : Int32)), (.ref y1)])) rfl rfl (hb hby d38_105) _ ?_
      refine XS.bipush X0.here hx rfl (hb hby d38_106) ?_
      refine XS.icmpNo X0.here hx rfl (hb hby d38_108) rfl (teq (by decide : (109 : Int32) = (109 : Int32))).2 ?_
      refine XS.aloadN X0.here hx rfl (hb hby d38_111) rfl rfl ?_
      refine XS.bipush X0.here hx rfl (hb hby d38_112) ?_
      exact h)
  obtain ⟨cl398, Ar398, q398, Sz398, Ng398, Hs398, G398⟩ := id Vy
  have hin398 : ¬ ((13 : Int32) < 0 ∨ cl398.slots.size ≤ ((13 : Int32)).toNatClampNeg) := inb_of Sz398 (own_inb (i := 13) (by omega) (by omega))
  have hat398 : cl398.slots[((13 : Int32)).toNatClampNeg]? = some (.int (108 : Int32)) := Hs398.at hin398 (rfl)
  have k401 : Rch p e below S0 s₁ (mkF m 123 #[vR y1] [(.int (14 : Int32)), (.ref y1)]) := fun t h => k399 t (by
      show Steps p.tables e below (s₁.setTop (mkF m 114 #[vR y1] [(.int (13 : Int32)), (.ref y1)])) _
      refine X0.baloadBytes hx (j := (13 : Int32)) (v := (.int (108 : Int32))) (by rw [e0]; exact Ar398.1) (State.isArrayOf_alike hZ.alike Ar398.2.1) Ar398.2.2 hin398 hat398 (g := (mkF m 114 #[vR y1] [(.int (13 : Int32)), (.ref y1)])) rfl rfl (hb hby d38_114) _ ?_
      refine XS.bipush X0.here hx rfl (hb hby d38_115) ?_
      refine XS.icmpNo X0.here hx rfl (hb hby d38_117) rfl (teq (by decide : (108 : Int32) = (108 : Int32))).2 ?_
      refine XS.aloadN X0.here hx rfl (hb hby d38_120) rfl rfl ?_
      refine XS.bipush X0.here hx rfl (hb hby d38_121) ?_
      exact h)
  obtain ⟨cl400, Ar400, q400, Sz400, Ng400, Hs400, G400⟩ := id Vy
  have hin400 : ¬ ((14 : Int32) < 0 ∨ cl400.slots.size ≤ ((14 : Int32)).toNatClampNeg) := inb_of Sz400 (own_inb (i := 14) (by omega) (by omega))
  have hat400 : cl400.slots[((14 : Int32)).toNatClampNeg]? = some (.int (62 : Int32)) := Hs400.at hin400 (rfl)
  have k403 : Rch p e below S0 s₁ (mkF m 132 #[vR y1] [(.int (15 : Int32)), (.ref y1)]) := fun t h => k401 t (by
      show Steps p.tables e below (s₁.setTop (mkF m 123 #[vR y1] [(.int (14 : Int32)), (.ref y1)])) _
      refine X0.baloadBytes hx (j := (14 : Int32)) (v := (.int (62 : Int32))) (by rw [e0]; exact Ar400.1) (State.isArrayOf_alike hZ.alike Ar400.2.1) Ar400.2.2 hin400 hat400 (g := (mkF m 123 #[vR y1] [(.int (14 : Int32)), (.ref y1)])) rfl rfl (hb hby d38_123) _ ?_
      refine XS.bipush X0.here hx rfl (hb hby d38_124) ?_
      refine XS.icmpNo X0.here hx rfl (hb hby d38_126) rfl (teq (by decide : (62 : Int32) = (62 : Int32))).2 ?_
      refine XS.aloadN X0.here hx rfl (hb hby d38_129) rfl rfl ?_
      refine XS.bipush X0.here hx rfl (hb hby d38_130) ?_
      exact h)
  obtain ⟨cl402, Ar402, q402, Sz402, Ng402, Hs402, G402⟩ := id Vy
  have hin402 : ¬ ((15 : Int32) < 0 ∨ cl402.slots.size ≤ ((15 : Int32)).toNatClampNeg) := inb_of Sz402 (own_inb (i := 15) (by omega) (by omega))
  have hat402 : cl402.slots[((15 : Int32)).toNatClampNeg]? = some (.int (10 : Int32)) := Hs402.at hin402 (rfl)
  have k404 : Rch p e below S0 s₁ (mkF m 143 #[vR y1] [(.int (1 : Int32))]) := fun t h => k403 t (by
      show Steps p.tables e below (s₁.setTop (mkF m 132 #[vR y1] [(.int (15 : Int32)), (.ref y1)])) _
      refine X0.baloadBytes hx (j := (15 : Int32)) (v := (.int (10 : Int32))) (by rw [e0]; exact Ar402.1) (State.isArrayOf_alike hZ.alike Ar402.2.1) Ar402.2.2 hin402 hat402 (g := (mkF m 132 #[vR y1] [(.int (15 : Int32)), (.ref y1)])) rfl rfl (hb hby d38_132) _ ?_
      refine XS.bipush X0.here hx rfl (hb hby d38_133) ?_
      refine XS.icmpNo X0.here hx rfl (hb hby d38_135) rfl (teq (by decide : (10 : Int32) = (10 : Int32))).2 ?_
      refine XS.iconst X0.here hx rfl (hb hby d38_138) ?_
      refine XS.goto X0.here hx rfl (pc0 := 139) (pc' := 143) rfl (hb hby d38_139) (by decide) (by decide) ?_
      exact h)
  obtain ⟨fs, hr, hrun, hended, hW, hsame⟩ := X0.leave (v := (some (.int (1 : Int32)))) (fun h => by rw [Bd.returns] at h; cases h)
  refine ⟨_, _, ?_, hrun, hended, _, _, rfl, ?_, ⟨_, rfl⟩, hW, hsame.mono (by decide) (by decide)⟩
  · rw [← hS0]
    refine k404 _ ?_
    show Steps p.tables e below (s₁.setTop (mkF m 143 #[vR y1] [(.int (1 : Int32))])) _
    exact retN X0 hx (t := .boolean) Bd.returns (by simp) (hb hby d38_143) hr
  · show Q_rmPX Z  h0 n0 _ s₁.heap _
    rw [e0]
    exact ⟨rfl, N0, rfl⟩
def Q_rmCE (Z : State)  (h0 : Heap) (n0 : Nat) (v : Option Value) (h : Heap) (L : List Loc) : Prop := v = some (.int (1 : Int32)) ∧ Fr n0 L ∧ h = h0
theorem ef_5 (m : MethodId) (x0 : Int32) : entryFrame m #[(.int x0)] 1 = mkF m 0 #[.val (.int x0)] [] := by first | (simp [entryFrame, mkF, argsToLocals, Value.category]; done) | rfl
theorem pn_StringLatin1 : plainName "java/lang/StringLatin1" = true := by first | (simp [plainName, overriddenIn]; done) | decide +kernel
theorem d5_0 : decode jdk_43_method_3_code 0 = .ok (.iload_n 0, 1) := by decide +kernel
theorem d5_1 : decode jdk_43_method_3_code 1 = .ok (.sipush 255, 3) := by decide +kernel
theorem d5_4 : decode jdk_43_method_3_code 4 = .ok (.if_icmp .gt 7, 3) := by decide +kernel
theorem d5_7 : decode jdk_43_method_3_code 7 = .ok (.iconst 1, 1) := by decide +kernel
theorem d5_8 : decode jdk_43_method_3_code 8 = .ok (.goto 4, 3) := by decide +kernel
theorem d5_12 : decode jdk_43_method_3_code 12 = .ok (.ireturn, 1) := by decide +kernel
set_option maxRecDepth 65536 in
set_option maxHeartbeats 40000000 in
theorem rmCE (l : Launch) (Z : State) (a0 : Array Value) (hw : ∀ d ∈ tables_1, d.before a0 Z = true) (ws : List Jvm.Cond) (p1 : Int32) (h0 : Heap) (n0 : Nat) (O0 : Old Z n0 h0) (hq : ¬ ((255 : Int32) < p1)) :
    MetFree l (⟨"java/lang/StringLatin1", "canEncode", "(C)Z"⟩ : MethodName) (head1 (Jvm.Cond.code (⟨"java/lang/StringLatin1", "canEncode", "(C)Z"⟩ : MethodName) jdk_43_method_3_code 1 (some .boolean) :: ws) ({ frames := 0, cells := 0, slots := 0, locals := 0 } : Room)) (fun a U => a = #[(.int p1)] ∧ Z.Warmed39 U.vm ∧ U.heap = h0) (fun _ _ _ _ _ => True) (fun _ U o U' => ∃ v L, o = .returned v ∧ Q_rmCE Z  h0 n0 v U'.heap L ∧ FrameEnd U o U' L ({ frames := 0, cells := 0, slots := 0, locals := 0 } : Room).cells ({ frames := 0, cells := 0, slots := 0, locals := 0 } : Room).slots) := by
  refine MetFree.of_bodySF (plainFor_of_name pn_StringLatin1) hisR ?_
  intro p e s m args below meth c s₁ Bd hml0 hP hK
  obtain ⟨rfl, hZ, hh⟩ := hP
  have hx := Bd.exec
  have hby := Bd.bytes
  have hml : c.maxLocals = 1 := hml0
  have hown : s.vm.findClass "java/lang/StringLatin1" = some m.cls := findClass_of_methodNamed Bd.named
  have hnm := (name_of_methodNamed Bd.named Bd.method).1
  have X0 : Stand p l e ({ frames := 0, cells := 0, slots := 0, locals := 0 } : Room) s m #[(.int p1)] below meth c s₁ [] 0 0 := Stand.of_body Bd
  have e0 : s₁.heap = h0 := by rw [← hh, Bd.state]; rfl
  have N0 := Fr.nil n0
  obtain ⟨S0, hS0⟩ : ∃ z, z = s₁.setTop (entryFrame m #[(.int p1)] 1) := ⟨_, rfl⟩
  have k0 : Rch p e below S0 s₁ (mkF m 0 #[vI p1] []) := fun t kq => hS0 ▸ castTop (ef_5 m p1) kq
  have k405 : Rch p e below S0 s₁ (mkF m 12 #[vI p1] [(.int (1 : Int32))]) := fun t h => k0 t (by
      show Steps p.tables e below (s₁.setTop (mkF m 0 #[vI p1] [])) _
      refine XS.iloadN X0.here hx rfl (hb hby d5_0) rfl ?_
      refine XS.sipush X0.here hx rfl (hb hby d5_1) ?_
      refine XS.icmpNo X0.here hx rfl (hb hby d5_4) rfl (flt (hq : ¬ ((255 : Int32) < p1))).2.2.1 ?_
      refine XS.iconst X0.here hx rfl (hb hby d5_7) ?_
      refine XS.goto X0.here hx rfl (pc0 := 8) (pc' := 12) rfl (hb hby d5_8) (by decide) (by decide) ?_
      exact h)
  obtain ⟨fs, hr, hrun, hended, hW, hsame⟩ := X0.leave (v := (some (.int (1 : Int32)))) (fun h => by rw [Bd.returns] at h; cases h)
  refine ⟨_, _, ?_, hrun, hended, _, _, rfl, ?_, ⟨_, rfl⟩, hW, hsame.mono (by decide) (by decide)⟩
  · rw [← hS0]
    refine k405 _ ?_
    show Steps p.tables e below (s₁.setTop (mkF m 12 #[vI p1] [(.int (1 : Int32))])) _
    exact retN X0 hx (t := .boolean) Bd.returns (by simp) (hb hby d5_12) hr
  · show Q_rmCE Z  h0 n0 _ s₁.heap _
    rw [e0]
    exact ⟨rfl, N0, rfl⟩
def Q_rmTB (Z : State) (p1 : Int32) (h0 : Heap) (n0 : Nat) (v : Option Value) (h : Heap) (L : List Loc) : Prop := ∃ y ky, v = some (.ref y) ∧ Fr n0 L ∧ Ext h0 h ∧ h0.size ≤ y ∧ Arv Z h y ky .byte (1 : Int32) [.int (nar .byte (p1.toInt8.toInt32))] (.int (0 : Int32))
theorem ef_6 (m : MethodId) (x0 : Int32) : entryFrame m #[(.int x0)] 1 = mkF m 0 #[.val (.int x0)] [] := by first | (simp [entryFrame, mkF, argsToLocals, Value.category]; done) | rfl
theorem d6_0 : decode jdk_43_method_46_code 0 = .ok (.iconst 1, 1) := by decide +kernel
theorem d6_1 : decode jdk_43_method_46_code 1 = .ok (.newarray .byte, 2) := by decide +kernel
theorem d6_3 : decode jdk_43_method_46_code 3 = .ok (.dup, 1) := by decide +kernel
theorem d6_4 : decode jdk_43_method_46_code 4 = .ok (.iconst 0, 1) := by decide +kernel
theorem d6_5 : decode jdk_43_method_46_code 5 = .ok (.iload_n 0, 1) := by decide +kernel
theorem d6_6 : decode jdk_43_method_46_code 6 = .ok (.i2b, 1) := by decide +kernel
theorem d6_7 : decode jdk_43_method_46_code 7 = .ok (.bastore, 1) := by decide +kernel
theorem d6_8 : decode jdk_43_method_46_code 8 = .ok (.areturn, 1) := by decide +kernel
set_option maxRecDepth 65536 in
set_option maxHeartbeats 40000000 in
theorem rmTB (l : Launch) (Z : State) (a0 : Array Value) (hw : ∀ d ∈ tables_1, d.before a0 Z = true) (ws : List Jvm.Cond) (p1 : Int32) (h0 : Heap) (n0 : Nat) (O0 : Old Z n0 h0) :
    MetFree l (⟨"java/lang/StringLatin1", "toBytes", "(C)[B"⟩ : MethodName) (head1 (Jvm.Cond.code (⟨"java/lang/StringLatin1", "toBytes", "(C)[B"⟩ : MethodName) jdk_43_method_46_code 1 (some (.array .byte)) :: ws) ({ frames := 0, cells := 1, slots := 1, locals := 0 } : Room)) (fun a U => a = #[(.int p1)] ∧ Z.Warmed39 U.vm ∧ U.heap = h0) (fun _ _ _ _ _ => True) (fun _ U o U' => ∃ v L, o = .returned v ∧ Q_rmTB Z p1 h0 n0 v U'.heap L ∧ FrameEnd U o U' L ({ frames := 0, cells := 1, slots := 1, locals := 0 } : Room).cells ({ frames := 0, cells := 1, slots := 1, locals := 0 } : Room).slots) := by
  refine MetFree.of_bodySF (plainFor_of_name pn_StringLatin1) hisR ?_
  intro p e s m args below meth c s₁ Bd hml0 hP hK
  obtain ⟨rfl, hZ, hh⟩ := hP
  have hx := Bd.exec
  have hby := Bd.bytes
  have hml : c.maxLocals = 1 := hml0
  have hown : s.vm.findClass "java/lang/StringLatin1" = some m.cls := findClass_of_methodNamed Bd.named
  have hnm := (name_of_methodNamed Bd.named Bd.method).1
  have X0 : Stand p l e ({ frames := 0, cells := 1, slots := 1, locals := 0 } : Room) s m #[(.int p1)] below meth c s₁ [] 0 0 := Stand.of_body Bd
  have e0 : s₁.heap = h0 := by rw [← hh, Bd.state]; rfl
  have N0 := Fr.nil n0
  obtain ⟨S0, hS0⟩ : ∃ z, z = s₁.setTop (entryFrame m #[(.int p1)] 1) := ⟨_, rfl⟩
  have k0 : Rch p e below S0 s₁ (mkF m 0 #[vI p1] []) := fun t kq => hS0 ▸ castTop (ef_6 m p1) kq
  have K0 : Keep h0 h0 [] := Keep.refl h0 _
  have k407 : Rch p e below S0 s₁ (mkF m 1 #[vI p1] [(.int (1 : Int32))]) := fun t h => k0 t (by
      show Steps p.tables e below (s₁.setTop (mkF m 0 #[vI p1] [])) _
      refine XS.iconst X0.here hx rfl (hb hby d6_0) ?_
      exact h)
  obtain ⟨T406, h406, k406, X406, e406, E406, A406, st406⟩ := newP X0 hx hZ (hw _ (gm 15 rfl)) e0 (g := (mkF m 1 #[vI p1] [(.int (1 : Int32))])) rfl (hb hby d6_1) rfl (by decide) (cap := 1) (by decide) (by decide) (by decide) (by decide)
  obtain ⟨b406, g406⟩ : ∃ z, z = h0.size := ⟨_, rfl⟩
  rw [← g406] at A406 st406
  have k408 : Rch p e below S0 T406 (mkF m 3 #[vI p1] [(.ref b406)]) := fun t h => k407 t (st406 t h)
  have ge_b406 : n0 ≤ b406 := own_ge O0 (Nat.le_of_eq g406.symm)
  have sz_b406 : h0.size ≤ b406 := Nat.le_trans K0.1 (Nat.le_of_eq g406.symm)
  have O409 := O0.ext E406
  have K410 := K0.ext E406
  have V_b406 : Arv Z h406 b406 k406 .byte (1 : Int32) [(.int (0 : Int32))] (.int (0 : Int32)) := (Arv.new A406 (by decide)).pad (pad_rep [] (.int (0 : Int32)) 1)
  have k412 : Rch p e below S0 T406 (mkF m 7 #[vI p1] [(.int (p1.toInt8.toInt32)), (.int (0 : Int32)), (.ref b406), (.ref b406)]) := fun t h => k408 t (by
      show Steps p.tables e below (T406.setTop (mkF m 3 #[vI p1] [(.ref b406)])) _
      refine XS.dup X406.here hx rfl (hb hby d6_3) rfl rfl ?_
      refine XS.iconst X406.here hx rfl (hb hby d6_4) ?_
      refine XS.iloadN X406.here hx rfl (hb hby d6_5) rfl ?_
      refine XS.i2b X406.here hx rfl (hb hby d6_6) rfl ?_
      exact h)
  obtain ⟨cl411, Ar411, q411, Sz411, Ng411, Hs411, G411⟩ := id V_b406
  have hin411 : ¬ ((0 : Int32) < 0 ∨ cl411.slots.size ≤ ((0 : Int32)).toNatClampNeg) := inb_of Sz411 ⟨by decide, by decide⟩
  obtain ⟨T411, h411, X411, e411, W411, st411⟩ := stB X406 hx hZ e406 Ar411 (j := (0 : Int32)) hin411 (g := (mkF m 7 #[vI p1] [(.int (p1.toInt8.toInt32)), (.int (0 : Int32)), (.ref b406), (.ref b406)])) rfl rfl (hb hby d6_7)
  have k413 : Rch p e below S0 T411 (mkF m 8 #[vI p1] [(.ref b406)]) := fun t h => k412 t (st411 t h)
  have N411 := Fr.snoc X411 N0 ge_b406
  have V_b406' := Arv.set Ar411 q411 Sz411 Ng411 Hs411 G411 (fits_nar_byte _) W411 0 rfl (Nat.le_of_ble_eq_true rfl)
  replace V_b406 : Arv Z h411 b406 k406 .byte (1 : Int32) [(.int (nar .byte (p1.toInt8.toInt32)))] (.int (0 : Int32)) := V_b406'
  have O414 := O409.wr W411 ge_b406
  have K415 := K410.wr W411 (Or.inr sz_b406)
  obtain ⟨fs, hr, hrun, hended, hW, hsame⟩ := X411.leave (v := (some (.ref b406))) (fun h => by rw [Bd.returns] at h; cases h)
  refine ⟨_, _, ?_, hrun, hended, _, _, rfl, ?_, ⟨_, rfl⟩, hW, hsame.mono (by decide) (by decide)⟩
  · rw [← hS0]
    refine k413 _ ?_
    show Steps p.tables e below (T411.setTop (mkF m 8 #[vI p1] [(.ref b406)])) _
    jvm_step X411.here [X411.here.top, hx, (hb hby d6_8), X411.method', Bd.returns, Value.isRef, FieldType.isReference]
    first | (intro acts; rw [hr _ acts rfl rfl rfl]) | rw [hr _ _ rfl rfl rfl]
    exact Steps.refl _
  · show Q_rmTB Z p1 h0 n0 _ T411.heap _
    rw [e411]
    exact ⟨b406, k406, rfl, N411, own_ext K415, sz_b406, V_b406⟩
def Q_rmBB (Z : State) (a1 : Addr) (a2 : Addr) (h0 : Heap) (n0 : Nat) (v : Option Value) (h : Heap) (L : List Loc) : Prop := v = none ∧ Fr n0 L ∧ Keep h0 h [a1] ∧ Fld Z h a1 "java/lang/String" "value" "[B" (.ref a2) ∧ Fld Z h a1 "java/lang/String" "coder" "B" (.int (0 : Int32))
theorem ef_7 (m : MethodId) (x0 : Addr) (x1 : Addr) (x2 : Int32) : entryFrame m #[(.ref x0), (.ref x1), (.int x2)] 3 = mkF m 0 #[.val (.ref x0), .val (.ref x1), .val (.int x2)] [] := by first | (simp [entryFrame, mkF, argsToLocals, Value.category]; done) | rfl
theorem d7_0 : decode jdk_42_method_151_code 0 = .ok (.aload_n 0, 1) := by decide +kernel
theorem d7_1 : decode jdk_42_method_151_code 1 = .ok (.invokespecial 1, 3) := by decide +kernel
theorem d7_4 : decode jdk_42_method_151_code 4 = .ok (.aload_n 0, 1) := by decide +kernel
theorem d7_5 : decode jdk_42_method_151_code 5 = .ok (.aload_n 1, 1) := by decide +kernel
theorem d7_6 : decode jdk_42_method_151_code 6 = .ok (.putfield 9, 3) := by decide +kernel
theorem d7_9 : decode jdk_42_method_151_code 9 = .ok (.aload_n 0, 1) := by decide +kernel
theorem d7_10 : decode jdk_42_method_151_code 10 = .ok (.iload_n 2, 1) := by decide +kernel
theorem d7_11 : decode jdk_42_method_151_code 11 = .ok (.putfield 15, 3) := by decide +kernel
theorem d7_14 : decode jdk_42_method_151_code 14 = .ok (.return_, 1) := by decide +kernel
set_option maxRecDepth 65536 in
set_option maxHeartbeats 40000000 in
theorem rmBB (l : Launch) (Z : State) (a0 : Array Value) (hw : ∀ d ∈ tables_1, d.before a0 Z = true) (ws : List Jvm.Cond) (a1 : Addr) (a2 : Addr) (h0 : Heap) (n0 : Nat) (O0 : Old Z n0 h0) (ge_a1 : n0 ≤ a1) (E_a1 : Exa Z h0 a1 "java/lang/String") (F_a1_value : Fld Z h0 a1 "java/lang/String" "value" "[B" .null) (F_a1_coder : Fld Z h0 a1 "java/lang/String" "coder" "B" (.int (0 : Int32))) :
    MetFree l (⟨"java/lang/String", "<init>", "([BB)V"⟩ : MethodName) (head1 (Jvm.Cond.code (⟨"java/lang/String", "<init>", "([BB)V"⟩ : MethodName) jdk_42_method_151_code 3 none :: ws) ({ frames := 1, cells := 0, slots := 0, locals := 24 } : Room)) (fun a U => a = #[(.ref a1), (.ref a2), (.int (0 : Int32))] ∧ Z.Warmed39 U.vm ∧ U.heap = h0) (fun _ _ _ _ _ => True) (fun _ U o U' => ∃ v L, o = .returned v ∧ Q_rmBB Z a1 a2 h0 n0 v U'.heap L ∧ FrameEnd U o U' L ({ frames := 1, cells := 0, slots := 0, locals := 24 } : Room).cells ({ frames := 1, cells := 0, slots := 0, locals := 24 } : Room).slots) := by
  refine MetFree.of_bodySF (plainFor_of_name pn_String) hisR ?_
  intro p e s m args below meth c s₁ Bd hml0 hP hK
  obtain ⟨rfl, hZ, hh⟩ := hP
  have hx := Bd.exec
  have hby := Bd.bytes
  have hml : c.maxLocals = 3 := hml0
  have hown : s.vm.findClass "java/lang/String" = some m.cls := findClass_of_methodNamed Bd.named
  have hnm := (name_of_methodNamed Bd.named Bd.method).1
  have X0 : Stand p l e ({ frames := 1, cells := 0, slots := 0, locals := 24 } : Room) s m #[(.ref a1), (.ref a2), (.int (0 : Int32))] below meth c s₁ [] 0 0 := Stand.of_body Bd
  have e0 : s₁.heap = h0 := by rw [← hh, Bd.state]; rfl
  have N0 := Fr.nil n0
  obtain ⟨S0, hS0⟩ : ∃ z, z = s₁.setTop (entryFrame m #[(.ref a1), (.ref a2), (.int (0 : Int32))] 3) := ⟨_, rfl⟩
  have k0 : Rch p e below S0 s₁ (mkF m 0 #[vR a1, vR a2, vI 0] []) := fun t kq => hS0 ▸ castTop (ef_7 m a1 a2 (0 : Int32)) kq
  have K0 : Keep h0 h0 [a1] := Keep.refl h0 _
  have k417 : Rch p e below S0 s₁ (mkF m 1 #[vR a1, vR a2, vI 0] [(.ref a1)]) := fun t h => k0 t (by
      show Steps p.tables e below (s₁.setTop (mkF m 0 #[vR a1, vR a2, vI 0] [])) _
      refine XS.aloadN X0.here hx rfl (hb hby d7_0) rfl rfl ?_
      exact h)
  obtain ⟨T416, X416, e416, st416⟩ := initO X0 hx hZ hown (hw _ (gm 11 rfl)) (hw _ (gm 12 rfl)) (hw _ (gm 13 rfl)) e0 (g := (mkF m 1 #[vR a1, vR a2, vI 0] [(.ref a1)])) rfl (by rw [hml]; rfl) rfl (hb hby d7_1) (by decide) (W := 0) (by show 2 * 0 + _ ≤ _; exact Nat.le_of_eq rfl) (by decide)
  have k418 : Rch p e below S0 T416 (mkF m 4 #[vR a1, vR a2, vI 0] []) := fun t h => k417 t (st416 t h)
  have k420 : Rch p e below S0 T416 (mkF m 6 #[vR a1, vR a2, vI 0] [(.ref a2), (.ref a1)]) := fun t h => k418 t (by
      show Steps p.tables e below (T416.setTop (mkF m 4 #[vR a1, vR a2, vI 0] [])) _
      refine XS.aloadN X416.here hx rfl (hb hby d7_4) rfl rfl ?_
      refine XS.aloadN X416.here hx rfl (hb hby d7_5) rfl rfl ?_
      exact h)
  obtain ⟨T419, h419, X419, e419, W419, st419⟩ := putF X416 hx hZ hown (host := "") (Or.inl (hw _ (gm 20 rfl))) Via.refl e416 F_a1_value E_a1 (Or.inr ⟨(hw _ (gm 16 rfl)), rfl, hnm⟩) (hw _ (gm 2 rfl)) (ty := (.array .byte)) (by decide) rfl rfl (g := (mkF m 6 #[vR a1, vR a2, vI 0] [(.ref a2), (.ref a1)])) rfl rfl (hb hby d7_6)
  have k421 : Rch p e below S0 T419 (mkF m 9 #[vR a1, vR a2, vI 0] []) := fun t h => k420 t (st419 t h)
  have N419 := Fr.snoc X419 N0 ge_a1
  replace F_a1_value := F_a1_value.same W419
  have O422 := O0.wr W419 ge_a1
  have K423 := K0.wr W419 (Or.inl (gm 0 rfl))
  replace E_a1 := E_a1.wr W419
  replace F_a1_coder := F_a1_coder.other W419 (Or.inr (slot_ne (Or.inr (hw _ (gm 17 rfl))) (Or.inr (hw _ (gm 16 rfl))) (by decide) (t := .byte) (t' := (.array .byte)) (by decide) (by decide)))
  have k425 : Rch p e below S0 T419 (mkF m 11 #[vR a1, vR a2, vI 0] [(.int (0 : Int32)), (.ref a1)]) := fun t h => k421 t (by
      show Steps p.tables e below (T419.setTop (mkF m 9 #[vR a1, vR a2, vI 0] [])) _
      refine XS.aloadN X419.here hx rfl (hb hby d7_9) rfl rfl ?_
      refine XS.iloadN X419.here hx rfl (hb hby d7_10) rfl ?_
      exact h)
  obtain ⟨T424, h424, X424, e424, W424, st424⟩ := putFN X419 hx hZ hown (hw _ (gm 21 rfl)) Via.refl e419 F_a1_coder E_a1 (Or.inr ⟨(hw _ (gm 17 rfl)), rfl, hnm⟩) (hw _ (gm 2 rfl)) (ty := .byte) (v' := (.int (0 : Int32))) (by decide) (by decide) (by decide) (g := (mkF m 11 #[vR a1, vR a2, vI 0] [(.int (0 : Int32)), (.ref a1)])) rfl rfl (hb hby d7_11)
  have k426 : Rch p e below S0 T424 (mkF m 14 #[vR a1, vR a2, vI 0] []) := fun t h => k425 t (st424 t h)
  have N424 := Fr.snoc X424 N419 ge_a1
  replace F_a1_coder := F_a1_coder.same W424
  have O427 := O422.wr W424 ge_a1
  have K428 := K423.wr W424 (Or.inl (gm 0 rfl))
  replace E_a1 := E_a1.wr W424
  replace F_a1_value := F_a1_value.other W424 (Or.inr (slot_ne (Or.inr (hw _ (gm 16 rfl))) (Or.inr (hw _ (gm 17 rfl))) (by decide) (t := (.array .byte)) (t' := .byte) (by decide) (by decide)))
  obtain ⟨fs, hr, hrun, hended, hW, hsame⟩ := X424.leave (v := none) (fun _ => rfl)
  refine ⟨_, _, ?_, hrun, hended, _, _, rfl, ?_, ⟨_, rfl⟩, hW, hsame.mono (by decide) (by decide)⟩
  · rw [← hS0]
    refine k426 _ ?_
    show Steps p.tables e below (T424.setTop (mkF m 14 #[vR a1, vR a2, vI 0] [])) _
    exact X424.returnOut hx Bd.returns (hb hby d7_14) hr
  · show Q_rmBB Z a1 a2 h0 n0 _ T424.heap _
    rw [e424]
    exact ⟨rfl, N424, K428, F_a1_value, F_a1_coder⟩
def Q_rmVO (Z : State) (p1 : Int32) (h0 : Heap) (n0 : Nat) (v : Option Value) (h : Heap) (L : List Loc) : Prop := ∃ b1 y ky, v = some (.ref b1) ∧ Fr n0 L ∧ Ext h0 h ∧ h0.size ≤ b1 ∧ Exa Z h b1 "java/lang/String" ∧ h0.size ≤ y ∧ Fld Z h b1 "java/lang/String" "value" "[B" (.ref y) ∧ Fld Z h b1 "java/lang/String" "coder" "B" (.int (0 : Int32)) ∧ Arv Z h y ky .byte (1 : Int32) [.int p1] (.int (0 : Int32))
theorem ef_4 (m : MethodId) (x0 : Int32) : entryFrame m #[(.int x0)] 1 = mkF m 0 #[.val (.int x0)] [] := by first | (simp [entryFrame, mkF, argsToLocals, Value.category]; done) | rfl
theorem d4_0 : decode jdk_42_method_139_code 0 = .ok (.getstatic 38, 3) := by decide +kernel
theorem d4_3 : decode jdk_42_method_139_code 3 = .ok (.ifCond .eq 23, 3) := by decide +kernel
theorem d4_6 : decode jdk_42_method_139_code 6 = .ok (.iload_n 0, 1) := by decide +kernel
theorem pd_4 : parseMethodDescriptor "(C)Z" = some ⟨[.char], some .boolean⟩ := by decide +kernel
theorem d4_7 : decode jdk_42_method_139_code 7 = .ok (.invokestatic 1015, 3) := by decide +kernel
theorem d4_10 : decode jdk_42_method_139_code 10 = .ok (.ifCond .eq 16, 3) := by decide +kernel
theorem d4_13 : decode jdk_42_method_139_code 13 = .ok (.new 10, 3) := by decide +kernel
theorem d4_16 : decode jdk_42_method_139_code 16 = .ok (.dup, 1) := by decide +kernel
theorem d4_17 : decode jdk_42_method_139_code 17 = .ok (.iload_n 0, 1) := by decide +kernel
theorem pd_5 : parseMethodDescriptor "(C)[B" = some ⟨[.char], some (.array .byte)⟩ := by decide +kernel
theorem d4_18 : decode jdk_42_method_139_code 18 = .ok (.invokestatic 1018, 3) := by decide +kernel
theorem d4_21 : decode jdk_42_method_139_code 21 = .ok (.iconst 0, 1) := by decide +kernel
theorem pd_6 : parseMethodDescriptor "([BB)V" = some ⟨[(.array .byte), .byte], none⟩ := by decide +kernel
theorem d4_22 : decode jdk_42_method_139_code 22 = .ok (.invokespecial 209, 3) := by decide +kernel
theorem d4_25 : decode jdk_42_method_139_code 25 = .ok (.areturn, 1) := by decide +kernel
set_option maxRecDepth 65536 in
set_option maxHeartbeats 40000000 in
theorem rmVO (l : Launch) (Z : State) (a0 : Array Value) (hw : ∀ d ∈ tables_1, d.before a0 Z = true) (ws : List Jvm.Cond) (p1 : Int32) (zC : Int32) (h0 : Heap) (n0 : Nat) (O0 : Old Z n0 h0) (SC : Sta Z Z.heap "java/lang/String" "COMPACT_STRINGS" "Z" (.int zC)) (hzC : ¬ zC = 0) (hq : ¬ p1 < 0 ∧ ¬ (127 : Int32) < p1) :
    MetFree l (⟨"java/lang/String", "valueOf", "(C)Ljava/lang/String;"⟩ : MethodName) (head1 (Jvm.Cond.code (⟨"java/lang/String", "valueOf", "(C)Ljava/lang/String;"⟩ : MethodName) jdk_42_method_139_code 1 (some (.object "java/lang/String")) :: ws) ({ frames := 2, cells := 2, slots := 5, locals := 50 } : Room)) (fun a U => a = #[(.int p1)] ∧ Z.Warmed39 U.vm ∧ U.heap = h0) (fun _ _ _ _ _ => True) (fun _ U o U' => ∃ v L, o = .returned v ∧ Q_rmVO Z p1 h0 n0 v U'.heap L ∧ FrameEnd U o U' L ({ frames := 2, cells := 2, slots := 5, locals := 50 } : Room).cells ({ frames := 2, cells := 2, slots := 5, locals := 50 } : Room).slots) := by
  refine MetFree.of_bodySF (plainFor_of_name pn_String) hisR ?_
  intro p e s m args below meth c s₁ Bd hml0 hP hK
  obtain ⟨rfl, hZ, hh⟩ := hP
  have hx := Bd.exec
  have hby := Bd.bytes
  have hml : c.maxLocals = 1 := hml0
  have hown : s.vm.findClass "java/lang/String" = some m.cls := findClass_of_methodNamed Bd.named
  have hnm := (name_of_methodNamed Bd.named Bd.method).1
  have X0 : Stand p l e ({ frames := 2, cells := 2, slots := 5, locals := 50 } : Room) s m #[(.int p1)] below meth c s₁ [] 0 0 := Stand.of_body Bd
  have e0 : s₁.heap = h0 := by rw [← hh, Bd.state]; rfl
  have N0 := Fr.nil n0
  obtain ⟨S0, hS0⟩ : ∃ z, z = s₁.setTop (entryFrame m #[(.int p1)] 1) := ⟨_, rfl⟩
  have k0 : Rch p e below S0 s₁ (mkF m 0 #[vI p1] []) := fun t kq => hS0 ▸ castTop (ef_4 m p1) kq
  have K0 : Keep h0 h0 [] := Keep.refl h0 _
  obtain ⟨T429, X429, e429, st429⟩ := getS2 X0 hx hZ hown (host := "") (Or.inl (hw _ (gm 25 rfl))) Via.refl e0 (SC.ext O0.2) (g := (mkF m 0 #[vI p1] [])) rfl (hb hby d4_0)
  have k430 : Rch p e below S0 T429 (mkF m 3 #[vI p1] [(.int zC)]) := fun t h => k0 t (st429 t h)
  have k431 : Rch p e below S0 T429 (mkF m 7 #[vI p1] [(.int p1)]) := fun t h => k430 t (by
      show Steps p.tables e below (T429.setTop (mkF m 3 #[vI p1] [(.int zC)])) _
      refine XS.ifNo X429.here hx rfl (hb hby d4_3) rfl ((if0 _ _).trans (feq (hzC : ¬ (zC = (0 : Int32)))).1) ?_
      refine XS.iloadN X429.here hx rfl (hb hby d4_6) rfl ?_
      exact h)
  obtain ⟨_, _, ⟨T432, L432, kk432, n432⟩, -, X432, ⟨Lc432, hQ432, l432, y432, z432⟩, st432⟩ := Jvm.LawKit.callS X429 hx (y := (⟨"java/lang/StringLatin1", "canEncode", "(C)Z"⟩ : MethodName)) hown (mvT hZ (hw _ (gm 26 rfl))) (mvT hZ (hw _ (gm 27 rfl))) (mvT hZ (hw _ (gm 28 rfl))) (mvT hZ (hw _ (gm 29 rfl))) (by decide) (backOf (W := 0) (rmCE l Z a0 hw [] p1  h0 n0 O0 (own_7f8 p1 hq).2) hZ (hw _ (gm 29 rfl)) (hw _ (gm 28 rfl)) (by decide) (by decide)) (g := (mkF m 7 #[vI p1] [(.int p1)])) rfl (by rw [hml]; rfl) (argsL := [(.int p1)]) (rest := []) (lenOf pd_4 rfl) rfl (by show 2 * 0 + _ ≤ _; exact Nat.le_of_eq rfl) (hb hby d4_7) (fun _ _ => ⟨rfl, e429, (by decide : 0 + 0 ≤ _), (by decide : 0 + 0 ≤ _)⟩)
  dsimp only [Pt.U, Pt.locs, Pt.cells, Pt.slots] at X432 l432 y432 z432 st432 hQ432
  subst l432 y432 z432
  obtain ⟨rfl, Nq432, hh432⟩ := hQ432
  have N432 := Fr.app N0 Nq432
  have k433 : Rch p e below S0 T432 (mkF m 10 #[vI p1] [(.int (1 : Int32))]) := fun t h => k431 t (st432 t h)
  have k435 : Rch p e below S0 T432 (mkF m 13 #[vI p1] []) := fun t h => k433 t (by
      show Steps p.tables e below (T432.setTop (mkF m 10 #[vI p1] [(.int (1 : Int32))])) _
      refine XS.ifNo X432.here hx rfl (hb hby d4_10) rfl ((if0 _ _).trans (feq (by decide : ¬ ((1 : Int32) = (0 : Int32)))).1) ?_
      exact h)
  obtain ⟨T434, h434, X434, e434, E434, A434, D434, -, st434⟩ := newO X432 hx hZ hown (hw _ (gm 30 rfl)) (hw _ (gm 2 rfl)) (hw _ (gm 3 rfl)) hh432 (g := (mkF m 13 #[vI p1] [])) rfl (hb hby d4_13) (by decide) (by decide)
  obtain ⟨b434, g434⟩ : ∃ z, z = h0.size := ⟨_, rfl⟩
  rw [← g434] at A434 D434 st434
  have k436 : Rch p e below S0 T434 (mkF m 16 #[vI p1] [(.ref b434)]) := fun t h => k435 t (st434 t h)
  have ge_b434 : n0 ≤ b434 := own_ge O0 (Nat.le_of_eq g434.symm)
  have sz_b434 : h0.size ≤ b434 := Nat.le_trans K0.1 (Nat.le_of_eq g434.symm)
  have O437 := O0.ext E434
  have K438 := K0.ext E434
  have E_b434 := A434
  have F_b434_value : Fld Z h434 b434 "java/lang/String" "value" "[B" .null := D434 (Or.inr (hw _ (gm 16 rfl))) (ty := (.array .byte)) (by decide)
  have F_b434_coder : Fld Z h434 b434 "java/lang/String" "coder" "B" (.int (0 : Int32)) := D434 (Or.inr (hw _ (gm 17 rfl))) (ty := .byte) (by decide)
  have k439 : Rch p e below S0 T434 (mkF m 18 #[vI p1] [(.int p1), (.ref b434), (.ref b434)]) := fun t h => k436 t (by
      show Steps p.tables e below (T434.setTop (mkF m 16 #[vI p1] [(.ref b434)])) _
      refine XS.dup X434.here hx rfl (hb hby d4_16) rfl rfl ?_
      refine XS.iloadN X434.here hx rfl (hb hby d4_17) rfl ?_
      exact h)
  obtain ⟨_, _, ⟨T440, L440, kk440, n440⟩, -, X440, ⟨Lc440, hQ440, l440, y440, z440⟩, st440⟩ := Jvm.LawKit.callS X434 hx (y := (⟨"java/lang/StringLatin1", "toBytes", "(C)[B"⟩ : MethodName)) hown (mvT hZ (hw _ (gm 31 rfl))) (mvT hZ (hw _ (gm 32 rfl))) (mvT hZ (hw _ (gm 28 rfl))) (mvT hZ (hw _ (gm 33 rfl))) (by decide) (backOf (W := 2) (rmTB l Z a0 hw [] p1  h434 n0 O437 ) hZ (hw _ (gm 33 rfl)) (hw _ (gm 28 rfl)) (by decide) (by decide)) (g := (mkF m 18 #[vI p1] [(.int p1), (.ref b434), (.ref b434)])) rfl (by rw [hml]; rfl) (argsL := [(.int p1)]) (rest := [(.ref b434), (.ref b434)]) (lenOf pd_5 rfl) rfl (by show 2 * 0 + _ ≤ _; exact Nat.le_of_eq rfl) (hb hby d4_18) (fun _ _ => ⟨rfl, e434, (by decide : 1 + 1 ≤ _), (by decide : 4 + 1 ≤ _)⟩)
  dsimp only [Pt.U, Pt.locs, Pt.cells, Pt.slots] at X440 l440 y440 z440 st440 hQ440
  subst l440 y440 z440
  obtain ⟨y440, ky440, rfl, Nq440, E440, z440, V440⟩ := hQ440
  have N440 := Fr.app N432 Nq440
  have k441 : Rch p e below S0 T440 (mkF m 21 #[vI p1] [(.ref y440), (.ref b434), (.ref b434)]) := fun t h => k439 t (st440 t h)
  have ne_b434_y440 : b434 ≠ y440 := own_ne E_b434.lt z440
  have ge_y440 : n0 ≤ y440 := own_ge O437 z440
  have sz_y440 : h0.size ≤ y440 := Nat.le_trans K438.1 z440
  rw [(own_7b p1 hq).2] at V440
  have O442 := O437.ext E440
  have K443 := K438.ext E440
  replace E_b434 := E_b434.ext E440
  replace F_b434_value := F_b434_value.ext E440
  replace F_b434_coder := F_b434_coder.ext E440
  have k444 : Rch p e below S0 T440 (mkF m 22 #[vI p1] [(.int (0 : Int32)), (.ref y440), (.ref b434), (.ref b434)]) := fun t h => k441 t (by
      show Steps p.tables e below (T440.setTop (mkF m 21 #[vI p1] [(.ref y440), (.ref b434), (.ref b434)])) _
      refine XS.iconst X440.here hx rfl (hb hby d4_21) ?_
      exact h)
  obtain ⟨_, _, ⟨T445, L445, kk445, n445⟩, -, X445, ⟨Lc445, hQ445, l445, y445, z445⟩, st445⟩ := X440.specialBack hx (y := (⟨"java/lang/String", "<init>", "([BB)V"⟩ : MethodName)) rfl hown (mvT hZ (hw _ (gm 34 rfl))) (mvT hZ (hw _ (gm 35 rfl))) (mvT hZ (hw _ (gm 36 rfl))) (by decide) (backOf (W := 1) (rmBB l Z a0 hw [] b434 y440  T440.heap n0 O442 ge_b434 E_b434 F_b434_value F_b434_coder) hZ (hw _ (gm 36 rfl)) (hw _ (gm 3 rfl)) (by decide) (by decide)) (g := (mkF m 22 #[vI p1] [(.int (0 : Int32)), (.ref y440), (.ref b434), (.ref b434)])) rfl (by rw [hml]; rfl) (Steps.refl _) (a := b434) (argsL := [(.ref y440), (.int (0 : Int32))]) (rest := [(.ref b434)]) (lenOf pd_6 rfl) rfl (by show 2 * 0 + _ ≤ _; exact Nat.le_of_eq rfl) (hb hby d4_22) (fun _ _ => ⟨rfl, rfl, (by decide : 2 + 0 ≤ _), (by decide : 5 + 0 ≤ _)⟩)
  dsimp only [Pt.U, Pt.locs, Pt.cells, Pt.slots] at X445 l445 y445 z445 st445 hQ445
  subst l445 y445 z445
  obtain ⟨rfl, Nq445, K445, Gv445, Gc445⟩ := hQ445
  have N445 := Fr.app N440 Nq445
  have k446 : Rch p e below S0 T445 (mkF m 25 #[vI p1] [(.ref b434)]) := fun t h => k444 t (st445.trans h)
  have O447 := O442.keep K445 (allS ge_b434 all0)
  have K448 := K443.trans K445 (allS (Or.inr sz_b434) all0)
  replace E_b434 := E_b434.keep K445
  replace V440 := V440.keep K445 (ninS (Ne.symm ne_b434_y440) nin0)
  obtain ⟨fs, hr, hrun, hended, hW, hsame⟩ := X445.leave (v := (some (.ref b434))) (fun h => by rw [Bd.returns] at h; cases h)
  refine ⟨_, _, ?_, hrun, hended, _, _, rfl, ?_, ⟨_, rfl⟩, hW, hsame.mono (by decide) (by decide)⟩
  · rw [← hS0]
    refine k446 _ ?_
    show Steps p.tables e below (T445.setTop (mkF m 25 #[vI p1] [(.ref b434)])) _
    jvm_step X445.here [X445.here.top, hx, (hb hby d4_25), X445.method', Bd.returns, Value.isRef, FieldType.isReference]
    first | (intro acts; rw [hr _ acts rfl rfl rfl]) | rw [hr _ _ rfl rfl rfl]
    exact Steps.refl _
  · show Q_rmVO Z p1 h0 n0 _ T445.heap _
    exact ⟨_, _, _, rfl, N445, own_ext K448, sz_b434, E_b434, sz_y440, Gv445, Gc445, V440⟩
def Q_rm0_0 (Z : State)  (h0 : Heap) (n0 : Nat) (v : Option Value) (h : Heap) (L : List Loc) : Prop := v = some (.int (1 : Int32)) ∧ Fr n0 L
theorem ef_0 (m : MethodId) (x0 : Int32) (x1 : Int32) (x2 : Int32) (x3 : Int32) (x4 : Int32) : entryFrame m #[(.int x0), (.int x1), (.int x2), (.int x3), (.int x4)] maxLocals = mkF m 0 #[.val (.int x0), .val (.int x1), .val (.int x2), .val (.int x3), .val (.int x4), .unset, .unset, .unset, .unset, .unset, .unset, .unset, .unset, .unset, .unset, .unset, .unset, .unset] [] := by first | (simp [entryFrame, mkF, argsToLocals, Value.category, maxLocals]; done) | rfl
theorem pd_0 : parseMethodDescriptor "([C)V" = some ⟨[(.array .char)], none⟩ := by decide +kernel
theorem pd_3 : parseMethodDescriptor "(C)Ljava/lang/String;" = some ⟨[.char], some (.object "java/lang/String")⟩ := by decide +kernel
theorem pd_2 : parseMethodDescriptor "()V" = some ⟨[], none⟩ := by decide +kernel
theorem pd_16 : parseMethodDescriptor "(Ljava/lang/String;)Lcom/example/usko/usko/server/Html;" = some ⟨[(.object "java/lang/String")], some (.object "com/example/usko/usko/server/Html")⟩ := by decide +kernel
theorem pd_31 : parseMethodDescriptor "([B)Z" = some ⟨[(.array .byte)], some .boolean⟩ := by decide +kernel
set_option maxRecDepth 65536 in
set_option maxHeartbeats 40000000 in
theorem rm0_0 (l : Launch) (Z : State) (a0 : Array Value) (hw : ∀ d ∈ tables_1, d.before a0 Z = true) (ws : List Jvm.Cond) (p1 : Int32) (p2 : Int32) (p3 : Int32) (p4 : Int32) (p5 : Int32) (zC : Int32) (u8 : Addr) (h0 : Heap) (n0 : Nat) (O0 : Old Z n0 h0) (SC : Sta Z Z.heap "java/lang/String" "COMPACT_STRINGS" "Z" (.int zC)) (hzC : ¬ zC = 0) (SI : Sta Z Z.heap "sun/nio/cs/UTF_8" "INSTANCE" "Lsun/nio/cs/UTF_8;" (.ref u8)) (SU : Sta Z Z.heap "java/nio/charset/StandardCharsets" "UTF_8" "Ljava/nio/charset/Charset;" (.ref u8)) (hlen : p1 &&& 3 = (0 : Int32)) :
    MetFree l x (head1 (Jvm.Cond.code x code maxLocals ret :: ws) room_1) (fun a U => a = #[(.int p1), (.int p2), (.int p3), (.int p4), (.int p5)] ∧ Z.Warmed39 U.vm ∧ U.heap = h0 ∧ CHv Z consts_1 U.vm h0) (fun _ _ _ _ _ => True) (fun _ U o U' => ∃ v L, o = .returned v ∧ Q_rm0_0 Z  h0 n0 v U'.heap L ∧ CHr Z consts_1 U.vm U.heap U'.vm U'.heap ∧ ReturnedEndW U o U' L room_1.cells room_1.slots) := by
  refine MetFree.of_bodySF (plainFor_of_name pn_HtmlClosePinLaw) hisR ?_
  intro p e s m args below meth c s₁ Bd hml0 hP hK
  obtain ⟨rfl, hZ, hh, hC0⟩ := hP
  have hx := Bd.exec
  have hby := Bd.bytes
  have hml : c.maxLocals = 18 := hml0
  have hown : s.vm.findClass "com/example/usko/usko/server/HtmlClosePinLaw" = some m.cls := findClass_of_methodNamed Bd.named
  have hnm := (name_of_methodNamed Bd.named Bd.method).1
  have X0 : Stand p l e room_1 (s.setVm s.vm) m #[(.int p1), (.int p2), (.int p3), (.int p4), (.int p5)] below meth c s₁ [] 0 0 := Stand.of_body Bd
  have e0 : s₁.heap = h0 := by rw [← hh, Bd.state]; rfl
  have N0 := Fr.nil n0
  obtain ⟨S0, hS0⟩ : ∃ z, z = s₁.setTop (entryFrame m #[(.int p1), (.int p2), (.int p3), (.int p4), (.int p5)] maxLocals) := ⟨_, rfl⟩
  have k0 : Rch p e below S0 s₁ (mkF m 0 #[vI p1, vI p2, vI p3, vI p4, vI p5, vU, vU, vU, vU, vU, vU, vU, vU, vU, vU, vU, vU, vU] []) := fun t kq => hS0 ▸ castTop (ef_0 m p1 p2 p3 p4 p5) kq
  have hS : s.Since s.vm s.heap.size := (State.WarmedH.refl s).since _
  have hk : s.heap.size ≤ h0.size := by rw [← hh]; exact Nat.le_refl _
  have hwS : ∀ d ∈ Bundle.stringAtoms, d.before a0 Z = true := fun d hd => hw d ((by decide +kernel : ∀ d ∈ Bundle.stringAtoms, d ∈ tables_1) d hd)
  have rC0 : CHr Z consts_1 s.vm h0 s.vm h0 := CHr.refl hC0
  have hEL : EW Z a0 consts_1 := (EW.cons (hw _ (gm 47 rfl)) (by decide +kernel) (EW.cons (hw _ (gm 122 rfl)) (by decide +kernel) (EW.cons (hw _ (gm 124 rfl)) (by decide +kernel) (EW.cons (hw _ (gm 14 rfl)) (by decide +kernel) EW.nil))))
  obtain ⟨c0, ec0⟩ : ∃ z : Int32, p2 &&& (127 : Int32) = z := ⟨_, rfl⟩
  have hc0 : ¬ c0 < 0 ∧ ¬ (127 : Int32) < c0 := ec0 ▸ own_127 p2
  have rc0 : (c0.toUInt32.toUInt16.toUInt32.toInt32) = c0 := (own_nar _ (own_7f8 _ hc0)).2
  obtain ⟨c1, ec1⟩ : ∃ z : Int32, p3 &&& (127 : Int32) = z := ⟨_, rfl⟩
  have hc1 : ¬ c1 < 0 ∧ ¬ (127 : Int32) < c1 := ec1 ▸ own_127 p3
  have rc1 : (c1.toUInt32.toUInt16.toUInt32.toInt32) = c1 := (own_nar _ (own_7f8 _ hc1)).2
  obtain ⟨c2, ec2⟩ : ∃ z : Int32, p4 &&& (127 : Int32) = z := ⟨_, rfl⟩
  have hc2 : ¬ c2 < 0 ∧ ¬ (127 : Int32) < c2 := ec2 ▸ own_127 p4
  have rc2 : (c2.toUInt32.toUInt16.toUInt32.toInt32) = c2 := (own_nar _ (own_7f8 _ hc2)).2
  obtain ⟨ce, ece⟩ : ∃ z : Int32, p5 &&& (127 : Int32) = z := ⟨_, rfl⟩
  have hce : ¬ ce < 0 ∧ ¬ (127 : Int32) < ce := ece ▸ own_127 p5
  have rce : (ce.toUInt32.toUInt16.toUInt32.toInt32) = ce := (own_nar _ (own_7f8 _ hce)).2
  have k450 : Rch p e below S0 s₁ (mkF m 40 #[vI p1, vI p2, vI p3, vI p4, vI p5, vI 0, vI c0, vI c1, vI c2, vI ce, vU, vU, vU, vU, vU, vU, vU, vU] [(.int (0 : Int32))]) := fun t h => k0 t (by
      show Steps p.tables e below (s₁.setTop (mkF m 0 #[vI p1, vI p2, vI p3, vI p4, vI p5, vU, vU, vU, vU, vU, vU, vU, vU, vU, vU, vU, vU, vU] [])) _
      refine XS.iloadN X0.here hx rfl (hb hby at_0) rfl ?_
      refine XS.iconst X0.here hx rfl (hb hby at_1) ?_
      show Steps p.tables e below (s₁.setTop (mkF m 2 #[vI p1, vI p2, vI p3, vI p4, vI p5, vU, vU, vU, vU, vU, vU, vU, vU, vU, vU, vU, vU, vU] [(.int (3 : Int32)), (.int p1)])) _
      refine XS.iand X0.here hx rfl (hb hby at_2) rfl ?_
      rw [hlen]
      refine XS.istore X0.here hx rfl (hb hby at_3) rfl (l' := #[vI p1, vI p2, vI p3, vI p4, vI p5, vI 0, vU, vU, vU, vU, vU, vU, vU, vU, vU, vU, vU, vU]) rfl ?_
      refine XS.iloadN X0.here hx rfl (hb hby at_5) rfl ?_
      refine XS.bipush X0.here hx rfl (hb hby at_6) ?_
      show Steps p.tables e below (s₁.setTop (mkF m 8 #[vI p1, vI p2, vI p3, vI p4, vI p5, vI 0, vU, vU, vU, vU, vU, vU, vU, vU, vU, vU, vU, vU] [(.int (127 : Int32)), (.int p2)])) _
      refine XS.iand X0.here hx rfl (hb hby at_8) rfl ?_
      rw [ec0]
      show Steps p.tables e below (s₁.setTop (mkF m 9 #[vI p1, vI p2, vI p3, vI p4, vI p5, vI 0, vU, vU, vU, vU, vU, vU, vU, vU, vU, vU, vU, vU] [(.int c0)])) _
      refine XS.i2c X0.here hx rfl (hb hby at_9) rfl ?_
      rw [rc0]
      refine XS.istore X0.here hx rfl (hb hby at_10) rfl (l' := #[vI p1, vI p2, vI p3, vI p4, vI p5, vI 0, vI c0, vU, vU, vU, vU, vU, vU, vU, vU, vU, vU, vU]) rfl ?_
      refine XS.iloadN X0.here hx rfl (hb hby at_12) rfl ?_
      refine XS.bipush X0.here hx rfl (hb hby at_13) ?_
      show Steps p.tables e below (s₁.setTop (mkF m 15 #[vI p1, vI p2, vI p3, vI p4, vI p5, vI 0, vI c0, vU, vU, vU, vU, vU, vU, vU, vU, vU, vU, vU] [(.int (127 : Int32)), (.int p3)])) _
      refine XS.iand X0.here hx rfl (hb hby at_15) rfl ?_
      rw [ec1]
      show Steps p.tables e below (s₁.setTop (mkF m 16 #[vI p1, vI p2, vI p3, vI p4, vI p5, vI 0, vI c0, vU, vU, vU, vU, vU, vU, vU, vU, vU, vU, vU] [(.int c1)])) _
      refine XS.i2c X0.here hx rfl (hb hby at_16) rfl ?_
      rw [rc1]
      refine XS.istore X0.here hx rfl (hb hby at_17) rfl (l' := #[vI p1, vI p2, vI p3, vI p4, vI p5, vI 0, vI c0, vI c1, vU, vU, vU, vU, vU, vU, vU, vU, vU, vU]) rfl ?_
      refine XS.iloadN X0.here hx rfl (hb hby at_19) rfl ?_
      refine XS.bipush X0.here hx rfl (hb hby at_20) ?_
      show Steps p.tables e below (s₁.setTop (mkF m 22 #[vI p1, vI p2, vI p3, vI p4, vI p5, vI 0, vI c0, vI c1, vU, vU, vU, vU, vU, vU, vU, vU, vU, vU] [(.int (127 : Int32)), (.int p4)])) _
      refine XS.iand X0.here hx rfl (hb hby at_22) rfl ?_
      rw [ec2]
      show Steps p.tables e below (s₁.setTop (mkF m 23 #[vI p1, vI p2, vI p3, vI p4, vI p5, vI 0, vI c0, vI c1, vU, vU, vU, vU, vU, vU, vU, vU, vU, vU] [(.int c2)])) _
      refine XS.i2c X0.here hx rfl (hb hby at_23) rfl ?_
      rw [rc2]
      refine XS.istore X0.here hx rfl (hb hby at_24) rfl (l' := #[vI p1, vI p2, vI p3, vI p4, vI p5, vI 0, vI c0, vI c1, vI c2, vU, vU, vU, vU, vU, vU, vU, vU, vU]) rfl ?_
      refine XS.iload X0.here hx rfl (hb hby at_26) rfl ?_
      refine XS.bipush X0.here hx rfl (hb hby at_28) ?_
      show Steps p.tables e below (s₁.setTop (mkF m 30 #[vI p1, vI p2, vI p3, vI p4, vI p5, vI 0, vI c0, vI c1, vI c2, vU, vU, vU, vU, vU, vU, vU, vU, vU] [(.int (127 : Int32)), (.int p5)])) _
      refine XS.iand X0.here hx rfl (hb hby at_30) rfl ?_
      rw [ece]
      show Steps p.tables e below (s₁.setTop (mkF m 31 #[vI p1, vI p2, vI p3, vI p4, vI p5, vI 0, vI c0, vI c1, vI c2, vU, vU, vU, vU, vU, vU, vU, vU, vU] [(.int ce)])) _
      refine XS.i2c X0.here hx rfl (hb hby at_31) rfl ?_
      rw [rce]
      refine XS.istore X0.here hx rfl (hb hby at_32) rfl (l' := #[vI p1, vI p2, vI p3, vI p4, vI p5, vI 0, vI c0, vI c1, vI c2, vI ce, vU, vU, vU, vU, vU, vU, vU, vU]) rfl ?_
      refine XS.iload X0.here hx rfl (hb hby at_34) rfl ?_
      refine XS.ifNo X0.here hx rfl (hb hby at_36) rfl ((if0 _ _).trans (teq (by decide : (0 : Int32) = (0 : Int32))).2) ?_
      refine XS.iconst X0.here hx rfl (hb hby at_39) ?_
      exact h)
  obtain ⟨T449, h449, k449, X449, e449, E449, A449, st449⟩ := newP X0 hx hZ (hw _ (gm 0 rfl)) e0 (g := (mkF m 40 #[vI p1, vI p2, vI p3, vI p4, vI p5, vI 0, vI c0, vI c1, vI c2, vI ce, vU, vU, vU, vU, vU, vU, vU, vU] [(.int (0 : Int32))])) rfl (hb hby at_40) rfl (by decide) (cap := 0) (by decide) (by decide) (by decide) (by decide)
  obtain ⟨b449, g449⟩ : ∃ z, z = h0.size := ⟨_, rfl⟩
  rw [← g449] at A449 st449
  have k451 : Rch p e below S0 T449 (mkF m 42 #[vI p1, vI p2, vI p3, vI p4, vI p5, vI 0, vI c0, vI c1, vI c2, vI ce, vU, vU, vU, vU, vU, vU, vU, vU] [(.ref b449)]) := fun t h => k450 t (st449 t h)
  have ge_b449 : n0 ≤ b449 := own_ge O0 (Nat.le_of_eq g449.symm)
  have sf_b449 : Safe Z consts_1 s.vm h0 b449 := Safe.new (Nat.le_of_eq g449.symm)
  replace sf_b449 := Safe.ext E449 hC0 sf_b449
  have hC452 := hC0.ext E449
  have rC452 := rC0.trans (CHr.ext E449 hC0)
  have O453 := O0.ext E449
  have hkk454 := Nat.le_trans hk E449.1
  have V_b449 : Arv Z h449 b449 k449 .char (0 : Int32) [] (.int (0 : Int32)) := (Arv.new A449 (by decide)).pad (pad_rep [] (.int (0 : Int32)) 0)
  have k456 : Rch p e below S0 T449 (mkF m 110 #[vI p1, vI p2, vI p3, vI p4, vI p5, vI 0, vI c0, vI c1, vI c2, vI ce, vR b449, vU, vU, vU, vU, vU, vU, vU] []) := fun t h => k451 t (by
      show Steps p.tables e below (T449.setTop (mkF m 42 #[vI p1, vI p2, vI p3, vI p4, vI p5, vI 0, vI c0, vI c1, vI c2, vI ce, vU, vU, vU, vU, vU, vU, vU, vU] [(.ref b449)])) _
      refine XS.astore X449.here hx rfl (hb hby at_42) rfl rfl (l' := #[vI p1, vI p2, vI p3, vI p4, vI p5, vI 0, vI c0, vI c1, vI c2, vI ce, vR b449, vU, vU, vU, vU, vU, vU, vU]) rfl ?_
      refine XS.goto X449.here hx rfl (pc0 := 44) (pc' := 110) rfl (hb hby at_44) (by decide) (by decide) ?_
      exact h)
  obtain ⟨T455, h455, X455, e455, E455, A455, D455, -, st455⟩ := newO X449 hx hZ hown (hw _ (gm 1 rfl)) (hw _ (gm 2 rfl)) (hw _ (gm 3 rfl)) e449 (g := (mkF m 110 #[vI p1, vI p2, vI p3, vI p4, vI p5, vI 0, vI c0, vI c1, vI c2, vI ce, vR b449, vU, vU, vU, vU, vU, vU, vU] [])) rfl (hb hby at_110) (by decide) (by decide)
  obtain ⟨b455, g455⟩ : ∃ z, z = h449.size := ⟨_, rfl⟩
  rw [← g455] at A455 D455 st455
  have k457 : Rch p e below S0 T455 (mkF m 113 #[vI p1, vI p2, vI p3, vI p4, vI p5, vI 0, vI c0, vI c1, vI c2, vI ce, vR b449, vU, vU, vU, vU, vU, vU, vU] [(.ref b455)]) := fun t h => k456 t (st455 t h)
  have ne_b449_b455 : b449 ≠ b455 := own_ne V_b449.lt (Nat.le_of_eq g455.symm)
  have ge_b455 : n0 ≤ b455 := own_ge O453 (Nat.le_of_eq g455.symm)
  have sf_b455 : Safe Z consts_1 s.vm h449 b455 := Safe.new (Nat.le_of_eq g455.symm)
  replace sf_b449 := Safe.ext E455 hC452 sf_b449
  replace sf_b455 := Safe.ext E455 hC452 sf_b455
  have hC458 := hC452.ext E455
  have rC458 := rC452.trans (CHr.ext E455 hC452)
  have O459 := O453.ext E455
  replace V_b449 := V_b449.ext E455
  have hkk460 := Nat.le_trans hkk454 E455.1
  have E_b455 := A455
  have F_b455_value : Fld Z h455 b455 "java/lang/String" "value" "[B" .null := D455 (Or.inr (hw _ (gm 16 rfl))) (ty := (.array .byte)) (by decide)
  have F_b455_coder : Fld Z h455 b455 "java/lang/String" "coder" "B" (.int (0 : Int32)) := D455 (Or.inr (hw _ (gm 17 rfl))) (ty := .byte) (by decide)
  have k461 : Rch p e below S0 T455 (mkF m 116 #[vI p1, vI p2, vI p3, vI p4, vI p5, vI 0, vI c0, vI c1, vI c2, vI ce, vR b449, vU, vU, vU, vU, vU, vU, vU] [(.ref b449), (.ref b455), (.ref b455)]) := fun t h => k457 t (by
      show Steps p.tables e below (T455.setTop (mkF m 113 #[vI p1, vI p2, vI p3, vI p4, vI p5, vI 0, vI c0, vI c1, vI c2, vI ce, vR b449, vU, vU, vU, vU, vU, vU, vU] [(.ref b455)])) _
      refine XS.dup X455.here hx rfl (hb hby at_113) rfl rfl ?_
      refine XS.aload X455.here hx rfl (hb hby at_114) rfl rfl ?_
      exact h)
  obtain ⟨_, _, ⟨T462, L462, kk462, n462⟩, -, X462, hS462, gr462, ⟨Lc462, hQ462, l462, y462, z462, hR462⟩, st462⟩ := X455.specialBackS hx (y := (⟨"java/lang/String", "<init>", "([C)V"⟩ : MethodName)) rfl hown (mvT hZ (hw _ (gm 4 rfl))) (mvT hZ (hw _ (gm 5 rfl))) (mvT hZ (hw _ (gm 6 rfl))) (by decide) (backOfSH (W := 1) (rmS0 l Z a0 hw [] b455 b449 k449 h455 n0 O459 ge_b455 E_b455 F_b455_value F_b455_coder V_b449) hZ (hw _ (gm 6 rfl)) (hw _ (gm 3 rfl)) (by decide) (by decide) hEL hC458) (g := (mkF m 116 #[vI p1, vI p2, vI p3, vI p4, vI p5, vI 0, vI c0, vI c1, vI c2, vI ce, vR b449, vU, vU, vU, vU, vU, vU, vU] [(.ref b449), (.ref b455), (.ref b455)])) rfl (by rw [hml]; rfl) (Steps.refl _) (a := b455) (argsL := [(.ref b449)]) (rest := [(.ref b455)]) (lenOf pd_0 rfl) rfl (by show 2 * 0 + _ ≤ _; exact Nat.le_of_eq rfl) (hb hby at_116) (fun _ _ => ⟨rfl, e455, (by decide : 2 + 4 ≤ _), (by decide : 4 + 8 ≤ _)⟩)
  dsimp only [Pt.U, Pt.locs, Pt.cells, Pt.slots] at X462 l462 y462 z462 st462 hQ462 hS462 gr462 hR462
  subst l462 y462 z462
  have hZ462 : Z.Warmed39 (s.setVm T462.vm).vm := State.Warmed39.trans (t := (s.setVm s.vm)) hZ hS462.1
  have hown462 : (s.setVm T462.vm).vm.findClass "com/example/usko/usko/server/HtmlClosePinLaw" = some m.cls := by rw [show (s.setVm T462.vm).vm = T462.vm from rfl, hS462.1.alike.findClass]; exact hown
  replace hS462 := foldS hS (by rw [e455]; exact hkk460) hS462 gr462
  have hk462 := Nat.le_refl T462.heap.size
  replace X462 : Stand p l e room_1 (s.setVm T462.vm) m #[(.int p1), (.int p2), (.int p3), (.int p4), (.int p5)] below meth c T462 _ _ _ := X462
  obtain ⟨rfl, Nq462, K462, t462, kt462, Fv462, Fc462, At462⟩ := hQ462
  have N462 := Fr.app N0 Nq462
  have k463 : Rch p e below S0 T462 (mkF m 119 #[vI p1, vI p2, vI p3, vI p4, vI p5, vI 0, vI c0, vI c1, vI c2, vI ce, vR b449, vU, vU, vU, vU, vU, vU, vU] [(.ref b455)]) := fun t h => k461 t (st462.trans h)
  replace sf_b449 := hR462.safe V_b449.lt sf_b449
  replace sf_b455 := hR462.safe E_b455.lt sf_b455
  have hC464 := hR462.1
  have rC464 := rC458.trans hR462
  have O465 := O459.keep K462 (allS ge_b455 all0)
  replace V_b449 := V_b449.keep K462 (ninS ne_b449_b455 nin0)
  replace E_b455 := E_b455.keep K462
  have k466 : Rch p e below S0 T462 (mkF m 123 #[vI p1, vI p2, vI p3, vI p4, vI p5, vI 0, vI c0, vI c1, vI c2, vI ce, vR b449, vR b455, vU, vU, vU, vU, vU, vU] [(.int ce)]) := fun t h => k463 t (by
      show Steps p.tables e below (T462.setTop (mkF m 119 #[vI p1, vI p2, vI p3, vI p4, vI p5, vI 0, vI c0, vI c1, vI c2, vI ce, vR b449, vU, vU, vU, vU, vU, vU, vU] [(.ref b455)])) _
      refine XS.astore X462.here hx rfl (hb hby at_119) rfl rfl (l' := #[vI p1, vI p2, vI p3, vI p4, vI p5, vI 0, vI c0, vI c1, vI c2, vI ce, vR b449, vR b455, vU, vU, vU, vU, vU, vU]) rfl ?_
      refine XS.iload X462.here hx rfl (hb hby at_121) rfl ?_
      exact h)
  obtain ⟨_, _, ⟨T467, L467, kk467, n467⟩, -, X467, ⟨Lc467, hQ467, l467, y467, z467⟩, st467⟩ := Jvm.LawKit.callS X462 hx (y := (⟨"java/lang/String", "valueOf", "(C)Ljava/lang/String;"⟩ : MethodName)) hown462 (mvT hZ462 (hw _ (gm 22 rfl))) (mvT hZ462 (hw _ (gm 23 rfl))) (mvT hZ462 (hw _ (gm 3 rfl))) (mvT hZ462 (hw _ (gm 24 rfl))) (by decide) (backOf (W := 0) (rmVO l Z a0 hw [] ce zC T462.heap n0 O465 SC hzC hce) hZ462 (hw _ (gm 24 rfl)) (hw _ (gm 3 rfl)) (by decide) (by decide)) (g := (mkF m 123 #[vI p1, vI p2, vI p3, vI p4, vI p5, vI 0, vI c0, vI c1, vI c2, vI ce, vR b449, vR b455, vU, vU, vU, vU, vU, vU] [(.int ce)])) rfl (by rw [hml]; rfl) (argsL := [(.int ce)]) (rest := []) (lenOf pd_3 rfl) rfl (by show 2 * 0 + _ ≤ _; exact Nat.le_of_eq rfl) (hb hby at_123) (fun _ _ => ⟨rfl, rfl, (by decide : 6 + 2 ≤ _), (by decide : 12 + 5 ≤ _)⟩)
  dsimp only [Pt.U, Pt.locs, Pt.cells, Pt.slots] at X467 l467 y467 z467 st467 hQ467
  subst l467 y467 z467
  obtain ⟨b467, y467, ky467, rfl, Nq467, E467, z467, Eb467, zy467, Gv467, Gc467, V467⟩ := hQ467
  have N467 := Fr.app N462 Nq467
  have k468 : Rch p e below S0 T467 (mkF m 126 #[vI p1, vI p2, vI p3, vI p4, vI p5, vI 0, vI c0, vI c1, vI c2, vI ce, vR b449, vR b455, vU, vU, vU, vU, vU, vU] [(.ref b467)]) := fun t h => k466 t (st467 t h)
  have hC469 := hC464.ext E467
  have rC469 := rC464.trans (CHr.ext E467 hC464)
  have O470 := O465.ext E467
  replace E_b455 := E_b455.ext E467
  replace Fv462 := Fv462.ext E467
  replace Fc462 := Fc462.ext E467
  replace At462 := At462.ext E467
  have hkk471 := Nat.le_trans hk462 E467.1
  have k473 : Rch p e below S0 T467 (mkF m 128 #[vI p1, vI p2, vI p3, vI p4, vI p5, vI 0, vI c0, vI c1, vI c2, vI ce, vR b449, vR b455, vR b467, vU, vU, vU, vU, vU] []) := fun t h => k468 t (by
      show Steps p.tables e below (T467.setTop (mkF m 126 #[vI p1, vI p2, vI p3, vI p4, vI p5, vI 0, vI c0, vI c1, vI c2, vI ce, vR b449, vR b455, vU, vU, vU, vU, vU, vU] [(.ref b467)])) _
      refine XS.astore X467.here hx rfl (hb hby at_126) rfl rfl (l' := #[vI p1, vI p2, vI p3, vI p4, vI p5, vI 0, vI c0, vI c1, vI c2, vI ce, vR b449, vR b455, vR b467, vU, vU, vU, vU, vU]) rfl ?_
      exact h)
  obtain ⟨T472, h472, X472, e472, E472, A472, D472, -, st472⟩ := newO X467 hx hZ462 hown462 (hw _ (gm 37 rfl)) (hw _ (gm 38 rfl)) (hw _ (gm 39 rfl)) rfl (g := (mkF m 128 #[vI p1, vI p2, vI p3, vI p4, vI p5, vI 0, vI c0, vI c1, vI c2, vI ce, vR b449, vR b455, vR b467, vU, vU, vU, vU, vU] [])) rfl (hb hby at_128) (by decide) (by decide)
  obtain ⟨b472, g472⟩ : ∃ z, z = T467.heap.size := ⟨_, rfl⟩
  rw [← g472] at A472 D472 st472
  have k474 : Rch p e below S0 T472 (mkF m 131 #[vI p1, vI p2, vI p3, vI p4, vI p5, vI 0, vI c0, vI c1, vI c2, vI ce, vR b449, vR b455, vR b467, vU, vU, vU, vU, vU] [(.ref b472)]) := fun t h => k473 t (st472 t h)
  have ne_b455_b472 : b455 ≠ b472 := own_ne E_b455.lt (Nat.le_of_eq g472.symm)
  have ne_t462_b472 : t462 ≠ b472 := own_ne At462.lt (Nat.le_of_eq g472.symm)
  have ne_b467_b472 : b467 ≠ b472 := own_ne Eb467.lt (Nat.le_of_eq g472.symm)
  have ne_y467_b472 : y467 ≠ b472 := own_ne V467.lt (Nat.le_of_eq g472.symm)
  have ge_b472 : n0 ≤ b472 := own_ge O470 (Nat.le_of_eq g472.symm)
  have sf_b472 : Safe Z consts_1 T462.vm T467.heap b472 := Safe.new (Nat.le_of_eq g472.symm)
  replace sf_b472 := Safe.ext E472 hC469 sf_b472
  have hC475 := hC469.ext E472
  have rC475 := rC469.trans (CHr.ext E472 hC469)
  have O476 := O470.ext E472
  replace E_b455 := E_b455.ext E472
  replace Fv462 := Fv462.ext E472
  replace Fc462 := Fc462.ext E472
  replace At462 := At462.ext E472
  replace Eb467 := Eb467.ext E472
  replace Gv467 := Gv467.ext E472
  replace Gc467 := Gc467.ext E472
  replace V467 := V467.ext E472
  have hkk477 := Nat.le_trans hkk471 E472.1
  have E_b472 := A472
  have F_b472_out : Fld Z h472 b472 "com/example/usko/usko/server/Html" "out" "Ljava/lang/StringBuilder;" .null := D472 (Or.inr (hw _ (gm 116 rfl))) (ty := (.object "java/lang/StringBuilder")) (by decide)
  have k478 : Rch p e below S0 T472 (mkF m 132 #[vI p1, vI p2, vI p3, vI p4, vI p5, vI 0, vI c0, vI c1, vI c2, vI ce, vR b449, vR b455, vR b467, vU, vU, vU, vU, vU] [(.ref b472), (.ref b472)]) := fun t h => k474 t (by
      show Steps p.tables e below (T472.setTop (mkF m 131 #[vI p1, vI p2, vI p3, vI p4, vI p5, vI 0, vI c0, vI c1, vI c2, vI ce, vR b449, vR b455, vR b467, vU, vU, vU, vU, vU] [(.ref b472)])) _
      refine XS.dup X472.here hx rfl (hb hby at_131) rfl rfl ?_
      exact h)
  obtain ⟨_, _, ⟨T479, L479, kk479, n479⟩, -, X479, hS479, gr479, ⟨Lc479, hQ479, l479, y479, z479, hR479⟩, st479⟩ := X472.specialBackS hx (y := (⟨"com/example/usko/usko/server/Html", "<init>", "()V"⟩ : MethodName)) rfl hown462 (mvT hZ462 (hw _ (gm 40 rfl))) (mvT hZ462 (hw _ (gm 41 rfl))) (mvT hZ462 (hw _ (gm 42 rfl))) (by decide) (backOfSH (W := 1) (rmHI l Z a0 hw [] b472 zC h472 n0 O476 SC hzC ge_b472 E_b472 F_b472_out) hZ462 (hw _ (gm 42 rfl)) (hw _ (gm 39 rfl)) (by decide) (by decide) hEL hC475) (g := (mkF m 132 #[vI p1, vI p2, vI p3, vI p4, vI p5, vI 0, vI c0, vI c1, vI c2, vI ce, vR b449, vR b455, vR b467, vU, vU, vU, vU, vU] [(.ref b472), (.ref b472)])) rfl (by rw [hml]; rfl) (Steps.refl _) (a := b472) (argsL := []) (rest := [(.ref b472)]) (lenOf pd_2 rfl) rfl (by show 2 * 0 + _ ≤ _; exact Nat.le_of_eq rfl) (hb hby at_132) (fun _ _ => ⟨rfl, e472, (by decide : 9 + 4 ≤ _), (by decide : 18 + 104 ≤ _)⟩)
  dsimp only [Pt.U, Pt.locs, Pt.cells, Pt.slots] at X479 l479 y479 z479 st479 hQ479 hS479 gr479 hR479
  subst l479 y479 z479
  have hZ479 : Z.Warmed39 (s.setVm T479.vm).vm := State.Warmed39.trans (t := (s.setVm T462.vm)) hZ462 hS479.1
  have hown479 : (s.setVm T479.vm).vm.findClass "com/example/usko/usko/server/HtmlClosePinLaw" = some m.cls := by rw [show (s.setVm T479.vm).vm = T479.vm from rfl, hS479.1.alike.findClass]; exact hown462
  replace hS479 := foldS hS462 (by rw [e472]; exact hkk477) hS479 gr479
  have hk479 := Nat.le_refl T479.heap.size
  replace X479 : Stand p l e room_1 (s.setVm T479.vm) m #[(.int p1), (.int p2), (.int p3), (.int p4), (.int p5)] below meth c T479 _ _ _ := X479
  obtain ⟨rfl, Nq479, K479, sb, tb, kb, zs479, zt479, ne_sb_tb, E_sb, Fc, Fv, Fn, Vb, Fo⟩ := hQ479
  have N479 := Fr.app N467 Nq479
  have k480 : Rch p e below S0 T479 (mkF m 135 #[vI p1, vI p2, vI p3, vI p4, vI p5, vI 0, vI c0, vI c1, vI c2, vI ce, vR b449, vR b455, vR b467, vU, vU, vU, vU, vU] [(.ref b472)]) := fun t h => k478 t (st479.trans h)
  have ne_b455_sb : b455 ≠ sb := own_ne E_b455.lt zs479
  have ne_t462_sb : t462 ≠ sb := own_ne At462.lt zs479
  have ne_b467_sb : b467 ≠ sb := own_ne Eb467.lt zs479
  have ne_y467_sb : y467 ≠ sb := own_ne V467.lt zs479
  have ne_b472_sb : b472 ≠ sb := own_ne E_b472.lt zs479
  have ge_sb : n0 ≤ sb := own_ge O476 zs479
  have ne_b455_tb : b455 ≠ tb := own_ne E_b455.lt zt479
  have ne_t462_tb : t462 ≠ tb := own_ne At462.lt zt479
  have ne_b467_tb : b467 ≠ tb := own_ne Eb467.lt zt479
  have ne_y467_tb : y467 ≠ tb := own_ne V467.lt zt479
  have ne_b472_tb : b472 ≠ tb := own_ne E_b472.lt zt479
  have ge_tb : n0 ≤ tb := own_ge O476 zt479
  have hC481 := hR479.1
  have rC481 := rC475.trans hR479
  have O482 := O476.keep K479 (allS ge_b472 all0)
  replace E_b455 := E_b455.keep K479
  replace Fv462 := Fv462.keep K479 (ninS ne_b455_b472 nin0)
  replace Fc462 := Fc462.keep K479 (ninS ne_b455_b472 nin0)
  replace At462 := At462.keep K479 (ninS ne_t462_b472 nin0)
  replace Eb467 := Eb467.keep K479
  replace Gv467 := Gv467.keep K479 (ninS ne_b467_b472 nin0)
  replace Gc467 := Gc467.keep K479 (ninS ne_b467_b472 nin0)
  replace V467 := V467.keep K479 (ninS ne_y467_b472 nin0)
  replace E_b472 := E_b472.keep K479
  have k483 : Rch p e below S0 T479 (mkF m 141 #[vI p1, vI p2, vI p3, vI p4, vI p5, vI 0, vI c0, vI c1, vI c2, vI ce, vR b449, vR b455, vR b467, vR b472, vU, vU, vU, vU] [(.ref b455), (.ref b472)]) := fun t h => k480 t (by
      show Steps p.tables e below (T479.setTop (mkF m 135 #[vI p1, vI p2, vI p3, vI p4, vI p5, vI 0, vI c0, vI c1, vI c2, vI ce, vR b449, vR b455, vR b467, vU, vU, vU, vU, vU] [(.ref b472)])) _
      refine XS.astore X479.here hx rfl (hb hby at_135) rfl rfl (l' := #[vI p1, vI p2, vI p3, vI p4, vI p5, vI 0, vI c0, vI c1, vI c2, vI ce, vR b449, vR b455, vR b467, vR b472, vU, vU, vU, vU]) rfl ?_
      refine XS.aload X479.here hx rfl (hb hby at_137) rfl rfl ?_
      refine XS.aload X479.here hx rfl (hb hby at_139) rfl rfl ?_
      exact h)
  obtain ⟨cq484, kq484, q484a, q484b, q484c⟩ := isOf hZ479 rfl E_b472
  obtain ⟨_, _, ⟨T484, L484, kk484, n484⟩, -, X484, hS484, gr484, ⟨Lc484, hQ484, l484, y484, z484, hR484⟩, st484⟩ := X479.virtualBackS hx (y := (⟨"com/example/usko/usko/server/Html", "close", "(Ljava/lang/String;)Lcom/example/usko/usko/server/Html;"⟩ : MethodName)) (z := (⟨"com/example/usko/usko/server/Html", "close", "(Ljava/lang/String;)Lcom/example/usko/usko/server/Html;"⟩ : MethodName)) hown479 (mvT hZ479 (hw _ (gm 117 rfl))) (mvT hZ479 (hw _ (gm 118 rfl))) (notFace_of_selects (args := #[]) (mvT hZ479 (hw _ (gm 120 rfl)))) (mvT hZ479 (hw _ (gm 120 rfl))) (mvT hZ479 (hw _ (gm 119 rfl))) (by decide) (backOfSH (W := 0) (rmCL l Z a0 hw [] b472 b455 sb tb t462 kt462 [] kb 32 [(60 : Int32), (33 : Int32), (68 : Int32), (79 : Int32), (67 : Int32), (84 : Int32), (89 : Int32), (80 : Int32), (69 : Int32), (32 : Int32), (104 : Int32), (116 : Int32), (109 : Int32), (108 : Int32), (62 : Int32), (10 : Int32)] zC T479.heap n0 O482 SC hzC Fo ge_sb ge_tb ne_sb_tb E_sb Fc Fv Fn E_b455 Fv462 Fc462 At462 Vb ne_b455_sb ne_b455_tb ne_t462_sb ne_t462_tb (Nat.le_of_ble_eq_true rfl) (by decide) (by decide)) hZ479 (hw _ (gm 121 rfl)) (hw _ (gm 39 rfl)) (by decide) (by decide) hEL hC481) q484a q484c (g := (mkF m 141 #[vI p1, vI p2, vI p3, vI p4, vI p5, vI 0, vI c0, vI c1, vI c2, vI ce, vR b449, vR b455, vR b467, vR b472, vU, vU, vU, vU] [(.ref b455), (.ref b472)])) rfl (by rw [hml]; rfl) (Steps.refl _) (argsL := [(.ref b455)]) (rest := []) (lenOf pd_16 rfl) rfl (by show 2 * 0 + _ ≤ _; exact Nat.le_of_eq rfl) (hb hby at_141) (fun _ _ => ⟨rfl, rfl, (by decide : 13 + 4 ≤ _), (by decide : 122 + 24 ≤ _)⟩)
  dsimp only [Pt.U, Pt.locs, Pt.cells, Pt.slots] at X484 l484 y484 z484 st484 hQ484 hS484 gr484 hR484
  subst l484 y484 z484
  have hZ484 : Z.Warmed39 (s.setVm T484.vm).vm := State.Warmed39.trans (t := (s.setVm T479.vm)) hZ479 hS484.1
  have hown484 : (s.setVm T484.vm).vm.findClass "com/example/usko/usko/server/HtmlClosePinLaw" = some m.cls := by rw [show (s.setVm T484.vm).vm = T484.vm from rfl, hS484.1.alike.findClass]; exact hown479
  replace hS484 := foldS hS479 (by exact hk479) hS484 gr484
  have hk484 := Nat.le_refl T484.heap.size
  replace X484 : Stand p l e room_1 (s.setVm T484.vm) m #[(.int p1), (.int p2), (.int p3), (.int p4), (.int p5)] below meth c T484 _ _ _ := X484
  obtain ⟨rfl, Nq484, K484, Fc484, Fv484, Fn484, V484⟩ := hQ484
  have N484 := Fr.app N479 Nq484
  have k485 : Rch p e below S0 T484 (mkF m 144 #[vI p1, vI p2, vI p3, vI p4, vI p5, vI 0, vI c0, vI c1, vI c2, vI ce, vR b449, vR b455, vR b467, vR b472, vU, vU, vU, vU] [(.ref b472)]) := fun t h => k483 t (st484.trans h)
  have hC486 := hR484.1
  have rC486 := rC481.trans hR484
  have O487 := O482.keep K484 (allS ge_sb (allS ge_tb all0))
  replace Eb467 := Eb467.keep K484
  replace Gv467 := Gv467.keep K484 (ninS ne_b467_sb (ninS ne_b467_tb nin0))
  replace Gc467 := Gc467.keep K484 (ninS ne_b467_sb (ninS ne_b467_tb nin0))
  replace V467 := V467.keep K484 (ninS ne_y467_sb (ninS ne_y467_tb nin0))
  replace E_b472 := E_b472.keep K484
  replace Fo := Fo.keep K484 (ninS ne_b472_sb (ninS ne_b472_tb nin0))
  replace E_sb := E_sb.keep K484
  have k488 : Rch p e below S0 T484 (mkF m 150 #[vI p1, vI p2, vI p3, vI p4, vI p5, vI 0, vI c0, vI c1, vI c2, vI ce, vR b449, vR b455, vR b467, vR b472, vR b472, vU, vU, vU] [(.ref b467), (.ref b472)]) := fun t h => k485 t (by
      show Steps p.tables e below (T484.setTop (mkF m 144 #[vI p1, vI p2, vI p3, vI p4, vI p5, vI 0, vI c0, vI c1, vI c2, vI ce, vR b449, vR b455, vR b467, vR b472, vU, vU, vU, vU] [(.ref b472)])) _
      refine XS.astore X484.here hx rfl (hb hby at_144) rfl rfl (l' := #[vI p1, vI p2, vI p3, vI p4, vI p5, vI 0, vI c0, vI c1, vI c2, vI ce, vR b449, vR b455, vR b467, vR b472, vR b472, vU, vU, vU]) rfl ?_
      refine XS.aload X484.here hx rfl (hb hby at_146) rfl rfl ?_
      refine XS.aload X484.here hx rfl (hb hby at_148) rfl rfl ?_
      exact h)
  obtain ⟨cq489, kq489, q489a, q489b, q489c⟩ := isOf hZ484 rfl E_b472
  obtain ⟨_, _, ⟨T489, L489, kk489, n489⟩, -, X489, hS489, gr489, ⟨Lc489, hQ489, l489, y489, z489, hR489⟩, st489⟩ := X484.virtualBackS hx (y := (⟨"com/example/usko/usko/server/Html", "close", "(Ljava/lang/String;)Lcom/example/usko/usko/server/Html;"⟩ : MethodName)) (z := (⟨"com/example/usko/usko/server/Html", "close", "(Ljava/lang/String;)Lcom/example/usko/usko/server/Html;"⟩ : MethodName)) hown484 (mvT hZ484 (hw _ (gm 117 rfl))) (mvT hZ484 (hw _ (gm 118 rfl))) (notFace_of_selects (args := #[]) (mvT hZ484 (hw _ (gm 120 rfl)))) (mvT hZ484 (hw _ (gm 120 rfl))) (mvT hZ484 (hw _ (gm 119 rfl))) (by decide) (backOfSH (W := 0) (rmCL l Z a0 hw [] b472 b467 sb tb y467 ky467 [ce] kb 32 ((([(60 : Int32), (33 : Int32), (68 : Int32), (79 : Int32), (67 : Int32), (84 : Int32), (89 : Int32), (80 : Int32), (69 : Int32), (32 : Int32), (104 : Int32), (116 : Int32), (109 : Int32), (108 : Int32), (62 : Int32), (10 : Int32)] ++ [60, 47]) ++ []) ++ [62, 10]) zC T484.heap n0 O487 SC hzC Fo ge_sb ge_tb ne_sb_tb E_sb Fc484 Fv484 Fn484 Eb467 Gv467 Gc467 V467 V484 ne_b467_sb ne_b467_tb ne_y467_sb ne_y467_tb (Nat.le_of_ble_eq_true rfl) (by decide) (by decide)) hZ484 (hw _ (gm 121 rfl)) (hw _ (gm 39 rfl)) (by decide) (by decide) hEL hC486) q489a q489c (g := (mkF m 150 #[vI p1, vI p2, vI p3, vI p4, vI p5, vI 0, vI c0, vI c1, vI c2, vI ce, vR b449, vR b455, vR b467, vR b472, vR b472, vU, vU, vU] [(.ref b467), (.ref b472)])) rfl (by rw [hml]; rfl) (Steps.refl _) (argsL := [(.ref b467)]) (rest := []) (lenOf pd_16 rfl) rfl (by show 2 * 0 + _ ≤ _; exact Nat.le_of_eq rfl) (hb hby at_150) (fun _ _ => ⟨rfl, rfl, (by decide : 17 + 4 ≤ _), (by decide : 146 + 24 ≤ _)⟩)
  dsimp only [Pt.U, Pt.locs, Pt.cells, Pt.slots] at X489 l489 y489 z489 st489 hQ489 hS489 gr489 hR489
  subst l489 y489 z489
  have hZ489 : Z.Warmed39 (s.setVm T489.vm).vm := State.Warmed39.trans (t := (s.setVm T484.vm)) hZ484 hS489.1
  have hown489 : (s.setVm T489.vm).vm.findClass "com/example/usko/usko/server/HtmlClosePinLaw" = some m.cls := by rw [show (s.setVm T489.vm).vm = T489.vm from rfl, hS489.1.alike.findClass]; exact hown484
  replace hS489 := foldS hS484 (by exact hk484) hS489 gr489
  have hk489 := Nat.le_refl T489.heap.size
  replace X489 : Stand p l e room_1 (s.setVm T489.vm) m #[(.int p1), (.int p2), (.int p3), (.int p4), (.int p5)] below meth c T489 _ _ _ := X489
  obtain ⟨rfl, Nq489, K489, Fc489, Fv489, Fn489, V489⟩ := hQ489
  have N489 := Fr.app N484 Nq489
  have k490 : Rch p e below S0 T489 (mkF m 153 #[vI p1, vI p2, vI p3, vI p4, vI p5, vI 0, vI c0, vI c1, vI c2, vI ce, vR b449, vR b455, vR b467, vR b472, vR b472, vU, vU, vU] [(.ref b472)]) := fun t h => k488 t (st489.trans h)
  have hC491 := hR489.1
  have rC491 := rC486.trans hR489
  have O492 := O487.keep K489 (allS ge_sb (allS ge_tb all0))
  replace E_b472 := E_b472.keep K489
  replace Fo := Fo.keep K489 (ninS ne_b472_sb (ninS ne_b472_tb nin0))
  replace E_sb := E_sb.keep K489
  have k493 : Rch p e below S0 T489 (mkF m 173 #[vI p1, vI p2, vI p3, vI p4, vI p5, vI 0, vI c0, vI c1, vI c2, vI ce, vR b449, vR b455, vR b467, vR b472, vR b472, vR b472, vU, vU] [(.ref b472)]) := fun t h => k490 t (by
      show Steps p.tables e below (T489.setTop (mkF m 153 #[vI p1, vI p2, vI p3, vI p4, vI p5, vI 0, vI c0, vI c1, vI c2, vI ce, vR b449, vR b455, vR b467, vR b472, vR b472, vU, vU, vU] [(.ref b472)])) _
      refine XS.astore X489.here hx rfl (hb hby at_153) rfl rfl (l' := #[vI p1, vI p2, vI p3, vI p4, vI p5, vI 0, vI c0, vI c1, vI c2, vI ce, vR b449, vR b455, vR b467, vR b472, vR b472, vR b472, vU, vU]) rfl ?_
      refine XS.aload X489.here hx rfl (hb hby at_155) rfl rfl ?_
      refine XS.aload X489.here hx rfl (hb hby at_157) rfl rfl ?_
      refine Jvm.RoadKit.acmp (g := (mkF m 159 #[vI p1, vI p2, vI p3, vI p4, vI p5, vI 0, vI c0, vI c1, vI c2, vI ce, vR b449, vR b455, vR b467, vR b472, vR b472, vR b472, vU, vU] [(.ref b472), (.ref b472)])) X489 hx rfl rfl rfl (pc0 := 159) (pc' := 162) (same := true) rfl (hb hby at_159) rfl (decide_eq_true rfl) (by decide) (by decide) ?_
      refine XS.aload X489.here hx rfl (hb hby at_162) rfl rfl ?_
      refine XS.aload X489.here hx rfl (hb hby at_164) rfl rfl ?_
      refine Jvm.RoadKit.acmp (g := (mkF m 166 #[vI p1, vI p2, vI p3, vI p4, vI p5, vI 0, vI c0, vI c1, vI c2, vI ce, vR b449, vR b455, vR b467, vR b472, vR b472, vR b472, vU, vU] [(.ref b472), (.ref b472)])) X489 hx rfl rfl rfl (pc0 := 166) (pc' := 171) (same := true) rfl (hb hby at_166) rfl (decide_eq_true rfl) (by decide) (by decide) ?_
      refine XS.aload X489.here hx rfl (hb hby at_171) rfl rfl ?_
      exact h)
  have hpos : ∀ c ∈ ((((((([(60 : Int32), (33 : Int32), (68 : Int32), (79 : Int32), (67 : Int32), (84 : Int32), (89 : Int32), (80 : Int32), (69 : Int32), (32 : Int32), (104 : Int32), (116 : Int32), (109 : Int32), (108 : Int32), (62 : Int32), (10 : Int32)] ++ [60, 47]) ++ []) ++ [62, 10]) ++ [60, 47]) ++ [ce]) ++ [62, 10]) : List Int32), ¬ c < 0 := by
    intro c hc
    simp only [List.mem_append, List.mem_cons, List.not_mem_nil, or_false, false_or] at hc
    rcases hc with (((((rfl | rfl | rfl | rfl | rfl | rfl | rfl | rfl | rfl | rfl | rfl | rfl | rfl | rfl | rfl | rfl) | (rfl | rfl)) | (rfl | rfl)) | (rfl | rfl)) | rfl) | (rfl | rfl)
    all_goals first | decide | exact hc0.1 | exact hc1.1 | exact hc2.1 | exact hce.1
  obtain ⟨cq494, kq494, q494a, q494b, q494c⟩ := isOf hZ489 rfl E_b472
  obtain ⟨_, _, ⟨T494, L494, kk494, n494⟩, -, X494, ⟨Lc494, hQ494, l494, y494, z494⟩, st494⟩ := X489.virtualBack hx (y := (⟨"com/example/usko/usko/server/Html", "toBytes", "()[B"⟩ : MethodName)) (z := (⟨"com/example/usko/usko/server/Html", "toBytes", "()[B"⟩ : MethodName)) hown489 (mvT hZ489 (hw _ (gm 125 rfl))) (mvT hZ489 (hw _ (gm 126 rfl))) (notFace_of_selects (args := #[]) (mvT hZ489 (hw _ (gm 128 rfl)))) (mvT hZ489 (hw _ (gm 128 rfl))) (mvT hZ489 (hw _ (gm 127 rfl))) (by decide) (backOf (W := 0) (rmTO l Z a0 hw [] b472 u8 sb tb kb 32 (((((([(60 : Int32), (33 : Int32), (68 : Int32), (79 : Int32), (67 : Int32), (84 : Int32), (89 : Int32), (80 : Int32), (69 : Int32), (32 : Int32), (104 : Int32), (116 : Int32), (109 : Int32), (108 : Int32), (62 : Int32), (10 : Int32)] ++ [60, 47]) ++ []) ++ [62, 10]) ++ [60, 47]) ++ [ce]) ++ [62, 10]) zC T489.heap n0 O492 SC hzC SI SU Fo E_sb Fc489 Fv489 Fn489 V489 (Nat.le_of_ble_eq_true rfl) (by decide) hpos) hZ489 (hw _ (gm 129 rfl)) (hw _ (gm 39 rfl)) (by decide) (by decide)) q494a q494c (g := (mkF m 173 #[vI p1, vI p2, vI p3, vI p4, vI p5, vI 0, vI c0, vI c1, vI c2, vI ce, vR b449, vR b455, vR b467, vR b472, vR b472, vR b472, vU, vU] [(.ref b472)])) rfl (by rw [hml]; rfl) (Steps.refl _) (argsL := []) (rest := []) (lenOf pd_17 rfl) rfl (by show 2 * 0 + _ ≤ _; exact Nat.le_of_eq rfl) (hb hby at_173) (fun _ _ => ⟨rfl, rfl, (by decide : 21 + 3 ≤ _), (by decide : 170 + 68 ≤ _)⟩)
  dsimp only [Pt.U, Pt.locs, Pt.cells, Pt.slots] at X494 l494 y494 z494 st494 hQ494
  subst l494 y494 z494
  obtain ⟨y494, ky494, rfl, Nq494, E494, z494, V494⟩ := hQ494
  have N494 := Fr.app N489 Nq494
  have k495 : Rch p e below S0 T494 (mkF m 176 #[vI p1, vI p2, vI p3, vI p4, vI p5, vI 0, vI c0, vI c1, vI c2, vI ce, vR b449, vR b455, vR b467, vR b472, vR b472, vR b472, vU, vU] [(.ref y494)]) := fun t h => k493 t (st494.trans h)
  have hC496 := hC491.ext E494
  have rC496 := rC491.trans (CHr.ext E494 hC491)
  have O497 := O492.ext E494
  have hkk498 := Nat.le_trans hk489 E494.1
  have Vz : Arv Z T494.heap y494 ky494 .byte (25 : Int32) [(.int (60 : Int32)), (.int (33 : Int32)), (.int (68 : Int32)), (.int (79 : Int32)), (.int (67 : Int32)), (.int (84 : Int32)), (.int (89 : Int32)), (.int (80 : Int32)), (.int (69 : Int32)), (.int (32 : Int32)), (.int (104 : Int32)), (.int (116 : Int32)), (.int (109 : Int32)), (.int (108 : Int32)), (.int (62 : Int32)), (.int (10 : Int32)), (.int (60 : Int32)), (.int (47 : Int32)), (.int (62 : Int32)), (.int (10 : Int32)), (.int (60 : Int32)), (.int (47 : Int32)), (.int ce), (.int (62 : Int32)), (.int (10 : Int32))] (.int (0 : Int32)) := V494
  have Vp : Arv Z T494.heap y494 ky494 .byte (Int32.ofNat 25) (([(60 : Int32), (33 : Int32), (68 : Int32), (79 : Int32), (67 : Int32), (84 : Int32), (89 : Int32), (80 : Int32), (69 : Int32), (32 : Int32), (104 : Int32), (116 : Int32), (109 : Int32), (108 : Int32), (62 : Int32), (10 : Int32)] ++ [60, 47, 62, 10, 60, 47, ce, 62, 10]).map Value.int) (.int (0 : Int32)) := V494
  clear hpos
  have k500 : Rch p e below S0 T494 (mkF m 180 #[vI p1, vI p2, vI p3, vI p4, vI p5, vI 0, vI c0, vI c1, vI c2, vI ce, vR b449, vR b455, vR b467, vR b472, vR b472, vR b472, vR y494, vU] [(.ref y494)]) := fun t h => k495 t (by
      show Steps p.tables e below (T494.setTop (mkF m 176 #[vI p1, vI p2, vI p3, vI p4, vI p5, vI 0, vI c0, vI c1, vI c2, vI ce, vR b449, vR b455, vR b467, vR b472, vR b472, vR b472, vU, vU] [(.ref y494)])) _
      refine XS.astore X494.here hx rfl (hb hby at_176) rfl rfl (l' := #[vI p1, vI p2, vI p3, vI p4, vI p5, vI 0, vI c0, vI c1, vI c2, vI ce, vR b449, vR b455, vR b467, vR b472, vR b472, vR b472, vR y494, vU]) rfl ?_
      refine XS.aload X494.here hx rfl (hb hby at_178) rfl rfl ?_
      exact h)
  obtain ⟨cl499, Ar499, q499, Sz499, Ng499, Hs499, G499⟩ := id Vz
  have k501 : Rch p e below S0 T494 (mkF m 193 #[vI p1, vI p2, vI p3, vI p4, vI p5, vI 0, vI c0, vI c1, vI c2, vI ce, vR b449, vR b455, vR b467, vR b472, vR b472, vR b472, vR y494, vU] [(.ref y494)]) := fun t h => k500 t (by
      show Steps p.tables e below (T494.setTop (mkF m 180 #[vI p1, vI p2, vI p3, vI p4, vI p5, vI 0, vI c0, vI c1, vI c2, vI ce, vR b449, vR b455, vR b467, vR b472, vR b472, vR b472, vR y494, vU] [(.ref y494)])) _
      refine X494.arraylength hx (by exact Ar499.1) (State.isArrayOf_alike hZ489.alike Ar499.2.1) (g := (mkF m 180 #[vI p1, vI p2, vI p3, vI p4, vI p5, vI 0, vI c0, vI c1, vI c2, vI ce, vR b449, vR b455, vR b467, vR b472, vR b472, vR b472, vR y494, vU] [(.ref y494)])) rfl rfl (hb hby at_180) _ ?_
      rw [len_of Sz499 Ng499]
      refine XS.bipush X494.here hx rfl (hb hby at_181) ?_
      refine XS.iload X494.here hx rfl (hb hby at_183) rfl ?_
      show Steps p.tables e below (T494.setTop (mkF m 185 #[vI p1, vI p2, vI p3, vI p4, vI p5, vI 0, vI c0, vI c1, vI c2, vI ce, vR b449, vR b455, vR b467, vR b472, vR b472, vR b472, vR y494, vU] [(.int (0 : Int32)), (.int (25 : Int32)), (.int (25 : Int32))])) _
      refine XS.iadd X494.here hx rfl (hb hby at_185) rfl ?_
      rw [(by decide : ((25 : Int32) + (0 : Int32)) = (25 : Int32))]
      refine XS.icmpYes X494.here hx rfl (pc0 := 186) (pc' := 191) rfl (hb hby at_186) rfl (teq (by decide : (25 : Int32) = (25 : Int32))).1 (by decide) (by decide) ?_
      refine XS.aload X494.here hx rfl (hb hby at_191) rfl rfl ?_
      exact h)
  obtain ⟨_, _, ⟨T502, L502, kk502, n502⟩, -, X502, ⟨Lc502, hQ502, l502, y502, z502⟩, st502⟩ := Jvm.LawKit.callS X494 hx (y := (⟨"com/example/usko/usko/server/HtmlClosePinLaw", "prefix", "([B)Z"⟩ : MethodName)) hown489 (mvT hZ489 (hw _ (gm 206 rfl))) (mvT hZ489 (hw _ (gm 207 rfl))) (mvT hZ489 (hw _ (gm 208 rfl))) (mvT hZ489 (hw _ (gm 209 rfl))) (by decide) (backOf (W := 0) (rmPX l Z a0 hw [] y494 ky494 25 [60, 47, 62, 10, 60, 47, ce, 62, 10] T494.heap n0 O497 Vp (by decide) (by decide)) hZ489 (hw _ (gm 209 rfl)) (hw _ (gm 208 rfl)) (by decide) (by decide)) (g := (mkF m 193 #[vI p1, vI p2, vI p3, vI p4, vI p5, vI 0, vI c0, vI c1, vI c2, vI ce, vR b449, vR b455, vR b467, vR b472, vR b472, vR b472, vR y494, vU] [(.ref y494)])) rfl (by rw [hml]; rfl) (argsL := [(.ref y494)]) (rest := []) (lenOf pd_31 rfl) rfl (by show 2 * 0 + _ ≤ _; exact Nat.le_of_eq rfl) (hb hby at_193) (fun _ _ => ⟨rfl, rfl, (by decide : 24 + 0 ≤ _), (by decide : 238 + 0 ≤ _)⟩)
  dsimp only [Pt.U, Pt.locs, Pt.cells, Pt.slots] at X502 l502 y502 z502 st502 hQ502
  subst l502 y502 z502
  obtain ⟨rfl, Nq502, hh502⟩ := hQ502
  have N502 := Fr.app N494 Nq502
  have k503 : Rch p e below S0 T502 (mkF m 196 #[vI p1, vI p2, vI p3, vI p4, vI p5, vI 0, vI c0, vI c1, vI c2, vI ce, vR b449, vR b455, vR b467, vR b472, vR b472, vR b472, vR y494, vU] [(.int (1 : Int32))]) := fun t h => k501 t (st502 t h)
  obtain ⟨lo502, Y502, M502⟩ : ∃ lo, Stand p l e room_1 (s.setVm T489.vm) m #[(.int p1), (.int p2), (.int p3), (.int p4), (.int p5)] below meth c T502 lo 24 238 ∧ Fr n0 lo := ⟨_, X502, N502⟩
  clear X502 N502
  have k505 : Rch p e below S0 T502 (mkF m 205 #[vI p1, vI p2, vI p3, vI p4, vI p5, vI 0, vI c0, vI c1, vI c2, vI ce, vR b449, vR b455, vR b467, vR b472, vR b472, vR b472, vR y494, vU] [(.int (16 : Int32)), (.ref y494)]) := fun t h => k503 t (by
      show Steps p.tables e below (T502.setTop (mkF m 196 #[vI p1, vI p2, vI p3, vI p4, vI p5, vI 0, vI c0, vI c1, vI c2, vI ce, vR b449, vR b455, vR b467, vR b472, vR b472, vR b472, vR y494, vU] [(.int (1 : Int32))])) _
      refine XS.ifYes Y502.here hx rfl (pc0 := 196) (pc' := 201) rfl (hb hby at_196) rfl ((if0 _ _).trans (feq (by decide : ¬ ((1 : Int32) = (0 : Int32)))).2) (by decide) (by decide) ?_
      refine XS.aload Y502.here hx rfl (hb hby at_201) rfl rfl ?_
      refine XS.bipush Y502.here hx rfl (hb hby at_203) ?_
      show Steps p.tables e below (T502.setTop (mkF m 205 #[vI p1, vI p2, vI p3, vI p4, vI p5, vI 0, vI c0, vI c1, vI c2, vI ce, vR b449, vR b455, vR b467, vR b472, vR b472, vR b472, vR y494, vU] [(.int (16 : Int32)), (.ref y494)])) _
      exact h)
  obtain ⟨cl504, Ar504, q504, Sz504, Ng504, Hs504, G504⟩ := id Vz
  have hin504 : ¬ ((16 : Int32) < 0 ∨ cl504.slots.size ≤ ((16 : Int32)).toNatClampNeg) := inb_of Sz504 ⟨by decide, by decide⟩
  have hat504 : cl504.slots[((16 : Int32)).toNatClampNeg]? = some (.int (60 : Int32)) := Hs504.at hin504 (rfl)
  have k507 : Rch p e below S0 T502 (mkF m 215 #[vI p1, vI p2, vI p3, vI p4, vI p5, vI 0, vI c0, vI c1, vI c2, vI ce, vR b449, vR b455, vR b467, vR b472, vR b472, vR b472, vR y494, vU] [(.int (17 : Int32)), (.ref y494)]) := fun t h => k505 t (by
      show Steps p.tables e below (T502.setTop (mkF m 205 #[vI p1, vI p2, vI p3, vI p4, vI p5, vI 0, vI c0, vI c1, vI c2, vI ce, vR b449, vR b455, vR b467, vR b472, vR b472, vR b472, vR y494, vU] [(.int (16 : Int32)), (.ref y494)])) _
      refine Y502.baloadBytes hx (j := (16 : Int32)) (v := (.int (60 : Int32))) (by rw [hh502]; exact Ar504.1) (State.isArrayOf_alike hZ489.alike Ar504.2.1) Ar504.2.2 hin504 hat504 (g := (mkF m 205 #[vI p1, vI p2, vI p3, vI p4, vI p5, vI 0, vI c0, vI c1, vI c2, vI ce, vR b449, vR b455, vR b467, vR b472, vR b472, vR b472, vR y494, vU] [(.int (16 : Int32)), (.ref y494)])) rfl rfl (hb hby at_205) _ ?_
      refine XS.bipush Y502.here hx rfl (hb hby at_206) ?_
      refine XS.icmpNo Y502.here hx rfl (hb hby at_208) rfl (teq (by decide : (60 : Int32) = (60 : Int32))).2 ?_
      refine XS.aload Y502.here hx rfl (hb hby at_211) rfl rfl ?_
      refine XS.bipush Y502.here hx rfl (hb hby at_213) ?_
      exact h)
  obtain ⟨cl506, Ar506, q506, Sz506, Ng506, Hs506, G506⟩ := id Vz
  have hin506 : ¬ ((17 : Int32) < 0 ∨ cl506.slots.size ≤ ((17 : Int32)).toNatClampNeg) := inb_of Sz506 ⟨by decide, by decide⟩
  have hat506 : cl506.slots[((17 : Int32)).toNatClampNeg]? = some (.int (47 : Int32)) := Hs506.at hin506 (rfl)
  have k509 : Rch p e below S0 T502 (mkF m 287 #[vI p1, vI p2, vI p3, vI p4, vI p5, vI 0, vI c0, vI c1, vI c2, vI ce, vR b449, vR b455, vR b467, vR b472, vR b472, vR b472, vR y494, vI 18] [(.int (18 : Int32)), (.ref y494)]) := fun t h => k507 t (by
      show Steps p.tables e below (T502.setTop (mkF m 215 #[vI p1, vI p2, vI p3, vI p4, vI p5, vI 0, vI c0, vI c1, vI c2, vI ce, vR b449, vR b455, vR b467, vR b472, vR b472, vR b472, vR y494, vU] [(.int (17 : Int32)), (.ref y494)])) _
      refine Y502.baloadBytes hx (j := (17 : Int32)) (v := (.int (47 : Int32))) (by rw [hh502]; exact Ar506.1) (State.isArrayOf_alike hZ489.alike Ar506.2.1) Ar506.2.2 hin506 hat506 (g := (mkF m 215 #[vI p1, vI p2, vI p3, vI p4, vI p5, vI 0, vI c0, vI c1, vI c2, vI ce, vR b449, vR b455, vR b467, vR b472, vR b472, vR b472, vR y494, vU] [(.int (17 : Int32)), (.ref y494)])) rfl rfl (hb hby at_215) _ ?_
      refine XS.bipush Y502.here hx rfl (hb hby at_216) ?_
      refine XS.icmpYes Y502.here hx rfl (pc0 := 218) (pc' := 223) rfl (hb hby at_218) rfl (teq (by decide : (47 : Int32) = (47 : Int32))).1 (by decide) (by decide) ?_
      refine XS.iload Y502.here hx rfl (hb hby at_223) rfl ?_
      refine XS.ifYes Y502.here hx rfl (pc0 := 225) (pc' := 240) rfl (hb hby at_225) rfl ((if0 _ _).trans (flt (by decide : ¬ ((0 : Int32) < (0 : Int32)))).2.2.2) (by decide) (by decide) ?_
      refine XS.iload Y502.here hx rfl (hb hby at_240) rfl ?_
      refine XS.iconst Y502.here hx rfl (hb hby at_242) ?_
      refine XS.icmpYes Y502.here hx rfl (pc0 := 243) (pc' := 258) rfl (hb hby at_243) rfl (flt (by decide : ¬ ((1 : Int32) < (0 : Int32)))).2.2.2 (by decide) (by decide) ?_
      refine XS.iload Y502.here hx rfl (hb hby at_258) rfl ?_
      refine XS.iconst Y502.here hx rfl (hb hby at_260) ?_
      refine XS.icmpYes Y502.here hx rfl (pc0 := 261) (pc' := 276) rfl (hb hby at_261) rfl (flt (by decide : ¬ ((2 : Int32) < (0 : Int32)))).2.2.2 (by decide) (by decide) ?_
      refine XS.bipush Y502.here hx rfl (hb hby at_276) ?_
      refine XS.iload Y502.here hx rfl (hb hby at_278) rfl ?_
      show Steps p.tables e below (T502.setTop (mkF m 280 #[vI p1, vI p2, vI p3, vI p4, vI p5, vI 0, vI c0, vI c1, vI c2, vI ce, vR b449, vR b455, vR b467, vR b472, vR b472, vR b472, vR y494, vU] [(.int (0 : Int32)), (.int (18 : Int32))])) _
      refine XS.iadd Y502.here hx rfl (hb hby at_280) rfl ?_
      rw [(by decide : ((18 : Int32) + (0 : Int32)) = (18 : Int32))]
      refine XS.istore Y502.here hx rfl (hb hby at_281) rfl (l' := #[vI p1, vI p2, vI p3, vI p4, vI p5, vI 0, vI c0, vI c1, vI c2, vI ce, vR b449, vR b455, vR b467, vR b472, vR b472, vR b472, vR y494, vI 18]) rfl ?_
      refine XS.aload Y502.here hx rfl (hb hby at_283) rfl rfl ?_
      refine XS.iload Y502.here hx rfl (hb hby at_285) rfl ?_
      exact h)
  obtain ⟨cl508, Ar508, q508, Sz508, Ng508, Hs508, G508⟩ := id Vz
  have hin508 : ¬ ((18 : Int32) < 0 ∨ cl508.slots.size ≤ ((18 : Int32)).toNatClampNeg) := inb_of Sz508 ⟨by decide, by decide⟩
  have hat508 : cl508.slots[((18 : Int32)).toNatClampNeg]? = some (.int (62 : Int32)) := Hs508.at hin508 (rfl)
  have k511 : Rch p e below S0 T502 (mkF m 299 #[vI p1, vI p2, vI p3, vI p4, vI p5, vI 0, vI c0, vI c1, vI c2, vI ce, vR b449, vR b455, vR b467, vR b472, vR b472, vR b472, vR y494, vI 18] [(.int (19 : Int32)), (.ref y494)]) := fun t h => k509 t (by
      show Steps p.tables e below (T502.setTop (mkF m 287 #[vI p1, vI p2, vI p3, vI p4, vI p5, vI 0, vI c0, vI c1, vI c2, vI ce, vR b449, vR b455, vR b467, vR b472, vR b472, vR b472, vR y494, vI 18] [(.int (18 : Int32)), (.ref y494)])) _
      refine Y502.baloadBytes hx (j := (18 : Int32)) (v := (.int (62 : Int32))) (by rw [hh502]; exact Ar508.1) (State.isArrayOf_alike hZ489.alike Ar508.2.1) Ar508.2.2 hin508 hat508 (g := (mkF m 287 #[vI p1, vI p2, vI p3, vI p4, vI p5, vI 0, vI c0, vI c1, vI c2, vI ce, vR b449, vR b455, vR b467, vR b472, vR b472, vR b472, vR y494, vI 18] [(.int (18 : Int32)), (.ref y494)])) rfl rfl (hb hby at_287) _ ?_
      refine XS.bipush Y502.here hx rfl (hb hby at_288) ?_
      refine XS.icmpNo Y502.here hx rfl (hb hby at_290) rfl (teq (by decide : (62 : Int32) = (62 : Int32))).2 ?_
      refine XS.aload Y502.here hx rfl (hb hby at_293) rfl rfl ?_
      refine XS.iload Y502.here hx rfl (hb hby at_295) rfl ?_
      refine XS.iconst Y502.here hx rfl (hb hby at_297) ?_
      show Steps p.tables e below (T502.setTop (mkF m 298 #[vI p1, vI p2, vI p3, vI p4, vI p5, vI 0, vI c0, vI c1, vI c2, vI ce, vR b449, vR b455, vR b467, vR b472, vR b472, vR b472, vR y494, vI 18] [(.int (1 : Int32)), (.int (18 : Int32)), (.ref y494)])) _
      refine XS.iadd Y502.here hx rfl (hb hby at_298) rfl ?_
      rw [(by decide : ((18 : Int32) + (1 : Int32)) = (19 : Int32))]
      exact h)
  obtain ⟨cl510, Ar510, q510, Sz510, Ng510, Hs510, G510⟩ := id Vz
  have hin510 : ¬ ((19 : Int32) < 0 ∨ cl510.slots.size ≤ ((19 : Int32)).toNatClampNeg) := inb_of Sz510 ⟨by decide, by decide⟩
  have hat510 : cl510.slots[((19 : Int32)).toNatClampNeg]? = some (.int (10 : Int32)) := Hs510.at hin510 (rfl)
  have k513 : Rch p e below S0 T502 (mkF m 311 #[vI p1, vI p2, vI p3, vI p4, vI p5, vI 0, vI c0, vI c1, vI c2, vI ce, vR b449, vR b455, vR b467, vR b472, vR b472, vR b472, vR y494, vI 18] [(.int (20 : Int32)), (.ref y494)]) := fun t h => k511 t (by
      show Steps p.tables e below (T502.setTop (mkF m 299 #[vI p1, vI p2, vI p3, vI p4, vI p5, vI 0, vI c0, vI c1, vI c2, vI ce, vR b449, vR b455, vR b467, vR b472, vR b472, vR b472, vR y494, vI 18] [(.int (19 : Int32)), (.ref y494)])) _
      refine Y502.baloadBytes hx (j := (19 : Int32)) (v := (.int (10 : Int32))) (by rw [hh502]; exact Ar510.1) (State.isArrayOf_alike hZ489.alike Ar510.2.1) Ar510.2.2 hin510 hat510 (g := (mkF m 299 #[vI p1, vI p2, vI p3, vI p4, vI p5, vI 0, vI c0, vI c1, vI c2, vI ce, vR b449, vR b455, vR b467, vR b472, vR b472, vR b472, vR y494, vI 18] [(.int (19 : Int32)), (.ref y494)])) rfl rfl (hb hby at_299) _ ?_
      refine XS.bipush Y502.here hx rfl (hb hby at_300) ?_
      refine XS.icmpNo Y502.here hx rfl (hb hby at_302) rfl (teq (by decide : (10 : Int32) = (10 : Int32))).2 ?_
      refine XS.aload Y502.here hx rfl (hb hby at_305) rfl rfl ?_
      refine XS.iload Y502.here hx rfl (hb hby at_307) rfl ?_
      refine XS.iconst Y502.here hx rfl (hb hby at_309) ?_
      show Steps p.tables e below (T502.setTop (mkF m 310 #[vI p1, vI p2, vI p3, vI p4, vI p5, vI 0, vI c0, vI c1, vI c2, vI ce, vR b449, vR b455, vR b467, vR b472, vR b472, vR b472, vR y494, vI 18] [(.int (2 : Int32)), (.int (18 : Int32)), (.ref y494)])) _
      refine XS.iadd Y502.here hx rfl (hb hby at_310) rfl ?_
      rw [(by decide : ((18 : Int32) + (2 : Int32)) = (20 : Int32))]
      exact h)
  obtain ⟨cl512, Ar512, q512, Sz512, Ng512, Hs512, G512⟩ := id Vz
  have hin512 : ¬ ((20 : Int32) < 0 ∨ cl512.slots.size ≤ ((20 : Int32)).toNatClampNeg) := inb_of Sz512 ⟨by decide, by decide⟩
  have hat512 : cl512.slots[((20 : Int32)).toNatClampNeg]? = some (.int (60 : Int32)) := Hs512.at hin512 (rfl)
  have k515 : Rch p e below S0 T502 (mkF m 323 #[vI p1, vI p2, vI p3, vI p4, vI p5, vI 0, vI c0, vI c1, vI c2, vI ce, vR b449, vR b455, vR b467, vR b472, vR b472, vR b472, vR y494, vI 18] [(.int (21 : Int32)), (.ref y494)]) := fun t h => k513 t (by
      show Steps p.tables e below (T502.setTop (mkF m 311 #[vI p1, vI p2, vI p3, vI p4, vI p5, vI 0, vI c0, vI c1, vI c2, vI ce, vR b449, vR b455, vR b467, vR b472, vR b472, vR b472, vR y494, vI 18] [(.int (20 : Int32)), (.ref y494)])) _
      refine Y502.baloadBytes hx (j := (20 : Int32)) (v := (.int (60 : Int32))) (by rw [hh502]; exact Ar512.1) (State.isArrayOf_alike hZ489.alike Ar512.2.1) Ar512.2.2 hin512 hat512 (g := (mkF m 311 #[vI p1, vI p2, vI p3, vI p4, vI p5, vI 0, vI c0, vI c1, vI c2, vI ce, vR b449, vR b455, vR b467, vR b472, vR b472, vR b472, vR y494, vI 18] [(.int (20 : Int32)), (.ref y494)])) rfl rfl (hb hby at_311) _ ?_
      refine XS.bipush Y502.here hx rfl (hb hby at_312) ?_
      refine XS.icmpNo Y502.here hx rfl (hb hby at_314) rfl (teq (by decide : (60 : Int32) = (60 : Int32))).2 ?_
      refine XS.aload Y502.here hx rfl (hb hby at_317) rfl rfl ?_
      refine XS.iload Y502.here hx rfl (hb hby at_319) rfl ?_
      refine XS.iconst Y502.here hx rfl (hb hby at_321) ?_
      show Steps p.tables e below (T502.setTop (mkF m 322 #[vI p1, vI p2, vI p3, vI p4, vI p5, vI 0, vI c0, vI c1, vI c2, vI ce, vR b449, vR b455, vR b467, vR b472, vR b472, vR b472, vR y494, vI 18] [(.int (3 : Int32)), (.int (18 : Int32)), (.ref y494)])) _
      refine XS.iadd Y502.here hx rfl (hb hby at_322) rfl ?_
      rw [(by decide : ((18 : Int32) + (3 : Int32)) = (21 : Int32))]
      exact h)
  obtain ⟨cl514, Ar514, q514, Sz514, Ng514, Hs514, G514⟩ := id Vz
  have hin514 : ¬ ((21 : Int32) < 0 ∨ cl514.slots.size ≤ ((21 : Int32)).toNatClampNeg) := inb_of Sz514 ⟨by decide, by decide⟩
  have hat514 : cl514.slots[((21 : Int32)).toNatClampNeg]? = some (.int (47 : Int32)) := Hs514.at hin514 (rfl)
  have k517 : Rch p e below S0 T502 (mkF m 335 #[vI p1, vI p2, vI p3, vI p4, vI p5, vI 0, vI c0, vI c1, vI c2, vI ce, vR b449, vR b455, vR b467, vR b472, vR b472, vR b472, vR y494, vI 18] [(.int (22 : Int32)), (.ref y494)]) := fun t h => k515 t (by
      show Steps p.tables e below (T502.setTop (mkF m 323 #[vI p1, vI p2, vI p3, vI p4, vI p5, vI 0, vI c0, vI c1, vI c2, vI ce, vR b449, vR b455, vR b467, vR b472, vR b472, vR b472, vR y494, vI 18] [(.int (21 : Int32)), (.ref y494)])) _
      refine Y502.baloadBytes hx (j := (21 : Int32)) (v := (.int (47 : Int32))) (by rw [hh502]; exact Ar514.1) (State.isArrayOf_alike hZ489.alike Ar514.2.1) Ar514.2.2 hin514 hat514 (g := (mkF m 323 #[vI p1, vI p2, vI p3, vI p4, vI p5, vI 0, vI c0, vI c1, vI c2, vI ce, vR b449, vR b455, vR b467, vR b472, vR b472, vR b472, vR y494, vI 18] [(.int (21 : Int32)), (.ref y494)])) rfl rfl (hb hby at_323) _ ?_
      refine XS.bipush Y502.here hx rfl (hb hby at_324) ?_
      refine XS.icmpNo Y502.here hx rfl (hb hby at_326) rfl (teq (by decide : (47 : Int32) = (47 : Int32))).2 ?_
      refine XS.aload Y502.here hx rfl (hb hby at_329) rfl rfl ?_
      refine XS.iload Y502.here hx rfl (hb hby at_331) rfl ?_
      refine XS.iconst Y502.here hx rfl (hb hby at_333) ?_
      show Steps p.tables e below (T502.setTop (mkF m 334 #[vI p1, vI p2, vI p3, vI p4, vI p5, vI 0, vI c0, vI c1, vI c2, vI ce, vR b449, vR b455, vR b467, vR b472, vR b472, vR b472, vR y494, vI 18] [(.int (4 : Int32)), (.int (18 : Int32)), (.ref y494)])) _
      refine XS.iadd Y502.here hx rfl (hb hby at_334) rfl ?_
      rw [(by decide : ((18 : Int32) + (4 : Int32)) = (22 : Int32))]
      exact h)
  obtain ⟨cl516, Ar516, q516, Sz516, Ng516, Hs516, G516⟩ := id Vz
  have hin516 : ¬ ((22 : Int32) < 0 ∨ cl516.slots.size ≤ ((22 : Int32)).toNatClampNeg) := inb_of Sz516 ⟨by decide, by decide⟩
  have hat516 : cl516.slots[((22 : Int32)).toNatClampNeg]? = some (.int ce) := Hs516.at hin516 (rfl)
  have k519 : Rch p e below S0 T502 (mkF m 347 #[vI p1, vI p2, vI p3, vI p4, vI p5, vI 0, vI c0, vI c1, vI c2, vI ce, vR b449, vR b455, vR b467, vR b472, vR b472, vR b472, vR y494, vI 18] [(.int (23 : Int32)), (.ref y494)]) := fun t h => k517 t (by
      show Steps p.tables e below (T502.setTop (mkF m 335 #[vI p1, vI p2, vI p3, vI p4, vI p5, vI 0, vI c0, vI c1, vI c2, vI ce, vR b449, vR b455, vR b467, vR b472, vR b472, vR b472, vR y494, vI 18] [(.int (22 : Int32)), (.ref y494)])) _
      refine Y502.baloadBytes hx (j := (22 : Int32)) (v := (.int ce)) (by rw [hh502]; exact Ar516.1) (State.isArrayOf_alike hZ489.alike Ar516.2.1) Ar516.2.2 hin516 hat516 (g := (mkF m 335 #[vI p1, vI p2, vI p3, vI p4, vI p5, vI 0, vI c0, vI c1, vI c2, vI ce, vR b449, vR b455, vR b467, vR b472, vR b472, vR b472, vR y494, vI 18] [(.int (22 : Int32)), (.ref y494)])) rfl rfl (hb hby at_335) _ ?_
      refine XS.iload Y502.here hx rfl (hb hby at_336) rfl ?_
      refine XS.icmpNo Y502.here hx rfl (hb hby at_338) rfl (teq (rfl : ce = ce)).2 ?_
      refine XS.aload Y502.here hx rfl (hb hby at_341) rfl rfl ?_
      refine XS.iload Y502.here hx rfl (hb hby at_343) rfl ?_
      refine XS.iconst Y502.here hx rfl (hb hby at_345) ?_
      show Steps p.tables e below (T502.setTop (mkF m 346 #[vI p1, vI p2, vI p3, vI p4, vI p5, vI 0, vI c0, vI c1, vI c2, vI ce, vR b449, vR b455, vR b467, vR b472, vR b472, vR b472, vR y494, vI 18] [(.int (5 : Int32)), (.int (18 : Int32)), (.ref y494)])) _
      refine XS.iadd Y502.here hx rfl (hb hby at_346) rfl ?_
      rw [(by decide : ((18 : Int32) + (5 : Int32)) = (23 : Int32))]
      exact h)
  obtain ⟨cl518, Ar518, q518, Sz518, Ng518, Hs518, G518⟩ := id Vz
  have hin518 : ¬ ((23 : Int32) < 0 ∨ cl518.slots.size ≤ ((23 : Int32)).toNatClampNeg) := inb_of Sz518 ⟨by decide, by decide⟩
  have hat518 : cl518.slots[((23 : Int32)).toNatClampNeg]? = some (.int (62 : Int32)) := Hs518.at hin518 (rfl)
  have k521 : Rch p e below S0 T502 (mkF m 360 #[vI p1, vI p2, vI p3, vI p4, vI p5, vI 0, vI c0, vI c1, vI c2, vI ce, vR b449, vR b455, vR b467, vR b472, vR b472, vR b472, vR y494, vI 18] [(.int (24 : Int32)), (.ref y494)]) := fun t h => k519 t (by
      show Steps p.tables e below (T502.setTop (mkF m 347 #[vI p1, vI p2, vI p3, vI p4, vI p5, vI 0, vI c0, vI c1, vI c2, vI ce, vR b449, vR b455, vR b467, vR b472, vR b472, vR b472, vR y494, vI 18] [(.int (23 : Int32)), (.ref y494)])) _
      refine Y502.baloadBytes hx (j := (23 : Int32)) (v := (.int (62 : Int32))) (by rw [hh502]; exact Ar518.1) (State.isArrayOf_alike hZ489.alike Ar518.2.1) Ar518.2.2 hin518 hat518 (g := (mkF m 347 #[vI p1, vI p2, vI p3, vI p4, vI p5, vI 0, vI c0, vI c1, vI c2, vI ce, vR b449, vR b455, vR b467, vR b472, vR b472, vR b472, vR y494, vI 18] [(.int (23 : Int32)), (.ref y494)])) rfl rfl (hb hby at_347) _ ?_
      refine XS.bipush Y502.here hx rfl (hb hby at_348) ?_
      refine XS.icmpNo Y502.here hx rfl (hb hby at_350) rfl (teq (by decide : (62 : Int32) = (62 : Int32))).2 ?_
      show Steps p.tables e below (T502.setTop (mkF m 353 #[vI p1, vI p2, vI p3, vI p4, vI p5, vI 0, vI c0, vI c1, vI c2, vI ce, vR b449, vR b455, vR b467, vR b472, vR b472, vR b472, vR y494, vI 18] [])) _
      refine XS.aload Y502.here hx rfl (hb hby at_353) rfl rfl ?_
      refine XS.iload Y502.here hx rfl (hb hby at_355) rfl ?_
      refine XS.bipush Y502.here hx rfl (hb hby at_357) ?_
      show Steps p.tables e below (T502.setTop (mkF m 359 #[vI p1, vI p2, vI p3, vI p4, vI p5, vI 0, vI c0, vI c1, vI c2, vI ce, vR b449, vR b455, vR b467, vR b472, vR b472, vR b472, vR y494, vI 18] [(.int (6 : Int32)), (.int (18 : Int32)), (.ref y494)])) _
      refine XS.iadd Y502.here hx rfl (hb hby at_359) rfl ?_
      rw [(by decide : ((18 : Int32) + (6 : Int32)) = (24 : Int32))]
      exact h)
  obtain ⟨cl520, Ar520, q520, Sz520, Ng520, Hs520, G520⟩ := id Vz
  have hin520 : ¬ ((24 : Int32) < 0 ∨ cl520.slots.size ≤ ((24 : Int32)).toNatClampNeg) := inb_of Sz520 ⟨by decide, by decide⟩
  have hat520 : cl520.slots[((24 : Int32)).toNatClampNeg]? = some (.int (10 : Int32)) := Hs520.at hin520 (rfl)
  have k522 : Rch p e below S0 T502 (mkF m 371 #[vI p1, vI p2, vI p3, vI p4, vI p5, vI 0, vI c0, vI c1, vI c2, vI ce, vR b449, vR b455, vR b467, vR b472, vR b472, vR b472, vR y494, vI 18] [(.int (1 : Int32))]) := fun t h => k521 t (by
      show Steps p.tables e below (T502.setTop (mkF m 360 #[vI p1, vI p2, vI p3, vI p4, vI p5, vI 0, vI c0, vI c1, vI c2, vI ce, vR b449, vR b455, vR b467, vR b472, vR b472, vR b472, vR y494, vI 18] [(.int (24 : Int32)), (.ref y494)])) _
      refine Y502.baloadBytes hx (j := (24 : Int32)) (v := (.int (10 : Int32))) (by rw [hh502]; exact Ar520.1) (State.isArrayOf_alike hZ489.alike Ar520.2.1) Ar520.2.2 hin520 hat520 (g := (mkF m 360 #[vI p1, vI p2, vI p3, vI p4, vI p5, vI 0, vI c0, vI c1, vI c2, vI ce, vR b449, vR b455, vR b467, vR b472, vR b472, vR b472, vR y494, vI 18] [(.int (24 : Int32)), (.ref y494)])) rfl rfl (hb hby at_360) _ ?_
      refine XS.bipush Y502.here hx rfl (hb hby at_361) ?_
      refine XS.icmpNo Y502.here hx rfl (hb hby at_363) rfl (teq (by decide : (10 : Int32) = (10 : Int32))).2 ?_
      refine XS.iconst Y502.here hx rfl (hb hby at_366) ?_
      refine XS.goto Y502.here hx rfl (pc0 := 367) (pc' := 371) rfl (hb hby at_367) (by decide) (by decide) ?_
      exact h)
  obtain ⟨fs, hr, hrun, hended, hfin⟩ := Y502.leaveW hS489 (by rw [hh502]; exact hkk498) (v := (some (.int (1 : Int32)))) (fun h => by rw [Bd.returns] at h; cases h)
  refine ⟨_, _, ?_, hrun, hended, _, _, rfl, ?_, (by rw [hh]; have q := own_chr rC496 (CHv.at Y502 hZ489 hEL hC496) hh502; exact q), hfin.1, hfin.2.1, hfin.2.2.1, hfin.2.2.2.mono (by decide) (by decide)⟩
  · rw [← hS0]
    refine k522 _ ?_
    show Steps p.tables e below (T502.setTop (mkF m 371 #[vI p1, vI p2, vI p3, vI p4, vI p5, vI 0, vI c0, vI c1, vI c2, vI ce, vR b449, vR b455, vR b467, vR b472, vR b472, vR b472, vR y494, vI 18] [(.int (1 : Int32))])) _
    exact retN Y502 hx (t := .boolean) Bd.returns (by simp) (hb hby at_371) hr
  · show Q_rm0_0 Z  h0 n0 _ T502.heap _
    rw [hh502]
    exact ⟨rfl, M502⟩
def Q_rm0_1 (Z : State)  (h0 : Heap) (n0 : Nat) (v : Option Value) (h : Heap) (L : List Loc) : Prop := v = some (.int (1 : Int32)) ∧ Fr n0 L
set_option maxRecDepth 65536 in
set_option maxHeartbeats 40000000 in
theorem rm0_1 (l : Launch) (Z : State) (a0 : Array Value) (hw : ∀ d ∈ tables_1, d.before a0 Z = true) (ws : List Jvm.Cond) (p1 : Int32) (p2 : Int32) (p3 : Int32) (p4 : Int32) (p5 : Int32) (zC : Int32) (u8 : Addr) (h0 : Heap) (n0 : Nat) (O0 : Old Z n0 h0) (SC : Sta Z Z.heap "java/lang/String" "COMPACT_STRINGS" "Z" (.int zC)) (hzC : ¬ zC = 0) (SI : Sta Z Z.heap "sun/nio/cs/UTF_8" "INSTANCE" "Lsun/nio/cs/UTF_8;" (.ref u8)) (SU : Sta Z Z.heap "java/nio/charset/StandardCharsets" "UTF_8" "Ljava/nio/charset/Charset;" (.ref u8)) (hlen : p1 &&& 3 = (1 : Int32)) :
    MetFree l x (head1 (Jvm.Cond.code x code maxLocals ret :: ws) room_1) (fun a U => a = #[(.int p1), (.int p2), (.int p3), (.int p4), (.int p5)] ∧ Z.Warmed39 U.vm ∧ U.heap = h0 ∧ CHv Z consts_1 U.vm h0) (fun _ _ _ _ _ => True) (fun _ U o U' => ∃ v L, o = .returned v ∧ Q_rm0_1 Z  h0 n0 v U'.heap L ∧ CHr Z consts_1 U.vm U.heap U'.vm U'.heap ∧ ReturnedEndW U o U' L room_1.cells room_1.slots) := by
  refine MetFree.of_bodySF (plainFor_of_name pn_HtmlClosePinLaw) hisR ?_
  intro p e s m args below meth c s₁ Bd hml0 hP hK
  obtain ⟨rfl, hZ, hh, hC0⟩ := hP
  have hx := Bd.exec
  have hby := Bd.bytes
  have hml : c.maxLocals = 18 := hml0
  have hown : s.vm.findClass "com/example/usko/usko/server/HtmlClosePinLaw" = some m.cls := findClass_of_methodNamed Bd.named
  have hnm := (name_of_methodNamed Bd.named Bd.method).1
  have X0 : Stand p l e room_1 (s.setVm s.vm) m #[(.int p1), (.int p2), (.int p3), (.int p4), (.int p5)] below meth c s₁ [] 0 0 := Stand.of_body Bd
  have e0 : s₁.heap = h0 := by rw [← hh, Bd.state]; rfl
  have N0 := Fr.nil n0
  obtain ⟨S0, hS0⟩ : ∃ z, z = s₁.setTop (entryFrame m #[(.int p1), (.int p2), (.int p3), (.int p4), (.int p5)] maxLocals) := ⟨_, rfl⟩
  have k0 : Rch p e below S0 s₁ (mkF m 0 #[vI p1, vI p2, vI p3, vI p4, vI p5, vU, vU, vU, vU, vU, vU, vU, vU, vU, vU, vU, vU, vU] []) := fun t kq => hS0 ▸ castTop (ef_0 m p1 p2 p3 p4 p5) kq
  have hS : s.Since s.vm s.heap.size := (State.WarmedH.refl s).since _
  have hk : s.heap.size ≤ h0.size := by rw [← hh]; exact Nat.le_refl _
  have hwS : ∀ d ∈ Bundle.stringAtoms, d.before a0 Z = true := fun d hd => hw d ((by decide +kernel : ∀ d ∈ Bundle.stringAtoms, d ∈ tables_1) d hd)
  have rC0 : CHr Z consts_1 s.vm h0 s.vm h0 := CHr.refl hC0
  have hEL : EW Z a0 consts_1 := (EW.cons (hw _ (gm 47 rfl)) (by decide +kernel) (EW.cons (hw _ (gm 122 rfl)) (by decide +kernel) (EW.cons (hw _ (gm 124 rfl)) (by decide +kernel) (EW.cons (hw _ (gm 14 rfl)) (by decide +kernel) EW.nil))))
  obtain ⟨c0, ec0⟩ : ∃ z : Int32, p2 &&& (127 : Int32) = z := ⟨_, rfl⟩
  have hc0 : ¬ c0 < 0 ∧ ¬ (127 : Int32) < c0 := ec0 ▸ own_127 p2
  have rc0 : (c0.toUInt32.toUInt16.toUInt32.toInt32) = c0 := (own_nar _ (own_7f8 _ hc0)).2
  obtain ⟨c1, ec1⟩ : ∃ z : Int32, p3 &&& (127 : Int32) = z := ⟨_, rfl⟩
  have hc1 : ¬ c1 < 0 ∧ ¬ (127 : Int32) < c1 := ec1 ▸ own_127 p3
  have rc1 : (c1.toUInt32.toUInt16.toUInt32.toInt32) = c1 := (own_nar _ (own_7f8 _ hc1)).2
  obtain ⟨c2, ec2⟩ : ∃ z : Int32, p4 &&& (127 : Int32) = z := ⟨_, rfl⟩
  have hc2 : ¬ c2 < 0 ∧ ¬ (127 : Int32) < c2 := ec2 ▸ own_127 p4
  have rc2 : (c2.toUInt32.toUInt16.toUInt32.toInt32) = c2 := (own_nar _ (own_7f8 _ hc2)).2
  obtain ⟨ce, ece⟩ : ∃ z : Int32, p5 &&& (127 : Int32) = z := ⟨_, rfl⟩
  have hce : ¬ ce < 0 ∧ ¬ (127 : Int32) < ce := ece ▸ own_127 p5
  have rce : (ce.toUInt32.toUInt16.toUInt32.toInt32) = ce := (own_nar _ (own_7f8 _ hce)).2
  have k524 : Rch p e below S0 s₁ (mkF m 54 #[vI p1, vI p2, vI p3, vI p4, vI p5, vI 1, vI c0, vI c1, vI c2, vI ce, vU, vU, vU, vU, vU, vU, vU, vU] [(.int (1 : Int32))]) := fun t h => k0 t (by
      show Steps p.tables e below (s₁.setTop (mkF m 0 #[vI p1, vI p2, vI p3, vI p4, vI p5, vU, vU, vU, vU, vU, vU, vU, vU, vU, vU, vU, vU, vU] [])) _
      refine XS.iloadN X0.here hx rfl (hb hby at_0) rfl ?_
      refine XS.iconst X0.here hx rfl (hb hby at_1) ?_
      show Steps p.tables e below (s₁.setTop (mkF m 2 #[vI p1, vI p2, vI p3, vI p4, vI p5, vU, vU, vU, vU, vU, vU, vU, vU, vU, vU, vU, vU, vU] [(.int (3 : Int32)), (.int p1)])) _
      refine XS.iand X0.here hx rfl (hb hby at_2) rfl ?_
      rw [hlen]
      refine XS.istore X0.here hx rfl (hb hby at_3) rfl (l' := #[vI p1, vI p2, vI p3, vI p4, vI p5, vI 1, vU, vU, vU, vU, vU, vU, vU, vU, vU, vU, vU, vU]) rfl ?_
      refine XS.iloadN X0.here hx rfl (hb hby at_5) rfl ?_
      refine XS.bipush X0.here hx rfl (hb hby at_6) ?_
      show Steps p.tables e below (s₁.setTop (mkF m 8 #[vI p1, vI p2, vI p3, vI p4, vI p5, vI 1, vU, vU, vU, vU, vU, vU, vU, vU, vU, vU, vU, vU] [(.int (127 : Int32)), (.int p2)])) _
      refine XS.iand X0.here hx rfl (hb hby at_8) rfl ?_
      rw [ec0]
      show Steps p.tables e below (s₁.setTop (mkF m 9 #[vI p1, vI p2, vI p3, vI p4, vI p5, vI 1, vU, vU, vU, vU, vU, vU, vU, vU, vU, vU, vU, vU] [(.int c0)])) _
      refine XS.i2c X0.here hx rfl (hb hby at_9) rfl ?_
      rw [rc0]
      refine XS.istore X0.here hx rfl (hb hby at_10) rfl (l' := #[vI p1, vI p2, vI p3, vI p4, vI p5, vI 1, vI c0, vU, vU, vU, vU, vU, vU, vU, vU, vU, vU, vU]) rfl ?_
      refine XS.iloadN X0.here hx rfl (hb hby at_12) rfl ?_
      refine XS.bipush X0.here hx rfl (hb hby at_13) ?_
      show Steps p.tables e below (s₁.setTop (mkF m 15 #[vI p1, vI p2, vI p3, vI p4, vI p5, vI 1, vI c0, vU, vU, vU, vU, vU, vU, vU, vU, vU, vU, vU] [(.int (127 : Int32)), (.int p3)])) _
      refine XS.iand X0.here hx rfl (hb hby at_15) rfl ?_
      rw [ec1]
      show Steps p.tables e below (s₁.setTop (mkF m 16 #[vI p1, vI p2, vI p3, vI p4, vI p5, vI 1, vI c0, vU, vU, vU, vU, vU, vU, vU, vU, vU, vU, vU] [(.int c1)])) _
      refine XS.i2c X0.here hx rfl (hb hby at_16) rfl ?_
      rw [rc1]
      refine XS.istore X0.here hx rfl (hb hby at_17) rfl (l' := #[vI p1, vI p2, vI p3, vI p4, vI p5, vI 1, vI c0, vI c1, vU, vU, vU, vU, vU, vU, vU, vU, vU, vU]) rfl ?_
      refine XS.iloadN X0.here hx rfl (hb hby at_19) rfl ?_
      refine XS.bipush X0.here hx rfl (hb hby at_20) ?_
      show Steps p.tables e below (s₁.setTop (mkF m 22 #[vI p1, vI p2, vI p3, vI p4, vI p5, vI 1, vI c0, vI c1, vU, vU, vU, vU, vU, vU, vU, vU, vU, vU] [(.int (127 : Int32)), (.int p4)])) _
      refine XS.iand X0.here hx rfl (hb hby at_22) rfl ?_
      rw [ec2]
      show Steps p.tables e below (s₁.setTop (mkF m 23 #[vI p1, vI p2, vI p3, vI p4, vI p5, vI 1, vI c0, vI c1, vU, vU, vU, vU, vU, vU, vU, vU, vU, vU] [(.int c2)])) _
      refine XS.i2c X0.here hx rfl (hb hby at_23) rfl ?_
      rw [rc2]
      refine XS.istore X0.here hx rfl (hb hby at_24) rfl (l' := #[vI p1, vI p2, vI p3, vI p4, vI p5, vI 1, vI c0, vI c1, vI c2, vU, vU, vU, vU, vU, vU, vU, vU, vU]) rfl ?_
      refine XS.iload X0.here hx rfl (hb hby at_26) rfl ?_
      refine XS.bipush X0.here hx rfl (hb hby at_28) ?_
      show Steps p.tables e below (s₁.setTop (mkF m 30 #[vI p1, vI p2, vI p3, vI p4, vI p5, vI 1, vI c0, vI c1, vI c2, vU, vU, vU, vU, vU, vU, vU, vU, vU] [(.int (127 : Int32)), (.int p5)])) _
      refine XS.iand X0.here hx rfl (hb hby at_30) rfl ?_
      rw [ece]
      show Steps p.tables e below (s₁.setTop (mkF m 31 #[vI p1, vI p2, vI p3, vI p4, vI p5, vI 1, vI c0, vI c1, vI c2, vU, vU, vU, vU, vU, vU, vU, vU, vU] [(.int ce)])) _
      refine XS.i2c X0.here hx rfl (hb hby at_31) rfl ?_
      rw [rce]
      refine XS.istore X0.here hx rfl (hb hby at_32) rfl (l' := #[vI p1, vI p2, vI p3, vI p4, vI p5, vI 1, vI c0, vI c1, vI c2, vI ce, vU, vU, vU, vU, vU, vU, vU, vU]) rfl ?_
      refine XS.iload X0.here hx rfl (hb hby at_34) rfl ?_
      refine XS.ifYes X0.here hx rfl (pc0 := 36) (pc' := 47) rfl (hb hby at_36) rfl ((if0 _ _).trans (feq (by decide : ¬ ((1 : Int32) = (0 : Int32)))).2) (by decide) (by decide) ?_
      refine XS.iload X0.here hx rfl (hb hby at_47) rfl ?_
      refine XS.iconst X0.here hx rfl (hb hby at_49) ?_
      refine XS.icmpNo X0.here hx rfl (hb hby at_50) rfl (teq (by decide : (1 : Int32) = (1 : Int32))).2 ?_
      refine XS.iconst X0.here hx rfl (hb hby at_53) ?_
      exact h)
  obtain ⟨T523, h523, k523, X523, e523, E523, A523, st523⟩ := newP X0 hx hZ (hw _ (gm 0 rfl)) e0 (g := (mkF m 54 #[vI p1, vI p2, vI p3, vI p4, vI p5, vI 1, vI c0, vI c1, vI c2, vI ce, vU, vU, vU, vU, vU, vU, vU, vU] [(.int (1 : Int32))])) rfl (hb hby at_54) rfl (by decide) (cap := 1) (by decide) (by decide) (by decide) (by decide)
  obtain ⟨b523, g523⟩ : ∃ z, z = h0.size := ⟨_, rfl⟩
  rw [← g523] at A523 st523
  have k525 : Rch p e below S0 T523 (mkF m 56 #[vI p1, vI p2, vI p3, vI p4, vI p5, vI 1, vI c0, vI c1, vI c2, vI ce, vU, vU, vU, vU, vU, vU, vU, vU] [(.ref b523)]) := fun t h => k524 t (st523 t h)
  have ge_b523 : n0 ≤ b523 := own_ge O0 (Nat.le_of_eq g523.symm)
  have sf_b523 : Safe Z consts_1 s.vm h0 b523 := Safe.new (Nat.le_of_eq g523.symm)
  replace sf_b523 := Safe.ext E523 hC0 sf_b523
  have hC526 := hC0.ext E523
  have rC526 := rC0.trans (CHr.ext E523 hC0)
  have O527 := O0.ext E523
  have hkk528 := Nat.le_trans hk E523.1
  have V_b523 : Arv Z h523 b523 k523 .char (1 : Int32) [(.int (0 : Int32))] (.int (0 : Int32)) := (Arv.new A523 (by decide)).pad (pad_rep [] (.int (0 : Int32)) 1)
  have k530 : Rch p e below S0 T523 (mkF m 60 #[vI p1, vI p2, vI p3, vI p4, vI p5, vI 1, vI c0, vI c1, vI c2, vI ce, vU, vU, vU, vU, vU, vU, vU, vU] [(.int c0), (.int (0 : Int32)), (.ref b523), (.ref b523)]) := fun t h => k525 t (by
      show Steps p.tables e below (T523.setTop (mkF m 56 #[vI p1, vI p2, vI p3, vI p4, vI p5, vI 1, vI c0, vI c1, vI c2, vI ce, vU, vU, vU, vU, vU, vU, vU, vU] [(.ref b523)])) _
      refine XS.dup X523.here hx rfl (hb hby at_56) rfl rfl ?_
      refine XS.iconst X523.here hx rfl (hb hby at_57) ?_
      refine XS.iload X523.here hx rfl (hb hby at_58) rfl ?_
      exact h)
  obtain ⟨cl529, Ar529, q529, Sz529, Ng529, Hs529, G529⟩ := id V_b523
  have hin529 : ¬ ((0 : Int32) < 0 ∨ cl529.slots.size ≤ ((0 : Int32)).toNatClampNeg) := inb_of Sz529 ⟨by decide, by decide⟩
  obtain ⟨T529, h529, X529, e529, W529, st529⟩ := stC X523 hx hZ e523 Ar529 (j := (0 : Int32)) hin529 (g := (mkF m 60 #[vI p1, vI p2, vI p3, vI p4, vI p5, vI 1, vI c0, vI c1, vI c2, vI ce, vU, vU, vU, vU, vU, vU, vU, vU] [(.int c0), (.int (0 : Int32)), (.ref b523), (.ref b523)])) rfl rfl (hb hby at_60)
  have k531 : Rch p e below S0 T529 (mkF m 61 #[vI p1, vI p2, vI p3, vI p4, vI p5, vI 1, vI c0, vI c1, vI c2, vI ce, vU, vU, vU, vU, vU, vU, vU, vU] [(.ref b523)]) := fun t h => k530 t (st529 t h)
  have N529 := Fr.snoc X529 N0 ge_b523
  have V_b523' := Arv.set Ar529 q529 Sz529 Ng529 Hs529 G529 (fits_nar_char _) W529 0 rfl (Nat.le_of_ble_eq_true rfl)
  replace V_b523 : Arv Z h529 b523 k523 .char (1 : Int32) [(.int c0)] (.int (0 : Int32)) := (by have q := V_b523'; rw [(own_nar c0 (own_7f8 _ hc0)).1] at q; exact q)
  have hC532 := hC526.wr W529 sf_b523
  have rC532 := rC526.trans (CHr.wr W529 sf_b523 hC526)
  replace sf_b523 := Safe.wr W529 sf_b523 hC526 sf_b523
  have O533 := O527.wr W529 ge_b523
  have hkk534 := Nat.le_trans hkk528 (Keep.of_wr W529).1
  have k536 : Rch p e below S0 T529 (mkF m 110 #[vI p1, vI p2, vI p3, vI p4, vI p5, vI 1, vI c0, vI c1, vI c2, vI ce, vR b523, vU, vU, vU, vU, vU, vU, vU] []) := fun t h => k531 t (by
      show Steps p.tables e below (T529.setTop (mkF m 61 #[vI p1, vI p2, vI p3, vI p4, vI p5, vI 1, vI c0, vI c1, vI c2, vI ce, vU, vU, vU, vU, vU, vU, vU, vU] [(.ref b523)])) _
      refine XS.astore X529.here hx rfl (hb hby at_61) rfl rfl (l' := #[vI p1, vI p2, vI p3, vI p4, vI p5, vI 1, vI c0, vI c1, vI c2, vI ce, vR b523, vU, vU, vU, vU, vU, vU, vU]) rfl ?_
      refine XS.goto X529.here hx rfl (pc0 := 63) (pc' := 110) rfl (hb hby at_63) (by decide) (by decide) ?_
      exact h)
  obtain ⟨T535, h535, X535, e535, E535, A535, D535, -, st535⟩ := newO X529 hx hZ hown (hw _ (gm 1 rfl)) (hw _ (gm 2 rfl)) (hw _ (gm 3 rfl)) e529 (g := (mkF m 110 #[vI p1, vI p2, vI p3, vI p4, vI p5, vI 1, vI c0, vI c1, vI c2, vI ce, vR b523, vU, vU, vU, vU, vU, vU, vU] [])) rfl (hb hby at_110) (by decide) (by decide)
  obtain ⟨b535, g535⟩ : ∃ z, z = h529.size := ⟨_, rfl⟩
  rw [← g535] at A535 D535 st535
  have k537 : Rch p e below S0 T535 (mkF m 113 #[vI p1, vI p2, vI p3, vI p4, vI p5, vI 1, vI c0, vI c1, vI c2, vI ce, vR b523, vU, vU, vU, vU, vU, vU, vU] [(.ref b535)]) := fun t h => k536 t (st535 t h)
  have ne_b523_b535 : b523 ≠ b535 := own_ne V_b523.lt (Nat.le_of_eq g535.symm)
  have ge_b535 : n0 ≤ b535 := own_ge O533 (Nat.le_of_eq g535.symm)
  have sf_b535 : Safe Z consts_1 s.vm h529 b535 := Safe.new (Nat.le_of_eq g535.symm)
  replace sf_b523 := Safe.ext E535 hC532 sf_b523
  replace sf_b535 := Safe.ext E535 hC532 sf_b535
  have hC538 := hC532.ext E535
  have rC538 := rC532.trans (CHr.ext E535 hC532)
  have O539 := O533.ext E535
  replace V_b523 := V_b523.ext E535
  have hkk540 := Nat.le_trans hkk534 E535.1
  have E_b535 := A535
  have F_b535_value : Fld Z h535 b535 "java/lang/String" "value" "[B" .null := D535 (Or.inr (hw _ (gm 16 rfl))) (ty := (.array .byte)) (by decide)
  have F_b535_coder : Fld Z h535 b535 "java/lang/String" "coder" "B" (.int (0 : Int32)) := D535 (Or.inr (hw _ (gm 17 rfl))) (ty := .byte) (by decide)
  have k541 : Rch p e below S0 T535 (mkF m 116 #[vI p1, vI p2, vI p3, vI p4, vI p5, vI 1, vI c0, vI c1, vI c2, vI ce, vR b523, vU, vU, vU, vU, vU, vU, vU] [(.ref b523), (.ref b535), (.ref b535)]) := fun t h => k537 t (by
      show Steps p.tables e below (T535.setTop (mkF m 113 #[vI p1, vI p2, vI p3, vI p4, vI p5, vI 1, vI c0, vI c1, vI c2, vI ce, vR b523, vU, vU, vU, vU, vU, vU, vU] [(.ref b535)])) _
      refine XS.dup X535.here hx rfl (hb hby at_113) rfl rfl ?_
      refine XS.aload X535.here hx rfl (hb hby at_114) rfl rfl ?_
      exact h)
  have hws : ∀ d ∈ StrChars.Road.words, d.before a0 Z = true := fun d hd => hw d ((by decide +kernel : ∀ d ∈ StrChars.Road.words, d ∈ tables_1) d hd)
  have hp : ∀ c ∈ ([c0] : List Int32), ¬ c < 0 ∧ ¬ (255 : Int32) < c := by
    intro c hc
    simp only [List.mem_cons, List.not_mem_nil, or_false] at hc
    rcases hc with rfl
    · exact own_7f8 _ hc0
  obtain ⟨_, _, ⟨T542, L542, kk542, n542⟩, -, X542, ⟨Lc542, hQ542, l542, y542, z542⟩, st542⟩ := X535.specialBack hx (y := (⟨"java/lang/String", "<init>", "([C)V"⟩ : MethodName)) rfl hown (mvT hZ (hw _ (gm 4 rfl))) (mvT hZ (hw _ (gm 5 rfl))) (mvT hZ (hw _ (gm 6 rfl))) (by decide) (StrChars.Road.backV (W := 1) hZ hws (kI := 4) (hw _ (gm 2 rfl)) (cs := [c0]) (bs := [c0].map (fun c => c.toInt8.toInt32)) (n := 1) ge_b535 (own_le O539) E_b535 F_b535_value F_b535_coder V_b523 (SC.ext O539.2) hzC rfl rfl (by decide) (by decide) hp rfl (by decide) (by decide)) (g := (mkF m 116 #[vI p1, vI p2, vI p3, vI p4, vI p5, vI 1, vI c0, vI c1, vI c2, vI ce, vR b523, vU, vU, vU, vU, vU, vU, vU] [(.ref b523), (.ref b535), (.ref b535)])) rfl (by rw [hml]; rfl) (Steps.refl _) (a := b535) (argsL := [(.ref b523)]) (rest := [(.ref b535)]) (lenOf pd_0 rfl) rfl (by show 2 * 0 + _ ≤ _; exact Nat.le_of_eq rfl) (hb hby at_116) (fun _ _ => ⟨rfl, e535, (by decide : 2 + 1 ≤ _), (by decide : 5 + 1 ≤ _)⟩)
  dsimp only [Pt.U, Pt.locs, Pt.cells, Pt.slots] at X542 l542 y542 z542 st542 hQ542
  subst l542 y542 z542
  obtain ⟨rfl, Nq542, K542, Eb542, Cb542, t542, kb542, u542, v542, ww542, Vb542, Ab542⟩ := hQ542
  have N542 := Fr.app N529 Nq542
  have k543 : Rch p e below S0 T542 (mkF m 119 #[vI p1, vI p2, vI p3, vI p4, vI p5, vI 1, vI c0, vI c1, vI c2, vI ce, vR b523, vU, vU, vU, vU, vU, vU, vU] [(.ref b535)]) := fun t h => k541 t (st542.trans h)
  have hC544 := hC538.keep K542 (sfS sf_b535 sf0)
  have rC544 := rC538.trans (CHr.keep K542 (sfS sf_b535 sf0) hC538)
  have sfx545 := (sfS sf_b535 sf0)
  replace sf_b523 := Safe.keep K542 sfx545 hC538 sf_b523
  replace sf_b535 := Safe.keep K542 sfx545 hC538 sf_b535
  have O546 := O539.keep K542 (allS ge_b535 all0)
  replace V_b523 := V_b523.keep K542 (ninS ne_b523_b535 nin0)
  replace E_b535 := E_b535.keep K542
  have hkk547 := Nat.le_trans hkk540 K542.1
  have At542 : Arv Z T542.heap t542 kb542 .byte (Int32.ofNat ([c0] : List Int32).length) (([c0] : List Int32).map Value.int) (.int (0 : Int32)) := by
    have q := Ab542
    simp only [List.map_cons, List.map_nil, (own_7b _ hc0).1] at q
    exact q
  have k548 : Rch p e below S0 T542 (mkF m 123 #[vI p1, vI p2, vI p3, vI p4, vI p5, vI 1, vI c0, vI c1, vI c2, vI ce, vR b523, vR b535, vU, vU, vU, vU, vU, vU] [(.int ce)]) := fun t h => k543 t (by
      show Steps p.tables e below (T542.setTop (mkF m 119 #[vI p1, vI p2, vI p3, vI p4, vI p5, vI 1, vI c0, vI c1, vI c2, vI ce, vR b523, vU, vU, vU, vU, vU, vU, vU] [(.ref b535)])) _
      refine XS.astore X542.here hx rfl (hb hby at_119) rfl rfl (l' := #[vI p1, vI p2, vI p3, vI p4, vI p5, vI 1, vI c0, vI c1, vI c2, vI ce, vR b523, vR b535, vU, vU, vU, vU, vU, vU]) rfl ?_
      refine XS.iload X542.here hx rfl (hb hby at_121) rfl ?_
      exact h)
  obtain ⟨_, _, ⟨T549, L549, kk549, n549⟩, -, X549, ⟨Lc549, hQ549, l549, y549, z549⟩, st549⟩ := Jvm.LawKit.callS X542 hx (y := (⟨"java/lang/String", "valueOf", "(C)Ljava/lang/String;"⟩ : MethodName)) hown (mvT hZ (hw _ (gm 22 rfl))) (mvT hZ (hw _ (gm 23 rfl))) (mvT hZ (hw _ (gm 3 rfl))) (mvT hZ (hw _ (gm 24 rfl))) (by decide) (backOf (W := 0) (rmVO l Z a0 hw [] ce zC T542.heap n0 O546 SC hzC hce) hZ (hw _ (gm 24 rfl)) (hw _ (gm 3 rfl)) (by decide) (by decide)) (g := (mkF m 123 #[vI p1, vI p2, vI p3, vI p4, vI p5, vI 1, vI c0, vI c1, vI c2, vI ce, vR b523, vR b535, vU, vU, vU, vU, vU, vU] [(.int ce)])) rfl (by rw [hml]; rfl) (argsL := [(.int ce)]) (rest := []) (lenOf pd_3 rfl) rfl (by show 2 * 0 + _ ≤ _; exact Nat.le_of_eq rfl) (hb hby at_123) (fun _ _ => ⟨rfl, rfl, (by decide : 3 + 2 ≤ _), (by decide : 6 + 5 ≤ _)⟩)
  dsimp only [Pt.U, Pt.locs, Pt.cells, Pt.slots] at X549 l549 y549 z549 st549 hQ549
  subst l549 y549 z549
  obtain ⟨b549, y549, ky549, rfl, Nq549, E549, z549, Eb549, zy549, Gv549, Gc549, V549⟩ := hQ549
  have N549 := Fr.app N542 Nq549
  have k550 : Rch p e below S0 T549 (mkF m 126 #[vI p1, vI p2, vI p3, vI p4, vI p5, vI 1, vI c0, vI c1, vI c2, vI ce, vR b523, vR b535, vU, vU, vU, vU, vU, vU] [(.ref b549)]) := fun t h => k548 t (st549 t h)
  have hC551 := hC544.ext E549
  have rC551 := rC544.trans (CHr.ext E549 hC544)
  have O552 := O546.ext E549
  replace E_b535 := E_b535.ext E549
  replace Vb542 := Vb542.ext E549
  replace Cb542 := Cb542.ext E549
  replace At542 := At542.ext E549
  have hkk553 := Nat.le_trans hkk547 E549.1
  have k555 : Rch p e below S0 T549 (mkF m 128 #[vI p1, vI p2, vI p3, vI p4, vI p5, vI 1, vI c0, vI c1, vI c2, vI ce, vR b523, vR b535, vR b549, vU, vU, vU, vU, vU] []) := fun t h => k550 t (by
      show Steps p.tables e below (T549.setTop (mkF m 126 #[vI p1, vI p2, vI p3, vI p4, vI p5, vI 1, vI c0, vI c1, vI c2, vI ce, vR b523, vR b535, vU, vU, vU, vU, vU, vU] [(.ref b549)])) _
      refine XS.astore X549.here hx rfl (hb hby at_126) rfl rfl (l' := #[vI p1, vI p2, vI p3, vI p4, vI p5, vI 1, vI c0, vI c1, vI c2, vI ce, vR b523, vR b535, vR b549, vU, vU, vU, vU, vU]) rfl ?_
      exact h)
  obtain ⟨T554, h554, X554, e554, E554, A554, D554, -, st554⟩ := newO X549 hx hZ hown (hw _ (gm 37 rfl)) (hw _ (gm 38 rfl)) (hw _ (gm 39 rfl)) rfl (g := (mkF m 128 #[vI p1, vI p2, vI p3, vI p4, vI p5, vI 1, vI c0, vI c1, vI c2, vI ce, vR b523, vR b535, vR b549, vU, vU, vU, vU, vU] [])) rfl (hb hby at_128) (by decide) (by decide)
  obtain ⟨b554, g554⟩ : ∃ z, z = T549.heap.size := ⟨_, rfl⟩
  rw [← g554] at A554 D554 st554
  have k556 : Rch p e below S0 T554 (mkF m 131 #[vI p1, vI p2, vI p3, vI p4, vI p5, vI 1, vI c0, vI c1, vI c2, vI ce, vR b523, vR b535, vR b549, vU, vU, vU, vU, vU] [(.ref b554)]) := fun t h => k555 t (st554 t h)
  have ne_b535_b554 : b535 ≠ b554 := own_ne E_b535.lt (Nat.le_of_eq g554.symm)
  have ne_t542_b554 : t542 ≠ b554 := own_ne At542.lt (Nat.le_of_eq g554.symm)
  have ne_b549_b554 : b549 ≠ b554 := own_ne Eb549.lt (Nat.le_of_eq g554.symm)
  have ne_y549_b554 : y549 ≠ b554 := own_ne V549.lt (Nat.le_of_eq g554.symm)
  have ge_b554 : n0 ≤ b554 := own_ge O552 (Nat.le_of_eq g554.symm)
  have sf_b554 : Safe Z consts_1 s.vm T549.heap b554 := Safe.new (Nat.le_of_eq g554.symm)
  replace sf_b554 := Safe.ext E554 hC551 sf_b554
  have hC557 := hC551.ext E554
  have rC557 := rC551.trans (CHr.ext E554 hC551)
  have O558 := O552.ext E554
  replace E_b535 := E_b535.ext E554
  replace Vb542 := Vb542.ext E554
  replace Cb542 := Cb542.ext E554
  replace At542 := At542.ext E554
  replace Eb549 := Eb549.ext E554
  replace Gv549 := Gv549.ext E554
  replace Gc549 := Gc549.ext E554
  replace V549 := V549.ext E554
  have hkk559 := Nat.le_trans hkk553 E554.1
  have E_b554 := A554
  have F_b554_out : Fld Z h554 b554 "com/example/usko/usko/server/Html" "out" "Ljava/lang/StringBuilder;" .null := D554 (Or.inr (hw _ (gm 116 rfl))) (ty := (.object "java/lang/StringBuilder")) (by decide)
  have k560 : Rch p e below S0 T554 (mkF m 132 #[vI p1, vI p2, vI p3, vI p4, vI p5, vI 1, vI c0, vI c1, vI c2, vI ce, vR b523, vR b535, vR b549, vU, vU, vU, vU, vU] [(.ref b554), (.ref b554)]) := fun t h => k556 t (by
      show Steps p.tables e below (T554.setTop (mkF m 131 #[vI p1, vI p2, vI p3, vI p4, vI p5, vI 1, vI c0, vI c1, vI c2, vI ce, vR b523, vR b535, vR b549, vU, vU, vU, vU, vU] [(.ref b554)])) _
      refine XS.dup X554.here hx rfl (hb hby at_131) rfl rfl ?_
      exact h)
  obtain ⟨_, _, ⟨T561, L561, kk561, n561⟩, -, X561, hS561, gr561, ⟨Lc561, hQ561, l561, y561, z561, hR561⟩, st561⟩ := X554.specialBackS hx (y := (⟨"com/example/usko/usko/server/Html", "<init>", "()V"⟩ : MethodName)) rfl hown (mvT hZ (hw _ (gm 40 rfl))) (mvT hZ (hw _ (gm 41 rfl))) (mvT hZ (hw _ (gm 42 rfl))) (by decide) (backOfSH (W := 1) (rmHI l Z a0 hw [] b554 zC h554 n0 O558 SC hzC ge_b554 E_b554 F_b554_out) hZ (hw _ (gm 42 rfl)) (hw _ (gm 39 rfl)) (by decide) (by decide) hEL hC557) (g := (mkF m 132 #[vI p1, vI p2, vI p3, vI p4, vI p5, vI 1, vI c0, vI c1, vI c2, vI ce, vR b523, vR b535, vR b549, vU, vU, vU, vU, vU] [(.ref b554), (.ref b554)])) rfl (by rw [hml]; rfl) (Steps.refl _) (a := b554) (argsL := []) (rest := [(.ref b554)]) (lenOf pd_2 rfl) rfl (by show 2 * 0 + _ ≤ _; exact Nat.le_of_eq rfl) (hb hby at_132) (fun _ _ => ⟨rfl, e554, (by decide : 6 + 4 ≤ _), (by decide : 12 + 104 ≤ _)⟩)
  dsimp only [Pt.U, Pt.locs, Pt.cells, Pt.slots] at X561 l561 y561 z561 st561 hQ561 hS561 gr561 hR561
  subst l561 y561 z561
  have hZ561 : Z.Warmed39 (s.setVm T561.vm).vm := State.Warmed39.trans (t := (s.setVm s.vm)) hZ hS561.1
  have hown561 : (s.setVm T561.vm).vm.findClass "com/example/usko/usko/server/HtmlClosePinLaw" = some m.cls := by rw [show (s.setVm T561.vm).vm = T561.vm from rfl, hS561.1.alike.findClass]; exact hown
  replace hS561 := foldS hS (by rw [e554]; exact hkk559) hS561 gr561
  have hk561 := Nat.le_refl T561.heap.size
  replace X561 : Stand p l e room_1 (s.setVm T561.vm) m #[(.int p1), (.int p2), (.int p3), (.int p4), (.int p5)] below meth c T561 _ _ _ := X561
  obtain ⟨rfl, Nq561, K561, sb, tb, kb, zs561, zt561, ne_sb_tb, E_sb, Fc, Fv, Fn, Vb, Fo⟩ := hQ561
  have N561 := Fr.app N549 Nq561
  have k562 : Rch p e below S0 T561 (mkF m 135 #[vI p1, vI p2, vI p3, vI p4, vI p5, vI 1, vI c0, vI c1, vI c2, vI ce, vR b523, vR b535, vR b549, vU, vU, vU, vU, vU] [(.ref b554)]) := fun t h => k560 t (st561.trans h)
  have ne_b535_sb : b535 ≠ sb := own_ne E_b535.lt zs561
  have ne_t542_sb : t542 ≠ sb := own_ne At542.lt zs561
  have ne_b549_sb : b549 ≠ sb := own_ne Eb549.lt zs561
  have ne_y549_sb : y549 ≠ sb := own_ne V549.lt zs561
  have ne_b554_sb : b554 ≠ sb := own_ne E_b554.lt zs561
  have ge_sb : n0 ≤ sb := own_ge O558 zs561
  have ne_b535_tb : b535 ≠ tb := own_ne E_b535.lt zt561
  have ne_t542_tb : t542 ≠ tb := own_ne At542.lt zt561
  have ne_b549_tb : b549 ≠ tb := own_ne Eb549.lt zt561
  have ne_y549_tb : y549 ≠ tb := own_ne V549.lt zt561
  have ne_b554_tb : b554 ≠ tb := own_ne E_b554.lt zt561
  have ge_tb : n0 ≤ tb := own_ge O558 zt561
  have hC563 := hR561.1
  have rC563 := rC557.trans hR561
  have O564 := O558.keep K561 (allS ge_b554 all0)
  replace E_b535 := E_b535.keep K561
  replace Vb542 := Vb542.keep K561 (ninS ne_b535_b554 nin0)
  replace Cb542 := Cb542.keep K561 (ninS ne_b535_b554 nin0)
  replace At542 := At542.keep K561 (ninS ne_t542_b554 nin0)
  replace Eb549 := Eb549.keep K561
  replace Gv549 := Gv549.keep K561 (ninS ne_b549_b554 nin0)
  replace Gc549 := Gc549.keep K561 (ninS ne_b549_b554 nin0)
  replace V549 := V549.keep K561 (ninS ne_y549_b554 nin0)
  replace E_b554 := E_b554.keep K561
  have k565 : Rch p e below S0 T561 (mkF m 141 #[vI p1, vI p2, vI p3, vI p4, vI p5, vI 1, vI c0, vI c1, vI c2, vI ce, vR b523, vR b535, vR b549, vR b554, vU, vU, vU, vU] [(.ref b535), (.ref b554)]) := fun t h => k562 t (by
      show Steps p.tables e below (T561.setTop (mkF m 135 #[vI p1, vI p2, vI p3, vI p4, vI p5, vI 1, vI c0, vI c1, vI c2, vI ce, vR b523, vR b535, vR b549, vU, vU, vU, vU, vU] [(.ref b554)])) _
      refine XS.astore X561.here hx rfl (hb hby at_135) rfl rfl (l' := #[vI p1, vI p2, vI p3, vI p4, vI p5, vI 1, vI c0, vI c1, vI c2, vI ce, vR b523, vR b535, vR b549, vR b554, vU, vU, vU, vU]) rfl ?_
      refine XS.aload X561.here hx rfl (hb hby at_137) rfl rfl ?_
      refine XS.aload X561.here hx rfl (hb hby at_139) rfl rfl ?_
      exact h)
  obtain ⟨cq566, kq566, q566a, q566b, q566c⟩ := isOf hZ561 rfl E_b554
  obtain ⟨_, _, ⟨T566, L566, kk566, n566⟩, -, X566, hS566, gr566, ⟨Lc566, hQ566, l566, y566, z566, hR566⟩, st566⟩ := X561.virtualBackS hx (y := (⟨"com/example/usko/usko/server/Html", "close", "(Ljava/lang/String;)Lcom/example/usko/usko/server/Html;"⟩ : MethodName)) (z := (⟨"com/example/usko/usko/server/Html", "close", "(Ljava/lang/String;)Lcom/example/usko/usko/server/Html;"⟩ : MethodName)) hown561 (mvT hZ561 (hw _ (gm 117 rfl))) (mvT hZ561 (hw _ (gm 118 rfl))) (notFace_of_selects (args := #[]) (mvT hZ561 (hw _ (gm 120 rfl)))) (mvT hZ561 (hw _ (gm 120 rfl))) (mvT hZ561 (hw _ (gm 119 rfl))) (by decide) (backOfSH (W := 0) (rmCL l Z a0 hw [] b554 b535 sb tb t542 kb542 [c0] kb 32 [(60 : Int32), (33 : Int32), (68 : Int32), (79 : Int32), (67 : Int32), (84 : Int32), (89 : Int32), (80 : Int32), (69 : Int32), (32 : Int32), (104 : Int32), (116 : Int32), (109 : Int32), (108 : Int32), (62 : Int32), (10 : Int32)] zC T561.heap n0 O564 SC hzC Fo ge_sb ge_tb ne_sb_tb E_sb Fc Fv Fn E_b535 Vb542 Cb542 At542 Vb ne_b535_sb ne_b535_tb ne_t542_sb ne_t542_tb (Nat.le_of_ble_eq_true rfl) (by decide) (by decide)) hZ561 (hw _ (gm 121 rfl)) (hw _ (gm 39 rfl)) (by decide) (by decide) hEL hC563) q566a q566c (g := (mkF m 141 #[vI p1, vI p2, vI p3, vI p4, vI p5, vI 1, vI c0, vI c1, vI c2, vI ce, vR b523, vR b535, vR b549, vR b554, vU, vU, vU, vU] [(.ref b535), (.ref b554)])) rfl (by rw [hml]; rfl) (Steps.refl _) (argsL := [(.ref b535)]) (rest := []) (lenOf pd_16 rfl) rfl (by show 2 * 0 + _ ≤ _; exact Nat.le_of_eq rfl) (hb hby at_141) (fun _ _ => ⟨rfl, rfl, (by decide : 10 + 4 ≤ _), (by decide : 116 + 24 ≤ _)⟩)
  dsimp only [Pt.U, Pt.locs, Pt.cells, Pt.slots] at X566 l566 y566 z566 st566 hQ566 hS566 gr566 hR566
  subst l566 y566 z566
  have hZ566 : Z.Warmed39 (s.setVm T566.vm).vm := State.Warmed39.trans (t := (s.setVm T561.vm)) hZ561 hS566.1
  have hown566 : (s.setVm T566.vm).vm.findClass "com/example/usko/usko/server/HtmlClosePinLaw" = some m.cls := by rw [show (s.setVm T566.vm).vm = T566.vm from rfl, hS566.1.alike.findClass]; exact hown561
  replace hS566 := foldS hS561 (by exact hk561) hS566 gr566
  have hk566 := Nat.le_refl T566.heap.size
  replace X566 : Stand p l e room_1 (s.setVm T566.vm) m #[(.int p1), (.int p2), (.int p3), (.int p4), (.int p5)] below meth c T566 _ _ _ := X566
  obtain ⟨rfl, Nq566, K566, Fc566, Fv566, Fn566, V566⟩ := hQ566
  have N566 := Fr.app N561 Nq566
  have k567 : Rch p e below S0 T566 (mkF m 144 #[vI p1, vI p2, vI p3, vI p4, vI p5, vI 1, vI c0, vI c1, vI c2, vI ce, vR b523, vR b535, vR b549, vR b554, vU, vU, vU, vU] [(.ref b554)]) := fun t h => k565 t (st566.trans h)
  have hC568 := hR566.1
  have rC568 := rC563.trans hR566
  have O569 := O564.keep K566 (allS ge_sb (allS ge_tb all0))
  replace Eb549 := Eb549.keep K566
  replace Gv549 := Gv549.keep K566 (ninS ne_b549_sb (ninS ne_b549_tb nin0))
  replace Gc549 := Gc549.keep K566 (ninS ne_b549_sb (ninS ne_b549_tb nin0))
  replace V549 := V549.keep K566 (ninS ne_y549_sb (ninS ne_y549_tb nin0))
  replace E_b554 := E_b554.keep K566
  replace Fo := Fo.keep K566 (ninS ne_b554_sb (ninS ne_b554_tb nin0))
  replace E_sb := E_sb.keep K566
  have k570 : Rch p e below S0 T566 (mkF m 150 #[vI p1, vI p2, vI p3, vI p4, vI p5, vI 1, vI c0, vI c1, vI c2, vI ce, vR b523, vR b535, vR b549, vR b554, vR b554, vU, vU, vU] [(.ref b549), (.ref b554)]) := fun t h => k567 t (by
      show Steps p.tables e below (T566.setTop (mkF m 144 #[vI p1, vI p2, vI p3, vI p4, vI p5, vI 1, vI c0, vI c1, vI c2, vI ce, vR b523, vR b535, vR b549, vR b554, vU, vU, vU, vU] [(.ref b554)])) _
      refine XS.astore X566.here hx rfl (hb hby at_144) rfl rfl (l' := #[vI p1, vI p2, vI p3, vI p4, vI p5, vI 1, vI c0, vI c1, vI c2, vI ce, vR b523, vR b535, vR b549, vR b554, vR b554, vU, vU, vU]) rfl ?_
      refine XS.aload X566.here hx rfl (hb hby at_146) rfl rfl ?_
      refine XS.aload X566.here hx rfl (hb hby at_148) rfl rfl ?_
      exact h)
  obtain ⟨cq571, kq571, q571a, q571b, q571c⟩ := isOf hZ566 rfl E_b554
  obtain ⟨_, _, ⟨T571, L571, kk571, n571⟩, -, X571, hS571, gr571, ⟨Lc571, hQ571, l571, y571, z571, hR571⟩, st571⟩ := X566.virtualBackS hx (y := (⟨"com/example/usko/usko/server/Html", "close", "(Ljava/lang/String;)Lcom/example/usko/usko/server/Html;"⟩ : MethodName)) (z := (⟨"com/example/usko/usko/server/Html", "close", "(Ljava/lang/String;)Lcom/example/usko/usko/server/Html;"⟩ : MethodName)) hown566 (mvT hZ566 (hw _ (gm 117 rfl))) (mvT hZ566 (hw _ (gm 118 rfl))) (notFace_of_selects (args := #[]) (mvT hZ566 (hw _ (gm 120 rfl)))) (mvT hZ566 (hw _ (gm 120 rfl))) (mvT hZ566 (hw _ (gm 119 rfl))) (by decide) (backOfSH (W := 0) (rmCL l Z a0 hw [] b554 b549 sb tb y549 ky549 [ce] kb 32 ((([(60 : Int32), (33 : Int32), (68 : Int32), (79 : Int32), (67 : Int32), (84 : Int32), (89 : Int32), (80 : Int32), (69 : Int32), (32 : Int32), (104 : Int32), (116 : Int32), (109 : Int32), (108 : Int32), (62 : Int32), (10 : Int32)] ++ [60, 47]) ++ [c0]) ++ [62, 10]) zC T566.heap n0 O569 SC hzC Fo ge_sb ge_tb ne_sb_tb E_sb Fc566 Fv566 Fn566 Eb549 Gv549 Gc549 V549 V566 ne_b549_sb ne_b549_tb ne_y549_sb ne_y549_tb (Nat.le_of_ble_eq_true rfl) (by decide) (by decide)) hZ566 (hw _ (gm 121 rfl)) (hw _ (gm 39 rfl)) (by decide) (by decide) hEL hC568) q571a q571c (g := (mkF m 150 #[vI p1, vI p2, vI p3, vI p4, vI p5, vI 1, vI c0, vI c1, vI c2, vI ce, vR b523, vR b535, vR b549, vR b554, vR b554, vU, vU, vU] [(.ref b549), (.ref b554)])) rfl (by rw [hml]; rfl) (Steps.refl _) (argsL := [(.ref b549)]) (rest := []) (lenOf pd_16 rfl) rfl (by show 2 * 0 + _ ≤ _; exact Nat.le_of_eq rfl) (hb hby at_150) (fun _ _ => ⟨rfl, rfl, (by decide : 14 + 4 ≤ _), (by decide : 140 + 24 ≤ _)⟩)
  dsimp only [Pt.U, Pt.locs, Pt.cells, Pt.slots] at X571 l571 y571 z571 st571 hQ571 hS571 gr571 hR571
  subst l571 y571 z571
  have hZ571 : Z.Warmed39 (s.setVm T571.vm).vm := State.Warmed39.trans (t := (s.setVm T566.vm)) hZ566 hS571.1
  have hown571 : (s.setVm T571.vm).vm.findClass "com/example/usko/usko/server/HtmlClosePinLaw" = some m.cls := by rw [show (s.setVm T571.vm).vm = T571.vm from rfl, hS571.1.alike.findClass]; exact hown566
  replace hS571 := foldS hS566 (by exact hk566) hS571 gr571
  have hk571 := Nat.le_refl T571.heap.size
  replace X571 : Stand p l e room_1 (s.setVm T571.vm) m #[(.int p1), (.int p2), (.int p3), (.int p4), (.int p5)] below meth c T571 _ _ _ := X571
  obtain ⟨rfl, Nq571, K571, Fc571, Fv571, Fn571, V571⟩ := hQ571
  have N571 := Fr.app N566 Nq571
  have k572 : Rch p e below S0 T571 (mkF m 153 #[vI p1, vI p2, vI p3, vI p4, vI p5, vI 1, vI c0, vI c1, vI c2, vI ce, vR b523, vR b535, vR b549, vR b554, vR b554, vU, vU, vU] [(.ref b554)]) := fun t h => k570 t (st571.trans h)
  have hC573 := hR571.1
  have rC573 := rC568.trans hR571
  have O574 := O569.keep K571 (allS ge_sb (allS ge_tb all0))
  replace E_b554 := E_b554.keep K571
  replace Fo := Fo.keep K571 (ninS ne_b554_sb (ninS ne_b554_tb nin0))
  replace E_sb := E_sb.keep K571
  have k575 : Rch p e below S0 T571 (mkF m 173 #[vI p1, vI p2, vI p3, vI p4, vI p5, vI 1, vI c0, vI c1, vI c2, vI ce, vR b523, vR b535, vR b549, vR b554, vR b554, vR b554, vU, vU] [(.ref b554)]) := fun t h => k572 t (by
      show Steps p.tables e below (T571.setTop (mkF m 153 #[vI p1, vI p2, vI p3, vI p4, vI p5, vI 1, vI c0, vI c1, vI c2, vI ce, vR b523, vR b535, vR b549, vR b554, vR b554, vU, vU, vU] [(.ref b554)])) _
      refine XS.astore X571.here hx rfl (hb hby at_153) rfl rfl (l' := #[vI p1, vI p2, vI p3, vI p4, vI p5, vI 1, vI c0, vI c1, vI c2, vI ce, vR b523, vR b535, vR b549, vR b554, vR b554, vR b554, vU, vU]) rfl ?_
      refine XS.aload X571.here hx rfl (hb hby at_155) rfl rfl ?_
      refine XS.aload X571.here hx rfl (hb hby at_157) rfl rfl ?_
      refine Jvm.RoadKit.acmp (g := (mkF m 159 #[vI p1, vI p2, vI p3, vI p4, vI p5, vI 1, vI c0, vI c1, vI c2, vI ce, vR b523, vR b535, vR b549, vR b554, vR b554, vR b554, vU, vU] [(.ref b554), (.ref b554)])) X571 hx rfl rfl rfl (pc0 := 159) (pc' := 162) (same := true) rfl (hb hby at_159) rfl (decide_eq_true rfl) (by decide) (by decide) ?_
      refine XS.aload X571.here hx rfl (hb hby at_162) rfl rfl ?_
      refine XS.aload X571.here hx rfl (hb hby at_164) rfl rfl ?_
      refine Jvm.RoadKit.acmp (g := (mkF m 166 #[vI p1, vI p2, vI p3, vI p4, vI p5, vI 1, vI c0, vI c1, vI c2, vI ce, vR b523, vR b535, vR b549, vR b554, vR b554, vR b554, vU, vU] [(.ref b554), (.ref b554)])) X571 hx rfl rfl rfl (pc0 := 166) (pc' := 171) (same := true) rfl (hb hby at_166) rfl (decide_eq_true rfl) (by decide) (by decide) ?_
      refine XS.aload X571.here hx rfl (hb hby at_171) rfl rfl ?_
      exact h)
  have hpos : ∀ c ∈ ((((((([(60 : Int32), (33 : Int32), (68 : Int32), (79 : Int32), (67 : Int32), (84 : Int32), (89 : Int32), (80 : Int32), (69 : Int32), (32 : Int32), (104 : Int32), (116 : Int32), (109 : Int32), (108 : Int32), (62 : Int32), (10 : Int32)] ++ [60, 47]) ++ [c0]) ++ [62, 10]) ++ [60, 47]) ++ [ce]) ++ [62, 10]) : List Int32), ¬ c < 0 := by
    intro c hc
    simp only [List.mem_append, List.mem_cons, List.not_mem_nil, or_false, false_or] at hc
    rcases hc with ((((((rfl | rfl | rfl | rfl | rfl | rfl | rfl | rfl | rfl | rfl | rfl | rfl | rfl | rfl | rfl | rfl) | (rfl | rfl)) | (rfl)) | (rfl | rfl)) | (rfl | rfl)) | rfl) | (rfl | rfl)
    all_goals first | decide | exact hc0.1 | exact hc1.1 | exact hc2.1 | exact hce.1
  obtain ⟨cq576, kq576, q576a, q576b, q576c⟩ := isOf hZ571 rfl E_b554
  obtain ⟨_, _, ⟨T576, L576, kk576, n576⟩, -, X576, ⟨Lc576, hQ576, l576, y576, z576⟩, st576⟩ := X571.virtualBack hx (y := (⟨"com/example/usko/usko/server/Html", "toBytes", "()[B"⟩ : MethodName)) (z := (⟨"com/example/usko/usko/server/Html", "toBytes", "()[B"⟩ : MethodName)) hown571 (mvT hZ571 (hw _ (gm 125 rfl))) (mvT hZ571 (hw _ (gm 126 rfl))) (notFace_of_selects (args := #[]) (mvT hZ571 (hw _ (gm 128 rfl)))) (mvT hZ571 (hw _ (gm 128 rfl))) (mvT hZ571 (hw _ (gm 127 rfl))) (by decide) (backOf (W := 0) (rmTO l Z a0 hw [] b554 u8 sb tb kb 32 (((((([(60 : Int32), (33 : Int32), (68 : Int32), (79 : Int32), (67 : Int32), (84 : Int32), (89 : Int32), (80 : Int32), (69 : Int32), (32 : Int32), (104 : Int32), (116 : Int32), (109 : Int32), (108 : Int32), (62 : Int32), (10 : Int32)] ++ [60, 47]) ++ [c0]) ++ [62, 10]) ++ [60, 47]) ++ [ce]) ++ [62, 10]) zC T571.heap n0 O574 SC hzC SI SU Fo E_sb Fc571 Fv571 Fn571 V571 (Nat.le_of_ble_eq_true rfl) (by decide) hpos) hZ571 (hw _ (gm 129 rfl)) (hw _ (gm 39 rfl)) (by decide) (by decide)) q576a q576c (g := (mkF m 173 #[vI p1, vI p2, vI p3, vI p4, vI p5, vI 1, vI c0, vI c1, vI c2, vI ce, vR b523, vR b535, vR b549, vR b554, vR b554, vR b554, vU, vU] [(.ref b554)])) rfl (by rw [hml]; rfl) (Steps.refl _) (argsL := []) (rest := []) (lenOf pd_17 rfl) rfl (by show 2 * 0 + _ ≤ _; exact Nat.le_of_eq rfl) (hb hby at_173) (fun _ _ => ⟨rfl, rfl, (by decide : 18 + 3 ≤ _), (by decide : 164 + 68 ≤ _)⟩)
  dsimp only [Pt.U, Pt.locs, Pt.cells, Pt.slots] at X576 l576 y576 z576 st576 hQ576
  subst l576 y576 z576
  obtain ⟨y576, ky576, rfl, Nq576, E576, z576, V576⟩ := hQ576
  have N576 := Fr.app N571 Nq576
  have k577 : Rch p e below S0 T576 (mkF m 176 #[vI p1, vI p2, vI p3, vI p4, vI p5, vI 1, vI c0, vI c1, vI c2, vI ce, vR b523, vR b535, vR b549, vR b554, vR b554, vR b554, vU, vU] [(.ref y576)]) := fun t h => k575 t (st576.trans h)
  have hC578 := hC573.ext E576
  have rC578 := rC573.trans (CHr.ext E576 hC573)
  have O579 := O574.ext E576
  have hkk580 := Nat.le_trans hk571 E576.1
  have Vz : Arv Z T576.heap y576 ky576 .byte (26 : Int32) [(.int (60 : Int32)), (.int (33 : Int32)), (.int (68 : Int32)), (.int (79 : Int32)), (.int (67 : Int32)), (.int (84 : Int32)), (.int (89 : Int32)), (.int (80 : Int32)), (.int (69 : Int32)), (.int (32 : Int32)), (.int (104 : Int32)), (.int (116 : Int32)), (.int (109 : Int32)), (.int (108 : Int32)), (.int (62 : Int32)), (.int (10 : Int32)), (.int (60 : Int32)), (.int (47 : Int32)), (.int c0), (.int (62 : Int32)), (.int (10 : Int32)), (.int (60 : Int32)), (.int (47 : Int32)), (.int ce), (.int (62 : Int32)), (.int (10 : Int32))] (.int (0 : Int32)) := V576
  have Vp : Arv Z T576.heap y576 ky576 .byte (Int32.ofNat 26) (([(60 : Int32), (33 : Int32), (68 : Int32), (79 : Int32), (67 : Int32), (84 : Int32), (89 : Int32), (80 : Int32), (69 : Int32), (32 : Int32), (104 : Int32), (116 : Int32), (109 : Int32), (108 : Int32), (62 : Int32), (10 : Int32)] ++ [60, 47, c0, 62, 10, 60, 47, ce, 62, 10]).map Value.int) (.int (0 : Int32)) := V576
  clear hpos
  have k582 : Rch p e below S0 T576 (mkF m 180 #[vI p1, vI p2, vI p3, vI p4, vI p5, vI 1, vI c0, vI c1, vI c2, vI ce, vR b523, vR b535, vR b549, vR b554, vR b554, vR b554, vR y576, vU] [(.ref y576)]) := fun t h => k577 t (by
      show Steps p.tables e below (T576.setTop (mkF m 176 #[vI p1, vI p2, vI p3, vI p4, vI p5, vI 1, vI c0, vI c1, vI c2, vI ce, vR b523, vR b535, vR b549, vR b554, vR b554, vR b554, vU, vU] [(.ref y576)])) _
      refine XS.astore X576.here hx rfl (hb hby at_176) rfl rfl (l' := #[vI p1, vI p2, vI p3, vI p4, vI p5, vI 1, vI c0, vI c1, vI c2, vI ce, vR b523, vR b535, vR b549, vR b554, vR b554, vR b554, vR y576, vU]) rfl ?_
      refine XS.aload X576.here hx rfl (hb hby at_178) rfl rfl ?_
      exact h)
  obtain ⟨cl581, Ar581, q581, Sz581, Ng581, Hs581, G581⟩ := id Vz
  have k583 : Rch p e below S0 T576 (mkF m 193 #[vI p1, vI p2, vI p3, vI p4, vI p5, vI 1, vI c0, vI c1, vI c2, vI ce, vR b523, vR b535, vR b549, vR b554, vR b554, vR b554, vR y576, vU] [(.ref y576)]) := fun t h => k582 t (by
      show Steps p.tables e below (T576.setTop (mkF m 180 #[vI p1, vI p2, vI p3, vI p4, vI p5, vI 1, vI c0, vI c1, vI c2, vI ce, vR b523, vR b535, vR b549, vR b554, vR b554, vR b554, vR y576, vU] [(.ref y576)])) _
      refine X576.arraylength hx (by exact Ar581.1) (State.isArrayOf_alike hZ571.alike Ar581.2.1) (g := (mkF m 180 #[vI p1, vI p2, vI p3, vI p4, vI p5, vI 1, vI c0, vI c1, vI c2, vI ce, vR b523, vR b535, vR b549, vR b554, vR b554, vR b554, vR y576, vU] [(.ref y576)])) rfl rfl (hb hby at_180) _ ?_
      rw [len_of Sz581 Ng581]
      refine XS.bipush X576.here hx rfl (hb hby at_181) ?_
      refine XS.iload X576.here hx rfl (hb hby at_183) rfl ?_
      show Steps p.tables e below (T576.setTop (mkF m 185 #[vI p1, vI p2, vI p3, vI p4, vI p5, vI 1, vI c0, vI c1, vI c2, vI ce, vR b523, vR b535, vR b549, vR b554, vR b554, vR b554, vR y576, vU] [(.int (1 : Int32)), (.int (25 : Int32)), (.int (26 : Int32))])) _
      refine XS.iadd X576.here hx rfl (hb hby at_185) rfl ?_
      rw [(by decide : ((25 : Int32) + (1 : Int32)) = (26 : Int32))]
      refine XS.icmpYes X576.here hx rfl (pc0 := 186) (pc' := 191) rfl (hb hby at_186) rfl (teq (by decide : (26 : Int32) = (26 : Int32))).1 (by decide) (by decide) ?_
      refine XS.aload X576.here hx rfl (hb hby at_191) rfl rfl ?_
      exact h)
  obtain ⟨_, _, ⟨T584, L584, kk584, n584⟩, -, X584, ⟨Lc584, hQ584, l584, y584, z584⟩, st584⟩ := Jvm.LawKit.callS X576 hx (y := (⟨"com/example/usko/usko/server/HtmlClosePinLaw", "prefix", "([B)Z"⟩ : MethodName)) hown571 (mvT hZ571 (hw _ (gm 206 rfl))) (mvT hZ571 (hw _ (gm 207 rfl))) (mvT hZ571 (hw _ (gm 208 rfl))) (mvT hZ571 (hw _ (gm 209 rfl))) (by decide) (backOf (W := 0) (rmPX l Z a0 hw [] y576 ky576 26 [60, 47, c0, 62, 10, 60, 47, ce, 62, 10] T576.heap n0 O579 Vp (by decide) (by decide)) hZ571 (hw _ (gm 209 rfl)) (hw _ (gm 208 rfl)) (by decide) (by decide)) (g := (mkF m 193 #[vI p1, vI p2, vI p3, vI p4, vI p5, vI 1, vI c0, vI c1, vI c2, vI ce, vR b523, vR b535, vR b549, vR b554, vR b554, vR b554, vR y576, vU] [(.ref y576)])) rfl (by rw [hml]; rfl) (argsL := [(.ref y576)]) (rest := []) (lenOf pd_31 rfl) rfl (by show 2 * 0 + _ ≤ _; exact Nat.le_of_eq rfl) (hb hby at_193) (fun _ _ => ⟨rfl, rfl, (by decide : 21 + 0 ≤ _), (by decide : 232 + 0 ≤ _)⟩)
  dsimp only [Pt.U, Pt.locs, Pt.cells, Pt.slots] at X584 l584 y584 z584 st584 hQ584
  subst l584 y584 z584
  obtain ⟨rfl, Nq584, hh584⟩ := hQ584
  have N584 := Fr.app N576 Nq584
  have k585 : Rch p e below S0 T584 (mkF m 196 #[vI p1, vI p2, vI p3, vI p4, vI p5, vI 1, vI c0, vI c1, vI c2, vI ce, vR b523, vR b535, vR b549, vR b554, vR b554, vR b554, vR y576, vU] [(.int (1 : Int32))]) := fun t h => k583 t (st584 t h)
  obtain ⟨lo584, Y584, M584⟩ : ∃ lo, Stand p l e room_1 (s.setVm T571.vm) m #[(.int p1), (.int p2), (.int p3), (.int p4), (.int p5)] below meth c T584 lo 21 232 ∧ Fr n0 lo := ⟨_, X584, N584⟩
  clear X584 N584
  have k587 : Rch p e below S0 T584 (mkF m 205 #[vI p1, vI p2, vI p3, vI p4, vI p5, vI 1, vI c0, vI c1, vI c2, vI ce, vR b523, vR b535, vR b549, vR b554, vR b554, vR b554, vR y576, vU] [(.int (16 : Int32)), (.ref y576)]) := fun t h => k585 t (by
      show Steps p.tables e below (T584.setTop (mkF m 196 #[vI p1, vI p2, vI p3, vI p4, vI p5, vI 1, vI c0, vI c1, vI c2, vI ce, vR b523, vR b535, vR b549, vR b554, vR b554, vR b554, vR y576, vU] [(.int (1 : Int32))])) _
      refine XS.ifYes Y584.here hx rfl (pc0 := 196) (pc' := 201) rfl (hb hby at_196) rfl ((if0 _ _).trans (feq (by decide : ¬ ((1 : Int32) = (0 : Int32)))).2) (by decide) (by decide) ?_
      refine XS.aload Y584.here hx rfl (hb hby at_201) rfl rfl ?_
      refine XS.bipush Y584.here hx rfl (hb hby at_203) ?_
      exact h)
  obtain ⟨cl586, Ar586, q586, Sz586, Ng586, Hs586, G586⟩ := id Vz
  have hin586 : ¬ ((16 : Int32) < 0 ∨ cl586.slots.size ≤ ((16 : Int32)).toNatClampNeg) := inb_of Sz586 ⟨by decide, by decide⟩
  have hat586 : cl586.slots[((16 : Int32)).toNatClampNeg]? = some (.int (60 : Int32)) := Hs586.at hin586 (rfl)
  have k589 : Rch p e below S0 T584 (mkF m 215 #[vI p1, vI p2, vI p3, vI p4, vI p5, vI 1, vI c0, vI c1, vI c2, vI ce, vR b523, vR b535, vR b549, vR b554, vR b554, vR b554, vR y576, vU] [(.int (17 : Int32)), (.ref y576)]) := fun t h => k587 t (by
      show Steps p.tables e below (T584.setTop (mkF m 205 #[vI p1, vI p2, vI p3, vI p4, vI p5, vI 1, vI c0, vI c1, vI c2, vI ce, vR b523, vR b535, vR b549, vR b554, vR b554, vR b554, vR y576, vU] [(.int (16 : Int32)), (.ref y576)])) _
      refine Y584.baloadBytes hx (j := (16 : Int32)) (v := (.int (60 : Int32))) (by rw [hh584]; exact Ar586.1) (State.isArrayOf_alike hZ571.alike Ar586.2.1) Ar586.2.2 hin586 hat586 (g := (mkF m 205 #[vI p1, vI p2, vI p3, vI p4, vI p5, vI 1, vI c0, vI c1, vI c2, vI ce, vR b523, vR b535, vR b549, vR b554, vR b554, vR b554, vR y576, vU] [(.int (16 : Int32)), (.ref y576)])) rfl rfl (hb hby at_205) _ ?_
      refine XS.bipush Y584.here hx rfl (hb hby at_206) ?_
      refine XS.icmpNo Y584.here hx rfl (hb hby at_208) rfl (teq (by decide : (60 : Int32) = (60 : Int32))).2 ?_
      refine XS.aload Y584.here hx rfl (hb hby at_211) rfl rfl ?_
      refine XS.bipush Y584.here hx rfl (hb hby at_213) ?_
      exact h)
  obtain ⟨cl588, Ar588, q588, Sz588, Ng588, Hs588, G588⟩ := id Vz
  have hin588 : ¬ ((17 : Int32) < 0 ∨ cl588.slots.size ≤ ((17 : Int32)).toNatClampNeg) := inb_of Sz588 ⟨by decide, by decide⟩
  have hat588 : cl588.slots[((17 : Int32)).toNatClampNeg]? = some (.int (47 : Int32)) := Hs588.at hin588 (rfl)
  have k591 : Rch p e below S0 T584 (mkF m 232 #[vI p1, vI p2, vI p3, vI p4, vI p5, vI 1, vI c0, vI c1, vI c2, vI ce, vR b523, vR b535, vR b549, vR b554, vR b554, vR b554, vR y576, vU] [(.int (18 : Int32)), (.ref y576)]) := fun t h => k589 t (by
      show Steps p.tables e below (T584.setTop (mkF m 215 #[vI p1, vI p2, vI p3, vI p4, vI p5, vI 1, vI c0, vI c1, vI c2, vI ce, vR b523, vR b535, vR b549, vR b554, vR b554, vR b554, vR y576, vU] [(.int (17 : Int32)), (.ref y576)])) _
      refine Y584.baloadBytes hx (j := (17 : Int32)) (v := (.int (47 : Int32))) (by rw [hh584]; exact Ar588.1) (State.isArrayOf_alike hZ571.alike Ar588.2.1) Ar588.2.2 hin588 hat588 (g := (mkF m 215 #[vI p1, vI p2, vI p3, vI p4, vI p5, vI 1, vI c0, vI c1, vI c2, vI ce, vR b523, vR b535, vR b549, vR b554, vR b554, vR b554, vR y576, vU] [(.int (17 : Int32)), (.ref y576)])) rfl rfl (hb hby at_215) _ ?_
      refine XS.bipush Y584.here hx rfl (hb hby at_216) ?_
      refine XS.icmpYes Y584.here hx rfl (pc0 := 218) (pc' := 223) rfl (hb hby at_218) rfl (teq (by decide : (47 : Int32) = (47 : Int32))).1 (by decide) (by decide) ?_
      refine XS.iload Y584.here hx rfl (hb hby at_223) rfl ?_
      refine XS.ifNo Y584.here hx rfl (hb hby at_225) rfl ((if0 _ _).trans (tlt (by decide : (0 : Int32) < (1 : Int32))).2.2.2) ?_
      refine XS.aload Y584.here hx rfl (hb hby at_228) rfl rfl ?_
      refine XS.bipush Y584.here hx rfl (hb hby at_230) ?_
      exact h)
  obtain ⟨cl590, Ar590, q590, Sz590, Ng590, Hs590, G590⟩ := id Vz
  have hin590 : ¬ ((18 : Int32) < 0 ∨ cl590.slots.size ≤ ((18 : Int32)).toNatClampNeg) := inb_of Sz590 ⟨by decide, by decide⟩
  have hat590 : cl590.slots[((18 : Int32)).toNatClampNeg]? = some (.int c0) := Hs590.at hin590 (rfl)
  have k593 : Rch p e below S0 T584 (mkF m 287 #[vI p1, vI p2, vI p3, vI p4, vI p5, vI 1, vI c0, vI c1, vI c2, vI ce, vR b523, vR b535, vR b549, vR b554, vR b554, vR b554, vR y576, vI 19] [(.int (19 : Int32)), (.ref y576)]) := fun t h => k591 t (by
      show Steps p.tables e below (T584.setTop (mkF m 232 #[vI p1, vI p2, vI p3, vI p4, vI p5, vI 1, vI c0, vI c1, vI c2, vI ce, vR b523, vR b535, vR b549, vR b554, vR b554, vR b554, vR y576, vU] [(.int (18 : Int32)), (.ref y576)])) _
      refine Y584.baloadBytes hx (j := (18 : Int32)) (v := (.int c0)) (by rw [hh584]; exact Ar590.1) (State.isArrayOf_alike hZ571.alike Ar590.2.1) Ar590.2.2 hin590 hat590 (g := (mkF m 232 #[vI p1, vI p2, vI p3, vI p4, vI p5, vI 1, vI c0, vI c1, vI c2, vI ce, vR b523, vR b535, vR b549, vR b554, vR b554, vR b554, vR y576, vU] [(.int (18 : Int32)), (.ref y576)])) rfl rfl (hb hby at_232) _ ?_
      refine XS.iload Y584.here hx rfl (hb hby at_233) rfl ?_
      refine XS.icmpYes Y584.here hx rfl (pc0 := 235) (pc' := 240) rfl (hb hby at_235) rfl (teq (rfl : c0 = c0)).1 (by decide) (by decide) ?_
      refine XS.iload Y584.here hx rfl (hb hby at_240) rfl ?_
      refine XS.iconst Y584.here hx rfl (hb hby at_242) ?_
      refine XS.icmpYes Y584.here hx rfl (pc0 := 243) (pc' := 258) rfl (hb hby at_243) rfl (flt (by decide : ¬ ((1 : Int32) < (1 : Int32)))).2.2.2 (by decide) (by decide) ?_
      refine XS.iload Y584.here hx rfl (hb hby at_258) rfl ?_
      refine XS.iconst Y584.here hx rfl (hb hby at_260) ?_
      refine XS.icmpYes Y584.here hx rfl (pc0 := 261) (pc' := 276) rfl (hb hby at_261) rfl (flt (by decide : ¬ ((2 : Int32) < (1 : Int32)))).2.2.2 (by decide) (by decide) ?_
      refine XS.bipush Y584.here hx rfl (hb hby at_276) ?_
      refine XS.iload Y584.here hx rfl (hb hby at_278) rfl ?_
      show Steps p.tables e below (T584.setTop (mkF m 280 #[vI p1, vI p2, vI p3, vI p4, vI p5, vI 1, vI c0, vI c1, vI c2, vI ce, vR b523, vR b535, vR b549, vR b554, vR b554, vR b554, vR y576, vU] [(.int (1 : Int32)), (.int (18 : Int32))])) _
      refine XS.iadd Y584.here hx rfl (hb hby at_280) rfl ?_
      rw [(by decide : ((18 : Int32) + (1 : Int32)) = (19 : Int32))]
      refine XS.istore Y584.here hx rfl (hb hby at_281) rfl (l' := #[vI p1, vI p2, vI p3, vI p4, vI p5, vI 1, vI c0, vI c1, vI c2, vI ce, vR b523, vR b535, vR b549, vR b554, vR b554, vR b554, vR y576, vI 19]) rfl ?_
      refine XS.aload Y584.here hx rfl (hb hby at_283) rfl rfl ?_
      refine XS.iload Y584.here hx rfl (hb hby at_285) rfl ?_
      exact h)
  obtain ⟨cl592, Ar592, q592, Sz592, Ng592, Hs592, G592⟩ := id Vz
  have hin592 : ¬ ((19 : Int32) < 0 ∨ cl592.slots.size ≤ ((19 : Int32)).toNatClampNeg) := inb_of Sz592 ⟨by decide, by decide⟩
  have hat592 : cl592.slots[((19 : Int32)).toNatClampNeg]? = some (.int (62 : Int32)) := Hs592.at hin592 (rfl)
  have k595 : Rch p e below S0 T584 (mkF m 299 #[vI p1, vI p2, vI p3, vI p4, vI p5, vI 1, vI c0, vI c1, vI c2, vI ce, vR b523, vR b535, vR b549, vR b554, vR b554, vR b554, vR y576, vI 19] [(.int (20 : Int32)), (.ref y576)]) := fun t h => k593 t (by
      show Steps p.tables e below (T584.setTop (mkF m 287 #[vI p1, vI p2, vI p3, vI p4, vI p5, vI 1, vI c0, vI c1, vI c2, vI ce, vR b523, vR b535, vR b549, vR b554, vR b554, vR b554, vR y576, vI 19] [(.int (19 : Int32)), (.ref y576)])) _
      refine Y584.baloadBytes hx (j := (19 : Int32)) (v := (.int (62 : Int32))) (by rw [hh584]; exact Ar592.1) (State.isArrayOf_alike hZ571.alike Ar592.2.1) Ar592.2.2 hin592 hat592 (g := (mkF m 287 #[vI p1, vI p2, vI p3, vI p4, vI p5, vI 1, vI c0, vI c1, vI c2, vI ce, vR b523, vR b535, vR b549, vR b554, vR b554, vR b554, vR y576, vI 19] [(.int (19 : Int32)), (.ref y576)])) rfl rfl (hb hby at_287) _ ?_
      refine XS.bipush Y584.here hx rfl (hb hby at_288) ?_
      refine XS.icmpNo Y584.here hx rfl (hb hby at_290) rfl (teq (by decide : (62 : Int32) = (62 : Int32))).2 ?_
      refine XS.aload Y584.here hx rfl (hb hby at_293) rfl rfl ?_
      refine XS.iload Y584.here hx rfl (hb hby at_295) rfl ?_
      refine XS.iconst Y584.here hx rfl (hb hby at_297) ?_
      show Steps p.tables e below (T584.setTop (mkF m 298 #[vI p1, vI p2, vI p3, vI p4, vI p5, vI 1, vI c0, vI c1, vI c2, vI ce, vR b523, vR b535, vR b549, vR b554, vR b554, vR b554, vR y576, vI 19] [(.int (1 : Int32)), (.int (19 : Int32)), (.ref y576)])) _
      refine XS.iadd Y584.here hx rfl (hb hby at_298) rfl ?_
      rw [(by decide : ((19 : Int32) + (1 : Int32)) = (20 : Int32))]
      exact h)
  obtain ⟨cl594, Ar594, q594, Sz594, Ng594, Hs594, G594⟩ := id Vz
  have hin594 : ¬ ((20 : Int32) < 0 ∨ cl594.slots.size ≤ ((20 : Int32)).toNatClampNeg) := inb_of Sz594 ⟨by decide, by decide⟩
  have hat594 : cl594.slots[((20 : Int32)).toNatClampNeg]? = some (.int (10 : Int32)) := Hs594.at hin594 (rfl)
  have k597 : Rch p e below S0 T584 (mkF m 311 #[vI p1, vI p2, vI p3, vI p4, vI p5, vI 1, vI c0, vI c1, vI c2, vI ce, vR b523, vR b535, vR b549, vR b554, vR b554, vR b554, vR y576, vI 19] [(.int (21 : Int32)), (.ref y576)]) := fun t h => k595 t (by
      show Steps p.tables e below (T584.setTop (mkF m 299 #[vI p1, vI p2, vI p3, vI p4, vI p5, vI 1, vI c0, vI c1, vI c2, vI ce, vR b523, vR b535, vR b549, vR b554, vR b554, vR b554, vR y576, vI 19] [(.int (20 : Int32)), (.ref y576)])) _
      refine Y584.baloadBytes hx (j := (20 : Int32)) (v := (.int (10 : Int32))) (by rw [hh584]; exact Ar594.1) (State.isArrayOf_alike hZ571.alike Ar594.2.1) Ar594.2.2 hin594 hat594 (g := (mkF m 299 #[vI p1, vI p2, vI p3, vI p4, vI p5, vI 1, vI c0, vI c1, vI c2, vI ce, vR b523, vR b535, vR b549, vR b554, vR b554, vR b554, vR y576, vI 19] [(.int (20 : Int32)), (.ref y576)])) rfl rfl (hb hby at_299) _ ?_
      refine XS.bipush Y584.here hx rfl (hb hby at_300) ?_
      refine XS.icmpNo Y584.here hx rfl (hb hby at_302) rfl (teq (by decide : (10 : Int32) = (10 : Int32))).2 ?_
      refine XS.aload Y584.here hx rfl (hb hby at_305) rfl rfl ?_
      refine XS.iload Y584.here hx rfl (hb hby at_307) rfl ?_
      refine XS.iconst Y584.here hx rfl (hb hby at_309) ?_
      show Steps p.tables e below (T584.setTop (mkF m 310 #[vI p1, vI p2, vI p3, vI p4, vI p5, vI 1, vI c0, vI c1, vI c2, vI ce, vR b523, vR b535, vR b549, vR b554, vR b554, vR b554, vR y576, vI 19] [(.int (2 : Int32)), (.int (19 : Int32)), (.ref y576)])) _
      refine XS.iadd Y584.here hx rfl (hb hby at_310) rfl ?_
      rw [(by decide : ((19 : Int32) + (2 : Int32)) = (21 : Int32))]
      exact h)
  obtain ⟨cl596, Ar596, q596, Sz596, Ng596, Hs596, G596⟩ := id Vz
  have hin596 : ¬ ((21 : Int32) < 0 ∨ cl596.slots.size ≤ ((21 : Int32)).toNatClampNeg) := inb_of Sz596 ⟨by decide, by decide⟩
  have hat596 : cl596.slots[((21 : Int32)).toNatClampNeg]? = some (.int (60 : Int32)) := Hs596.at hin596 (rfl)
  have k599 : Rch p e below S0 T584 (mkF m 323 #[vI p1, vI p2, vI p3, vI p4, vI p5, vI 1, vI c0, vI c1, vI c2, vI ce, vR b523, vR b535, vR b549, vR b554, vR b554, vR b554, vR y576, vI 19] [(.int (22 : Int32)), (.ref y576)]) := fun t h => k597 t (by
      show Steps p.tables e below (T584.setTop (mkF m 311 #[vI p1, vI p2, vI p3, vI p4, vI p5, vI 1, vI c0, vI c1, vI c2, vI ce, vR b523, vR b535, vR b549, vR b554, vR b554, vR b554, vR y576, vI 19] [(.int (21 : Int32)), (.ref y576)])) _
      refine Y584.baloadBytes hx (j := (21 : Int32)) (v := (.int (60 : Int32))) (by rw [hh584]; exact Ar596.1) (State.isArrayOf_alike hZ571.alike Ar596.2.1) Ar596.2.2 hin596 hat596 (g := (mkF m 311 #[vI p1, vI p2, vI p3, vI p4, vI p5, vI 1, vI c0, vI c1, vI c2, vI ce, vR b523, vR b535, vR b549, vR b554, vR b554, vR b554, vR y576, vI 19] [(.int (21 : Int32)), (.ref y576)])) rfl rfl (hb hby at_311) _ ?_
      refine XS.bipush Y584.here hx rfl (hb hby at_312) ?_
      refine XS.icmpNo Y584.here hx rfl (hb hby at_314) rfl (teq (by decide : (60 : Int32) = (60 : Int32))).2 ?_
      refine XS.aload Y584.here hx rfl (hb hby at_317) rfl rfl ?_
      refine XS.iload Y584.here hx rfl (hb hby at_319) rfl ?_
      refine XS.iconst Y584.here hx rfl (hb hby at_321) ?_
      show Steps p.tables e below (T584.setTop (mkF m 322 #[vI p1, vI p2, vI p3, vI p4, vI p5, vI 1, vI c0, vI c1, vI c2, vI ce, vR b523, vR b535, vR b549, vR b554, vR b554, vR b554, vR y576, vI 19] [(.int (3 : Int32)), (.int (19 : Int32)), (.ref y576)])) _
      refine XS.iadd Y584.here hx rfl (hb hby at_322) rfl ?_
      rw [(by decide : ((19 : Int32) + (3 : Int32)) = (22 : Int32))]
      exact h)
  obtain ⟨cl598, Ar598, q598, Sz598, Ng598, Hs598, G598⟩ := id Vz
  have hin598 : ¬ ((22 : Int32) < 0 ∨ cl598.slots.size ≤ ((22 : Int32)).toNatClampNeg) := inb_of Sz598 ⟨by decide, by decide⟩
  have hat598 : cl598.slots[((22 : Int32)).toNatClampNeg]? = some (.int (47 : Int32)) := Hs598.at hin598 (rfl)
  have k601 : Rch p e below S0 T584 (mkF m 335 #[vI p1, vI p2, vI p3, vI p4, vI p5, vI 1, vI c0, vI c1, vI c2, vI ce, vR b523, vR b535, vR b549, vR b554, vR b554, vR b554, vR y576, vI 19] [(.int (23 : Int32)), (.ref y576)]) := fun t h => k599 t (by
      show Steps p.tables e below (T584.setTop (mkF m 323 #[vI p1, vI p2, vI p3, vI p4, vI p5, vI 1, vI c0, vI c1, vI c2, vI ce, vR b523, vR b535, vR b549, vR b554, vR b554, vR b554, vR y576, vI 19] [(.int (22 : Int32)), (.ref y576)])) _
      refine Y584.baloadBytes hx (j := (22 : Int32)) (v := (.int (47 : Int32))) (by rw [hh584]; exact Ar598.1) (State.isArrayOf_alike hZ571.alike Ar598.2.1) Ar598.2.2 hin598 hat598 (g := (mkF m 323 #[vI p1, vI p2, vI p3, vI p4, vI p5, vI 1, vI c0, vI c1, vI c2, vI ce, vR b523, vR b535, vR b549, vR b554, vR b554, vR b554, vR y576, vI 19] [(.int (22 : Int32)), (.ref y576)])) rfl rfl (hb hby at_323) _ ?_
      refine XS.bipush Y584.here hx rfl (hb hby at_324) ?_
      refine XS.icmpNo Y584.here hx rfl (hb hby at_326) rfl (teq (by decide : (47 : Int32) = (47 : Int32))).2 ?_
      refine XS.aload Y584.here hx rfl (hb hby at_329) rfl rfl ?_
      refine XS.iload Y584.here hx rfl (hb hby at_331) rfl ?_
      refine XS.iconst Y584.here hx rfl (hb hby at_333) ?_
      show Steps p.tables e below (T584.setTop (mkF m 334 #[vI p1, vI p2, vI p3, vI p4, vI p5, vI 1, vI c0, vI c1, vI c2, vI ce, vR b523, vR b535, vR b549, vR b554, vR b554, vR b554, vR y576, vI 19] [(.int (4 : Int32)), (.int (19 : Int32)), (.ref y576)])) _
      refine XS.iadd Y584.here hx rfl (hb hby at_334) rfl ?_
      rw [(by decide : ((19 : Int32) + (4 : Int32)) = (23 : Int32))]
      exact h)
  obtain ⟨cl600, Ar600, q600, Sz600, Ng600, Hs600, G600⟩ := id Vz
  have hin600 : ¬ ((23 : Int32) < 0 ∨ cl600.slots.size ≤ ((23 : Int32)).toNatClampNeg) := inb_of Sz600 ⟨by decide, by decide⟩
  have hat600 : cl600.slots[((23 : Int32)).toNatClampNeg]? = some (.int ce) := Hs600.at hin600 (rfl)
  have k603 : Rch p e below S0 T584 (mkF m 347 #[vI p1, vI p2, vI p3, vI p4, vI p5, vI 1, vI c0, vI c1, vI c2, vI ce, vR b523, vR b535, vR b549, vR b554, vR b554, vR b554, vR y576, vI 19] [(.int (24 : Int32)), (.ref y576)]) := fun t h => k601 t (by
      show Steps p.tables e below (T584.setTop (mkF m 335 #[vI p1, vI p2, vI p3, vI p4, vI p5, vI 1, vI c0, vI c1, vI c2, vI ce, vR b523, vR b535, vR b549, vR b554, vR b554, vR b554, vR y576, vI 19] [(.int (23 : Int32)), (.ref y576)])) _
      refine Y584.baloadBytes hx (j := (23 : Int32)) (v := (.int ce)) (by rw [hh584]; exact Ar600.1) (State.isArrayOf_alike hZ571.alike Ar600.2.1) Ar600.2.2 hin600 hat600 (g := (mkF m 335 #[vI p1, vI p2, vI p3, vI p4, vI p5, vI 1, vI c0, vI c1, vI c2, vI ce, vR b523, vR b535, vR b549, vR b554, vR b554, vR b554, vR y576, vI 19] [(.int (23 : Int32)), (.ref y576)])) rfl rfl (hb hby at_335) _ ?_
      refine XS.iload Y584.here hx rfl (hb hby at_336) rfl ?_
      refine XS.icmpNo Y584.here hx rfl (hb hby at_338) rfl (teq (rfl : ce = ce)).2 ?_
      refine XS.aload Y584.here hx rfl (hb hby at_341) rfl rfl ?_
      refine XS.iload Y584.here hx rfl (hb hby at_343) rfl ?_
      refine XS.iconst Y584.here hx rfl (hb hby at_345) ?_
      show Steps p.tables e below (T584.setTop (mkF m 346 #[vI p1, vI p2, vI p3, vI p4, vI p5, vI 1, vI c0, vI c1, vI c2, vI ce, vR b523, vR b535, vR b549, vR b554, vR b554, vR b554, vR y576, vI 19] [(.int (5 : Int32)), (.int (19 : Int32)), (.ref y576)])) _
      refine XS.iadd Y584.here hx rfl (hb hby at_346) rfl ?_
      rw [(by decide : ((19 : Int32) + (5 : Int32)) = (24 : Int32))]
      exact h)
  obtain ⟨cl602, Ar602, q602, Sz602, Ng602, Hs602, G602⟩ := id Vz
  have hin602 : ¬ ((24 : Int32) < 0 ∨ cl602.slots.size ≤ ((24 : Int32)).toNatClampNeg) := inb_of Sz602 ⟨by decide, by decide⟩
  have hat602 : cl602.slots[((24 : Int32)).toNatClampNeg]? = some (.int (62 : Int32)) := Hs602.at hin602 (rfl)
  have k605 : Rch p e below S0 T584 (mkF m 360 #[vI p1, vI p2, vI p3, vI p4, vI p5, vI 1, vI c0, vI c1, vI c2, vI ce, vR b523, vR b535, vR b549, vR b554, vR b554, vR b554, vR y576, vI 19] [(.int (25 : Int32)), (.ref y576)]) := fun t h => k603 t (by
      show Steps p.tables e below (T584.setTop (mkF m 347 #[vI p1, vI p2, vI p3, vI p4, vI p5, vI 1, vI c0, vI c1, vI c2, vI ce, vR b523, vR b535, vR b549, vR b554, vR b554, vR b554, vR y576, vI 19] [(.int (24 : Int32)), (.ref y576)])) _
      refine Y584.baloadBytes hx (j := (24 : Int32)) (v := (.int (62 : Int32))) (by rw [hh584]; exact Ar602.1) (State.isArrayOf_alike hZ571.alike Ar602.2.1) Ar602.2.2 hin602 hat602 (g := (mkF m 347 #[vI p1, vI p2, vI p3, vI p4, vI p5, vI 1, vI c0, vI c1, vI c2, vI ce, vR b523, vR b535, vR b549, vR b554, vR b554, vR b554, vR y576, vI 19] [(.int (24 : Int32)), (.ref y576)])) rfl rfl (hb hby at_347) _ ?_
      refine XS.bipush Y584.here hx rfl (hb hby at_348) ?_
      refine XS.icmpNo Y584.here hx rfl (hb hby at_350) rfl (teq (by decide : (62 : Int32) = (62 : Int32))).2 ?_
      refine XS.aload Y584.here hx rfl (hb hby at_353) rfl rfl ?_
      refine XS.iload Y584.here hx rfl (hb hby at_355) rfl ?_
      refine XS.bipush Y584.here hx rfl (hb hby at_357) ?_
      show Steps p.tables e below (T584.setTop (mkF m 359 #[vI p1, vI p2, vI p3, vI p4, vI p5, vI 1, vI c0, vI c1, vI c2, vI ce, vR b523, vR b535, vR b549, vR b554, vR b554, vR b554, vR y576, vI 19] [(.int (6 : Int32)), (.int (19 : Int32)), (.ref y576)])) _
      refine XS.iadd Y584.here hx rfl (hb hby at_359) rfl ?_
      rw [(by decide : ((19 : Int32) + (6 : Int32)) = (25 : Int32))]
      exact h)
  obtain ⟨cl604, Ar604, q604, Sz604, Ng604, Hs604, G604⟩ := id Vz
  have hin604 : ¬ ((25 : Int32) < 0 ∨ cl604.slots.size ≤ ((25 : Int32)).toNatClampNeg) := inb_of Sz604 ⟨by decide, by decide⟩
  have hat604 : cl604.slots[((25 : Int32)).toNatClampNeg]? = some (.int (10 : Int32)) := Hs604.at hin604 (rfl)
  have k606 : Rch p e below S0 T584 (mkF m 371 #[vI p1, vI p2, vI p3, vI p4, vI p5, vI 1, vI c0, vI c1, vI c2, vI ce, vR b523, vR b535, vR b549, vR b554, vR b554, vR b554, vR y576, vI 19] [(.int (1 : Int32))]) := fun t h => k605 t (by
      show Steps p.tables e below (T584.setTop (mkF m 360 #[vI p1, vI p2, vI p3, vI p4, vI p5, vI 1, vI c0, vI c1, vI c2, vI ce, vR b523, vR b535, vR b549, vR b554, vR b554, vR b554, vR y576, vI 19] [(.int (25 : Int32)), (.ref y576)])) _
      refine Y584.baloadBytes hx (j := (25 : Int32)) (v := (.int (10 : Int32))) (by rw [hh584]; exact Ar604.1) (State.isArrayOf_alike hZ571.alike Ar604.2.1) Ar604.2.2 hin604 hat604 (g := (mkF m 360 #[vI p1, vI p2, vI p3, vI p4, vI p5, vI 1, vI c0, vI c1, vI c2, vI ce, vR b523, vR b535, vR b549, vR b554, vR b554, vR b554, vR y576, vI 19] [(.int (25 : Int32)), (.ref y576)])) rfl rfl (hb hby at_360) _ ?_
      refine XS.bipush Y584.here hx rfl (hb hby at_361) ?_
      refine XS.icmpNo Y584.here hx rfl (hb hby at_363) rfl (teq (by decide : (10 : Int32) = (10 : Int32))).2 ?_
      refine XS.iconst Y584.here hx rfl (hb hby at_366) ?_
      refine XS.goto Y584.here hx rfl (pc0 := 367) (pc' := 371) rfl (hb hby at_367) (by decide) (by decide) ?_
      exact h)
  obtain ⟨fs, hr, hrun, hended, hfin⟩ := Y584.leaveW hS571 (by rw [hh584]; exact hkk580) (v := (some (.int (1 : Int32)))) (fun h => by rw [Bd.returns] at h; cases h)
  refine ⟨_, _, ?_, hrun, hended, _, _, rfl, ?_, (by rw [hh]; have q := own_chr rC578 (CHv.at Y584 hZ571 hEL hC578) hh584; exact q), hfin.1, hfin.2.1, hfin.2.2.1, hfin.2.2.2.mono (by decide) (by decide)⟩
  · rw [← hS0]
    refine k606 _ ?_
    show Steps p.tables e below (T584.setTop (mkF m 371 #[vI p1, vI p2, vI p3, vI p4, vI p5, vI 1, vI c0, vI c1, vI c2, vI ce, vR b523, vR b535, vR b549, vR b554, vR b554, vR b554, vR y576, vI 19] [(.int (1 : Int32))])) _
    exact retN Y584 hx (t := .boolean) Bd.returns (by simp) (hb hby at_371) hr
  · show Q_rm0_1 Z  h0 n0 _ T584.heap _
    rw [hh584]
    exact ⟨rfl, M584⟩
def Q_rm0_2 (Z : State)  (h0 : Heap) (n0 : Nat) (v : Option Value) (h : Heap) (L : List Loc) : Prop := v = some (.int (1 : Int32)) ∧ Fr n0 L
set_option maxRecDepth 65536 in
set_option maxHeartbeats 40000000 in
theorem rm0_2 (l : Launch) (Z : State) (a0 : Array Value) (hw : ∀ d ∈ tables_1, d.before a0 Z = true) (ws : List Jvm.Cond) (p1 : Int32) (p2 : Int32) (p3 : Int32) (p4 : Int32) (p5 : Int32) (zC : Int32) (u8 : Addr) (h0 : Heap) (n0 : Nat) (O0 : Old Z n0 h0) (SC : Sta Z Z.heap "java/lang/String" "COMPACT_STRINGS" "Z" (.int zC)) (hzC : ¬ zC = 0) (SI : Sta Z Z.heap "sun/nio/cs/UTF_8" "INSTANCE" "Lsun/nio/cs/UTF_8;" (.ref u8)) (SU : Sta Z Z.heap "java/nio/charset/StandardCharsets" "UTF_8" "Ljava/nio/charset/Charset;" (.ref u8)) (hlen : p1 &&& 3 = (2 : Int32)) :
    MetFree l x (head1 (Jvm.Cond.code x code maxLocals ret :: ws) room_1) (fun a U => a = #[(.int p1), (.int p2), (.int p3), (.int p4), (.int p5)] ∧ Z.Warmed39 U.vm ∧ U.heap = h0 ∧ CHv Z consts_1 U.vm h0) (fun _ _ _ _ _ => True) (fun _ U o U' => ∃ v L, o = .returned v ∧ Q_rm0_2 Z  h0 n0 v U'.heap L ∧ CHr Z consts_1 U.vm U.heap U'.vm U'.heap ∧ ReturnedEndW U o U' L room_1.cells room_1.slots) := by
  refine MetFree.of_bodySF (plainFor_of_name pn_HtmlClosePinLaw) hisR ?_
  intro p e s m args below meth c s₁ Bd hml0 hP hK
  obtain ⟨rfl, hZ, hh, hC0⟩ := hP
  have hx := Bd.exec
  have hby := Bd.bytes
  have hml : c.maxLocals = 18 := hml0
  have hown : s.vm.findClass "com/example/usko/usko/server/HtmlClosePinLaw" = some m.cls := findClass_of_methodNamed Bd.named
  have hnm := (name_of_methodNamed Bd.named Bd.method).1
  have X0 : Stand p l e room_1 (s.setVm s.vm) m #[(.int p1), (.int p2), (.int p3), (.int p4), (.int p5)] below meth c s₁ [] 0 0 := Stand.of_body Bd
  have e0 : s₁.heap = h0 := by rw [← hh, Bd.state]; rfl
  have N0 := Fr.nil n0
  obtain ⟨S0, hS0⟩ : ∃ z, z = s₁.setTop (entryFrame m #[(.int p1), (.int p2), (.int p3), (.int p4), (.int p5)] maxLocals) := ⟨_, rfl⟩
  have k0 : Rch p e below S0 s₁ (mkF m 0 #[vI p1, vI p2, vI p3, vI p4, vI p5, vU, vU, vU, vU, vU, vU, vU, vU, vU, vU, vU, vU, vU] []) := fun t kq => hS0 ▸ castTop (ef_0 m p1 p2 p3 p4 p5) kq
  have hS : s.Since s.vm s.heap.size := (State.WarmedH.refl s).since _
  have hk : s.heap.size ≤ h0.size := by rw [← hh]; exact Nat.le_refl _
  have hwS : ∀ d ∈ Bundle.stringAtoms, d.before a0 Z = true := fun d hd => hw d ((by decide +kernel : ∀ d ∈ Bundle.stringAtoms, d ∈ tables_1) d hd)
  have rC0 : CHr Z consts_1 s.vm h0 s.vm h0 := CHr.refl hC0
  have hEL : EW Z a0 consts_1 := (EW.cons (hw _ (gm 47 rfl)) (by decide +kernel) (EW.cons (hw _ (gm 122 rfl)) (by decide +kernel) (EW.cons (hw _ (gm 124 rfl)) (by decide +kernel) (EW.cons (hw _ (gm 14 rfl)) (by decide +kernel) EW.nil))))
  obtain ⟨c0, ec0⟩ : ∃ z : Int32, p2 &&& (127 : Int32) = z := ⟨_, rfl⟩
  have hc0 : ¬ c0 < 0 ∧ ¬ (127 : Int32) < c0 := ec0 ▸ own_127 p2
  have rc0 : (c0.toUInt32.toUInt16.toUInt32.toInt32) = c0 := (own_nar _ (own_7f8 _ hc0)).2
  obtain ⟨c1, ec1⟩ : ∃ z : Int32, p3 &&& (127 : Int32) = z := ⟨_, rfl⟩
  have hc1 : ¬ c1 < 0 ∧ ¬ (127 : Int32) < c1 := ec1 ▸ own_127 p3
  have rc1 : (c1.toUInt32.toUInt16.toUInt32.toInt32) = c1 := (own_nar _ (own_7f8 _ hc1)).2
  obtain ⟨c2, ec2⟩ : ∃ z : Int32, p4 &&& (127 : Int32) = z := ⟨_, rfl⟩
  have hc2 : ¬ c2 < 0 ∧ ¬ (127 : Int32) < c2 := ec2 ▸ own_127 p4
  have rc2 : (c2.toUInt32.toUInt16.toUInt32.toInt32) = c2 := (own_nar _ (own_7f8 _ hc2)).2
  obtain ⟨ce, ece⟩ : ∃ z : Int32, p5 &&& (127 : Int32) = z := ⟨_, rfl⟩
  have hce : ¬ ce < 0 ∧ ¬ (127 : Int32) < ce := ece ▸ own_127 p5
  have rce : (ce.toUInt32.toUInt16.toUInt32.toInt32) = ce := (own_nar _ (own_7f8 _ hce)).2
  have k608 : Rch p e below S0 s₁ (mkF m 73 #[vI p1, vI p2, vI p3, vI p4, vI p5, vI 2, vI c0, vI c1, vI c2, vI ce, vU, vU, vU, vU, vU, vU, vU, vU] [(.int (2 : Int32))]) := fun t h => k0 t (by
      show Steps p.tables e below (s₁.setTop (mkF m 0 #[vI p1, vI p2, vI p3, vI p4, vI p5, vU, vU, vU, vU, vU, vU, vU, vU, vU, vU, vU, vU, vU] [])) _
      refine XS.iloadN X0.here hx rfl (hb hby at_0) rfl ?_
      refine XS.iconst X0.here hx rfl (hb hby at_1) ?_
      show Steps p.tables e below (s₁.setTop (mkF m 2 #[vI p1, vI p2, vI p3, vI p4, vI p5, vU, vU, vU, vU, vU, vU, vU, vU, vU, vU, vU, vU, vU] [(.int (3 : Int32)), (.int p1)])) _
      refine XS.iand X0.here hx rfl (hb hby at_2) rfl ?_
      rw [hlen]
      refine XS.istore X0.here hx rfl (hb hby at_3) rfl (l' := #[vI p1, vI p2, vI p3, vI p4, vI p5, vI 2, vU, vU, vU, vU, vU, vU, vU, vU, vU, vU, vU, vU]) rfl ?_
      refine XS.iloadN X0.here hx rfl (hb hby at_5) rfl ?_
      refine XS.bipush X0.here hx rfl (hb hby at_6) ?_
      show Steps p.tables e below (s₁.setTop (mkF m 8 #[vI p1, vI p2, vI p3, vI p4, vI p5, vI 2, vU, vU, vU, vU, vU, vU, vU, vU, vU, vU, vU, vU] [(.int (127 : Int32)), (.int p2)])) _
      refine XS.iand X0.here hx rfl (hb hby at_8) rfl ?_
      rw [ec0]
      show Steps p.tables e below (s₁.setTop (mkF m 9 #[vI p1, vI p2, vI p3, vI p4, vI p5, vI 2, vU, vU, vU, vU, vU, vU, vU, vU, vU, vU, vU, vU] [(.int c0)])) _
      refine XS.i2c X0.here hx rfl (hb hby at_9) rfl ?_
      rw [rc0]
      refine XS.istore X0.here hx rfl (hb hby at_10) rfl (l' := #[vI p1, vI p2, vI p3, vI p4, vI p5, vI 2, vI c0, vU, vU, vU, vU, vU, vU, vU, vU, vU, vU, vU]) rfl ?_
      refine XS.iloadN X0.here hx rfl (hb hby at_12) rfl ?_
      refine XS.bipush X0.here hx rfl (hb hby at_13) ?_
      show Steps p.tables e below (s₁.setTop (mkF m 15 #[vI p1, vI p2, vI p3, vI p4, vI p5, vI 2, vI c0, vU, vU, vU, vU, vU, vU, vU, vU, vU, vU, vU] [(.int (127 : Int32)), (.int p3)])) _
      refine XS.iand X0.here hx rfl (hb hby at_15) rfl ?_
      rw [ec1]
      show Steps p.tables e below (s₁.setTop (mkF m 16 #[vI p1, vI p2, vI p3, vI p4, vI p5, vI 2, vI c0, vU, vU, vU, vU, vU, vU, vU, vU, vU, vU, vU] [(.int c1)])) _
      refine XS.i2c X0.here hx rfl (hb hby at_16) rfl ?_
      rw [rc1]
      refine XS.istore X0.here hx rfl (hb hby at_17) rfl (l' := #[vI p1, vI p2, vI p3, vI p4, vI p5, vI 2, vI c0, vI c1, vU, vU, vU, vU, vU, vU, vU, vU, vU, vU]) rfl ?_
      refine XS.iloadN X0.here hx rfl (hb hby at_19) rfl ?_
      refine XS.bipush X0.here hx rfl (hb hby at_20) ?_
      show Steps p.tables e below (s₁.setTop (mkF m 22 #[vI p1, vI p2, vI p3, vI p4, vI p5, vI 2, vI c0, vI c1, vU, vU, vU, vU, vU, vU, vU, vU, vU, vU] [(.int (127 : Int32)), (.int p4)])) _
      refine XS.iand X0.here hx rfl (hb hby at_22) rfl ?_
      rw [ec2]
      show Steps p.tables e below (s₁.setTop (mkF m 23 #[vI p1, vI p2, vI p3, vI p4, vI p5, vI 2, vI c0, vI c1, vU, vU, vU, vU, vU, vU, vU, vU, vU, vU] [(.int c2)])) _
      refine XS.i2c X0.here hx rfl (hb hby at_23) rfl ?_
      rw [rc2]
      refine XS.istore X0.here hx rfl (hb hby at_24) rfl (l' := #[vI p1, vI p2, vI p3, vI p4, vI p5, vI 2, vI c0, vI c1, vI c2, vU, vU, vU, vU, vU, vU, vU, vU, vU]) rfl ?_
      refine XS.iload X0.here hx rfl (hb hby at_26) rfl ?_
      refine XS.bipush X0.here hx rfl (hb hby at_28) ?_
      show Steps p.tables e below (s₁.setTop (mkF m 30 #[vI p1, vI p2, vI p3, vI p4, vI p5, vI 2, vI c0, vI c1, vI c2, vU, vU, vU, vU, vU, vU, vU, vU, vU] [(.int (127 : Int32)), (.int p5)])) _
      refine XS.iand X0.here hx rfl (hb hby at_30) rfl ?_
      rw [ece]
      show Steps p.tables e below (s₁.setTop (mkF m 31 #[vI p1, vI p2, vI p3, vI p4, vI p5, vI 2, vI c0, vI c1, vI c2, vU, vU, vU, vU, vU, vU, vU, vU, vU] [(.int ce)])) _
      refine XS.i2c X0.here hx rfl (hb hby at_31) rfl ?_
      rw [rce]
      refine XS.istore X0.here hx rfl (hb hby at_32) rfl (l' := #[vI p1, vI p2, vI p3, vI p4, vI p5, vI 2, vI c0, vI c1, vI c2, vI ce, vU, vU, vU, vU, vU, vU, vU, vU]) rfl ?_
      refine XS.iload X0.here hx rfl (hb hby at_34) rfl ?_
      refine XS.ifYes X0.here hx rfl (pc0 := 36) (pc' := 47) rfl (hb hby at_36) rfl ((if0 _ _).trans (feq (by decide : ¬ ((2 : Int32) = (0 : Int32)))).2) (by decide) (by decide) ?_
      refine XS.iload X0.here hx rfl (hb hby at_47) rfl ?_
      refine XS.iconst X0.here hx rfl (hb hby at_49) ?_
      refine XS.icmpYes X0.here hx rfl (pc0 := 50) (pc' := 66) rfl (hb hby at_50) rfl (feq (by decide : ¬ ((2 : Int32) = (1 : Int32)))).2 (by decide) (by decide) ?_
      refine XS.iload X0.here hx rfl (hb hby at_66) rfl ?_
      refine XS.iconst X0.here hx rfl (hb hby at_68) ?_
      refine XS.icmpNo X0.here hx rfl (hb hby at_69) rfl (teq (by decide : (2 : Int32) = (2 : Int32))).2 ?_
      refine XS.iconst X0.here hx rfl (hb hby at_72) ?_
      exact h)
  obtain ⟨T607, h607, k607, X607, e607, E607, A607, st607⟩ := newP X0 hx hZ (hw _ (gm 0 rfl)) e0 (g := (mkF m 73 #[vI p1, vI p2, vI p3, vI p4, vI p5, vI 2, vI c0, vI c1, vI c2, vI ce, vU, vU, vU, vU, vU, vU, vU, vU] [(.int (2 : Int32))])) rfl (hb hby at_73) rfl (by decide) (cap := 2) (by decide) (by decide) (by decide) (by decide)
  obtain ⟨b607, g607⟩ : ∃ z, z = h0.size := ⟨_, rfl⟩
  rw [← g607] at A607 st607
  have k609 : Rch p e below S0 T607 (mkF m 75 #[vI p1, vI p2, vI p3, vI p4, vI p5, vI 2, vI c0, vI c1, vI c2, vI ce, vU, vU, vU, vU, vU, vU, vU, vU] [(.ref b607)]) := fun t h => k608 t (st607 t h)
  have ge_b607 : n0 ≤ b607 := own_ge O0 (Nat.le_of_eq g607.symm)
  have sf_b607 : Safe Z consts_1 s.vm h0 b607 := Safe.new (Nat.le_of_eq g607.symm)
  replace sf_b607 := Safe.ext E607 hC0 sf_b607
  have hC610 := hC0.ext E607
  have rC610 := rC0.trans (CHr.ext E607 hC0)
  have O611 := O0.ext E607
  have hkk612 := Nat.le_trans hk E607.1
  have V_b607 : Arv Z h607 b607 k607 .char (2 : Int32) [(.int (0 : Int32)), (.int (0 : Int32))] (.int (0 : Int32)) := (Arv.new A607 (by decide)).pad (pad_rep [] (.int (0 : Int32)) 2)
  have k614 : Rch p e below S0 T607 (mkF m 79 #[vI p1, vI p2, vI p3, vI p4, vI p5, vI 2, vI c0, vI c1, vI c2, vI ce, vU, vU, vU, vU, vU, vU, vU, vU] [(.int c0), (.int (0 : Int32)), (.ref b607), (.ref b607)]) := fun t h => k609 t (by
      show Steps p.tables e below (T607.setTop (mkF m 75 #[vI p1, vI p2, vI p3, vI p4, vI p5, vI 2, vI c0, vI c1, vI c2, vI ce, vU, vU, vU, vU, vU, vU, vU, vU] [(.ref b607)])) _
      refine XS.dup X607.here hx rfl (hb hby at_75) rfl rfl ?_
      refine XS.iconst X607.here hx rfl (hb hby at_76) ?_
      refine XS.iload X607.here hx rfl (hb hby at_77) rfl ?_
      exact h)
  obtain ⟨cl613, Ar613, q613, Sz613, Ng613, Hs613, G613⟩ := id V_b607
  have hin613 : ¬ ((0 : Int32) < 0 ∨ cl613.slots.size ≤ ((0 : Int32)).toNatClampNeg) := inb_of Sz613 ⟨by decide, by decide⟩
  obtain ⟨T613, h613, X613, e613, W613, st613⟩ := stC X607 hx hZ e607 Ar613 (j := (0 : Int32)) hin613 (g := (mkF m 79 #[vI p1, vI p2, vI p3, vI p4, vI p5, vI 2, vI c0, vI c1, vI c2, vI ce, vU, vU, vU, vU, vU, vU, vU, vU] [(.int c0), (.int (0 : Int32)), (.ref b607), (.ref b607)])) rfl rfl (hb hby at_79)
  have k615 : Rch p e below S0 T613 (mkF m 80 #[vI p1, vI p2, vI p3, vI p4, vI p5, vI 2, vI c0, vI c1, vI c2, vI ce, vU, vU, vU, vU, vU, vU, vU, vU] [(.ref b607)]) := fun t h => k614 t (st613 t h)
  have N613 := Fr.snoc X613 N0 ge_b607
  have V_b607' := Arv.set Ar613 q613 Sz613 Ng613 Hs613 G613 (fits_nar_char _) W613 0 rfl (Nat.le_of_ble_eq_true rfl)
  replace V_b607 : Arv Z h613 b607 k607 .char (2 : Int32) [(.int c0), (.int (0 : Int32))] (.int (0 : Int32)) := (by have q := V_b607'; rw [(own_nar c0 (own_7f8 _ hc0)).1] at q; exact q)
  have hC616 := hC610.wr W613 sf_b607
  have rC616 := rC610.trans (CHr.wr W613 sf_b607 hC610)
  replace sf_b607 := Safe.wr W613 sf_b607 hC610 sf_b607
  have O617 := O611.wr W613 ge_b607
  have hkk618 := Nat.le_trans hkk612 (Keep.of_wr W613).1
  have k620 : Rch p e below S0 T613 (mkF m 84 #[vI p1, vI p2, vI p3, vI p4, vI p5, vI 2, vI c0, vI c1, vI c2, vI ce, vU, vU, vU, vU, vU, vU, vU, vU] [(.int c1), (.int (1 : Int32)), (.ref b607), (.ref b607)]) := fun t h => k615 t (by
      show Steps p.tables e below (T613.setTop (mkF m 80 #[vI p1, vI p2, vI p3, vI p4, vI p5, vI 2, vI c0, vI c1, vI c2, vI ce, vU, vU, vU, vU, vU, vU, vU, vU] [(.ref b607)])) _
      refine XS.dup X613.here hx rfl (hb hby at_80) rfl rfl ?_
      refine XS.iconst X613.here hx rfl (hb hby at_81) ?_
      refine XS.iload X613.here hx rfl (hb hby at_82) rfl ?_
      exact h)
  obtain ⟨cl619, Ar619, q619, Sz619, Ng619, Hs619, G619⟩ := id V_b607
  have hin619 : ¬ ((1 : Int32) < 0 ∨ cl619.slots.size ≤ ((1 : Int32)).toNatClampNeg) := inb_of Sz619 ⟨by decide, by decide⟩
  obtain ⟨T619, h619, X619, e619, W619, st619⟩ := stC X613 hx hZ e613 Ar619 (j := (1 : Int32)) hin619 (g := (mkF m 84 #[vI p1, vI p2, vI p3, vI p4, vI p5, vI 2, vI c0, vI c1, vI c2, vI ce, vU, vU, vU, vU, vU, vU, vU, vU] [(.int c1), (.int (1 : Int32)), (.ref b607), (.ref b607)])) rfl rfl (hb hby at_84)
  have k621 : Rch p e below S0 T619 (mkF m 85 #[vI p1, vI p2, vI p3, vI p4, vI p5, vI 2, vI c0, vI c1, vI c2, vI ce, vU, vU, vU, vU, vU, vU, vU, vU] [(.ref b607)]) := fun t h => k620 t (st619 t h)
  have N619 := Fr.snoc X619 N613 ge_b607
  have V_b607' := Arv.set Ar619 q619 Sz619 Ng619 Hs619 G619 (fits_nar_char _) W619 1 rfl (Nat.le_of_ble_eq_true rfl)
  replace V_b607 : Arv Z h619 b607 k607 .char (2 : Int32) [(.int c0), (.int c1)] (.int (0 : Int32)) := (by have q := V_b607'; rw [(own_nar c1 (own_7f8 _ hc1)).1] at q; exact q)
  have hC622 := hC616.wr W619 sf_b607
  have rC622 := rC616.trans (CHr.wr W619 sf_b607 hC616)
  replace sf_b607 := Safe.wr W619 sf_b607 hC616 sf_b607
  have O623 := O617.wr W619 ge_b607
  have hkk624 := Nat.le_trans hkk618 (Keep.of_wr W619).1
  have k626 : Rch p e below S0 T619 (mkF m 110 #[vI p1, vI p2, vI p3, vI p4, vI p5, vI 2, vI c0, vI c1, vI c2, vI ce, vR b607, vU, vU, vU, vU, vU, vU, vU] []) := fun t h => k621 t (by
      show Steps p.tables e below (T619.setTop (mkF m 85 #[vI p1, vI p2, vI p3, vI p4, vI p5, vI 2, vI c0, vI c1, vI c2, vI ce, vU, vU, vU, vU, vU, vU, vU, vU] [(.ref b607)])) _
      refine XS.astore X619.here hx rfl (hb hby at_85) rfl rfl (l' := #[vI p1, vI p2, vI p3, vI p4, vI p5, vI 2, vI c0, vI c1, vI c2, vI ce, vR b607, vU, vU, vU, vU, vU, vU, vU]) rfl ?_
      refine XS.goto X619.here hx rfl (pc0 := 87) (pc' := 110) rfl (hb hby at_87) (by decide) (by decide) ?_
      exact h)
  obtain ⟨T625, h625, X625, e625, E625, A625, D625, -, st625⟩ := newO X619 hx hZ hown (hw _ (gm 1 rfl)) (hw _ (gm 2 rfl)) (hw _ (gm 3 rfl)) e619 (g := (mkF m 110 #[vI p1, vI p2, vI p3, vI p4, vI p5, vI 2, vI c0, vI c1, vI c2, vI ce, vR b607, vU, vU, vU, vU, vU, vU, vU] [])) rfl (hb hby at_110) (by decide) (by decide)
  obtain ⟨b625, g625⟩ : ∃ z, z = h619.size := ⟨_, rfl⟩
  rw [← g625] at A625 D625 st625
  have k627 : Rch p e below S0 T625 (mkF m 113 #[vI p1, vI p2, vI p3, vI p4, vI p5, vI 2, vI c0, vI c1, vI c2, vI ce, vR b607, vU, vU, vU, vU, vU, vU, vU] [(.ref b625)]) := fun t h => k626 t (st625 t h)
  have ne_b607_b625 : b607 ≠ b625 := own_ne V_b607.lt (Nat.le_of_eq g625.symm)
  have ge_b625 : n0 ≤ b625 := own_ge O623 (Nat.le_of_eq g625.symm)
  have sf_b625 : Safe Z consts_1 s.vm h619 b625 := Safe.new (Nat.le_of_eq g625.symm)
  replace sf_b607 := Safe.ext E625 hC622 sf_b607
  replace sf_b625 := Safe.ext E625 hC622 sf_b625
  have hC628 := hC622.ext E625
  have rC628 := rC622.trans (CHr.ext E625 hC622)
  have O629 := O623.ext E625
  replace V_b607 := V_b607.ext E625
  have hkk630 := Nat.le_trans hkk624 E625.1
  have E_b625 := A625
  have F_b625_value : Fld Z h625 b625 "java/lang/String" "value" "[B" .null := D625 (Or.inr (hw _ (gm 16 rfl))) (ty := (.array .byte)) (by decide)
  have F_b625_coder : Fld Z h625 b625 "java/lang/String" "coder" "B" (.int (0 : Int32)) := D625 (Or.inr (hw _ (gm 17 rfl))) (ty := .byte) (by decide)
  have k631 : Rch p e below S0 T625 (mkF m 116 #[vI p1, vI p2, vI p3, vI p4, vI p5, vI 2, vI c0, vI c1, vI c2, vI ce, vR b607, vU, vU, vU, vU, vU, vU, vU] [(.ref b607), (.ref b625), (.ref b625)]) := fun t h => k627 t (by
      show Steps p.tables e below (T625.setTop (mkF m 113 #[vI p1, vI p2, vI p3, vI p4, vI p5, vI 2, vI c0, vI c1, vI c2, vI ce, vR b607, vU, vU, vU, vU, vU, vU, vU] [(.ref b625)])) _
      refine XS.dup X625.here hx rfl (hb hby at_113) rfl rfl ?_
      refine XS.aload X625.here hx rfl (hb hby at_114) rfl rfl ?_
      exact h)
  have hws : ∀ d ∈ StrChars.Road.words, d.before a0 Z = true := fun d hd => hw d ((by decide +kernel : ∀ d ∈ StrChars.Road.words, d ∈ tables_1) d hd)
  have hp : ∀ c ∈ ([c0, c1] : List Int32), ¬ c < 0 ∧ ¬ (255 : Int32) < c := by
    intro c hc
    simp only [List.mem_cons, List.not_mem_nil, or_false] at hc
    rcases hc with rfl | rfl
    · exact own_7f8 _ hc0
    · exact own_7f8 _ hc1
  obtain ⟨_, _, ⟨T632, L632, kk632, n632⟩, -, X632, ⟨Lc632, hQ632, l632, y632, z632⟩, st632⟩ := X625.specialBack hx (y := (⟨"java/lang/String", "<init>", "([C)V"⟩ : MethodName)) rfl hown (mvT hZ (hw _ (gm 4 rfl))) (mvT hZ (hw _ (gm 5 rfl))) (mvT hZ (hw _ (gm 6 rfl))) (by decide) (StrChars.Road.backV (W := 1) hZ hws (kI := 4) (hw _ (gm 2 rfl)) (cs := [c0, c1]) (bs := [c0, c1].map (fun c => c.toInt8.toInt32)) (n := 2) ge_b625 (own_le O629) E_b625 F_b625_value F_b625_coder V_b607 (SC.ext O629.2) hzC rfl rfl (by decide) (by decide) hp rfl (by decide) (by decide)) (g := (mkF m 116 #[vI p1, vI p2, vI p3, vI p4, vI p5, vI 2, vI c0, vI c1, vI c2, vI ce, vR b607, vU, vU, vU, vU, vU, vU, vU] [(.ref b607), (.ref b625), (.ref b625)])) rfl (by rw [hml]; rfl) (Steps.refl _) (a := b625) (argsL := [(.ref b607)]) (rest := [(.ref b625)]) (lenOf pd_0 rfl) rfl (by show 2 * 0 + _ ≤ _; exact Nat.le_of_eq rfl) (hb hby at_116) (fun _ _ => ⟨rfl, e625, (by decide : 2 + 1 ≤ _), (by decide : 6 + 2 ≤ _)⟩)
  dsimp only [Pt.U, Pt.locs, Pt.cells, Pt.slots] at X632 l632 y632 z632 st632 hQ632
  subst l632 y632 z632
  obtain ⟨rfl, Nq632, K632, Eb632, Cb632, t632, kb632, u632, v632, ww632, Vb632, Ab632⟩ := hQ632
  have N632 := Fr.app N619 Nq632
  have k633 : Rch p e below S0 T632 (mkF m 119 #[vI p1, vI p2, vI p3, vI p4, vI p5, vI 2, vI c0, vI c1, vI c2, vI ce, vR b607, vU, vU, vU, vU, vU, vU, vU] [(.ref b625)]) := fun t h => k631 t (st632.trans h)
  have hC634 := hC628.keep K632 (sfS sf_b625 sf0)
  have rC634 := rC628.trans (CHr.keep K632 (sfS sf_b625 sf0) hC628)
  have sfx635 := (sfS sf_b625 sf0)
  replace sf_b607 := Safe.keep K632 sfx635 hC628 sf_b607
  replace sf_b625 := Safe.keep K632 sfx635 hC628 sf_b625
  have O636 := O629.keep K632 (allS ge_b625 all0)
  replace V_b607 := V_b607.keep K632 (ninS ne_b607_b625 nin0)
  replace E_b625 := E_b625.keep K632
  have hkk637 := Nat.le_trans hkk630 K632.1
  have At632 : Arv Z T632.heap t632 kb632 .byte (Int32.ofNat ([c0, c1] : List Int32).length) (([c0, c1] : List Int32).map Value.int) (.int (0 : Int32)) := by
    have q := Ab632
    simp only [List.map_cons, List.map_nil, (own_7b _ hc0).1, (own_7b _ hc1).1] at q
    exact q
  have k638 : Rch p e below S0 T632 (mkF m 123 #[vI p1, vI p2, vI p3, vI p4, vI p5, vI 2, vI c0, vI c1, vI c2, vI ce, vR b607, vR b625, vU, vU, vU, vU, vU, vU] [(.int ce)]) := fun t h => k633 t (by
      show Steps p.tables e below (T632.setTop (mkF m 119 #[vI p1, vI p2, vI p3, vI p4, vI p5, vI 2, vI c0, vI c1, vI c2, vI ce, vR b607, vU, vU, vU, vU, vU, vU, vU] [(.ref b625)])) _
      refine XS.astore X632.here hx rfl (hb hby at_119) rfl rfl (l' := #[vI p1, vI p2, vI p3, vI p4, vI p5, vI 2, vI c0, vI c1, vI c2, vI ce, vR b607, vR b625, vU, vU, vU, vU, vU, vU]) rfl ?_
      refine XS.iload X632.here hx rfl (hb hby at_121) rfl ?_
      exact h)
  obtain ⟨_, _, ⟨T639, L639, kk639, n639⟩, -, X639, ⟨Lc639, hQ639, l639, y639, z639⟩, st639⟩ := Jvm.LawKit.callS X632 hx (y := (⟨"java/lang/String", "valueOf", "(C)Ljava/lang/String;"⟩ : MethodName)) hown (mvT hZ (hw _ (gm 22 rfl))) (mvT hZ (hw _ (gm 23 rfl))) (mvT hZ (hw _ (gm 3 rfl))) (mvT hZ (hw _ (gm 24 rfl))) (by decide) (backOf (W := 0) (rmVO l Z a0 hw [] ce zC T632.heap n0 O636 SC hzC hce) hZ (hw _ (gm 24 rfl)) (hw _ (gm 3 rfl)) (by decide) (by decide)) (g := (mkF m 123 #[vI p1, vI p2, vI p3, vI p4, vI p5, vI 2, vI c0, vI c1, vI c2, vI ce, vR b607, vR b625, vU, vU, vU, vU, vU, vU] [(.int ce)])) rfl (by rw [hml]; rfl) (argsL := [(.int ce)]) (rest := []) (lenOf pd_3 rfl) rfl (by show 2 * 0 + _ ≤ _; exact Nat.le_of_eq rfl) (hb hby at_123) (fun _ _ => ⟨rfl, rfl, (by decide : 3 + 2 ≤ _), (by decide : 8 + 5 ≤ _)⟩)
  dsimp only [Pt.U, Pt.locs, Pt.cells, Pt.slots] at X639 l639 y639 z639 st639 hQ639
  subst l639 y639 z639
  obtain ⟨b639, y639, ky639, rfl, Nq639, E639, z639, Eb639, zy639, Gv639, Gc639, V639⟩ := hQ639
  have N639 := Fr.app N632 Nq639
  have k640 : Rch p e below S0 T639 (mkF m 126 #[vI p1, vI p2, vI p3, vI p4, vI p5, vI 2, vI c0, vI c1, vI c2, vI ce, vR b607, vR b625, vU, vU, vU, vU, vU, vU] [(.ref b639)]) := fun t h => k638 t (st639 t h)
  have hC641 := hC634.ext E639
  have rC641 := rC634.trans (CHr.ext E639 hC634)
  have O642 := O636.ext E639
  replace E_b625 := E_b625.ext E639
  replace Vb632 := Vb632.ext E639
  replace Cb632 := Cb632.ext E639
  replace At632 := At632.ext E639
  have hkk643 := Nat.le_trans hkk637 E639.1
  have k645 : Rch p e below S0 T639 (mkF m 128 #[vI p1, vI p2, vI p3, vI p4, vI p5, vI 2, vI c0, vI c1, vI c2, vI ce, vR b607, vR b625, vR b639, vU, vU, vU, vU, vU] []) := fun t h => k640 t (by
      show Steps p.tables e below (T639.setTop (mkF m 126 #[vI p1, vI p2, vI p3, vI p4, vI p5, vI 2, vI c0, vI c1, vI c2, vI ce, vR b607, vR b625, vU, vU, vU, vU, vU, vU] [(.ref b639)])) _
      refine XS.astore X639.here hx rfl (hb hby at_126) rfl rfl (l' := #[vI p1, vI p2, vI p3, vI p4, vI p5, vI 2, vI c0, vI c1, vI c2, vI ce, vR b607, vR b625, vR b639, vU, vU, vU, vU, vU]) rfl ?_
      exact h)
  obtain ⟨T644, h644, X644, e644, E644, A644, D644, -, st644⟩ := newO X639 hx hZ hown (hw _ (gm 37 rfl)) (hw _ (gm 38 rfl)) (hw _ (gm 39 rfl)) rfl (g := (mkF m 128 #[vI p1, vI p2, vI p3, vI p4, vI p5, vI 2, vI c0, vI c1, vI c2, vI ce, vR b607, vR b625, vR b639, vU, vU, vU, vU, vU] [])) rfl (hb hby at_128) (by decide) (by decide)
  obtain ⟨b644, g644⟩ : ∃ z, z = T639.heap.size := ⟨_, rfl⟩
  rw [← g644] at A644 D644 st644
  have k646 : Rch p e below S0 T644 (mkF m 131 #[vI p1, vI p2, vI p3, vI p4, vI p5, vI 2, vI c0, vI c1, vI c2, vI ce, vR b607, vR b625, vR b639, vU, vU, vU, vU, vU] [(.ref b644)]) := fun t h => k645 t (st644 t h)
  have ne_b625_b644 : b625 ≠ b644 := own_ne E_b625.lt (Nat.le_of_eq g644.symm)
  have ne_t632_b644 : t632 ≠ b644 := own_ne At632.lt (Nat.le_of_eq g644.symm)
  have ne_b639_b644 : b639 ≠ b644 := own_ne Eb639.lt (Nat.le_of_eq g644.symm)
  have ne_y639_b644 : y639 ≠ b644 := own_ne V639.lt (Nat.le_of_eq g644.symm)
  have ge_b644 : n0 ≤ b644 := own_ge O642 (Nat.le_of_eq g644.symm)
  have sf_b644 : Safe Z consts_1 s.vm T639.heap b644 := Safe.new (Nat.le_of_eq g644.symm)
  replace sf_b644 := Safe.ext E644 hC641 sf_b644
  have hC647 := hC641.ext E644
  have rC647 := rC641.trans (CHr.ext E644 hC641)
  have O648 := O642.ext E644
  replace E_b625 := E_b625.ext E644
  replace Vb632 := Vb632.ext E644
  replace Cb632 := Cb632.ext E644
  replace At632 := At632.ext E644
  replace Eb639 := Eb639.ext E644
  replace Gv639 := Gv639.ext E644
  replace Gc639 := Gc639.ext E644
  replace V639 := V639.ext E644
  have hkk649 := Nat.le_trans hkk643 E644.1
  have E_b644 := A644
  have F_b644_out : Fld Z h644 b644 "com/example/usko/usko/server/Html" "out" "Ljava/lang/StringBuilder;" .null := D644 (Or.inr (hw _ (gm 116 rfl))) (ty := (.object "java/lang/StringBuilder")) (by decide)
  have k650 : Rch p e below S0 T644 (mkF m 132 #[vI p1, vI p2, vI p3, vI p4, vI p5, vI 2, vI c0, vI c1, vI c2, vI ce, vR b607, vR b625, vR b639, vU, vU, vU, vU, vU] [(.ref b644), (.ref b644)]) := fun t h => k646 t (by
      show Steps p.tables e below (T644.setTop (mkF m 131 #[vI p1, vI p2, vI p3, vI p4, vI p5, vI 2, vI c0, vI c1, vI c2, vI ce, vR b607, vR b625, vR b639, vU, vU, vU, vU, vU] [(.ref b644)])) _
      refine XS.dup X644.here hx rfl (hb hby at_131) rfl rfl ?_
      exact h)
  obtain ⟨_, _, ⟨T651, L651, kk651, n651⟩, -, X651, hS651, gr651, ⟨Lc651, hQ651, l651, y651, z651, hR651⟩, st651⟩ := X644.specialBackS hx (y := (⟨"com/example/usko/usko/server/Html", "<init>", "()V"⟩ : MethodName)) rfl hown (mvT hZ (hw _ (gm 40 rfl))) (mvT hZ (hw _ (gm 41 rfl))) (mvT hZ (hw _ (gm 42 rfl))) (by decide) (backOfSH (W := 1) (rmHI l Z a0 hw [] b644 zC h644 n0 O648 SC hzC ge_b644 E_b644 F_b644_out) hZ (hw _ (gm 42 rfl)) (hw _ (gm 39 rfl)) (by decide) (by decide) hEL hC647) (g := (mkF m 132 #[vI p1, vI p2, vI p3, vI p4, vI p5, vI 2, vI c0, vI c1, vI c2, vI ce, vR b607, vR b625, vR b639, vU, vU, vU, vU, vU] [(.ref b644), (.ref b644)])) rfl (by rw [hml]; rfl) (Steps.refl _) (a := b644) (argsL := []) (rest := [(.ref b644)]) (lenOf pd_2 rfl) rfl (by show 2 * 0 + _ ≤ _; exact Nat.le_of_eq rfl) (hb hby at_132) (fun _ _ => ⟨rfl, e644, (by decide : 6 + 4 ≤ _), (by decide : 14 + 104 ≤ _)⟩)
  dsimp only [Pt.U, Pt.locs, Pt.cells, Pt.slots] at X651 l651 y651 z651 st651 hQ651 hS651 gr651 hR651
  subst l651 y651 z651
  have hZ651 : Z.Warmed39 (s.setVm T651.vm).vm := State.Warmed39.trans (t := (s.setVm s.vm)) hZ hS651.1
  have hown651 : (s.setVm T651.vm).vm.findClass "com/example/usko/usko/server/HtmlClosePinLaw" = some m.cls := by rw [show (s.setVm T651.vm).vm = T651.vm from rfl, hS651.1.alike.findClass]; exact hown
  replace hS651 := foldS hS (by rw [e644]; exact hkk649) hS651 gr651
  have hk651 := Nat.le_refl T651.heap.size
  replace X651 : Stand p l e room_1 (s.setVm T651.vm) m #[(.int p1), (.int p2), (.int p3), (.int p4), (.int p5)] below meth c T651 _ _ _ := X651
  obtain ⟨rfl, Nq651, K651, sb, tb, kb, zs651, zt651, ne_sb_tb, E_sb, Fc, Fv, Fn, Vb, Fo⟩ := hQ651
  have N651 := Fr.app N639 Nq651
  have k652 : Rch p e below S0 T651 (mkF m 135 #[vI p1, vI p2, vI p3, vI p4, vI p5, vI 2, vI c0, vI c1, vI c2, vI ce, vR b607, vR b625, vR b639, vU, vU, vU, vU, vU] [(.ref b644)]) := fun t h => k650 t (st651.trans h)
  have ne_b625_sb : b625 ≠ sb := own_ne E_b625.lt zs651
  have ne_t632_sb : t632 ≠ sb := own_ne At632.lt zs651
  have ne_b639_sb : b639 ≠ sb := own_ne Eb639.lt zs651
  have ne_y639_sb : y639 ≠ sb := own_ne V639.lt zs651
  have ne_b644_sb : b644 ≠ sb := own_ne E_b644.lt zs651
  have ge_sb : n0 ≤ sb := own_ge O648 zs651
  have ne_b625_tb : b625 ≠ tb := own_ne E_b625.lt zt651
  have ne_t632_tb : t632 ≠ tb := own_ne At632.lt zt651
  have ne_b639_tb : b639 ≠ tb := own_ne Eb639.lt zt651
  have ne_y639_tb : y639 ≠ tb := own_ne V639.lt zt651
  have ne_b644_tb : b644 ≠ tb := own_ne E_b644.lt zt651
  have ge_tb : n0 ≤ tb := own_ge O648 zt651
  have hC653 := hR651.1
  have rC653 := rC647.trans hR651
  have O654 := O648.keep K651 (allS ge_b644 all0)
  replace E_b625 := E_b625.keep K651
  replace Vb632 := Vb632.keep K651 (ninS ne_b625_b644 nin0)
  replace Cb632 := Cb632.keep K651 (ninS ne_b625_b644 nin0)
  replace At632 := At632.keep K651 (ninS ne_t632_b644 nin0)
  replace Eb639 := Eb639.keep K651
  replace Gv639 := Gv639.keep K651 (ninS ne_b639_b644 nin0)
  replace Gc639 := Gc639.keep K651 (ninS ne_b639_b644 nin0)
  replace V639 := V639.keep K651 (ninS ne_y639_b644 nin0)
  replace E_b644 := E_b644.keep K651
  have k655 : Rch p e below S0 T651 (mkF m 141 #[vI p1, vI p2, vI p3, vI p4, vI p5, vI 2, vI c0, vI c1, vI c2, vI ce, vR b607, vR b625, vR b639, vR b644, vU, vU, vU, vU] [(.ref b625), (.ref b644)]) := fun t h => k652 t (by
      show Steps p.tables e below (T651.setTop (mkF m 135 #[vI p1, vI p2, vI p3, vI p4, vI p5, vI 2, vI c0, vI c1, vI c2, vI ce, vR b607, vR b625, vR b639, vU, vU, vU, vU, vU] [(.ref b644)])) _
      refine XS.astore X651.here hx rfl (hb hby at_135) rfl rfl (l' := #[vI p1, vI p2, vI p3, vI p4, vI p5, vI 2, vI c0, vI c1, vI c2, vI ce, vR b607, vR b625, vR b639, vR b644, vU, vU, vU, vU]) rfl ?_
      refine XS.aload X651.here hx rfl (hb hby at_137) rfl rfl ?_
      refine XS.aload X651.here hx rfl (hb hby at_139) rfl rfl ?_
      exact h)
  obtain ⟨cq656, kq656, q656a, q656b, q656c⟩ := isOf hZ651 rfl E_b644
  obtain ⟨_, _, ⟨T656, L656, kk656, n656⟩, -, X656, hS656, gr656, ⟨Lc656, hQ656, l656, y656, z656, hR656⟩, st656⟩ := X651.virtualBackS hx (y := (⟨"com/example/usko/usko/server/Html", "close", "(Ljava/lang/String;)Lcom/example/usko/usko/server/Html;"⟩ : MethodName)) (z := (⟨"com/example/usko/usko/server/Html", "close", "(Ljava/lang/String;)Lcom/example/usko/usko/server/Html;"⟩ : MethodName)) hown651 (mvT hZ651 (hw _ (gm 117 rfl))) (mvT hZ651 (hw _ (gm 118 rfl))) (notFace_of_selects (args := #[]) (mvT hZ651 (hw _ (gm 120 rfl)))) (mvT hZ651 (hw _ (gm 120 rfl))) (mvT hZ651 (hw _ (gm 119 rfl))) (by decide) (backOfSH (W := 0) (rmCL l Z a0 hw [] b644 b625 sb tb t632 kb632 [c0, c1] kb 32 [(60 : Int32), (33 : Int32), (68 : Int32), (79 : Int32), (67 : Int32), (84 : Int32), (89 : Int32), (80 : Int32), (69 : Int32), (32 : Int32), (104 : Int32), (116 : Int32), (109 : Int32), (108 : Int32), (62 : Int32), (10 : Int32)] zC T651.heap n0 O654 SC hzC Fo ge_sb ge_tb ne_sb_tb E_sb Fc Fv Fn E_b625 Vb632 Cb632 At632 Vb ne_b625_sb ne_b625_tb ne_t632_sb ne_t632_tb (Nat.le_of_ble_eq_true rfl) (by decide) (by decide)) hZ651 (hw _ (gm 121 rfl)) (hw _ (gm 39 rfl)) (by decide) (by decide) hEL hC653) q656a q656c (g := (mkF m 141 #[vI p1, vI p2, vI p3, vI p4, vI p5, vI 2, vI c0, vI c1, vI c2, vI ce, vR b607, vR b625, vR b639, vR b644, vU, vU, vU, vU] [(.ref b625), (.ref b644)])) rfl (by rw [hml]; rfl) (Steps.refl _) (argsL := [(.ref b625)]) (rest := []) (lenOf pd_16 rfl) rfl (by show 2 * 0 + _ ≤ _; exact Nat.le_of_eq rfl) (hb hby at_141) (fun _ _ => ⟨rfl, rfl, (by decide : 10 + 4 ≤ _), (by decide : 118 + 24 ≤ _)⟩)
  dsimp only [Pt.U, Pt.locs, Pt.cells, Pt.slots] at X656 l656 y656 z656 st656 hQ656 hS656 gr656 hR656
  subst l656 y656 z656
  have hZ656 : Z.Warmed39 (s.setVm T656.vm).vm := State.Warmed39.trans (t := (s.setVm T651.vm)) hZ651 hS656.1
  have hown656 : (s.setVm T656.vm).vm.findClass "com/example/usko/usko/server/HtmlClosePinLaw" = some m.cls := by rw [show (s.setVm T656.vm).vm = T656.vm from rfl, hS656.1.alike.findClass]; exact hown651
  replace hS656 := foldS hS651 (by exact hk651) hS656 gr656
  have hk656 := Nat.le_refl T656.heap.size
  replace X656 : Stand p l e room_1 (s.setVm T656.vm) m #[(.int p1), (.int p2), (.int p3), (.int p4), (.int p5)] below meth c T656 _ _ _ := X656
  obtain ⟨rfl, Nq656, K656, Fc656, Fv656, Fn656, V656⟩ := hQ656
  have N656 := Fr.app N651 Nq656
  have k657 : Rch p e below S0 T656 (mkF m 144 #[vI p1, vI p2, vI p3, vI p4, vI p5, vI 2, vI c0, vI c1, vI c2, vI ce, vR b607, vR b625, vR b639, vR b644, vU, vU, vU, vU] [(.ref b644)]) := fun t h => k655 t (st656.trans h)
  have hC658 := hR656.1
  have rC658 := rC653.trans hR656
  have O659 := O654.keep K656 (allS ge_sb (allS ge_tb all0))
  replace Eb639 := Eb639.keep K656
  replace Gv639 := Gv639.keep K656 (ninS ne_b639_sb (ninS ne_b639_tb nin0))
  replace Gc639 := Gc639.keep K656 (ninS ne_b639_sb (ninS ne_b639_tb nin0))
  replace V639 := V639.keep K656 (ninS ne_y639_sb (ninS ne_y639_tb nin0))
  replace E_b644 := E_b644.keep K656
  replace Fo := Fo.keep K656 (ninS ne_b644_sb (ninS ne_b644_tb nin0))
  replace E_sb := E_sb.keep K656
  have k660 : Rch p e below S0 T656 (mkF m 150 #[vI p1, vI p2, vI p3, vI p4, vI p5, vI 2, vI c0, vI c1, vI c2, vI ce, vR b607, vR b625, vR b639, vR b644, vR b644, vU, vU, vU] [(.ref b639), (.ref b644)]) := fun t h => k657 t (by
      show Steps p.tables e below (T656.setTop (mkF m 144 #[vI p1, vI p2, vI p3, vI p4, vI p5, vI 2, vI c0, vI c1, vI c2, vI ce, vR b607, vR b625, vR b639, vR b644, vU, vU, vU, vU] [(.ref b644)])) _
      refine XS.astore X656.here hx rfl (hb hby at_144) rfl rfl (l' := #[vI p1, vI p2, vI p3, vI p4, vI p5, vI 2, vI c0, vI c1, vI c2, vI ce, vR b607, vR b625, vR b639, vR b644, vR b644, vU, vU, vU]) rfl ?_
      refine XS.aload X656.here hx rfl (hb hby at_146) rfl rfl ?_
      refine XS.aload X656.here hx rfl (hb hby at_148) rfl rfl ?_
      exact h)
  obtain ⟨cq661, kq661, q661a, q661b, q661c⟩ := isOf hZ656 rfl E_b644
  obtain ⟨_, _, ⟨T661, L661, kk661, n661⟩, -, X661, hS661, gr661, ⟨Lc661, hQ661, l661, y661, z661, hR661⟩, st661⟩ := X656.virtualBackS hx (y := (⟨"com/example/usko/usko/server/Html", "close", "(Ljava/lang/String;)Lcom/example/usko/usko/server/Html;"⟩ : MethodName)) (z := (⟨"com/example/usko/usko/server/Html", "close", "(Ljava/lang/String;)Lcom/example/usko/usko/server/Html;"⟩ : MethodName)) hown656 (mvT hZ656 (hw _ (gm 117 rfl))) (mvT hZ656 (hw _ (gm 118 rfl))) (notFace_of_selects (args := #[]) (mvT hZ656 (hw _ (gm 120 rfl)))) (mvT hZ656 (hw _ (gm 120 rfl))) (mvT hZ656 (hw _ (gm 119 rfl))) (by decide) (backOfSH (W := 0) (rmCL l Z a0 hw [] b644 b639 sb tb y639 ky639 [ce] kb 32 ((([(60 : Int32), (33 : Int32), (68 : Int32), (79 : Int32), (67 : Int32), (84 : Int32), (89 : Int32), (80 : Int32), (69 : Int32), (32 : Int32), (104 : Int32), (116 : Int32), (109 : Int32), (108 : Int32), (62 : Int32), (10 : Int32)] ++ [60, 47]) ++ [c0, c1]) ++ [62, 10]) zC T656.heap n0 O659 SC hzC Fo ge_sb ge_tb ne_sb_tb E_sb Fc656 Fv656 Fn656 Eb639 Gv639 Gc639 V639 V656 ne_b639_sb ne_b639_tb ne_y639_sb ne_y639_tb (Nat.le_of_ble_eq_true rfl) (by decide) (by decide)) hZ656 (hw _ (gm 121 rfl)) (hw _ (gm 39 rfl)) (by decide) (by decide) hEL hC658) q661a q661c (g := (mkF m 150 #[vI p1, vI p2, vI p3, vI p4, vI p5, vI 2, vI c0, vI c1, vI c2, vI ce, vR b607, vR b625, vR b639, vR b644, vR b644, vU, vU, vU] [(.ref b639), (.ref b644)])) rfl (by rw [hml]; rfl) (Steps.refl _) (argsL := [(.ref b639)]) (rest := []) (lenOf pd_16 rfl) rfl (by show 2 * 0 + _ ≤ _; exact Nat.le_of_eq rfl) (hb hby at_150) (fun _ _ => ⟨rfl, rfl, (by decide : 14 + 4 ≤ _), (by decide : 142 + 24 ≤ _)⟩)
  dsimp only [Pt.U, Pt.locs, Pt.cells, Pt.slots] at X661 l661 y661 z661 st661 hQ661 hS661 gr661 hR661
  subst l661 y661 z661
  have hZ661 : Z.Warmed39 (s.setVm T661.vm).vm := State.Warmed39.trans (t := (s.setVm T656.vm)) hZ656 hS661.1
  have hown661 : (s.setVm T661.vm).vm.findClass "com/example/usko/usko/server/HtmlClosePinLaw" = some m.cls := by rw [show (s.setVm T661.vm).vm = T661.vm from rfl, hS661.1.alike.findClass]; exact hown656
  replace hS661 := foldS hS656 (by exact hk656) hS661 gr661
  have hk661 := Nat.le_refl T661.heap.size
  replace X661 : Stand p l e room_1 (s.setVm T661.vm) m #[(.int p1), (.int p2), (.int p3), (.int p4), (.int p5)] below meth c T661 _ _ _ := X661
  obtain ⟨rfl, Nq661, K661, Fc661, Fv661, Fn661, V661⟩ := hQ661
  have N661 := Fr.app N656 Nq661
  have k662 : Rch p e below S0 T661 (mkF m 153 #[vI p1, vI p2, vI p3, vI p4, vI p5, vI 2, vI c0, vI c1, vI c2, vI ce, vR b607, vR b625, vR b639, vR b644, vR b644, vU, vU, vU] [(.ref b644)]) := fun t h => k660 t (st661.trans h)
  have hC663 := hR661.1
  have rC663 := rC658.trans hR661
  have O664 := O659.keep K661 (allS ge_sb (allS ge_tb all0))
  replace E_b644 := E_b644.keep K661
  replace Fo := Fo.keep K661 (ninS ne_b644_sb (ninS ne_b644_tb nin0))
  replace E_sb := E_sb.keep K661
  have k665 : Rch p e below S0 T661 (mkF m 173 #[vI p1, vI p2, vI p3, vI p4, vI p5, vI 2, vI c0, vI c1, vI c2, vI ce, vR b607, vR b625, vR b639, vR b644, vR b644, vR b644, vU, vU] [(.ref b644)]) := fun t h => k662 t (by
      show Steps p.tables e below (T661.setTop (mkF m 153 #[vI p1, vI p2, vI p3, vI p4, vI p5, vI 2, vI c0, vI c1, vI c2, vI ce, vR b607, vR b625, vR b639, vR b644, vR b644, vU, vU, vU] [(.ref b644)])) _
      refine XS.astore X661.here hx rfl (hb hby at_153) rfl rfl (l' := #[vI p1, vI p2, vI p3, vI p4, vI p5, vI 2, vI c0, vI c1, vI c2, vI ce, vR b607, vR b625, vR b639, vR b644, vR b644, vR b644, vU, vU]) rfl ?_
      refine XS.aload X661.here hx rfl (hb hby at_155) rfl rfl ?_
      refine XS.aload X661.here hx rfl (hb hby at_157) rfl rfl ?_
      refine Jvm.RoadKit.acmp (g := (mkF m 159 #[vI p1, vI p2, vI p3, vI p4, vI p5, vI 2, vI c0, vI c1, vI c2, vI ce, vR b607, vR b625, vR b639, vR b644, vR b644, vR b644, vU, vU] [(.ref b644), (.ref b644)])) X661 hx rfl rfl rfl (pc0 := 159) (pc' := 162) (same := true) rfl (hb hby at_159) rfl (decide_eq_true rfl) (by decide) (by decide) ?_
      refine XS.aload X661.here hx rfl (hb hby at_162) rfl rfl ?_
      refine XS.aload X661.here hx rfl (hb hby at_164) rfl rfl ?_
      refine Jvm.RoadKit.acmp (g := (mkF m 166 #[vI p1, vI p2, vI p3, vI p4, vI p5, vI 2, vI c0, vI c1, vI c2, vI ce, vR b607, vR b625, vR b639, vR b644, vR b644, vR b644, vU, vU] [(.ref b644), (.ref b644)])) X661 hx rfl rfl rfl (pc0 := 166) (pc' := 171) (same := true) rfl (hb hby at_166) rfl (decide_eq_true rfl) (by decide) (by decide) ?_
      show Steps p.tables e below (T661.setTop (mkF m 171 #[vI p1, vI p2, vI p3, vI p4, vI p5, vI 2, vI c0, vI c1, vI c2, vI ce, vR b607, vR b625, vR b639, vR b644, vR b644, vR b644, vU, vU] [])) _
      refine XS.aload X661.here hx rfl (hb hby at_171) rfl rfl ?_
      exact h)
  have hpos : ∀ c ∈ ((((((([(60 : Int32), (33 : Int32), (68 : Int32), (79 : Int32), (67 : Int32), (84 : Int32), (89 : Int32), (80 : Int32), (69 : Int32), (32 : Int32), (104 : Int32), (116 : Int32), (109 : Int32), (108 : Int32), (62 : Int32), (10 : Int32)] ++ [60, 47]) ++ [c0, c1]) ++ [62, 10]) ++ [60, 47]) ++ [ce]) ++ [62, 10]) : List Int32), ¬ c < 0 := by
    intro c hc
    simp only [List.mem_append, List.mem_cons, List.not_mem_nil, or_false, false_or] at hc
    rcases hc with ((((((rfl | rfl | rfl | rfl | rfl | rfl | rfl | rfl | rfl | rfl | rfl | rfl | rfl | rfl | rfl | rfl) | (rfl | rfl)) | (rfl | rfl)) | (rfl | rfl)) | (rfl | rfl)) | rfl) | (rfl | rfl)
    all_goals first | decide | exact hc0.1 | exact hc1.1 | exact hc2.1 | exact hce.1
  obtain ⟨cq666, kq666, q666a, q666b, q666c⟩ := isOf hZ661 rfl E_b644
  obtain ⟨_, _, ⟨T666, L666, kk666, n666⟩, -, X666, ⟨Lc666, hQ666, l666, y666, z666⟩, st666⟩ := X661.virtualBack hx (y := (⟨"com/example/usko/usko/server/Html", "toBytes", "()[B"⟩ : MethodName)) (z := (⟨"com/example/usko/usko/server/Html", "toBytes", "()[B"⟩ : MethodName)) hown661 (mvT hZ661 (hw _ (gm 125 rfl))) (mvT hZ661 (hw _ (gm 126 rfl))) (notFace_of_selects (args := #[]) (mvT hZ661 (hw _ (gm 128 rfl)))) (mvT hZ661 (hw _ (gm 128 rfl))) (mvT hZ661 (hw _ (gm 127 rfl))) (by decide) (backOf (W := 0) (rmTO l Z a0 hw [] b644 u8 sb tb kb 32 (((((([(60 : Int32), (33 : Int32), (68 : Int32), (79 : Int32), (67 : Int32), (84 : Int32), (89 : Int32), (80 : Int32), (69 : Int32), (32 : Int32), (104 : Int32), (116 : Int32), (109 : Int32), (108 : Int32), (62 : Int32), (10 : Int32)] ++ [60, 47]) ++ [c0, c1]) ++ [62, 10]) ++ [60, 47]) ++ [ce]) ++ [62, 10]) zC T661.heap n0 O664 SC hzC SI SU Fo E_sb Fc661 Fv661 Fn661 V661 (Nat.le_of_ble_eq_true rfl) (by decide) hpos) hZ661 (hw _ (gm 129 rfl)) (hw _ (gm 39 rfl)) (by decide) (by decide)) q666a q666c (g := (mkF m 173 #[vI p1, vI p2, vI p3, vI p4, vI p5, vI 2, vI c0, vI c1, vI c2, vI ce, vR b607, vR b625, vR b639, vR b644, vR b644, vR b644, vU, vU] [(.ref b644)])) rfl (by rw [hml]; rfl) (Steps.refl _) (argsL := []) (rest := []) (lenOf pd_17 rfl) rfl (by show 2 * 0 + _ ≤ _; exact Nat.le_of_eq rfl) (hb hby at_173) (fun _ _ => ⟨rfl, rfl, (by decide : 18 + 3 ≤ _), (by decide : 166 + 68 ≤ _)⟩)
  dsimp only [Pt.U, Pt.locs, Pt.cells, Pt.slots] at X666 l666 y666 z666 st666 hQ666
  subst l666 y666 z666
  obtain ⟨y666, ky666, rfl, Nq666, E666, z666, V666⟩ := hQ666
  have N666 := Fr.app N661 Nq666
  have k667 : Rch p e below S0 T666 (mkF m 176 #[vI p1, vI p2, vI p3, vI p4, vI p5, vI 2, vI c0, vI c1, vI c2, vI ce, vR b607, vR b625, vR b639, vR b644, vR b644, vR b644, vU, vU] [(.ref y666)]) := fun t h => k665 t (st666.trans h)
  have hC668 := hC663.ext E666
  have rC668 := rC663.trans (CHr.ext E666 hC663)
  have O669 := O664.ext E666
  have hkk670 := Nat.le_trans hk661 E666.1
  have Vz : Arv Z T666.heap y666 ky666 .byte (27 : Int32) [(.int (60 : Int32)), (.int (33 : Int32)), (.int (68 : Int32)), (.int (79 : Int32)), (.int (67 : Int32)), (.int (84 : Int32)), (.int (89 : Int32)), (.int (80 : Int32)), (.int (69 : Int32)), (.int (32 : Int32)), (.int (104 : Int32)), (.int (116 : Int32)), (.int (109 : Int32)), (.int (108 : Int32)), (.int (62 : Int32)), (.int (10 : Int32)), (.int (60 : Int32)), (.int (47 : Int32)), (.int c0), (.int c1), (.int (62 : Int32)), (.int (10 : Int32)), (.int (60 : Int32)), (.int (47 : Int32)), (.int ce), (.int (62 : Int32)), (.int (10 : Int32))] (.int (0 : Int32)) := V666
  have Vp : Arv Z T666.heap y666 ky666 .byte (Int32.ofNat 27) (([(60 : Int32), (33 : Int32), (68 : Int32), (79 : Int32), (67 : Int32), (84 : Int32), (89 : Int32), (80 : Int32), (69 : Int32), (32 : Int32), (104 : Int32), (116 : Int32), (109 : Int32), (108 : Int32), (62 : Int32), (10 : Int32)] ++ [60, 47, c0, c1, 62, 10, 60, 47, ce, 62, 10]).map Value.int) (.int (0 : Int32)) := V666
  clear hpos
  have k672 : Rch p e below S0 T666 (mkF m 180 #[vI p1, vI p2, vI p3, vI p4, vI p5, vI 2, vI c0, vI c1, vI c2, vI ce, vR b607, vR b625, vR b639, vR b644, vR b644, vR b644, vR y666, vU] [(.ref y666)]) := fun t h => k667 t (by
      show Steps p.tables e below (T666.setTop (mkF m 176 #[vI p1, vI p2, vI p3, vI p4, vI p5, vI 2, vI c0, vI c1, vI c2, vI ce, vR b607, vR b625, vR b639, vR b644, vR b644, vR b644, vU, vU] [(.ref y666)])) _
      refine XS.astore X666.here hx rfl (hb hby at_176) rfl rfl (l' := #[vI p1, vI p2, vI p3, vI p4, vI p5, vI 2, vI c0, vI c1, vI c2, vI ce, vR b607, vR b625, vR b639, vR b644, vR b644, vR b644, vR y666, vU]) rfl ?_
      refine XS.aload X666.here hx rfl (hb hby at_178) rfl rfl ?_
      exact h)
  obtain ⟨cl671, Ar671, q671, Sz671, Ng671, Hs671, G671⟩ := id Vz
  have k673 : Rch p e below S0 T666 (mkF m 193 #[vI p1, vI p2, vI p3, vI p4, vI p5, vI 2, vI c0, vI c1, vI c2, vI ce, vR b607, vR b625, vR b639, vR b644, vR b644, vR b644, vR y666, vU] [(.ref y666)]) := fun t h => k672 t (by
      show Steps p.tables e below (T666.setTop (mkF m 180 #[vI p1, vI p2, vI p3, vI p4, vI p5, vI 2, vI c0, vI c1, vI c2, vI ce, vR b607, vR b625, vR b639, vR b644, vR b644, vR b644, vR y666, vU] [(.ref y666)])) _
      refine X666.arraylength hx (by exact Ar671.1) (State.isArrayOf_alike hZ661.alike Ar671.2.1) (g := (mkF m 180 #[vI p1, vI p2, vI p3, vI p4, vI p5, vI 2, vI c0, vI c1, vI c2, vI ce, vR b607, vR b625, vR b639, vR b644, vR b644, vR b644, vR y666, vU] [(.ref y666)])) rfl rfl (hb hby at_180) _ ?_
      rw [len_of Sz671 Ng671]
      refine XS.bipush X666.here hx rfl (hb hby at_181) ?_
      refine XS.iload X666.here hx rfl (hb hby at_183) rfl ?_
      show Steps p.tables e below (T666.setTop (mkF m 185 #[vI p1, vI p2, vI p3, vI p4, vI p5, vI 2, vI c0, vI c1, vI c2, vI ce, vR b607, vR b625, vR b639, vR b644, vR b644, vR b644, vR y666, vU] [(.int (2 : Int32)), (.int (25 : Int32)), (.int (27 : Int32))])) _
      refine XS.iadd X666.here hx rfl (hb hby at_185) rfl ?_
      rw [(by decide : ((25 : Int32) + (2 : Int32)) = (27 : Int32))]
      refine XS.icmpYes X666.here hx rfl (pc0 := 186) (pc' := 191) rfl (hb hby at_186) rfl (teq (by decide : (27 : Int32) = (27 : Int32))).1 (by decide) (by decide) ?_
      refine XS.aload X666.here hx rfl (hb hby at_191) rfl rfl ?_
      exact h)
  obtain ⟨_, _, ⟨T674, L674, kk674, n674⟩, -, X674, ⟨Lc674, hQ674, l674, y674, z674⟩, st674⟩ := Jvm.LawKit.callS X666 hx (y := (⟨"com/example/usko/usko/server/HtmlClosePinLaw", "prefix", "([B)Z"⟩ : MethodName)) hown661 (mvT hZ661 (hw _ (gm 206 rfl))) (mvT hZ661 (hw _ (gm 207 rfl))) (mvT hZ661 (hw _ (gm 208 rfl))) (mvT hZ661 (hw _ (gm 209 rfl))) (by decide) (backOf (W := 0) (rmPX l Z a0 hw [] y666 ky666 27 [60, 47, c0, c1, 62, 10, 60, 47, ce, 62, 10] T666.heap n0 O669 Vp (by decide) (by decide)) hZ661 (hw _ (gm 209 rfl)) (hw _ (gm 208 rfl)) (by decide) (by decide)) (g := (mkF m 193 #[vI p1, vI p2, vI p3, vI p4, vI p5, vI 2, vI c0, vI c1, vI c2, vI ce, vR b607, vR b625, vR b639, vR b644, vR b644, vR b644, vR y666, vU] [(.ref y666)])) rfl (by rw [hml]; rfl) (argsL := [(.ref y666)]) (rest := []) (lenOf pd_31 rfl) rfl (by show 2 * 0 + _ ≤ _; exact Nat.le_of_eq rfl) (hb hby at_193) (fun _ _ => ⟨rfl, rfl, (by decide : 21 + 0 ≤ _), (by decide : 234 + 0 ≤ _)⟩)
  dsimp only [Pt.U, Pt.locs, Pt.cells, Pt.slots] at X674 l674 y674 z674 st674 hQ674
  subst l674 y674 z674
  obtain ⟨rfl, Nq674, hh674⟩ := hQ674
  have N674 := Fr.app N666 Nq674
  have k675 : Rch p e below S0 T674 (mkF m 196 #[vI p1, vI p2, vI p3, vI p4, vI p5, vI 2, vI c0, vI c1, vI c2, vI ce, vR b607, vR b625, vR b639, vR b644, vR b644, vR b644, vR y666, vU] [(.int (1 : Int32))]) := fun t h => k673 t (st674 t h)
  obtain ⟨lo674, Y674, M674⟩ : ∃ lo, Stand p l e room_1 (s.setVm T661.vm) m #[(.int p1), (.int p2), (.int p3), (.int p4), (.int p5)] below meth c T674 lo 21 234 ∧ Fr n0 lo := ⟨_, X674, N674⟩
  clear X674 N674
  have k677 : Rch p e below S0 T674 (mkF m 205 #[vI p1, vI p2, vI p3, vI p4, vI p5, vI 2, vI c0, vI c1, vI c2, vI ce, vR b607, vR b625, vR b639, vR b644, vR b644, vR b644, vR y666, vU] [(.int (16 : Int32)), (.ref y666)]) := fun t h => k675 t (by
      show Steps p.tables e below (T674.setTop (mkF m 196 #[vI p1, vI p2, vI p3, vI p4, vI p5, vI 2, vI c0, vI c1, vI c2, vI ce, vR b607, vR b625, vR b639, vR b644, vR b644, vR b644, vR y666, vU] [(.int (1 : Int32))])) _
      refine XS.ifYes Y674.here hx rfl (pc0 := 196) (pc' := 201) rfl (hb hby at_196) rfl ((if0 _ _).trans (feq (by decide : ¬ ((1 : Int32) = (0 : Int32)))).2) (by decide) (by decide) ?_
      refine XS.aload Y674.here hx rfl (hb hby at_201) rfl rfl ?_
      refine XS.bipush Y674.here hx rfl (hb hby at_203) ?_
      exact h)
  obtain ⟨cl676, Ar676, q676, Sz676, Ng676, Hs676, G676⟩ := id Vz
  have hin676 : ¬ ((16 : Int32) < 0 ∨ cl676.slots.size ≤ ((16 : Int32)).toNatClampNeg) := inb_of Sz676 ⟨by decide, by decide⟩
  have hat676 : cl676.slots[((16 : Int32)).toNatClampNeg]? = some (.int (60 : Int32)) := Hs676.at hin676 (rfl)
  have k679 : Rch p e below S0 T674 (mkF m 215 #[vI p1, vI p2, vI p3, vI p4, vI p5, vI 2, vI c0, vI c1, vI c2, vI ce, vR b607, vR b625, vR b639, vR b644, vR b644, vR b644, vR y666, vU] [(.int (17 : Int32)), (.ref y666)]) := fun t h => k677 t (by
      show Steps p.tables e below (T674.setTop (mkF m 205 #[vI p1, vI p2, vI p3, vI p4, vI p5, vI 2, vI c0, vI c1, vI c2, vI ce, vR b607, vR b625, vR b639, vR b644, vR b644, vR b644, vR y666, vU] [(.int (16 : Int32)), (.ref y666)])) _
      refine Y674.baloadBytes hx (j := (16 : Int32)) (v := (.int (60 : Int32))) (by rw [hh674]; exact Ar676.1) (State.isArrayOf_alike hZ661.alike Ar676.2.1) Ar676.2.2 hin676 hat676 (g := (mkF m 205 #[vI p1, vI p2, vI p3, vI p4, vI p5, vI 2, vI c0, vI c1, vI c2, vI ce, vR b607, vR b625, vR b639, vR b644, vR b644, vR b644, vR y666, vU] [(.int (16 : Int32)), (.ref y666)])) rfl rfl (hb hby at_205) _ ?_
      refine XS.bipush Y674.here hx rfl (hb hby at_206) ?_
      refine XS.icmpNo Y674.here hx rfl (hb hby at_208) rfl (teq (by decide : (60 : Int32) = (60 : Int32))).2 ?_
      refine XS.aload Y674.here hx rfl (hb hby at_211) rfl rfl ?_
      refine XS.bipush Y674.here hx rfl (hb hby at_213) ?_
      exact h)
  obtain ⟨cl678, Ar678, q678, Sz678, Ng678, Hs678, G678⟩ := id Vz
  have hin678 : ¬ ((17 : Int32) < 0 ∨ cl678.slots.size ≤ ((17 : Int32)).toNatClampNeg) := inb_of Sz678 ⟨by decide, by decide⟩
  have hat678 : cl678.slots[((17 : Int32)).toNatClampNeg]? = some (.int (47 : Int32)) := Hs678.at hin678 (rfl)
  have k681 : Rch p e below S0 T674 (mkF m 232 #[vI p1, vI p2, vI p3, vI p4, vI p5, vI 2, vI c0, vI c1, vI c2, vI ce, vR b607, vR b625, vR b639, vR b644, vR b644, vR b644, vR y666, vU] [(.int (18 : Int32)), (.ref y666)]) := fun t h => k679 t (by
      show Steps p.tables e below (T674.setTop (mkF m 215 #[vI p1, vI p2, vI p3, vI p4, vI p5, vI 2, vI c0, vI c1, vI c2, vI ce, vR b607, vR b625, vR b639, vR b644, vR b644, vR b644, vR y666, vU] [(.int (17 : Int32)), (.ref y666)])) _
      refine Y674.baloadBytes hx (j := (17 : Int32)) (v := (.int (47 : Int32))) (by rw [hh674]; exact Ar678.1) (State.isArrayOf_alike hZ661.alike Ar678.2.1) Ar678.2.2 hin678 hat678 (g := (mkF m 215 #[vI p1, vI p2, vI p3, vI p4, vI p5, vI 2, vI c0, vI c1, vI c2, vI ce, vR b607, vR b625, vR b639, vR b644, vR b644, vR b644, vR y666, vU] [(.int (17 : Int32)), (.ref y666)])) rfl rfl (hb hby at_215) _ ?_
      refine XS.bipush Y674.here hx rfl (hb hby at_216) ?_
      refine XS.icmpYes Y674.here hx rfl (pc0 := 218) (pc' := 223) rfl (hb hby at_218) rfl (teq (by decide : (47 : Int32) = (47 : Int32))).1 (by decide) (by decide) ?_
      refine XS.iload Y674.here hx rfl (hb hby at_223) rfl ?_
      refine XS.ifNo Y674.here hx rfl (hb hby at_225) rfl ((if0 _ _).trans (tlt (by decide : (0 : Int32) < (2 : Int32))).2.2.2) ?_
      refine XS.aload Y674.here hx rfl (hb hby at_228) rfl rfl ?_
      refine XS.bipush Y674.here hx rfl (hb hby at_230) ?_
      exact h)
  obtain ⟨cl680, Ar680, q680, Sz680, Ng680, Hs680, G680⟩ := id Vz
  have hin680 : ¬ ((18 : Int32) < 0 ∨ cl680.slots.size ≤ ((18 : Int32)).toNatClampNeg) := inb_of Sz680 ⟨by decide, by decide⟩
  have hat680 : cl680.slots[((18 : Int32)).toNatClampNeg]? = some (.int c0) := Hs680.at hin680 (rfl)
  have k683 : Rch p e below S0 T674 (mkF m 250 #[vI p1, vI p2, vI p3, vI p4, vI p5, vI 2, vI c0, vI c1, vI c2, vI ce, vR b607, vR b625, vR b639, vR b644, vR b644, vR b644, vR y666, vU] [(.int (19 : Int32)), (.ref y666)]) := fun t h => k681 t (by
      show Steps p.tables e below (T674.setTop (mkF m 232 #[vI p1, vI p2, vI p3, vI p4, vI p5, vI 2, vI c0, vI c1, vI c2, vI ce, vR b607, vR b625, vR b639, vR b644, vR b644, vR b644, vR y666, vU] [(.int (18 : Int32)), (.ref y666)])) _
      refine Y674.baloadBytes hx (j := (18 : Int32)) (v := (.int c0)) (by rw [hh674]; exact Ar680.1) (State.isArrayOf_alike hZ661.alike Ar680.2.1) Ar680.2.2 hin680 hat680 (g := (mkF m 232 #[vI p1, vI p2, vI p3, vI p4, vI p5, vI 2, vI c0, vI c1, vI c2, vI ce, vR b607, vR b625, vR b639, vR b644, vR b644, vR b644, vR y666, vU] [(.int (18 : Int32)), (.ref y666)])) rfl rfl (hb hby at_232) _ ?_
      refine XS.iload Y674.here hx rfl (hb hby at_233) rfl ?_
      refine XS.icmpYes Y674.here hx rfl (pc0 := 235) (pc' := 240) rfl (hb hby at_235) rfl (teq (rfl : c0 = c0)).1 (by decide) (by decide) ?_
      refine XS.iload Y674.here hx rfl (hb hby at_240) rfl ?_
      refine XS.iconst Y674.here hx rfl (hb hby at_242) ?_
      refine XS.icmpNo Y674.here hx rfl (hb hby at_243) rfl (tlt (by decide : (1 : Int32) < (2 : Int32))).2.2.2 ?_
      refine XS.aload Y674.here hx rfl (hb hby at_246) rfl rfl ?_
      refine XS.bipush Y674.here hx rfl (hb hby at_248) ?_
      exact h)
  obtain ⟨cl682, Ar682, q682, Sz682, Ng682, Hs682, G682⟩ := id Vz
  have hin682 : ¬ ((19 : Int32) < 0 ∨ cl682.slots.size ≤ ((19 : Int32)).toNatClampNeg) := inb_of Sz682 ⟨by decide, by decide⟩
  have hat682 : cl682.slots[((19 : Int32)).toNatClampNeg]? = some (.int c1) := Hs682.at hin682 (rfl)
  have k685 : Rch p e below S0 T674 (mkF m 287 #[vI p1, vI p2, vI p3, vI p4, vI p5, vI 2, vI c0, vI c1, vI c2, vI ce, vR b607, vR b625, vR b639, vR b644, vR b644, vR b644, vR y666, vI 20] [(.int (20 : Int32)), (.ref y666)]) := fun t h => k683 t (by
      show Steps p.tables e below (T674.setTop (mkF m 250 #[vI p1, vI p2, vI p3, vI p4, vI p5, vI 2, vI c0, vI c1, vI c2, vI ce, vR b607, vR b625, vR b639, vR b644, vR b644, vR b644, vR y666, vU] [(.int (19 : Int32)), (.ref y666)])) _
      refine Y674.baloadBytes hx (j := (19 : Int32)) (v := (.int c1)) (by rw [hh674]; exact Ar682.1) (State.isArrayOf_alike hZ661.alike Ar682.2.1) Ar682.2.2 hin682 hat682 (g := (mkF m 250 #[vI p1, vI p2, vI p3, vI p4, vI p5, vI 2, vI c0, vI c1, vI c2, vI ce, vR b607, vR b625, vR b639, vR b644, vR b644, vR b644, vR y666, vU] [(.int (19 : Int32)), (.ref y666)])) rfl rfl (hb hby at_250) _ ?_
      refine XS.iload Y674.here hx rfl (hb hby at_251) rfl ?_
      refine XS.icmpYes Y674.here hx rfl (pc0 := 253) (pc' := 258) rfl (hb hby at_253) rfl (teq (rfl : c1 = c1)).1 (by decide) (by decide) ?_
      refine XS.iload Y674.here hx rfl (hb hby at_258) rfl ?_
      refine XS.iconst Y674.here hx rfl (hb hby at_260) ?_
      refine XS.icmpYes Y674.here hx rfl (pc0 := 261) (pc' := 276) rfl (hb hby at_261) rfl (flt (by decide : ¬ ((2 : Int32) < (2 : Int32)))).2.2.2 (by decide) (by decide) ?_
      refine XS.bipush Y674.here hx rfl (hb hby at_276) ?_
      refine XS.iload Y674.here hx rfl (hb hby at_278) rfl ?_
      show Steps p.tables e below (T674.setTop (mkF m 280 #[vI p1, vI p2, vI p3, vI p4, vI p5, vI 2, vI c0, vI c1, vI c2, vI ce, vR b607, vR b625, vR b639, vR b644, vR b644, vR b644, vR y666, vU] [(.int (2 : Int32)), (.int (18 : Int32))])) _
      refine XS.iadd Y674.here hx rfl (hb hby at_280) rfl ?_
      rw [(by decide : ((18 : Int32) + (2 : Int32)) = (20 : Int32))]
      refine XS.istore Y674.here hx rfl (hb hby at_281) rfl (l' := #[vI p1, vI p2, vI p3, vI p4, vI p5, vI 2, vI c0, vI c1, vI c2, vI ce, vR b607, vR b625, vR b639, vR b644, vR b644, vR b644, vR y666, vI 20]) rfl ?_
      refine XS.aload Y674.here hx rfl (hb hby at_283) rfl rfl ?_
      refine XS.iload Y674.here hx rfl (hb hby at_285) rfl ?_
      exact h)
  obtain ⟨cl684, Ar684, q684, Sz684, Ng684, Hs684, G684⟩ := id Vz
  have hin684 : ¬ ((20 : Int32) < 0 ∨ cl684.slots.size ≤ ((20 : Int32)).toNatClampNeg) := inb_of Sz684 ⟨by decide, by decide⟩
  have hat684 : cl684.slots[((20 : Int32)).toNatClampNeg]? = some (.int (62 : Int32)) := Hs684.at hin684 (rfl)
  have k687 : Rch p e below S0 T674 (mkF m 299 #[vI p1, vI p2, vI p3, vI p4, vI p5, vI 2, vI c0, vI c1, vI c2, vI ce, vR b607, vR b625, vR b639, vR b644, vR b644, vR b644, vR y666, vI 20] [(.int (21 : Int32)), (.ref y666)]) := fun t h => k685 t (by
      show Steps p.tables e below (T674.setTop (mkF m 287 #[vI p1, vI p2, vI p3, vI p4, vI p5, vI 2, vI c0, vI c1, vI c2, vI ce, vR b607, vR b625, vR b639, vR b644, vR b644, vR b644, vR y666, vI 20] [(.int (20 : Int32)), (.ref y666)])) _
      refine Y674.baloadBytes hx (j := (20 : Int32)) (v := (.int (62 : Int32))) (by rw [hh674]; exact Ar684.1) (State.isArrayOf_alike hZ661.alike Ar684.2.1) Ar684.2.2 hin684 hat684 (g := (mkF m 287 #[vI p1, vI p2, vI p3, vI p4, vI p5, vI 2, vI c0, vI c1, vI c2, vI ce, vR b607, vR b625, vR b639, vR b644, vR b644, vR b644, vR y666, vI 20] [(.int (20 : Int32)), (.ref y666)])) rfl rfl (hb hby at_287) _ ?_
      refine XS.bipush Y674.here hx rfl (hb hby at_288) ?_
      refine XS.icmpNo Y674.here hx rfl (hb hby at_290) rfl (teq (by decide : (62 : Int32) = (62 : Int32))).2 ?_
      refine XS.aload Y674.here hx rfl (hb hby at_293) rfl rfl ?_
      refine XS.iload Y674.here hx rfl (hb hby at_295) rfl ?_
      refine XS.iconst Y674.here hx rfl (hb hby at_297) ?_
      show Steps p.tables e below (T674.setTop (mkF m 298 #[vI p1, vI p2, vI p3, vI p4, vI p5, vI 2, vI c0, vI c1, vI c2, vI ce, vR b607, vR b625, vR b639, vR b644, vR b644, vR b644, vR y666, vI 20] [(.int (1 : Int32)), (.int (20 : Int32)), (.ref y666)])) _
      refine XS.iadd Y674.here hx rfl (hb hby at_298) rfl ?_
      rw [(by decide : ((20 : Int32) + (1 : Int32)) = (21 : Int32))]
      exact h)
  obtain ⟨cl686, Ar686, q686, Sz686, Ng686, Hs686, G686⟩ := id Vz
  have hin686 : ¬ ((21 : Int32) < 0 ∨ cl686.slots.size ≤ ((21 : Int32)).toNatClampNeg) := inb_of Sz686 ⟨by decide, by decide⟩
  have hat686 : cl686.slots[((21 : Int32)).toNatClampNeg]? = some (.int (10 : Int32)) := Hs686.at hin686 (rfl)
  have k689 : Rch p e below S0 T674 (mkF m 311 #[vI p1, vI p2, vI p3, vI p4, vI p5, vI 2, vI c0, vI c1, vI c2, vI ce, vR b607, vR b625, vR b639, vR b644, vR b644, vR b644, vR y666, vI 20] [(.int (22 : Int32)), (.ref y666)]) := fun t h => k687 t (by
      show Steps p.tables e below (T674.setTop (mkF m 299 #[vI p1, vI p2, vI p3, vI p4, vI p5, vI 2, vI c0, vI c1, vI c2, vI ce, vR b607, vR b625, vR b639, vR b644, vR b644, vR b644, vR y666, vI 20] [(.int (21 : Int32)), (.ref y666)])) _
      refine Y674.baloadBytes hx (j := (21 : Int32)) (v := (.int (10 : Int32))) (by rw [hh674]; exact Ar686.1) (State.isArrayOf_alike hZ661.alike Ar686.2.1) Ar686.2.2 hin686 hat686 (g := (mkF m 299 #[vI p1, vI p2, vI p3, vI p4, vI p5, vI 2, vI c0, vI c1, vI c2, vI ce, vR b607, vR b625, vR b639, vR b644, vR b644, vR b644, vR y666, vI 20] [(.int (21 : Int32)), (.ref y666)])) rfl rfl (hb hby at_299) _ ?_
      refine XS.bipush Y674.here hx rfl (hb hby at_300) ?_
      refine XS.icmpNo Y674.here hx rfl (hb hby at_302) rfl (teq (by decide : (10 : Int32) = (10 : Int32))).2 ?_
      refine XS.aload Y674.here hx rfl (hb hby at_305) rfl rfl ?_
      refine XS.iload Y674.here hx rfl (hb hby at_307) rfl ?_
      refine XS.iconst Y674.here hx rfl (hb hby at_309) ?_
      show Steps p.tables e below (T674.setTop (mkF m 310 #[vI p1, vI p2, vI p3, vI p4, vI p5, vI 2, vI c0, vI c1, vI c2, vI ce, vR b607, vR b625, vR b639, vR b644, vR b644, vR b644, vR y666, vI 20] [(.int (2 : Int32)), (.int (20 : Int32)), (.ref y666)])) _
      refine XS.iadd Y674.here hx rfl (hb hby at_310) rfl ?_
      rw [(by decide : ((20 : Int32) + (2 : Int32)) = (22 : Int32))]
      exact h)
  obtain ⟨cl688, Ar688, q688, Sz688, Ng688, Hs688, G688⟩ := id Vz
  have hin688 : ¬ ((22 : Int32) < 0 ∨ cl688.slots.size ≤ ((22 : Int32)).toNatClampNeg) := inb_of Sz688 ⟨by decide, by decide⟩
  have hat688 : cl688.slots[((22 : Int32)).toNatClampNeg]? = some (.int (60 : Int32)) := Hs688.at hin688 (rfl)
  have k691 : Rch p e below S0 T674 (mkF m 323 #[vI p1, vI p2, vI p3, vI p4, vI p5, vI 2, vI c0, vI c1, vI c2, vI ce, vR b607, vR b625, vR b639, vR b644, vR b644, vR b644, vR y666, vI 20] [(.int (23 : Int32)), (.ref y666)]) := fun t h => k689 t (by
      show Steps p.tables e below (T674.setTop (mkF m 311 #[vI p1, vI p2, vI p3, vI p4, vI p5, vI 2, vI c0, vI c1, vI c2, vI ce, vR b607, vR b625, vR b639, vR b644, vR b644, vR b644, vR y666, vI 20] [(.int (22 : Int32)), (.ref y666)])) _
      refine Y674.baloadBytes hx (j := (22 : Int32)) (v := (.int (60 : Int32))) (by rw [hh674]; exact Ar688.1) (State.isArrayOf_alike hZ661.alike Ar688.2.1) Ar688.2.2 hin688 hat688 (g := (mkF m 311 #[vI p1, vI p2, vI p3, vI p4, vI p5, vI 2, vI c0, vI c1, vI c2, vI ce, vR b607, vR b625, vR b639, vR b644, vR b644, vR b644, vR y666, vI 20] [(.int (22 : Int32)), (.ref y666)])) rfl rfl (hb hby at_311) _ ?_
      refine XS.bipush Y674.here hx rfl (hb hby at_312) ?_
      show Steps p.tables e below (T674.setTop (mkF m 314 #[vI p1, vI p2, vI p3, vI p4, vI p5, vI 2, vI c0, vI c1, vI c2, vI ce, vR b607, vR b625, vR b639, vR b644, vR b644, vR b644, vR y666, vI 20] [(.int (60 : Int32)), (.int (60 : Int32))])) _
      refine XS.icmpNo Y674.here hx rfl (hb hby at_314) rfl (teq (by decide : (60 : Int32) = (60 : Int32))).2 ?_
      refine XS.aload Y674.here hx rfl (hb hby at_317) rfl rfl ?_
      refine XS.iload Y674.here hx rfl (hb hby at_319) rfl ?_
      refine XS.iconst Y674.here hx rfl (hb hby at_321) ?_
      show Steps p.tables e below (T674.setTop (mkF m 322 #[vI p1, vI p2, vI p3, vI p4, vI p5, vI 2, vI c0, vI c1, vI c2, vI ce, vR b607, vR b625, vR b639, vR b644, vR b644, vR b644, vR y666, vI 20] [(.int (3 : Int32)), (.int (20 : Int32)), (.ref y666)])) _
      refine XS.iadd Y674.here hx rfl (hb hby at_322) rfl ?_
      rw [(by decide : ((20 : Int32) + (3 : Int32)) = (23 : Int32))]
      exact h)
  obtain ⟨cl690, Ar690, q690, Sz690, Ng690, Hs690, G690⟩ := id Vz
  have hin690 : ¬ ((23 : Int32) < 0 ∨ cl690.slots.size ≤ ((23 : Int32)).toNatClampNeg) := inb_of Sz690 ⟨by decide, by decide⟩
  have hat690 : cl690.slots[((23 : Int32)).toNatClampNeg]? = some (.int (47 : Int32)) := Hs690.at hin690 (rfl)
  have k693 : Rch p e below S0 T674 (mkF m 335 #[vI p1, vI p2, vI p3, vI p4, vI p5, vI 2, vI c0, vI c1, vI c2, vI ce, vR b607, vR b625, vR b639, vR b644, vR b644, vR b644, vR y666, vI 20] [(.int (24 : Int32)), (.ref y666)]) := fun t h => k691 t (by
      show Steps p.tables e below (T674.setTop (mkF m 323 #[vI p1, vI p2, vI p3, vI p4, vI p5, vI 2, vI c0, vI c1, vI c2, vI ce, vR b607, vR b625, vR b639, vR b644, vR b644, vR b644, vR y666, vI 20] [(.int (23 : Int32)), (.ref y666)])) _
      refine Y674.baloadBytes hx (j := (23 : Int32)) (v := (.int (47 : Int32))) (by rw [hh674]; exact Ar690.1) (State.isArrayOf_alike hZ661.alike Ar690.2.1) Ar690.2.2 hin690 hat690 (g := (mkF m 323 #[vI p1, vI p2, vI p3, vI p4, vI p5, vI 2, vI c0, vI c1, vI c2, vI ce, vR b607, vR b625, vR b639, vR b644, vR b644, vR b644, vR y666, vI 20] [(.int (23 : Int32)), (.ref y666)])) rfl rfl (hb hby at_323) _ ?_
      refine XS.bipush Y674.here hx rfl (hb hby at_324) ?_
      refine XS.icmpNo Y674.here hx rfl (hb hby at_326) rfl (teq (by decide : (47 : Int32) = (47 : Int32))).2 ?_
      refine XS.aload Y674.here hx rfl (hb hby at_329) rfl rfl ?_
      refine XS.iload Y674.here hx rfl (hb hby at_331) rfl ?_
      refine XS.iconst Y674.here hx rfl (hb hby at_333) ?_
      show Steps p.tables e below (T674.setTop (mkF m 334 #[vI p1, vI p2, vI p3, vI p4, vI p5, vI 2, vI c0, vI c1, vI c2, vI ce, vR b607, vR b625, vR b639, vR b644, vR b644, vR b644, vR y666, vI 20] [(.int (4 : Int32)), (.int (20 : Int32)), (.ref y666)])) _
      refine XS.iadd Y674.here hx rfl (hb hby at_334) rfl ?_
      rw [(by decide : ((20 : Int32) + (4 : Int32)) = (24 : Int32))]
      exact h)
  obtain ⟨cl692, Ar692, q692, Sz692, Ng692, Hs692, G692⟩ := id Vz
  have hin692 : ¬ ((24 : Int32) < 0 ∨ cl692.slots.size ≤ ((24 : Int32)).toNatClampNeg) := inb_of Sz692 ⟨by decide, by decide⟩
  have hat692 : cl692.slots[((24 : Int32)).toNatClampNeg]? = some (.int ce) := Hs692.at hin692 (rfl)
  have k695 : Rch p e below S0 T674 (mkF m 347 #[vI p1, vI p2, vI p3, vI p4, vI p5, vI 2, vI c0, vI c1, vI c2, vI ce, vR b607, vR b625, vR b639, vR b644, vR b644, vR b644, vR y666, vI 20] [(.int (25 : Int32)), (.ref y666)]) := fun t h => k693 t (by
      show Steps p.tables e below (T674.setTop (mkF m 335 #[vI p1, vI p2, vI p3, vI p4, vI p5, vI 2, vI c0, vI c1, vI c2, vI ce, vR b607, vR b625, vR b639, vR b644, vR b644, vR b644, vR y666, vI 20] [(.int (24 : Int32)), (.ref y666)])) _
      refine Y674.baloadBytes hx (j := (24 : Int32)) (v := (.int ce)) (by rw [hh674]; exact Ar692.1) (State.isArrayOf_alike hZ661.alike Ar692.2.1) Ar692.2.2 hin692 hat692 (g := (mkF m 335 #[vI p1, vI p2, vI p3, vI p4, vI p5, vI 2, vI c0, vI c1, vI c2, vI ce, vR b607, vR b625, vR b639, vR b644, vR b644, vR b644, vR y666, vI 20] [(.int (24 : Int32)), (.ref y666)])) rfl rfl (hb hby at_335) _ ?_
      refine XS.iload Y674.here hx rfl (hb hby at_336) rfl ?_
      refine XS.icmpNo Y674.here hx rfl (hb hby at_338) rfl (teq (rfl : ce = ce)).2 ?_
      refine XS.aload Y674.here hx rfl (hb hby at_341) rfl rfl ?_
      refine XS.iload Y674.here hx rfl (hb hby at_343) rfl ?_
      refine XS.iconst Y674.here hx rfl (hb hby at_345) ?_
      show Steps p.tables e below (T674.setTop (mkF m 346 #[vI p1, vI p2, vI p3, vI p4, vI p5, vI 2, vI c0, vI c1, vI c2, vI ce, vR b607, vR b625, vR b639, vR b644, vR b644, vR b644, vR y666, vI 20] [(.int (5 : Int32)), (.int (20 : Int32)), (.ref y666)])) _
      refine XS.iadd Y674.here hx rfl (hb hby at_346) rfl ?_
      rw [(by decide : ((20 : Int32) + (5 : Int32)) = (25 : Int32))]
      exact h)
  obtain ⟨cl694, Ar694, q694, Sz694, Ng694, Hs694, G694⟩ := id Vz
  have hin694 : ¬ ((25 : Int32) < 0 ∨ cl694.slots.size ≤ ((25 : Int32)).toNatClampNeg) := inb_of Sz694 ⟨by decide, by decide⟩
  have hat694 : cl694.slots[((25 : Int32)).toNatClampNeg]? = some (.int (62 : Int32)) := Hs694.at hin694 (rfl)
  have k697 : Rch p e below S0 T674 (mkF m 360 #[vI p1, vI p2, vI p3, vI p4, vI p5, vI 2, vI c0, vI c1, vI c2, vI ce, vR b607, vR b625, vR b639, vR b644, vR b644, vR b644, vR y666, vI 20] [(.int (26 : Int32)), (.ref y666)]) := fun t h => k695 t (by
      show Steps p.tables e below (T674.setTop (mkF m 347 #[vI p1, vI p2, vI p3, vI p4, vI p5, vI 2, vI c0, vI c1, vI c2, vI ce, vR b607, vR b625, vR b639, vR b644, vR b644, vR b644, vR y666, vI 20] [(.int (25 : Int32)), (.ref y666)])) _
      refine Y674.baloadBytes hx (j := (25 : Int32)) (v := (.int (62 : Int32))) (by rw [hh674]; exact Ar694.1) (State.isArrayOf_alike hZ661.alike Ar694.2.1) Ar694.2.2 hin694 hat694 (g := (mkF m 347 #[vI p1, vI p2, vI p3, vI p4, vI p5, vI 2, vI c0, vI c1, vI c2, vI ce, vR b607, vR b625, vR b639, vR b644, vR b644, vR b644, vR y666, vI 20] [(.int (25 : Int32)), (.ref y666)])) rfl rfl (hb hby at_347) _ ?_
      refine XS.bipush Y674.here hx rfl (hb hby at_348) ?_
      refine XS.icmpNo Y674.here hx rfl (hb hby at_350) rfl (teq (by decide : (62 : Int32) = (62 : Int32))).2 ?_
      refine XS.aload Y674.here hx rfl (hb hby at_353) rfl rfl ?_
      refine XS.iload Y674.here hx rfl (hb hby at_355) rfl ?_
      refine XS.bipush Y674.here hx rfl (hb hby at_357) ?_
      show Steps p.tables e below (T674.setTop (mkF m 359 #[vI p1, vI p2, vI p3, vI p4, vI p5, vI 2, vI c0, vI c1, vI c2, vI ce, vR b607, vR b625, vR b639, vR b644, vR b644, vR b644, vR y666, vI 20] [(.int (6 : Int32)), (.int (20 : Int32)), (.ref y666)])) _
      refine XS.iadd Y674.here hx rfl (hb hby at_359) rfl ?_
      rw [(by decide : ((20 : Int32) + (6 : Int32)) = (26 : Int32))]
      exact h)
  obtain ⟨cl696, Ar696, q696, Sz696, Ng696, Hs696, G696⟩ := id Vz
  have hin696 : ¬ ((26 : Int32) < 0 ∨ cl696.slots.size ≤ ((26 : Int32)).toNatClampNeg) := inb_of Sz696 ⟨by decide, by decide⟩
  have hat696 : cl696.slots[((26 : Int32)).toNatClampNeg]? = some (.int (10 : Int32)) := Hs696.at hin696 (rfl)
  have k698 : Rch p e below S0 T674 (mkF m 371 #[vI p1, vI p2, vI p3, vI p4, vI p5, vI 2, vI c0, vI c1, vI c2, vI ce, vR b607, vR b625, vR b639, vR b644, vR b644, vR b644, vR y666, vI 20] [(.int (1 : Int32))]) := fun t h => k697 t (by
      show Steps p.tables e below (T674.setTop (mkF m 360 #[vI p1, vI p2, vI p3, vI p4, vI p5, vI 2, vI c0, vI c1, vI c2, vI ce, vR b607, vR b625, vR b639, vR b644, vR b644, vR b644, vR y666, vI 20] [(.int (26 : Int32)), (.ref y666)])) _
      refine Y674.baloadBytes hx (j := (26 : Int32)) (v := (.int (10 : Int32))) (by rw [hh674]; exact Ar696.1) (State.isArrayOf_alike hZ661.alike Ar696.2.1) Ar696.2.2 hin696 hat696 (g := (mkF m 360 #[vI p1, vI p2, vI p3, vI p4, vI p5, vI 2, vI c0, vI c1, vI c2, vI ce, vR b607, vR b625, vR b639, vR b644, vR b644, vR b644, vR y666, vI 20] [(.int (26 : Int32)), (.ref y666)])) rfl rfl (hb hby at_360) _ ?_
      refine XS.bipush Y674.here hx rfl (hb hby at_361) ?_
      refine XS.icmpNo Y674.here hx rfl (hb hby at_363) rfl (teq (by decide : (10 : Int32) = (10 : Int32))).2 ?_
      refine XS.iconst Y674.here hx rfl (hb hby at_366) ?_
      refine XS.goto Y674.here hx rfl (pc0 := 367) (pc' := 371) rfl (hb hby at_367) (by decide) (by decide) ?_
      exact h)
  obtain ⟨fs, hr, hrun, hended, hfin⟩ := Y674.leaveW hS661 (by rw [hh674]; exact hkk670) (v := (some (.int (1 : Int32)))) (fun h => by rw [Bd.returns] at h; cases h)
  refine ⟨_, _, ?_, hrun, hended, _, _, rfl, ?_, (by rw [hh]; have q := own_chr rC668 (CHv.at Y674 hZ661 hEL hC668) hh674; exact q), hfin.1, hfin.2.1, hfin.2.2.1, hfin.2.2.2.mono (by decide) (by decide)⟩
  · rw [← hS0]
    refine k698 _ ?_
    show Steps p.tables e below (T674.setTop (mkF m 371 #[vI p1, vI p2, vI p3, vI p4, vI p5, vI 2, vI c0, vI c1, vI c2, vI ce, vR b607, vR b625, vR b639, vR b644, vR b644, vR b644, vR y666, vI 20] [(.int (1 : Int32))])) _
    exact retN Y674 hx (t := .boolean) Bd.returns (by simp) (hb hby at_371) hr
  · show Q_rm0_2 Z  h0 n0 _ T674.heap _
    rw [hh674]
    exact ⟨rfl, M674⟩
def Q_rm0_3 (Z : State)  (h0 : Heap) (n0 : Nat) (v : Option Value) (h : Heap) (L : List Loc) : Prop := v = some (.int (1 : Int32)) ∧ Fr n0 L
set_option maxRecDepth 65536 in
set_option maxHeartbeats 40000000 in
theorem rm0_3 (l : Launch) (Z : State) (a0 : Array Value) (hw : ∀ d ∈ tables_1, d.before a0 Z = true) (ws : List Jvm.Cond) (p1 : Int32) (p2 : Int32) (p3 : Int32) (p4 : Int32) (p5 : Int32) (zC : Int32) (u8 : Addr) (h0 : Heap) (n0 : Nat) (O0 : Old Z n0 h0) (SC : Sta Z Z.heap "java/lang/String" "COMPACT_STRINGS" "Z" (.int zC)) (hzC : ¬ zC = 0) (SI : Sta Z Z.heap "sun/nio/cs/UTF_8" "INSTANCE" "Lsun/nio/cs/UTF_8;" (.ref u8)) (SU : Sta Z Z.heap "java/nio/charset/StandardCharsets" "UTF_8" "Ljava/nio/charset/Charset;" (.ref u8)) (hlen : p1 &&& 3 = (3 : Int32)) :
    MetFree l x (head1 (Jvm.Cond.code x code maxLocals ret :: ws) room_1) (fun a U => a = #[(.int p1), (.int p2), (.int p3), (.int p4), (.int p5)] ∧ Z.Warmed39 U.vm ∧ U.heap = h0 ∧ CHv Z consts_1 U.vm h0) (fun _ _ _ _ _ => True) (fun _ U o U' => ∃ v L, o = .returned v ∧ Q_rm0_3 Z  h0 n0 v U'.heap L ∧ CHr Z consts_1 U.vm U.heap U'.vm U'.heap ∧ ReturnedEndW U o U' L room_1.cells room_1.slots) := by
  refine MetFree.of_bodySF (plainFor_of_name pn_HtmlClosePinLaw) hisR ?_
  intro p e s m args below meth c s₁ Bd hml0 hP hK
  obtain ⟨rfl, hZ, hh, hC0⟩ := hP
  have hx := Bd.exec
  have hby := Bd.bytes
  have hml : c.maxLocals = 18 := hml0
  have hown : s.vm.findClass "com/example/usko/usko/server/HtmlClosePinLaw" = some m.cls := findClass_of_methodNamed Bd.named
  have hnm := (name_of_methodNamed Bd.named Bd.method).1
  have X0 : Stand p l e room_1 (s.setVm s.vm) m #[(.int p1), (.int p2), (.int p3), (.int p4), (.int p5)] below meth c s₁ [] 0 0 := Stand.of_body Bd
  have e0 : s₁.heap = h0 := by rw [← hh, Bd.state]; rfl
  have N0 := Fr.nil n0
  obtain ⟨S0, hS0⟩ : ∃ z, z = s₁.setTop (entryFrame m #[(.int p1), (.int p2), (.int p3), (.int p4), (.int p5)] maxLocals) := ⟨_, rfl⟩
  have k0 : Rch p e below S0 s₁ (mkF m 0 #[vI p1, vI p2, vI p3, vI p4, vI p5, vU, vU, vU, vU, vU, vU, vU, vU, vU, vU, vU, vU, vU] []) := fun t kq => hS0 ▸ castTop (ef_0 m p1 p2 p3 p4 p5) kq
  have hS : s.Since s.vm s.heap.size := (State.WarmedH.refl s).since _
  have hk : s.heap.size ≤ h0.size := by rw [← hh]; exact Nat.le_refl _
  have hwS : ∀ d ∈ Bundle.stringAtoms, d.before a0 Z = true := fun d hd => hw d ((by decide +kernel : ∀ d ∈ Bundle.stringAtoms, d ∈ tables_1) d hd)
  have rC0 : CHr Z consts_1 s.vm h0 s.vm h0 := CHr.refl hC0
  have hEL : EW Z a0 consts_1 := (EW.cons (hw _ (gm 47 rfl)) (by decide +kernel) (EW.cons (hw _ (gm 122 rfl)) (by decide +kernel) (EW.cons (hw _ (gm 124 rfl)) (by decide +kernel) (EW.cons (hw _ (gm 14 rfl)) (by decide +kernel) EW.nil))))
  obtain ⟨c0, ec0⟩ : ∃ z : Int32, p2 &&& (127 : Int32) = z := ⟨_, rfl⟩
  have hc0 : ¬ c0 < 0 ∧ ¬ (127 : Int32) < c0 := ec0 ▸ own_127 p2
  have rc0 : (c0.toUInt32.toUInt16.toUInt32.toInt32) = c0 := (own_nar _ (own_7f8 _ hc0)).2
  obtain ⟨c1, ec1⟩ : ∃ z : Int32, p3 &&& (127 : Int32) = z := ⟨_, rfl⟩
  have hc1 : ¬ c1 < 0 ∧ ¬ (127 : Int32) < c1 := ec1 ▸ own_127 p3
  have rc1 : (c1.toUInt32.toUInt16.toUInt32.toInt32) = c1 := (own_nar _ (own_7f8 _ hc1)).2
  obtain ⟨c2, ec2⟩ : ∃ z : Int32, p4 &&& (127 : Int32) = z := ⟨_, rfl⟩
  have hc2 : ¬ c2 < 0 ∧ ¬ (127 : Int32) < c2 := ec2 ▸ own_127 p4
  have rc2 : (c2.toUInt32.toUInt16.toUInt32.toInt32) = c2 := (own_nar _ (own_7f8 _ hc2)).2
  obtain ⟨ce, ece⟩ : ∃ z : Int32, p5 &&& (127 : Int32) = z := ⟨_, rfl⟩
  have hce : ¬ ce < 0 ∧ ¬ (127 : Int32) < ce := ece ▸ own_127 p5
  have rce : (ce.toUInt32.toUInt16.toUInt32.toInt32) = ce := (own_nar _ (own_7f8 _ hce)).2
  have k700 : Rch p e below S0 s₁ (mkF m 91 #[vI p1, vI p2, vI p3, vI p4, vI p5, vI 3, vI c0, vI c1, vI c2, vI ce, vU, vU, vU, vU, vU, vU, vU, vU] [(.int (3 : Int32))]) := fun t h => k0 t (by
      show Steps p.tables e below (s₁.setTop (mkF m 0 #[vI p1, vI p2, vI p3, vI p4, vI p5, vU, vU, vU, vU, vU, vU, vU, vU, vU, vU, vU, vU, vU] [])) _
      refine XS.iloadN X0.here hx rfl (hb hby at_0) rfl ?_
      refine XS.iconst X0.here hx rfl (hb hby at_1) ?_
      show Steps p.tables e below (s₁.setTop (mkF m 2 #[vI p1, vI p2, vI p3, vI p4, vI p5, vU, vU, vU, vU, vU, vU, vU, vU, vU, vU, vU, vU, vU] [(.int (3 : Int32)), (.int p1)])) _
      refine XS.iand X0.here hx rfl (hb hby at_2) rfl ?_
      rw [hlen]
      refine XS.istore X0.here hx rfl (hb hby at_3) rfl (l' := #[vI p1, vI p2, vI p3, vI p4, vI p5, vI 3, vU, vU, vU, vU, vU, vU, vU, vU, vU, vU, vU, vU]) rfl ?_
      refine XS.iloadN X0.here hx rfl (hb hby at_5) rfl ?_
      refine XS.bipush X0.here hx rfl (hb hby at_6) ?_
      show Steps p.tables e below (s₁.setTop (mkF m 8 #[vI p1, vI p2, vI p3, vI p4, vI p5, vI 3, vU, vU, vU, vU, vU, vU, vU, vU, vU, vU, vU, vU] [(.int (127 : Int32)), (.int p2)])) _
      refine XS.iand X0.here hx rfl (hb hby at_8) rfl ?_
      rw [ec0]
      show Steps p.tables e below (s₁.setTop (mkF m 9 #[vI p1, vI p2, vI p3, vI p4, vI p5, vI 3, vU, vU, vU, vU, vU, vU, vU, vU, vU, vU, vU, vU] [(.int c0)])) _
      refine XS.i2c X0.here hx rfl (hb hby at_9) rfl ?_
      rw [rc0]
      refine XS.istore X0.here hx rfl (hb hby at_10) rfl (l' := #[vI p1, vI p2, vI p3, vI p4, vI p5, vI 3, vI c0, vU, vU, vU, vU, vU, vU, vU, vU, vU, vU, vU]) rfl ?_
      refine XS.iloadN X0.here hx rfl (hb hby at_12) rfl ?_
      refine XS.bipush X0.here hx rfl (hb hby at_13) ?_
      show Steps p.tables e below (s₁.setTop (mkF m 15 #[vI p1, vI p2, vI p3, vI p4, vI p5, vI 3, vI c0, vU, vU, vU, vU, vU, vU, vU, vU, vU, vU, vU] [(.int (127 : Int32)), (.int p3)])) _
      refine XS.iand X0.here hx rfl (hb hby at_15) rfl ?_
      rw [ec1]
      show Steps p.tables e below (s₁.setTop (mkF m 16 #[vI p1, vI p2, vI p3, vI p4, vI p5, vI 3, vI c0, vU, vU, vU, vU, vU, vU, vU, vU, vU, vU, vU] [(.int c1)])) _
      refine XS.i2c X0.here hx rfl (hb hby at_16) rfl ?_
      rw [rc1]
      refine XS.istore X0.here hx rfl (hb hby at_17) rfl (l' := #[vI p1, vI p2, vI p3, vI p4, vI p5, vI 3, vI c0, vI c1, vU, vU, vU, vU, vU, vU, vU, vU, vU, vU]) rfl ?_
      refine XS.iloadN X0.here hx rfl (hb hby at_19) rfl ?_
      refine XS.bipush X0.here hx rfl (hb hby at_20) ?_
      show Steps p.tables e below (s₁.setTop (mkF m 22 #[vI p1, vI p2, vI p3, vI p4, vI p5, vI 3, vI c0, vI c1, vU, vU, vU, vU, vU, vU, vU, vU, vU, vU] [(.int (127 : Int32)), (.int p4)])) _
      refine XS.iand X0.here hx rfl (hb hby at_22) rfl ?_
      rw [ec2]
      show Steps p.tables e below (s₁.setTop (mkF m 23 #[vI p1, vI p2, vI p3, vI p4, vI p5, vI 3, vI c0, vI c1, vU, vU, vU, vU, vU, vU, vU, vU, vU, vU] [(.int c2)])) _
      refine XS.i2c X0.here hx rfl (hb hby at_23) rfl ?_
      rw [rc2]
      refine XS.istore X0.here hx rfl (hb hby at_24) rfl (l' := #[vI p1, vI p2, vI p3, vI p4, vI p5, vI 3, vI c0, vI c1, vI c2, vU, vU, vU, vU, vU, vU, vU, vU, vU]) rfl ?_
      refine XS.iload X0.here hx rfl (hb hby at_26) rfl ?_
      refine XS.bipush X0.here hx rfl (hb hby at_28) ?_
      show Steps p.tables e below (s₁.setTop (mkF m 30 #[vI p1, vI p2, vI p3, vI p4, vI p5, vI 3, vI c0, vI c1, vI c2, vU, vU, vU, vU, vU, vU, vU, vU, vU] [(.int (127 : Int32)), (.int p5)])) _
      refine XS.iand X0.here hx rfl (hb hby at_30) rfl ?_
      rw [ece]
      show Steps p.tables e below (s₁.setTop (mkF m 31 #[vI p1, vI p2, vI p3, vI p4, vI p5, vI 3, vI c0, vI c1, vI c2, vU, vU, vU, vU, vU, vU, vU, vU, vU] [(.int ce)])) _
      refine XS.i2c X0.here hx rfl (hb hby at_31) rfl ?_
      rw [rce]
      refine XS.istore X0.here hx rfl (hb hby at_32) rfl (l' := #[vI p1, vI p2, vI p3, vI p4, vI p5, vI 3, vI c0, vI c1, vI c2, vI ce, vU, vU, vU, vU, vU, vU, vU, vU]) rfl ?_
      refine XS.iload X0.here hx rfl (hb hby at_34) rfl ?_
      refine XS.ifYes X0.here hx rfl (pc0 := 36) (pc' := 47) rfl (hb hby at_36) rfl ((if0 _ _).trans (feq (by decide : ¬ ((3 : Int32) = (0 : Int32)))).2) (by decide) (by decide) ?_
      refine XS.iload X0.here hx rfl (hb hby at_47) rfl ?_
      refine XS.iconst X0.here hx rfl (hb hby at_49) ?_
      refine XS.icmpYes X0.here hx rfl (pc0 := 50) (pc' := 66) rfl (hb hby at_50) rfl (feq (by decide : ¬ ((3 : Int32) = (1 : Int32)))).2 (by decide) (by decide) ?_
      refine XS.iload X0.here hx rfl (hb hby at_66) rfl ?_
      refine XS.iconst X0.here hx rfl (hb hby at_68) ?_
      refine XS.icmpYes X0.here hx rfl (pc0 := 69) (pc' := 90) rfl (hb hby at_69) rfl (feq (by decide : ¬ ((3 : Int32) = (2 : Int32)))).2 (by decide) (by decide) ?_
      refine XS.iconst X0.here hx rfl (hb hby at_90) ?_
      exact h)
  obtain ⟨T699, h699, k699, X699, e699, E699, A699, st699⟩ := newP X0 hx hZ (hw _ (gm 0 rfl)) e0 (g := (mkF m 91 #[vI p1, vI p2, vI p3, vI p4, vI p5, vI 3, vI c0, vI c1, vI c2, vI ce, vU, vU, vU, vU, vU, vU, vU, vU] [(.int (3 : Int32))])) rfl (hb hby at_91) rfl (by decide) (cap := 3) (by decide) (by decide) (by decide) (by decide)
  obtain ⟨b699, g699⟩ : ∃ z, z = h0.size := ⟨_, rfl⟩
  rw [← g699] at A699 st699
  have k701 : Rch p e below S0 T699 (mkF m 93 #[vI p1, vI p2, vI p3, vI p4, vI p5, vI 3, vI c0, vI c1, vI c2, vI ce, vU, vU, vU, vU, vU, vU, vU, vU] [(.ref b699)]) := fun t h => k700 t (st699 t h)
  have ge_b699 : n0 ≤ b699 := own_ge O0 (Nat.le_of_eq g699.symm)
  have sf_b699 : Safe Z consts_1 s.vm h0 b699 := Safe.new (Nat.le_of_eq g699.symm)
  replace sf_b699 := Safe.ext E699 hC0 sf_b699
  have hC702 := hC0.ext E699
  have rC702 := rC0.trans (CHr.ext E699 hC0)
  have O703 := O0.ext E699
  have hkk704 := Nat.le_trans hk E699.1
  have V_b699 : Arv Z h699 b699 k699 .char (3 : Int32) [(.int (0 : Int32)), (.int (0 : Int32)), (.int (0 : Int32))] (.int (0 : Int32)) := (Arv.new A699 (by decide)).pad (pad_rep [] (.int (0 : Int32)) 3)
  have k706 : Rch p e below S0 T699 (mkF m 97 #[vI p1, vI p2, vI p3, vI p4, vI p5, vI 3, vI c0, vI c1, vI c2, vI ce, vU, vU, vU, vU, vU, vU, vU, vU] [(.int c0), (.int (0 : Int32)), (.ref b699), (.ref b699)]) := fun t h => k701 t (by
      show Steps p.tables e below (T699.setTop (mkF m 93 #[vI p1, vI p2, vI p3, vI p4, vI p5, vI 3, vI c0, vI c1, vI c2, vI ce, vU, vU, vU, vU, vU, vU, vU, vU] [(.ref b699)])) _
      refine XS.dup X699.here hx rfl (hb hby at_93) rfl rfl ?_
      refine XS.iconst X699.here hx rfl (hb hby at_94) ?_
      refine XS.iload X699.here hx rfl (hb hby at_95) rfl ?_
      exact h)
  obtain ⟨cl705, Ar705, q705, Sz705, Ng705, Hs705, G705⟩ := id V_b699
  have hin705 : ¬ ((0 : Int32) < 0 ∨ cl705.slots.size ≤ ((0 : Int32)).toNatClampNeg) := inb_of Sz705 ⟨by decide, by decide⟩
  obtain ⟨T705, h705, X705, e705, W705, st705⟩ := stC X699 hx hZ e699 Ar705 (j := (0 : Int32)) hin705 (g := (mkF m 97 #[vI p1, vI p2, vI p3, vI p4, vI p5, vI 3, vI c0, vI c1, vI c2, vI ce, vU, vU, vU, vU, vU, vU, vU, vU] [(.int c0), (.int (0 : Int32)), (.ref b699), (.ref b699)])) rfl rfl (hb hby at_97)
  have k707 : Rch p e below S0 T705 (mkF m 98 #[vI p1, vI p2, vI p3, vI p4, vI p5, vI 3, vI c0, vI c1, vI c2, vI ce, vU, vU, vU, vU, vU, vU, vU, vU] [(.ref b699)]) := fun t h => k706 t (st705 t h)
  have N705 := Fr.snoc X705 N0 ge_b699
  have V_b699' := Arv.set Ar705 q705 Sz705 Ng705 Hs705 G705 (fits_nar_char _) W705 0 rfl (Nat.le_of_ble_eq_true rfl)
  replace V_b699 : Arv Z h705 b699 k699 .char (3 : Int32) [(.int c0), (.int (0 : Int32)), (.int (0 : Int32))] (.int (0 : Int32)) := (by have q := V_b699'; rw [(own_nar c0 (own_7f8 _ hc0)).1] at q; exact q)
  have hC708 := hC702.wr W705 sf_b699
  have rC708 := rC702.trans (CHr.wr W705 sf_b699 hC702)
  replace sf_b699 := Safe.wr W705 sf_b699 hC702 sf_b699
  have O709 := O703.wr W705 ge_b699
  have hkk710 := Nat.le_trans hkk704 (Keep.of_wr W705).1
  have k712 : Rch p e below S0 T705 (mkF m 102 #[vI p1, vI p2, vI p3, vI p4, vI p5, vI 3, vI c0, vI c1, vI c2, vI ce, vU, vU, vU, vU, vU, vU, vU, vU] [(.int c1), (.int (1 : Int32)), (.ref b699), (.ref b699)]) := fun t h => k707 t (by
      show Steps p.tables e below (T705.setTop (mkF m 98 #[vI p1, vI p2, vI p3, vI p4, vI p5, vI 3, vI c0, vI c1, vI c2, vI ce, vU, vU, vU, vU, vU, vU, vU, vU] [(.ref b699)])) _
      refine XS.dup X705.here hx rfl (hb hby at_98) rfl rfl ?_
      refine XS.iconst X705.here hx rfl (hb hby at_99) ?_
      refine XS.iload X705.here hx rfl (hb hby at_100) rfl ?_
      exact h)
  obtain ⟨cl711, Ar711, q711, Sz711, Ng711, Hs711, G711⟩ := id V_b699
  have hin711 : ¬ ((1 : Int32) < 0 ∨ cl711.slots.size ≤ ((1 : Int32)).toNatClampNeg) := inb_of Sz711 ⟨by decide, by decide⟩
  obtain ⟨T711, h711, X711, e711, W711, st711⟩ := stC X705 hx hZ e705 Ar711 (j := (1 : Int32)) hin711 (g := (mkF m 102 #[vI p1, vI p2, vI p3, vI p4, vI p5, vI 3, vI c0, vI c1, vI c2, vI ce, vU, vU, vU, vU, vU, vU, vU, vU] [(.int c1), (.int (1 : Int32)), (.ref b699), (.ref b699)])) rfl rfl (hb hby at_102)
  have k713 : Rch p e below S0 T711 (mkF m 103 #[vI p1, vI p2, vI p3, vI p4, vI p5, vI 3, vI c0, vI c1, vI c2, vI ce, vU, vU, vU, vU, vU, vU, vU, vU] [(.ref b699)]) := fun t h => k712 t (st711 t h)
  have N711 := Fr.snoc X711 N705 ge_b699
  have V_b699' := Arv.set Ar711 q711 Sz711 Ng711 Hs711 G711 (fits_nar_char _) W711 1 rfl (Nat.le_of_ble_eq_true rfl)
  replace V_b699 : Arv Z h711 b699 k699 .char (3 : Int32) [(.int c0), (.int c1), (.int (0 : Int32))] (.int (0 : Int32)) := (by have q := V_b699'; rw [(own_nar c1 (own_7f8 _ hc1)).1] at q; exact q)
  have hC714 := hC708.wr W711 sf_b699
  have rC714 := rC708.trans (CHr.wr W711 sf_b699 hC708)
  replace sf_b699 := Safe.wr W711 sf_b699 hC708 sf_b699
  have O715 := O709.wr W711 ge_b699
  have hkk716 := Nat.le_trans hkk710 (Keep.of_wr W711).1
  have k718 : Rch p e below S0 T711 (mkF m 107 #[vI p1, vI p2, vI p3, vI p4, vI p5, vI 3, vI c0, vI c1, vI c2, vI ce, vU, vU, vU, vU, vU, vU, vU, vU] [(.int c2), (.int (2 : Int32)), (.ref b699), (.ref b699)]) := fun t h => k713 t (by
      show Steps p.tables e below (T711.setTop (mkF m 103 #[vI p1, vI p2, vI p3, vI p4, vI p5, vI 3, vI c0, vI c1, vI c2, vI ce, vU, vU, vU, vU, vU, vU, vU, vU] [(.ref b699)])) _
      refine XS.dup X711.here hx rfl (hb hby at_103) rfl rfl ?_
      refine XS.iconst X711.here hx rfl (hb hby at_104) ?_
      refine XS.iload X711.here hx rfl (hb hby at_105) rfl ?_
      exact h)
  obtain ⟨cl717, Ar717, q717, Sz717, Ng717, Hs717, G717⟩ := id V_b699
  have hin717 : ¬ ((2 : Int32) < 0 ∨ cl717.slots.size ≤ ((2 : Int32)).toNatClampNeg) := inb_of Sz717 ⟨by decide, by decide⟩
  obtain ⟨T717, h717, X717, e717, W717, st717⟩ := stC X711 hx hZ e711 Ar717 (j := (2 : Int32)) hin717 (g := (mkF m 107 #[vI p1, vI p2, vI p3, vI p4, vI p5, vI 3, vI c0, vI c1, vI c2, vI ce, vU, vU, vU, vU, vU, vU, vU, vU] [(.int c2), (.int (2 : Int32)), (.ref b699), (.ref b699)])) rfl rfl (hb hby at_107)
  have k719 : Rch p e below S0 T717 (mkF m 108 #[vI p1, vI p2, vI p3, vI p4, vI p5, vI 3, vI c0, vI c1, vI c2, vI ce, vU, vU, vU, vU, vU, vU, vU, vU] [(.ref b699)]) := fun t h => k718 t (st717 t h)
  have N717 := Fr.snoc X717 N711 ge_b699
  have V_b699' := Arv.set Ar717 q717 Sz717 Ng717 Hs717 G717 (fits_nar_char _) W717 2 rfl (Nat.le_of_ble_eq_true rfl)
  replace V_b699 : Arv Z h717 b699 k699 .char (3 : Int32) [(.int c0), (.int c1), (.int c2)] (.int (0 : Int32)) := (by have q := V_b699'; rw [(own_nar c2 (own_7f8 _ hc2)).1] at q; exact q)
  have hC720 := hC714.wr W717 sf_b699
  have rC720 := rC714.trans (CHr.wr W717 sf_b699 hC714)
  replace sf_b699 := Safe.wr W717 sf_b699 hC714 sf_b699
  have O721 := O715.wr W717 ge_b699
  have hkk722 := Nat.le_trans hkk716 (Keep.of_wr W717).1
  have k724 : Rch p e below S0 T717 (mkF m 110 #[vI p1, vI p2, vI p3, vI p4, vI p5, vI 3, vI c0, vI c1, vI c2, vI ce, vR b699, vU, vU, vU, vU, vU, vU, vU] []) := fun t h => k719 t (by
      show Steps p.tables e below (T717.setTop (mkF m 108 #[vI p1, vI p2, vI p3, vI p4, vI p5, vI 3, vI c0, vI c1, vI c2, vI ce, vU, vU, vU, vU, vU, vU, vU, vU] [(.ref b699)])) _
      refine XS.astore X717.here hx rfl (hb hby at_108) rfl rfl (l' := #[vI p1, vI p2, vI p3, vI p4, vI p5, vI 3, vI c0, vI c1, vI c2, vI ce, vR b699, vU, vU, vU, vU, vU, vU, vU]) rfl ?_
      exact h)
  obtain ⟨T723, h723, X723, e723, E723, A723, D723, -, st723⟩ := newO X717 hx hZ hown (hw _ (gm 1 rfl)) (hw _ (gm 2 rfl)) (hw _ (gm 3 rfl)) e717 (g := (mkF m 110 #[vI p1, vI p2, vI p3, vI p4, vI p5, vI 3, vI c0, vI c1, vI c2, vI ce, vR b699, vU, vU, vU, vU, vU, vU, vU] [])) rfl (hb hby at_110) (by decide) (by decide)
  obtain ⟨b723, g723⟩ : ∃ z, z = h717.size := ⟨_, rfl⟩
  rw [← g723] at A723 D723 st723
  have k725 : Rch p e below S0 T723 (mkF m 113 #[vI p1, vI p2, vI p3, vI p4, vI p5, vI 3, vI c0, vI c1, vI c2, vI ce, vR b699, vU, vU, vU, vU, vU, vU, vU] [(.ref b723)]) := fun t h => k724 t (st723 t h)
  have ne_b699_b723 : b699 ≠ b723 := own_ne V_b699.lt (Nat.le_of_eq g723.symm)
  have ge_b723 : n0 ≤ b723 := own_ge O721 (Nat.le_of_eq g723.symm)
  have sf_b723 : Safe Z consts_1 s.vm h717 b723 := Safe.new (Nat.le_of_eq g723.symm)
  replace sf_b699 := Safe.ext E723 hC720 sf_b699
  replace sf_b723 := Safe.ext E723 hC720 sf_b723
  have hC726 := hC720.ext E723
  have rC726 := rC720.trans (CHr.ext E723 hC720)
  have O727 := O721.ext E723
  replace V_b699 := V_b699.ext E723
  have hkk728 := Nat.le_trans hkk722 E723.1
  have E_b723 := A723
  have F_b723_value : Fld Z h723 b723 "java/lang/String" "value" "[B" .null := D723 (Or.inr (hw _ (gm 16 rfl))) (ty := (.array .byte)) (by decide)
  have F_b723_coder : Fld Z h723 b723 "java/lang/String" "coder" "B" (.int (0 : Int32)) := D723 (Or.inr (hw _ (gm 17 rfl))) (ty := .byte) (by decide)
  have k729 : Rch p e below S0 T723 (mkF m 116 #[vI p1, vI p2, vI p3, vI p4, vI p5, vI 3, vI c0, vI c1, vI c2, vI ce, vR b699, vU, vU, vU, vU, vU, vU, vU] [(.ref b699), (.ref b723), (.ref b723)]) := fun t h => k725 t (by
      show Steps p.tables e below (T723.setTop (mkF m 113 #[vI p1, vI p2, vI p3, vI p4, vI p5, vI 3, vI c0, vI c1, vI c2, vI ce, vR b699, vU, vU, vU, vU, vU, vU, vU] [(.ref b723)])) _
      refine XS.dup X723.here hx rfl (hb hby at_113) rfl rfl ?_
      refine XS.aload X723.here hx rfl (hb hby at_114) rfl rfl ?_
      exact h)
  have hws : ∀ d ∈ StrChars.Road.words, d.before a0 Z = true := fun d hd => hw d ((by decide +kernel : ∀ d ∈ StrChars.Road.words, d ∈ tables_1) d hd)
  have hp : ∀ c ∈ ([c0, c1, c2] : List Int32), ¬ c < 0 ∧ ¬ (255 : Int32) < c := by
    intro c hc
    simp only [List.mem_cons, List.not_mem_nil, or_false] at hc
    rcases hc with rfl | rfl | rfl
    · exact own_7f8 _ hc0
    · exact own_7f8 _ hc1
    · exact own_7f8 _ hc2
  obtain ⟨_, _, ⟨T730, L730, kk730, n730⟩, -, X730, ⟨Lc730, hQ730, l730, y730, z730⟩, st730⟩ := X723.specialBack hx (y := (⟨"java/lang/String", "<init>", "([C)V"⟩ : MethodName)) rfl hown (mvT hZ (hw _ (gm 4 rfl))) (mvT hZ (hw _ (gm 5 rfl))) (mvT hZ (hw _ (gm 6 rfl))) (by decide) (StrChars.Road.backV (W := 1) hZ hws (kI := 4) (hw _ (gm 2 rfl)) (cs := [c0, c1, c2]) (bs := [c0, c1, c2].map (fun c => c.toInt8.toInt32)) (n := 3) ge_b723 (own_le O727) E_b723 F_b723_value F_b723_coder V_b699 (SC.ext O727.2) hzC rfl rfl (by decide) (by decide) hp rfl (by decide) (by decide)) (g := (mkF m 116 #[vI p1, vI p2, vI p3, vI p4, vI p5, vI 3, vI c0, vI c1, vI c2, vI ce, vR b699, vU, vU, vU, vU, vU, vU, vU] [(.ref b699), (.ref b723), (.ref b723)])) rfl (by rw [hml]; rfl) (Steps.refl _) (a := b723) (argsL := [(.ref b699)]) (rest := [(.ref b723)]) (lenOf pd_0 rfl) rfl (by show 2 * 0 + _ ≤ _; exact Nat.le_of_eq rfl) (hb hby at_116) (fun _ _ => ⟨rfl, e723, (by decide : 2 + 1 ≤ _), (by decide : 7 + 3 ≤ _)⟩)
  dsimp only [Pt.U, Pt.locs, Pt.cells, Pt.slots] at X730 l730 y730 z730 st730 hQ730
  subst l730 y730 z730
  obtain ⟨rfl, Nq730, K730, Eb730, Cb730, t730, kb730, u730, v730, ww730, Vb730, Ab730⟩ := hQ730
  have N730 := Fr.app N717 Nq730
  have k731 : Rch p e below S0 T730 (mkF m 119 #[vI p1, vI p2, vI p3, vI p4, vI p5, vI 3, vI c0, vI c1, vI c2, vI ce, vR b699, vU, vU, vU, vU, vU, vU, vU] [(.ref b723)]) := fun t h => k729 t (st730.trans h)
  have hC732 := hC726.keep K730 (sfS sf_b723 sf0)
  have rC732 := rC726.trans (CHr.keep K730 (sfS sf_b723 sf0) hC726)
  have sfx733 := (sfS sf_b723 sf0)
  replace sf_b699 := Safe.keep K730 sfx733 hC726 sf_b699
  replace sf_b723 := Safe.keep K730 sfx733 hC726 sf_b723
  have O734 := O727.keep K730 (allS ge_b723 all0)
  replace V_b699 := V_b699.keep K730 (ninS ne_b699_b723 nin0)
  replace E_b723 := E_b723.keep K730
  have hkk735 := Nat.le_trans hkk728 K730.1
  have At730 : Arv Z T730.heap t730 kb730 .byte (Int32.ofNat ([c0, c1, c2] : List Int32).length) (([c0, c1, c2] : List Int32).map Value.int) (.int (0 : Int32)) := by
    have q := Ab730
    simp only [List.map_cons, List.map_nil, (own_7b _ hc0).1, (own_7b _ hc1).1, (own_7b _ hc2).1] at q
    exact q
  have k736 : Rch p e below S0 T730 (mkF m 123 #[vI p1, vI p2, vI p3, vI p4, vI p5, vI 3, vI c0, vI c1, vI c2, vI ce, vR b699, vR b723, vU, vU, vU, vU, vU, vU] [(.int ce)]) := fun t h => k731 t (by
      show Steps p.tables e below (T730.setTop (mkF m 119 #[vI p1, vI p2, vI p3, vI p4, vI p5, vI 3, vI c0, vI c1, vI c2, vI ce, vR b699, vU, vU, vU, vU, vU, vU, vU] [(.ref b723)])) _
      refine XS.astore X730.here hx rfl (hb hby at_119) rfl rfl (l' := #[vI p1, vI p2, vI p3, vI p4, vI p5, vI 3, vI c0, vI c1, vI c2, vI ce, vR b699, vR b723, vU, vU, vU, vU, vU, vU]) rfl ?_
      refine XS.iload X730.here hx rfl (hb hby at_121) rfl ?_
      exact h)
  obtain ⟨_, _, ⟨T737, L737, kk737, n737⟩, -, X737, ⟨Lc737, hQ737, l737, y737, z737⟩, st737⟩ := Jvm.LawKit.callS X730 hx (y := (⟨"java/lang/String", "valueOf", "(C)Ljava/lang/String;"⟩ : MethodName)) hown (mvT hZ (hw _ (gm 22 rfl))) (mvT hZ (hw _ (gm 23 rfl))) (mvT hZ (hw _ (gm 3 rfl))) (mvT hZ (hw _ (gm 24 rfl))) (by decide) (backOf (W := 0) (rmVO l Z a0 hw [] ce zC T730.heap n0 O734 SC hzC hce) hZ (hw _ (gm 24 rfl)) (hw _ (gm 3 rfl)) (by decide) (by decide)) (g := (mkF m 123 #[vI p1, vI p2, vI p3, vI p4, vI p5, vI 3, vI c0, vI c1, vI c2, vI ce, vR b699, vR b723, vU, vU, vU, vU, vU, vU] [(.int ce)])) rfl (by rw [hml]; rfl) (argsL := [(.int ce)]) (rest := []) (lenOf pd_3 rfl) rfl (by show 2 * 0 + _ ≤ _; exact Nat.le_of_eq rfl) (hb hby at_123) (fun _ _ => ⟨rfl, rfl, (by decide : 3 + 2 ≤ _), (by decide : 10 + 5 ≤ _)⟩)
  dsimp only [Pt.U, Pt.locs, Pt.cells, Pt.slots] at X737 l737 y737 z737 st737 hQ737
  subst l737 y737 z737
  obtain ⟨b737, y737, ky737, rfl, Nq737, E737, z737, Eb737, zy737, Gv737, Gc737, V737⟩ := hQ737
  have N737 := Fr.app N730 Nq737
  have k738 : Rch p e below S0 T737 (mkF m 126 #[vI p1, vI p2, vI p3, vI p4, vI p5, vI 3, vI c0, vI c1, vI c2, vI ce, vR b699, vR b723, vU, vU, vU, vU, vU, vU] [(.ref b737)]) := fun t h => k736 t (st737 t h)
  have hC739 := hC732.ext E737
  have rC739 := rC732.trans (CHr.ext E737 hC732)
  have O740 := O734.ext E737
  replace E_b723 := E_b723.ext E737
  replace Vb730 := Vb730.ext E737
  replace Cb730 := Cb730.ext E737
  replace At730 := At730.ext E737
  have hkk741 := Nat.le_trans hkk735 E737.1
  have k743 : Rch p e below S0 T737 (mkF m 128 #[vI p1, vI p2, vI p3, vI p4, vI p5, vI 3, vI c0, vI c1, vI c2, vI ce, vR b699, vR b723, vR b737, vU, vU, vU, vU, vU] []) := fun t h => k738 t (by
      show Steps p.tables e below (T737.setTop (mkF m 126 #[vI p1, vI p2, vI p3, vI p4, vI p5, vI 3, vI c0, vI c1, vI c2, vI ce, vR b699, vR b723, vU, vU, vU, vU, vU, vU] [(.ref b737)])) _
      refine XS.astore X737.here hx rfl (hb hby at_126) rfl rfl (l' := #[vI p1, vI p2, vI p3, vI p4, vI p5, vI 3, vI c0, vI c1, vI c2, vI ce, vR b699, vR b723, vR b737, vU, vU, vU, vU, vU]) rfl ?_
      exact h)
  obtain ⟨T742, h742, X742, e742, E742, A742, D742, -, st742⟩ := newO X737 hx hZ hown (hw _ (gm 37 rfl)) (hw _ (gm 38 rfl)) (hw _ (gm 39 rfl)) rfl (g := (mkF m 128 #[vI p1, vI p2, vI p3, vI p4, vI p5, vI 3, vI c0, vI c1, vI c2, vI ce, vR b699, vR b723, vR b737, vU, vU, vU, vU, vU] [])) rfl (hb hby at_128) (by decide) (by decide)
  obtain ⟨b742, g742⟩ : ∃ z, z = T737.heap.size := ⟨_, rfl⟩
  rw [← g742] at A742 D742 st742
  have k744 : Rch p e below S0 T742 (mkF m 131 #[vI p1, vI p2, vI p3, vI p4, vI p5, vI 3, vI c0, vI c1, vI c2, vI ce, vR b699, vR b723, vR b737, vU, vU, vU, vU, vU] [(.ref b742)]) := fun t h => k743 t (st742 t h)
  have ne_b723_b742 : b723 ≠ b742 := own_ne E_b723.lt (Nat.le_of_eq g742.symm)
  have ne_t730_b742 : t730 ≠ b742 := own_ne At730.lt (Nat.le_of_eq g742.symm)
  have ne_b737_b742 : b737 ≠ b742 := own_ne Eb737.lt (Nat.le_of_eq g742.symm)
  have ne_y737_b742 : y737 ≠ b742 := own_ne V737.lt (Nat.le_of_eq g742.symm)
  have ge_b742 : n0 ≤ b742 := own_ge O740 (Nat.le_of_eq g742.symm)
  have sf_b742 : Safe Z consts_1 s.vm T737.heap b742 := Safe.new (Nat.le_of_eq g742.symm)
  replace sf_b742 := Safe.ext E742 hC739 sf_b742
  have hC745 := hC739.ext E742
  have rC745 := rC739.trans (CHr.ext E742 hC739)
  have O746 := O740.ext E742
  replace E_b723 := E_b723.ext E742
  replace Vb730 := Vb730.ext E742
  replace Cb730 := Cb730.ext E742
  replace At730 := At730.ext E742
  replace Eb737 := Eb737.ext E742
  replace Gv737 := Gv737.ext E742
  replace Gc737 := Gc737.ext E742
  replace V737 := V737.ext E742
  have hkk747 := Nat.le_trans hkk741 E742.1
  have E_b742 := A742
  have F_b742_out : Fld Z h742 b742 "com/example/usko/usko/server/Html" "out" "Ljava/lang/StringBuilder;" .null := D742 (Or.inr (hw _ (gm 116 rfl))) (ty := (.object "java/lang/StringBuilder")) (by decide)
  have k748 : Rch p e below S0 T742 (mkF m 132 #[vI p1, vI p2, vI p3, vI p4, vI p5, vI 3, vI c0, vI c1, vI c2, vI ce, vR b699, vR b723, vR b737, vU, vU, vU, vU, vU] [(.ref b742), (.ref b742)]) := fun t h => k744 t (by
      show Steps p.tables e below (T742.setTop (mkF m 131 #[vI p1, vI p2, vI p3, vI p4, vI p5, vI 3, vI c0, vI c1, vI c2, vI ce, vR b699, vR b723, vR b737, vU, vU, vU, vU, vU] [(.ref b742)])) _
      refine XS.dup X742.here hx rfl (hb hby at_131) rfl rfl ?_
      exact h)
  obtain ⟨_, _, ⟨T749, L749, kk749, n749⟩, -, X749, hS749, gr749, ⟨Lc749, hQ749, l749, y749, z749, hR749⟩, st749⟩ := X742.specialBackS hx (y := (⟨"com/example/usko/usko/server/Html", "<init>", "()V"⟩ : MethodName)) rfl hown (mvT hZ (hw _ (gm 40 rfl))) (mvT hZ (hw _ (gm 41 rfl))) (mvT hZ (hw _ (gm 42 rfl))) (by decide) (backOfSH (W := 1) (rmHI l Z a0 hw [] b742 zC h742 n0 O746 SC hzC ge_b742 E_b742 F_b742_out) hZ (hw _ (gm 42 rfl)) (hw _ (gm 39 rfl)) (by decide) (by decide) hEL hC745) (g := (mkF m 132 #[vI p1, vI p2, vI p3, vI p4, vI p5, vI 3, vI c0, vI c1, vI c2, vI ce, vR b699, vR b723, vR b737, vU, vU, vU, vU, vU] [(.ref b742), (.ref b742)])) rfl (by rw [hml]; rfl) (Steps.refl _) (a := b742) (argsL := []) (rest := [(.ref b742)]) (lenOf pd_2 rfl) rfl (by show 2 * 0 + _ ≤ _; exact Nat.le_of_eq rfl) (hb hby at_132) (fun _ _ => ⟨rfl, e742, (by decide : 6 + 4 ≤ _), (by decide : 16 + 104 ≤ _)⟩)
  dsimp only [Pt.U, Pt.locs, Pt.cells, Pt.slots] at X749 l749 y749 z749 st749 hQ749 hS749 gr749 hR749
  subst l749 y749 z749
  have hZ749 : Z.Warmed39 (s.setVm T749.vm).vm := State.Warmed39.trans (t := (s.setVm s.vm)) hZ hS749.1
  have hown749 : (s.setVm T749.vm).vm.findClass "com/example/usko/usko/server/HtmlClosePinLaw" = some m.cls := by rw [show (s.setVm T749.vm).vm = T749.vm from rfl, hS749.1.alike.findClass]; exact hown
  replace hS749 := foldS hS (by rw [e742]; exact hkk747) hS749 gr749
  have hk749 := Nat.le_refl T749.heap.size
  replace X749 : Stand p l e room_1 (s.setVm T749.vm) m #[(.int p1), (.int p2), (.int p3), (.int p4), (.int p5)] below meth c T749 _ _ _ := X749
  obtain ⟨rfl, Nq749, K749, sb, tb, kb, zs749, zt749, ne_sb_tb, E_sb, Fc, Fv, Fn, Vb, Fo⟩ := hQ749
  have N749 := Fr.app N737 Nq749
  have k750 : Rch p e below S0 T749 (mkF m 135 #[vI p1, vI p2, vI p3, vI p4, vI p5, vI 3, vI c0, vI c1, vI c2, vI ce, vR b699, vR b723, vR b737, vU, vU, vU, vU, vU] [(.ref b742)]) := fun t h => k748 t (st749.trans h)
  have ne_b723_sb : b723 ≠ sb := own_ne E_b723.lt zs749
  have ne_t730_sb : t730 ≠ sb := own_ne At730.lt zs749
  have ne_b737_sb : b737 ≠ sb := own_ne Eb737.lt zs749
  have ne_y737_sb : y737 ≠ sb := own_ne V737.lt zs749
  have ne_b742_sb : b742 ≠ sb := own_ne E_b742.lt zs749
  have ge_sb : n0 ≤ sb := own_ge O746 zs749
  have ne_b723_tb : b723 ≠ tb := own_ne E_b723.lt zt749
  have ne_t730_tb : t730 ≠ tb := own_ne At730.lt zt749
  have ne_b737_tb : b737 ≠ tb := own_ne Eb737.lt zt749
  have ne_y737_tb : y737 ≠ tb := own_ne V737.lt zt749
  have ne_b742_tb : b742 ≠ tb := own_ne E_b742.lt zt749
  have ge_tb : n0 ≤ tb := own_ge O746 zt749
  have hC751 := hR749.1
  have rC751 := rC745.trans hR749
  have O752 := O746.keep K749 (allS ge_b742 all0)
  replace E_b723 := E_b723.keep K749
  replace Vb730 := Vb730.keep K749 (ninS ne_b723_b742 nin0)
  replace Cb730 := Cb730.keep K749 (ninS ne_b723_b742 nin0)
  replace At730 := At730.keep K749 (ninS ne_t730_b742 nin0)
  replace Eb737 := Eb737.keep K749
  replace Gv737 := Gv737.keep K749 (ninS ne_b737_b742 nin0)
  replace Gc737 := Gc737.keep K749 (ninS ne_b737_b742 nin0)
  replace V737 := V737.keep K749 (ninS ne_y737_b742 nin0)
  replace E_b742 := E_b742.keep K749
  have k753 : Rch p e below S0 T749 (mkF m 141 #[vI p1, vI p2, vI p3, vI p4, vI p5, vI 3, vI c0, vI c1, vI c2, vI ce, vR b699, vR b723, vR b737, vR b742, vU, vU, vU, vU] [(.ref b723), (.ref b742)]) := fun t h => k750 t (by
      show Steps p.tables e below (T749.setTop (mkF m 135 #[vI p1, vI p2, vI p3, vI p4, vI p5, vI 3, vI c0, vI c1, vI c2, vI ce, vR b699, vR b723, vR b737, vU, vU, vU, vU, vU] [(.ref b742)])) _
      refine XS.astore X749.here hx rfl (hb hby at_135) rfl rfl (l' := #[vI p1, vI p2, vI p3, vI p4, vI p5, vI 3, vI c0, vI c1, vI c2, vI ce, vR b699, vR b723, vR b737, vR b742, vU, vU, vU, vU]) rfl ?_
      refine XS.aload X749.here hx rfl (hb hby at_137) rfl rfl ?_
      refine XS.aload X749.here hx rfl (hb hby at_139) rfl rfl ?_
      exact h)
  obtain ⟨cq754, kq754, q754a, q754b, q754c⟩ := isOf hZ749 rfl E_b742
  obtain ⟨_, _, ⟨T754, L754, kk754, n754⟩, -, X754, hS754, gr754, ⟨Lc754, hQ754, l754, y754, z754, hR754⟩, st754⟩ := X749.virtualBackS hx (y := (⟨"com/example/usko/usko/server/Html", "close", "(Ljava/lang/String;)Lcom/example/usko/usko/server/Html;"⟩ : MethodName)) (z := (⟨"com/example/usko/usko/server/Html", "close", "(Ljava/lang/String;)Lcom/example/usko/usko/server/Html;"⟩ : MethodName)) hown749 (mvT hZ749 (hw _ (gm 117 rfl))) (mvT hZ749 (hw _ (gm 118 rfl))) (notFace_of_selects (args := #[]) (mvT hZ749 (hw _ (gm 120 rfl)))) (mvT hZ749 (hw _ (gm 120 rfl))) (mvT hZ749 (hw _ (gm 119 rfl))) (by decide) (backOfSH (W := 0) (rmCL l Z a0 hw [] b742 b723 sb tb t730 kb730 [c0, c1, c2] kb 32 [(60 : Int32), (33 : Int32), (68 : Int32), (79 : Int32), (67 : Int32), (84 : Int32), (89 : Int32), (80 : Int32), (69 : Int32), (32 : Int32), (104 : Int32), (116 : Int32), (109 : Int32), (108 : Int32), (62 : Int32), (10 : Int32)] zC T749.heap n0 O752 SC hzC Fo ge_sb ge_tb ne_sb_tb E_sb Fc Fv Fn E_b723 Vb730 Cb730 At730 Vb ne_b723_sb ne_b723_tb ne_t730_sb ne_t730_tb (Nat.le_of_ble_eq_true rfl) (by decide) (by decide)) hZ749 (hw _ (gm 121 rfl)) (hw _ (gm 39 rfl)) (by decide) (by decide) hEL hC751) q754a q754c (g := (mkF m 141 #[vI p1, vI p2, vI p3, vI p4, vI p5, vI 3, vI c0, vI c1, vI c2, vI ce, vR b699, vR b723, vR b737, vR b742, vU, vU, vU, vU] [(.ref b723), (.ref b742)])) rfl (by rw [hml]; rfl) (Steps.refl _) (argsL := [(.ref b723)]) (rest := []) (lenOf pd_16 rfl) rfl (by show 2 * 0 + _ ≤ _; exact Nat.le_of_eq rfl) (hb hby at_141) (fun _ _ => ⟨rfl, rfl, (by decide : 10 + 4 ≤ _), (by decide : 120 + 24 ≤ _)⟩)
  dsimp only [Pt.U, Pt.locs, Pt.cells, Pt.slots] at X754 l754 y754 z754 st754 hQ754 hS754 gr754 hR754
  subst l754 y754 z754
  have hZ754 : Z.Warmed39 (s.setVm T754.vm).vm := State.Warmed39.trans (t := (s.setVm T749.vm)) hZ749 hS754.1
  have hown754 : (s.setVm T754.vm).vm.findClass "com/example/usko/usko/server/HtmlClosePinLaw" = some m.cls := by rw [show (s.setVm T754.vm).vm = T754.vm from rfl, hS754.1.alike.findClass]; exact hown749
  replace hS754 := foldS hS749 (by exact hk749) hS754 gr754
  have hk754 := Nat.le_refl T754.heap.size
  replace X754 : Stand p l e room_1 (s.setVm T754.vm) m #[(.int p1), (.int p2), (.int p3), (.int p4), (.int p5)] below meth c T754 _ _ _ := X754
  obtain ⟨rfl, Nq754, K754, Fc754, Fv754, Fn754, V754⟩ := hQ754
  have N754 := Fr.app N749 Nq754
  have k755 : Rch p e below S0 T754 (mkF m 144 #[vI p1, vI p2, vI p3, vI p4, vI p5, vI 3, vI c0, vI c1, vI c2, vI ce, vR b699, vR b723, vR b737, vR b742, vU, vU, vU, vU] [(.ref b742)]) := fun t h => k753 t (st754.trans h)
  have hC756 := hR754.1
  have rC756 := rC751.trans hR754
  have O757 := O752.keep K754 (allS ge_sb (allS ge_tb all0))
  replace Eb737 := Eb737.keep K754
  replace Gv737 := Gv737.keep K754 (ninS ne_b737_sb (ninS ne_b737_tb nin0))
  replace Gc737 := Gc737.keep K754 (ninS ne_b737_sb (ninS ne_b737_tb nin0))
  replace V737 := V737.keep K754 (ninS ne_y737_sb (ninS ne_y737_tb nin0))
  replace E_b742 := E_b742.keep K754
  replace Fo := Fo.keep K754 (ninS ne_b742_sb (ninS ne_b742_tb nin0))
  replace E_sb := E_sb.keep K754
  have k758 : Rch p e below S0 T754 (mkF m 150 #[vI p1, vI p2, vI p3, vI p4, vI p5, vI 3, vI c0, vI c1, vI c2, vI ce, vR b699, vR b723, vR b737, vR b742, vR b742, vU, vU, vU] [(.ref b737), (.ref b742)]) := fun t h => k755 t (by
      show Steps p.tables e below (T754.setTop (mkF m 144 #[vI p1, vI p2, vI p3, vI p4, vI p5, vI 3, vI c0, vI c1, vI c2, vI ce, vR b699, vR b723, vR b737, vR b742, vU, vU, vU, vU] [(.ref b742)])) _
      refine XS.astore X754.here hx rfl (hb hby at_144) rfl rfl (l' := #[vI p1, vI p2, vI p3, vI p4, vI p5, vI 3, vI c0, vI c1, vI c2, vI ce, vR b699, vR b723, vR b737, vR b742, vR b742, vU, vU, vU]) rfl ?_
      refine XS.aload X754.here hx rfl (hb hby at_146) rfl rfl ?_
      refine XS.aload X754.here hx rfl (hb hby at_148) rfl rfl ?_
      exact h)
  obtain ⟨cq759, kq759, q759a, q759b, q759c⟩ := isOf hZ754 rfl E_b742
  obtain ⟨_, _, ⟨T759, L759, kk759, n759⟩, -, X759, hS759, gr759, ⟨Lc759, hQ759, l759, y759, z759, hR759⟩, st759⟩ := X754.virtualBackS hx (y := (⟨"com/example/usko/usko/server/Html", "close", "(Ljava/lang/String;)Lcom/example/usko/usko/server/Html;"⟩ : MethodName)) (z := (⟨"com/example/usko/usko/server/Html", "close", "(Ljava/lang/String;)Lcom/example/usko/usko/server/Html;"⟩ : MethodName)) hown754 (mvT hZ754 (hw _ (gm 117 rfl))) (mvT hZ754 (hw _ (gm 118 rfl))) (notFace_of_selects (args := #[]) (mvT hZ754 (hw _ (gm 120 rfl)))) (mvT hZ754 (hw _ (gm 120 rfl))) (mvT hZ754 (hw _ (gm 119 rfl))) (by decide) (backOfSH (W := 0) (rmCL l Z a0 hw [] b742 b737 sb tb y737 ky737 [ce] kb 32 ((([(60 : Int32), (33 : Int32), (68 : Int32), (79 : Int32), (67 : Int32), (84 : Int32), (89 : Int32), (80 : Int32), (69 : Int32), (32 : Int32), (104 : Int32), (116 : Int32), (109 : Int32), (108 : Int32), (62 : Int32), (10 : Int32)] ++ [60, 47]) ++ [c0, c1, c2]) ++ [62, 10]) zC T754.heap n0 O757 SC hzC Fo ge_sb ge_tb ne_sb_tb E_sb Fc754 Fv754 Fn754 Eb737 Gv737 Gc737 V737 V754 ne_b737_sb ne_b737_tb ne_y737_sb ne_y737_tb (Nat.le_of_ble_eq_true rfl) (by decide) (by decide)) hZ754 (hw _ (gm 121 rfl)) (hw _ (gm 39 rfl)) (by decide) (by decide) hEL hC756) q759a q759c (g := (mkF m 150 #[vI p1, vI p2, vI p3, vI p4, vI p5, vI 3, vI c0, vI c1, vI c2, vI ce, vR b699, vR b723, vR b737, vR b742, vR b742, vU, vU, vU] [(.ref b737), (.ref b742)])) rfl (by rw [hml]; rfl) (Steps.refl _) (argsL := [(.ref b737)]) (rest := []) (lenOf pd_16 rfl) rfl (by show 2 * 0 + _ ≤ _; exact Nat.le_of_eq rfl) (hb hby at_150) (fun _ _ => ⟨rfl, rfl, (by decide : 14 + 4 ≤ _), (by decide : 144 + 24 ≤ _)⟩)
  dsimp only [Pt.U, Pt.locs, Pt.cells, Pt.slots] at X759 l759 y759 z759 st759 hQ759 hS759 gr759 hR759
  subst l759 y759 z759
  have hZ759 : Z.Warmed39 (s.setVm T759.vm).vm := State.Warmed39.trans (t := (s.setVm T754.vm)) hZ754 hS759.1
  have hown759 : (s.setVm T759.vm).vm.findClass "com/example/usko/usko/server/HtmlClosePinLaw" = some m.cls := by rw [show (s.setVm T759.vm).vm = T759.vm from rfl, hS759.1.alike.findClass]; exact hown754
  replace hS759 := foldS hS754 (by exact hk754) hS759 gr759
  have hk759 := Nat.le_refl T759.heap.size
  replace X759 : Stand p l e room_1 (s.setVm T759.vm) m #[(.int p1), (.int p2), (.int p3), (.int p4), (.int p5)] below meth c T759 _ _ _ := X759
  obtain ⟨rfl, Nq759, K759, Fc759, Fv759, Fn759, V759⟩ := hQ759
  have N759 := Fr.app N754 Nq759
  have k760 : Rch p e below S0 T759 (mkF m 153 #[vI p1, vI p2, vI p3, vI p4, vI p5, vI 3, vI c0, vI c1, vI c2, vI ce, vR b699, vR b723, vR b737, vR b742, vR b742, vU, vU, vU] [(.ref b742)]) := fun t h => k758 t (st759.trans h)
  have hC761 := hR759.1
  have rC761 := rC756.trans hR759
  have O762 := O757.keep K759 (allS ge_sb (allS ge_tb all0))
  replace E_b742 := E_b742.keep K759
  replace Fo := Fo.keep K759 (ninS ne_b742_sb (ninS ne_b742_tb nin0))
  replace E_sb := E_sb.keep K759
  have k763 : Rch p e below S0 T759 (mkF m 173 #[vI p1, vI p2, vI p3, vI p4, vI p5, vI 3, vI c0, vI c1, vI c2, vI ce, vR b699, vR b723, vR b737, vR b742, vR b742, vR b742, vU, vU] [(.ref b742)]) := fun t h => k760 t (by
      show Steps p.tables e below (T759.setTop (mkF m 153 #[vI p1, vI p2, vI p3, vI p4, vI p5, vI 3, vI c0, vI c1, vI c2, vI ce, vR b699, vR b723, vR b737, vR b742, vR b742, vU, vU, vU] [(.ref b742)])) _
      refine XS.astore X759.here hx rfl (hb hby at_153) rfl rfl (l' := #[vI p1, vI p2, vI p3, vI p4, vI p5, vI 3, vI c0, vI c1, vI c2, vI ce, vR b699, vR b723, vR b737, vR b742, vR b742, vR b742, vU, vU]) rfl ?_
      refine XS.aload X759.here hx rfl (hb hby at_155) rfl rfl ?_
      refine XS.aload X759.here hx rfl (hb hby at_157) rfl rfl ?_
      refine Jvm.RoadKit.acmp (g := (mkF m 159 #[vI p1, vI p2, vI p3, vI p4, vI p5, vI 3, vI c0, vI c1, vI c2, vI ce, vR b699, vR b723, vR b737, vR b742, vR b742, vR b742, vU, vU] [(.ref b742), (.ref b742)])) X759 hx rfl rfl rfl (pc0 := 159) (pc' := 162) (same := true) rfl (hb hby at_159) rfl (decide_eq_true rfl) (by decide) (by decide) ?_
      refine XS.aload X759.here hx rfl (hb hby at_162) rfl rfl ?_
      show Steps p.tables e below (T759.setTop (mkF m 164 #[vI p1, vI p2, vI p3, vI p4, vI p5, vI 3, vI c0, vI c1, vI c2, vI ce, vR b699, vR b723, vR b737, vR b742, vR b742, vR b742, vU, vU] [(.ref b742)])) _
      refine XS.aload X759.here hx rfl (hb hby at_164) rfl rfl ?_
      refine Jvm.RoadKit.acmp (g := (mkF m 166 #[vI p1, vI p2, vI p3, vI p4, vI p5, vI 3, vI c0, vI c1, vI c2, vI ce, vR b699, vR b723, vR b737, vR b742, vR b742, vR b742, vU, vU] [(.ref b742), (.ref b742)])) X759 hx rfl rfl rfl (pc0 := 166) (pc' := 171) (same := true) rfl (hb hby at_166) rfl (decide_eq_true rfl) (by decide) (by decide) ?_
      refine XS.aload X759.here hx rfl (hb hby at_171) rfl rfl ?_
      exact h)
  have hpos : ∀ c ∈ ((((((([(60 : Int32), (33 : Int32), (68 : Int32), (79 : Int32), (67 : Int32), (84 : Int32), (89 : Int32), (80 : Int32), (69 : Int32), (32 : Int32), (104 : Int32), (116 : Int32), (109 : Int32), (108 : Int32), (62 : Int32), (10 : Int32)] ++ [60, 47]) ++ [c0, c1, c2]) ++ [62, 10]) ++ [60, 47]) ++ [ce]) ++ [62, 10]) : List Int32), ¬ c < 0 := by
    intro c hc
    simp only [List.mem_append, List.mem_cons, List.not_mem_nil, or_false, false_or] at hc
    rcases hc with ((((((rfl | rfl | rfl | rfl | rfl | rfl | rfl | rfl | rfl | rfl | rfl | rfl | rfl | rfl | rfl | rfl) | (rfl | rfl)) | (rfl | rfl | rfl)) | (rfl | rfl)) | (rfl | rfl)) | rfl) | (rfl | rfl)
    all_goals first | decide | exact hc0.1 | exact hc1.1 | exact hc2.1 | exact hce.1
  obtain ⟨cq764, kq764, q764a, q764b, q764c⟩ := isOf hZ759 rfl E_b742
  obtain ⟨_, _, ⟨T764, L764, kk764, n764⟩, -, X764, ⟨Lc764, hQ764, l764, y764, z764⟩, st764⟩ := X759.virtualBack hx (y := (⟨"com/example/usko/usko/server/Html", "toBytes", "()[B"⟩ : MethodName)) (z := (⟨"com/example/usko/usko/server/Html", "toBytes", "()[B"⟩ : MethodName)) hown759 (mvT hZ759 (hw _ (gm 125 rfl))) (mvT hZ759 (hw _ (gm 126 rfl))) (notFace_of_selects (args := #[]) (mvT hZ759 (hw _ (gm 128 rfl)))) (mvT hZ759 (hw _ (gm 128 rfl))) (mvT hZ759 (hw _ (gm 127 rfl))) (by decide) (backOf (W := 0) (rmTO l Z a0 hw [] b742 u8 sb tb kb 32 (((((([(60 : Int32), (33 : Int32), (68 : Int32), (79 : Int32), (67 : Int32), (84 : Int32), (89 : Int32), (80 : Int32), (69 : Int32), (32 : Int32), (104 : Int32), (116 : Int32), (109 : Int32), (108 : Int32), (62 : Int32), (10 : Int32)] ++ [60, 47]) ++ [c0, c1, c2]) ++ [62, 10]) ++ [60, 47]) ++ [ce]) ++ [62, 10]) zC T759.heap n0 O762 SC hzC SI SU Fo E_sb Fc759 Fv759 Fn759 V759 (Nat.le_of_ble_eq_true rfl) (by decide) hpos) hZ759 (hw _ (gm 129 rfl)) (hw _ (gm 39 rfl)) (by decide) (by decide)) q764a q764c (g := (mkF m 173 #[vI p1, vI p2, vI p3, vI p4, vI p5, vI 3, vI c0, vI c1, vI c2, vI ce, vR b699, vR b723, vR b737, vR b742, vR b742, vR b742, vU, vU] [(.ref b742)])) rfl (by rw [hml]; rfl) (Steps.refl _) (argsL := []) (rest := []) (lenOf pd_17 rfl) rfl (by show 2 * 0 + _ ≤ _; exact Nat.le_of_eq rfl) (hb hby at_173) (fun _ _ => ⟨rfl, rfl, (by decide : 18 + 3 ≤ _), (by decide : 168 + 68 ≤ _)⟩)
  dsimp only [Pt.U, Pt.locs, Pt.cells, Pt.slots] at X764 l764 y764 z764 st764 hQ764
  subst l764 y764 z764
  obtain ⟨y764, ky764, rfl, Nq764, E764, z764, V764⟩ := hQ764
  have N764 := Fr.app N759 Nq764
  have k765 : Rch p e below S0 T764 (mkF m 176 #[vI p1, vI p2, vI p3, vI p4, vI p5, vI 3, vI c0, vI c1, vI c2, vI ce, vR b699, vR b723, vR b737, vR b742, vR b742, vR b742, vU, vU] [(.ref y764)]) := fun t h => k763 t (st764.trans h)
  have hC766 := hC761.ext E764
  have rC766 := rC761.trans (CHr.ext E764 hC761)
  have O767 := O762.ext E764
  have hkk768 := Nat.le_trans hk759 E764.1
  have Vz : Arv Z T764.heap y764 ky764 .byte (28 : Int32) [(.int (60 : Int32)), (.int (33 : Int32)), (.int (68 : Int32)), (.int (79 : Int32)), (.int (67 : Int32)), (.int (84 : Int32)), (.int (89 : Int32)), (.int (80 : Int32)), (.int (69 : Int32)), (.int (32 : Int32)), (.int (104 : Int32)), (.int (116 : Int32)), (.int (109 : Int32)), (.int (108 : Int32)), (.int (62 : Int32)), (.int (10 : Int32)), (.int (60 : Int32)), (.int (47 : Int32)), (.int c0), (.int c1), (.int c2), (.int (62 : Int32)), (.int (10 : Int32)), (.int (60 : Int32)), (.int (47 : Int32)), (.int ce), (.int (62 : Int32)), (.int (10 : Int32))] (.int (0 : Int32)) := V764
  have Vp : Arv Z T764.heap y764 ky764 .byte (Int32.ofNat 28) (([(60 : Int32), (33 : Int32), (68 : Int32), (79 : Int32), (67 : Int32), (84 : Int32), (89 : Int32), (80 : Int32), (69 : Int32), (32 : Int32), (104 : Int32), (116 : Int32), (109 : Int32), (108 : Int32), (62 : Int32), (10 : Int32)] ++ [60, 47, c0, c1, c2, 62, 10, 60, 47, ce, 62, 10]).map Value.int) (.int (0 : Int32)) := V764
  clear hpos
  have k770 : Rch p e below S0 T764 (mkF m 180 #[vI p1, vI p2, vI p3, vI p4, vI p5, vI 3, vI c0, vI c1, vI c2, vI ce, vR b699, vR b723, vR b737, vR b742, vR b742, vR b742, vR y764, vU] [(.ref y764)]) := fun t h => k765 t (by
      show Steps p.tables e below (T764.setTop (mkF m 176 #[vI p1, vI p2, vI p3, vI p4, vI p5, vI 3, vI c0, vI c1, vI c2, vI ce, vR b699, vR b723, vR b737, vR b742, vR b742, vR b742, vU, vU] [(.ref y764)])) _
      refine XS.astore X764.here hx rfl (hb hby at_176) rfl rfl (l' := #[vI p1, vI p2, vI p3, vI p4, vI p5, vI 3, vI c0, vI c1, vI c2, vI ce, vR b699, vR b723, vR b737, vR b742, vR b742, vR b742, vR y764, vU]) rfl ?_
      refine XS.aload X764.here hx rfl (hb hby at_178) rfl rfl ?_
      exact h)
  obtain ⟨cl769, Ar769, q769, Sz769, Ng769, Hs769, G769⟩ := id Vz
  have k771 : Rch p e below S0 T764 (mkF m 193 #[vI p1, vI p2, vI p3, vI p4, vI p5, vI 3, vI c0, vI c1, vI c2, vI ce, vR b699, vR b723, vR b737, vR b742, vR b742, vR b742, vR y764, vU] [(.ref y764)]) := fun t h => k770 t (by
      show Steps p.tables e below (T764.setTop (mkF m 180 #[vI p1, vI p2, vI p3, vI p4, vI p5, vI 3, vI c0, vI c1, vI c2, vI ce, vR b699, vR b723, vR b737, vR b742, vR b742, vR b742, vR y764, vU] [(.ref y764)])) _
      refine X764.arraylength hx (by exact Ar769.1) (State.isArrayOf_alike hZ759.alike Ar769.2.1) (g := (mkF m 180 #[vI p1, vI p2, vI p3, vI p4, vI p5, vI 3, vI c0, vI c1, vI c2, vI ce, vR b699, vR b723, vR b737, vR b742, vR b742, vR b742, vR y764, vU] [(.ref y764)])) rfl rfl (hb hby at_180) _ ?_
      rw [len_of Sz769 Ng769]
      refine XS.bipush X764.here hx rfl (hb hby at_181) ?_
      refine XS.iload X764.here hx rfl (hb hby at_183) rfl ?_
      show Steps p.tables e below (T764.setTop (mkF m 185 #[vI p1, vI p2, vI p3, vI p4, vI p5, vI 3, vI c0, vI c1, vI c2, vI ce, vR b699, vR b723, vR b737, vR b742, vR b742, vR b742, vR y764, vU] [(.int (3 : Int32)), (.int (25 : Int32)), (.int (28 : Int32))])) _
      refine XS.iadd X764.here hx rfl (hb hby at_185) rfl ?_
      rw [(by decide : ((25 : Int32) + (3 : Int32)) = (28 : Int32))]
      refine XS.icmpYes X764.here hx rfl (pc0 := 186) (pc' := 191) rfl (hb hby at_186) rfl (teq (by decide : (28 : Int32) = (28 : Int32))).1 (by decide) (by decide) ?_
      refine XS.aload X764.here hx rfl (hb hby at_191) rfl rfl ?_
      exact h)
  obtain ⟨_, _, ⟨T772, L772, kk772, n772⟩, -, X772, ⟨Lc772, hQ772, l772, y772, z772⟩, st772⟩ := Jvm.LawKit.callS X764 hx (y := (⟨"com/example/usko/usko/server/HtmlClosePinLaw", "prefix", "([B)Z"⟩ : MethodName)) hown759 (mvT hZ759 (hw _ (gm 206 rfl))) (mvT hZ759 (hw _ (gm 207 rfl))) (mvT hZ759 (hw _ (gm 208 rfl))) (mvT hZ759 (hw _ (gm 209 rfl))) (by decide) (backOf (W := 0) (rmPX l Z a0 hw [] y764 ky764 28 [60, 47, c0, c1, c2, 62, 10, 60, 47, ce, 62, 10] T764.heap n0 O767 Vp (by decide) (by decide)) hZ759 (hw _ (gm 209 rfl)) (hw _ (gm 208 rfl)) (by decide) (by decide)) (g := (mkF m 193 #[vI p1, vI p2, vI p3, vI p4, vI p5, vI 3, vI c0, vI c1, vI c2, vI ce, vR b699, vR b723, vR b737, vR b742, vR b742, vR b742, vR y764, vU] [(.ref y764)])) rfl (by rw [hml]; rfl) (argsL := [(.ref y764)]) (rest := []) (lenOf pd_31 rfl) rfl (by show 2 * 0 + _ ≤ _; exact Nat.le_of_eq rfl) (hb hby at_193) (fun _ _ => ⟨rfl, rfl, (by decide : 21 + 0 ≤ _), (by decide : 236 + 0 ≤ _)⟩)
  dsimp only [Pt.U, Pt.locs, Pt.cells, Pt.slots] at X772 l772 y772 z772 st772 hQ772
  subst l772 y772 z772
  obtain ⟨rfl, Nq772, hh772⟩ := hQ772
  have N772 := Fr.app N764 Nq772
  have k773 : Rch p e below S0 T772 (mkF m 196 #[vI p1, vI p2, vI p3, vI p4, vI p5, vI 3, vI c0, vI c1, vI c2, vI ce, vR b699, vR b723, vR b737, vR b742, vR b742, vR b742, vR y764, vU] [(.int (1 : Int32))]) := fun t h => k771 t (st772 t h)
  obtain ⟨lo772, Y772, M772⟩ : ∃ lo, Stand p l e room_1 (s.setVm T759.vm) m #[(.int p1), (.int p2), (.int p3), (.int p4), (.int p5)] below meth c T772 lo 21 236 ∧ Fr n0 lo := ⟨_, X772, N772⟩
  clear X772 N772
  have k775 : Rch p e below S0 T772 (mkF m 205 #[vI p1, vI p2, vI p3, vI p4, vI p5, vI 3, vI c0, vI c1, vI c2, vI ce, vR b699, vR b723, vR b737, vR b742, vR b742, vR b742, vR y764, vU] [(.int (16 : Int32)), (.ref y764)]) := fun t h => k773 t (by
      show Steps p.tables e below (T772.setTop (mkF m 196 #[vI p1, vI p2, vI p3, vI p4, vI p5, vI 3, vI c0, vI c1, vI c2, vI ce, vR b699, vR b723, vR b737, vR b742, vR b742, vR b742, vR y764, vU] [(.int (1 : Int32))])) _
      refine XS.ifYes Y772.here hx rfl (pc0 := 196) (pc' := 201) rfl (hb hby at_196) rfl ((if0 _ _).trans (feq (by decide : ¬ ((1 : Int32) = (0 : Int32)))).2) (by decide) (by decide) ?_
      refine XS.aload Y772.here hx rfl (hb hby at_201) rfl rfl ?_
      refine XS.bipush Y772.here hx rfl (hb hby at_203) ?_
      exact h)
  obtain ⟨cl774, Ar774, q774, Sz774, Ng774, Hs774, G774⟩ := id Vz
  have hin774 : ¬ ((16 : Int32) < 0 ∨ cl774.slots.size ≤ ((16 : Int32)).toNatClampNeg) := inb_of Sz774 ⟨by decide, by decide⟩
  have hat774 : cl774.slots[((16 : Int32)).toNatClampNeg]? = some (.int (60 : Int32)) := Hs774.at hin774 (rfl)
  have k777 : Rch p e below S0 T772 (mkF m 215 #[vI p1, vI p2, vI p3, vI p4, vI p5, vI 3, vI c0, vI c1, vI c2, vI ce, vR b699, vR b723, vR b737, vR b742, vR b742, vR b742, vR y764, vU] [(.int (17 : Int32)), (.ref y764)]) := fun t h => k775 t (by
      show Steps p.tables e below (T772.setTop (mkF m 205 #[vI p1, vI p2, vI p3, vI p4, vI p5, vI 3, vI c0, vI c1, vI c2, vI ce, vR b699, vR b723, vR b737, vR b742, vR b742, vR b742, vR y764, vU] [(.int (16 : Int32)), (.ref y764)])) _
      refine Y772.baloadBytes hx (j := (16 : Int32)) (v := (.int (60 : Int32))) (by rw [hh772]; exact Ar774.1) (State.isArrayOf_alike hZ759.alike Ar774.2.1) Ar774.2.2 hin774 hat774 (g := (mkF m 205 #[vI p1, vI p2, vI p3, vI p4, vI p5, vI 3, vI c0, vI c1, vI c2, vI ce, vR b699, vR b723, vR b737, vR b742, vR b742, vR b742, vR y764, vU] [(.int (16 : Int32)), (.ref y764)])) rfl rfl (hb hby at_205) _ ?_
      refine XS.bipush Y772.here hx rfl (hb hby at_206) ?_
      refine XS.icmpNo Y772.here hx rfl (hb hby at_208) rfl (teq (by decide : (60 : Int32) = (60 : Int32))).2 ?_
      refine XS.aload Y772.here hx rfl (hb hby at_211) rfl rfl ?_
      refine XS.bipush Y772.here hx rfl (hb hby at_213) ?_
      exact h)
  obtain ⟨cl776, Ar776, q776, Sz776, Ng776, Hs776, G776⟩ := id Vz
  have hin776 : ¬ ((17 : Int32) < 0 ∨ cl776.slots.size ≤ ((17 : Int32)).toNatClampNeg) := inb_of Sz776 ⟨by decide, by decide⟩
  have hat776 : cl776.slots[((17 : Int32)).toNatClampNeg]? = some (.int (47 : Int32)) := Hs776.at hin776 (rfl)
  have k779 : Rch p e below S0 T772 (mkF m 232 #[vI p1, vI p2, vI p3, vI p4, vI p5, vI 3, vI c0, vI c1, vI c2, vI ce, vR b699, vR b723, vR b737, vR b742, vR b742, vR b742, vR y764, vU] [(.int (18 : Int32)), (.ref y764)]) := fun t h => k777 t (by
      show Steps p.tables e below (T772.setTop (mkF m 215 #[vI p1, vI p2, vI p3, vI p4, vI p5, vI 3, vI c0, vI c1, vI c2, vI ce, vR b699, vR b723, vR b737, vR b742, vR b742, vR b742, vR y764, vU] [(.int (17 : Int32)), (.ref y764)])) _
      refine Y772.baloadBytes hx (j := (17 : Int32)) (v := (.int (47 : Int32))) (by rw [hh772]; exact Ar776.1) (State.isArrayOf_alike hZ759.alike Ar776.2.1) Ar776.2.2 hin776 hat776 (g := (mkF m 215 #[vI p1, vI p2, vI p3, vI p4, vI p5, vI 3, vI c0, vI c1, vI c2, vI ce, vR b699, vR b723, vR b737, vR b742, vR b742, vR b742, vR y764, vU] [(.int (17 : Int32)), (.ref y764)])) rfl rfl (hb hby at_215) _ ?_
      refine XS.bipush Y772.here hx rfl (hb hby at_216) ?_
      refine XS.icmpYes Y772.here hx rfl (pc0 := 218) (pc' := 223) rfl (hb hby at_218) rfl (teq (by decide : (47 : Int32) = (47 : Int32))).1 (by decide) (by decide) ?_
      refine XS.iload Y772.here hx rfl (hb hby at_223) rfl ?_
      refine XS.ifNo Y772.here hx rfl (hb hby at_225) rfl ((if0 _ _).trans (tlt (by decide : (0 : Int32) < (3 : Int32))).2.2.2) ?_
      refine XS.aload Y772.here hx rfl (hb hby at_228) rfl rfl ?_
      refine XS.bipush Y772.here hx rfl (hb hby at_230) ?_
      exact h)
  obtain ⟨cl778, Ar778, q778, Sz778, Ng778, Hs778, G778⟩ := id Vz
  have hin778 : ¬ ((18 : Int32) < 0 ∨ cl778.slots.size ≤ ((18 : Int32)).toNatClampNeg) := inb_of Sz778 ⟨by decide, by decide⟩
  have hat778 : cl778.slots[((18 : Int32)).toNatClampNeg]? = some (.int c0) := Hs778.at hin778 (rfl)
  have k781 : Rch p e below S0 T772 (mkF m 250 #[vI p1, vI p2, vI p3, vI p4, vI p5, vI 3, vI c0, vI c1, vI c2, vI ce, vR b699, vR b723, vR b737, vR b742, vR b742, vR b742, vR y764, vU] [(.int (19 : Int32)), (.ref y764)]) := fun t h => k779 t (by
      show Steps p.tables e below (T772.setTop (mkF m 232 #[vI p1, vI p2, vI p3, vI p4, vI p5, vI 3, vI c0, vI c1, vI c2, vI ce, vR b699, vR b723, vR b737, vR b742, vR b742, vR b742, vR y764, vU] [(.int (18 : Int32)), (.ref y764)])) _
      refine Y772.baloadBytes hx (j := (18 : Int32)) (v := (.int c0)) (by rw [hh772]; exact Ar778.1) (State.isArrayOf_alike hZ759.alike Ar778.2.1) Ar778.2.2 hin778 hat778 (g := (mkF m 232 #[vI p1, vI p2, vI p3, vI p4, vI p5, vI 3, vI c0, vI c1, vI c2, vI ce, vR b699, vR b723, vR b737, vR b742, vR b742, vR b742, vR y764, vU] [(.int (18 : Int32)), (.ref y764)])) rfl rfl (hb hby at_232) _ ?_
      refine XS.iload Y772.here hx rfl (hb hby at_233) rfl ?_
      refine XS.icmpYes Y772.here hx rfl (pc0 := 235) (pc' := 240) rfl (hb hby at_235) rfl (teq (rfl : c0 = c0)).1 (by decide) (by decide) ?_
      refine XS.iload Y772.here hx rfl (hb hby at_240) rfl ?_
      refine XS.iconst Y772.here hx rfl (hb hby at_242) ?_
      refine XS.icmpNo Y772.here hx rfl (hb hby at_243) rfl (tlt (by decide : (1 : Int32) < (3 : Int32))).2.2.2 ?_
      refine XS.aload Y772.here hx rfl (hb hby at_246) rfl rfl ?_
      refine XS.bipush Y772.here hx rfl (hb hby at_248) ?_
      exact h)
  obtain ⟨cl780, Ar780, q780, Sz780, Ng780, Hs780, G780⟩ := id Vz
  have hin780 : ¬ ((19 : Int32) < 0 ∨ cl780.slots.size ≤ ((19 : Int32)).toNatClampNeg) := inb_of Sz780 ⟨by decide, by decide⟩
  have hat780 : cl780.slots[((19 : Int32)).toNatClampNeg]? = some (.int c1) := Hs780.at hin780 (rfl)
  have k783 : Rch p e below S0 T772 (mkF m 268 #[vI p1, vI p2, vI p3, vI p4, vI p5, vI 3, vI c0, vI c1, vI c2, vI ce, vR b699, vR b723, vR b737, vR b742, vR b742, vR b742, vR y764, vU] [(.int (20 : Int32)), (.ref y764)]) := fun t h => k781 t (by
      show Steps p.tables e below (T772.setTop (mkF m 250 #[vI p1, vI p2, vI p3, vI p4, vI p5, vI 3, vI c0, vI c1, vI c2, vI ce, vR b699, vR b723, vR b737, vR b742, vR b742, vR b742, vR y764, vU] [(.int (19 : Int32)), (.ref y764)])) _
      refine Y772.baloadBytes hx (j := (19 : Int32)) (v := (.int c1)) (by rw [hh772]; exact Ar780.1) (State.isArrayOf_alike hZ759.alike Ar780.2.1) Ar780.2.2 hin780 hat780 (g := (mkF m 250 #[vI p1, vI p2, vI p3, vI p4, vI p5, vI 3, vI c0, vI c1, vI c2, vI ce, vR b699, vR b723, vR b737, vR b742, vR b742, vR b742, vR y764, vU] [(.int (19 : Int32)), (.ref y764)])) rfl rfl (hb hby at_250) _ ?_
      refine XS.iload Y772.here hx rfl (hb hby at_251) rfl ?_
      refine XS.icmpYes Y772.here hx rfl (pc0 := 253) (pc' := 258) rfl (hb hby at_253) rfl (teq (rfl : c1 = c1)).1 (by decide) (by decide) ?_
      refine XS.iload Y772.here hx rfl (hb hby at_258) rfl ?_
      refine XS.iconst Y772.here hx rfl (hb hby at_260) ?_
      refine XS.icmpNo Y772.here hx rfl (hb hby at_261) rfl (tlt (by decide : (2 : Int32) < (3 : Int32))).2.2.2 ?_
      refine XS.aload Y772.here hx rfl (hb hby at_264) rfl rfl ?_
      refine XS.bipush Y772.here hx rfl (hb hby at_266) ?_
      exact h)
  obtain ⟨cl782, Ar782, q782, Sz782, Ng782, Hs782, G782⟩ := id Vz
  have hin782 : ¬ ((20 : Int32) < 0 ∨ cl782.slots.size ≤ ((20 : Int32)).toNatClampNeg) := inb_of Sz782 ⟨by decide, by decide⟩
  have hat782 : cl782.slots[((20 : Int32)).toNatClampNeg]? = some (.int c2) := Hs782.at hin782 (rfl)
  have k785 : Rch p e below S0 T772 (mkF m 287 #[vI p1, vI p2, vI p3, vI p4, vI p5, vI 3, vI c0, vI c1, vI c2, vI ce, vR b699, vR b723, vR b737, vR b742, vR b742, vR b742, vR y764, vI 21] [(.int (21 : Int32)), (.ref y764)]) := fun t h => k783 t (by
      show Steps p.tables e below (T772.setTop (mkF m 268 #[vI p1, vI p2, vI p3, vI p4, vI p5, vI 3, vI c0, vI c1, vI c2, vI ce, vR b699, vR b723, vR b737, vR b742, vR b742, vR b742, vR y764, vU] [(.int (20 : Int32)), (.ref y764)])) _
      refine Y772.baloadBytes hx (j := (20 : Int32)) (v := (.int c2)) (by rw [hh772]; exact Ar782.1) (State.isArrayOf_alike hZ759.alike Ar782.2.1) Ar782.2.2 hin782 hat782 (g := (mkF m 268 #[vI p1, vI p2, vI p3, vI p4, vI p5, vI 3, vI c0, vI c1, vI c2, vI ce, vR b699, vR b723, vR b737, vR b742, vR b742, vR b742, vR y764, vU] [(.int (20 : Int32)), (.ref y764)])) rfl rfl (hb hby at_268) _ ?_
      refine XS.iload Y772.here hx rfl (hb hby at_269) rfl ?_
      refine XS.icmpYes Y772.here hx rfl (pc0 := 271) (pc' := 276) rfl (hb hby at_271) rfl (teq (rfl : c2 = c2)).1 (by decide) (by decide) ?_
      refine XS.bipush Y772.here hx rfl (hb hby at_276) ?_
      refine XS.iload Y772.here hx rfl (hb hby at_278) rfl ?_
      show Steps p.tables e below (T772.setTop (mkF m 280 #[vI p1, vI p2, vI p3, vI p4, vI p5, vI 3, vI c0, vI c1, vI c2, vI ce, vR b699, vR b723, vR b737, vR b742, vR b742, vR b742, vR y764, vU] [(.int (3 : Int32)), (.int (18 : Int32))])) _
      refine XS.iadd Y772.here hx rfl (hb hby at_280) rfl ?_
      rw [(by decide : ((18 : Int32) + (3 : Int32)) = (21 : Int32))]
      refine XS.istore Y772.here hx rfl (hb hby at_281) rfl (l' := #[vI p1, vI p2, vI p3, vI p4, vI p5, vI 3, vI c0, vI c1, vI c2, vI ce, vR b699, vR b723, vR b737, vR b742, vR b742, vR b742, vR y764, vI 21]) rfl ?_
      refine XS.aload Y772.here hx rfl (hb hby at_283) rfl rfl ?_
      refine XS.iload Y772.here hx rfl (hb hby at_285) rfl ?_
      exact h)
  obtain ⟨cl784, Ar784, q784, Sz784, Ng784, Hs784, G784⟩ := id Vz
  have hin784 : ¬ ((21 : Int32) < 0 ∨ cl784.slots.size ≤ ((21 : Int32)).toNatClampNeg) := inb_of Sz784 ⟨by decide, by decide⟩
  have hat784 : cl784.slots[((21 : Int32)).toNatClampNeg]? = some (.int (62 : Int32)) := Hs784.at hin784 (rfl)
  have k787 : Rch p e below S0 T772 (mkF m 299 #[vI p1, vI p2, vI p3, vI p4, vI p5, vI 3, vI c0, vI c1, vI c2, vI ce, vR b699, vR b723, vR b737, vR b742, vR b742, vR b742, vR y764, vI 21] [(.int (22 : Int32)), (.ref y764)]) := fun t h => k785 t (by
      show Steps p.tables e below (T772.setTop (mkF m 287 #[vI p1, vI p2, vI p3, vI p4, vI p5, vI 3, vI c0, vI c1, vI c2, vI ce, vR b699, vR b723, vR b737, vR b742, vR b742, vR b742, vR y764, vI 21] [(.int (21 : Int32)), (.ref y764)])) _
      refine Y772.baloadBytes hx (j := (21 : Int32)) (v := (.int (62 : Int32))) (by rw [hh772]; exact Ar784.1) (State.isArrayOf_alike hZ759.alike Ar784.2.1) Ar784.2.2 hin784 hat784 (g := (mkF m 287 #[vI p1, vI p2, vI p3, vI p4, vI p5, vI 3, vI c0, vI c1, vI c2, vI ce, vR b699, vR b723, vR b737, vR b742, vR b742, vR b742, vR y764, vI 21] [(.int (21 : Int32)), (.ref y764)])) rfl rfl (hb hby at_287) _ ?_
      refine XS.bipush Y772.here hx rfl (hb hby at_288) ?_
      refine XS.icmpNo Y772.here hx rfl (hb hby at_290) rfl (teq (by decide : (62 : Int32) = (62 : Int32))).2 ?_
      refine XS.aload Y772.here hx rfl (hb hby at_293) rfl rfl ?_
      refine XS.iload Y772.here hx rfl (hb hby at_295) rfl ?_
      refine XS.iconst Y772.here hx rfl (hb hby at_297) ?_
      show Steps p.tables e below (T772.setTop (mkF m 298 #[vI p1, vI p2, vI p3, vI p4, vI p5, vI 3, vI c0, vI c1, vI c2, vI ce, vR b699, vR b723, vR b737, vR b742, vR b742, vR b742, vR y764, vI 21] [(.int (1 : Int32)), (.int (21 : Int32)), (.ref y764)])) _
      refine XS.iadd Y772.here hx rfl (hb hby at_298) rfl ?_
      rw [(by decide : ((21 : Int32) + (1 : Int32)) = (22 : Int32))]
      exact h)
  obtain ⟨cl786, Ar786, q786, Sz786, Ng786, Hs786, G786⟩ := id Vz
  have hin786 : ¬ ((22 : Int32) < 0 ∨ cl786.slots.size ≤ ((22 : Int32)).toNatClampNeg) := inb_of Sz786 ⟨by decide, by decide⟩
  have hat786 : cl786.slots[((22 : Int32)).toNatClampNeg]? = some (.int (10 : Int32)) := Hs786.at hin786 (rfl)
  have k789 : Rch p e below S0 T772 (mkF m 311 #[vI p1, vI p2, vI p3, vI p4, vI p5, vI 3, vI c0, vI c1, vI c2, vI ce, vR b699, vR b723, vR b737, vR b742, vR b742, vR b742, vR y764, vI 21] [(.int (23 : Int32)), (.ref y764)]) := fun t h => k787 t (by
      show Steps p.tables e below (T772.setTop (mkF m 299 #[vI p1, vI p2, vI p3, vI p4, vI p5, vI 3, vI c0, vI c1, vI c2, vI ce, vR b699, vR b723, vR b737, vR b742, vR b742, vR b742, vR y764, vI 21] [(.int (22 : Int32)), (.ref y764)])) _
      refine Y772.baloadBytes hx (j := (22 : Int32)) (v := (.int (10 : Int32))) (by rw [hh772]; exact Ar786.1) (State.isArrayOf_alike hZ759.alike Ar786.2.1) Ar786.2.2 hin786 hat786 (g := (mkF m 299 #[vI p1, vI p2, vI p3, vI p4, vI p5, vI 3, vI c0, vI c1, vI c2, vI ce, vR b699, vR b723, vR b737, vR b742, vR b742, vR b742, vR y764, vI 21] [(.int (22 : Int32)), (.ref y764)])) rfl rfl (hb hby at_299) _ ?_
      refine XS.bipush Y772.here hx rfl (hb hby at_300) ?_
      show Steps p.tables e below (T772.setTop (mkF m 302 #[vI p1, vI p2, vI p3, vI p4, vI p5, vI 3, vI c0, vI c1, vI c2, vI ce, vR b699, vR b723, vR b737, vR b742, vR b742, vR b742, vR y764, vI 21] [(.int (10 : Int32)), (.int (10 : Int32))])) _
      refine XS.icmpNo Y772.here hx rfl (hb hby at_302) rfl (teq (by decide : (10 : Int32) = (10 : Int32))).2 ?_
      refine XS.aload Y772.here hx rfl (hb hby at_305) rfl rfl ?_
      refine XS.iload Y772.here hx rfl (hb hby at_307) rfl ?_
      refine XS.iconst Y772.here hx rfl (hb hby at_309) ?_
      show Steps p.tables e below (T772.setTop (mkF m 310 #[vI p1, vI p2, vI p3, vI p4, vI p5, vI 3, vI c0, vI c1, vI c2, vI ce, vR b699, vR b723, vR b737, vR b742, vR b742, vR b742, vR y764, vI 21] [(.int (2 : Int32)), (.int (21 : Int32)), (.ref y764)])) _
      refine XS.iadd Y772.here hx rfl (hb hby at_310) rfl ?_
      rw [(by decide : ((21 : Int32) + (2 : Int32)) = (23 : Int32))]
      exact h)
  obtain ⟨cl788, Ar788, q788, Sz788, Ng788, Hs788, G788⟩ := id Vz
  have hin788 : ¬ ((23 : Int32) < 0 ∨ cl788.slots.size ≤ ((23 : Int32)).toNatClampNeg) := inb_of Sz788 ⟨by decide, by decide⟩
  have hat788 : cl788.slots[((23 : Int32)).toNatClampNeg]? = some (.int (60 : Int32)) := Hs788.at hin788 (rfl)
  have k791 : Rch p e below S0 T772 (mkF m 323 #[vI p1, vI p2, vI p3, vI p4, vI p5, vI 3, vI c0, vI c1, vI c2, vI ce, vR b699, vR b723, vR b737, vR b742, vR b742, vR b742, vR y764, vI 21] [(.int (24 : Int32)), (.ref y764)]) := fun t h => k789 t (by
      show Steps p.tables e below (T772.setTop (mkF m 311 #[vI p1, vI p2, vI p3, vI p4, vI p5, vI 3, vI c0, vI c1, vI c2, vI ce, vR b699, vR b723, vR b737, vR b742, vR b742, vR b742, vR y764, vI 21] [(.int (23 : Int32)), (.ref y764)])) _
      refine Y772.baloadBytes hx (j := (23 : Int32)) (v := (.int (60 : Int32))) (by rw [hh772]; exact Ar788.1) (State.isArrayOf_alike hZ759.alike Ar788.2.1) Ar788.2.2 hin788 hat788 (g := (mkF m 311 #[vI p1, vI p2, vI p3, vI p4, vI p5, vI 3, vI c0, vI c1, vI c2, vI ce, vR b699, vR b723, vR b737, vR b742, vR b742, vR b742, vR y764, vI 21] [(.int (23 : Int32)), (.ref y764)])) rfl rfl (hb hby at_311) _ ?_
      refine XS.bipush Y772.here hx rfl (hb hby at_312) ?_
      refine XS.icmpNo Y772.here hx rfl (hb hby at_314) rfl (teq (by decide : (60 : Int32) = (60 : Int32))).2 ?_
      refine XS.aload Y772.here hx rfl (hb hby at_317) rfl rfl ?_
      refine XS.iload Y772.here hx rfl (hb hby at_319) rfl ?_
      refine XS.iconst Y772.here hx rfl (hb hby at_321) ?_
      show Steps p.tables e below (T772.setTop (mkF m 322 #[vI p1, vI p2, vI p3, vI p4, vI p5, vI 3, vI c0, vI c1, vI c2, vI ce, vR b699, vR b723, vR b737, vR b742, vR b742, vR b742, vR y764, vI 21] [(.int (3 : Int32)), (.int (21 : Int32)), (.ref y764)])) _
      refine XS.iadd Y772.here hx rfl (hb hby at_322) rfl ?_
      rw [(by decide : ((21 : Int32) + (3 : Int32)) = (24 : Int32))]
      exact h)
  obtain ⟨cl790, Ar790, q790, Sz790, Ng790, Hs790, G790⟩ := id Vz
  have hin790 : ¬ ((24 : Int32) < 0 ∨ cl790.slots.size ≤ ((24 : Int32)).toNatClampNeg) := inb_of Sz790 ⟨by decide, by decide⟩
  have hat790 : cl790.slots[((24 : Int32)).toNatClampNeg]? = some (.int (47 : Int32)) := Hs790.at hin790 (rfl)
  have k793 : Rch p e below S0 T772 (mkF m 335 #[vI p1, vI p2, vI p3, vI p4, vI p5, vI 3, vI c0, vI c1, vI c2, vI ce, vR b699, vR b723, vR b737, vR b742, vR b742, vR b742, vR y764, vI 21] [(.int (25 : Int32)), (.ref y764)]) := fun t h => k791 t (by
      show Steps p.tables e below (T772.setTop (mkF m 323 #[vI p1, vI p2, vI p3, vI p4, vI p5, vI 3, vI c0, vI c1, vI c2, vI ce, vR b699, vR b723, vR b737, vR b742, vR b742, vR b742, vR y764, vI 21] [(.int (24 : Int32)), (.ref y764)])) _
      refine Y772.baloadBytes hx (j := (24 : Int32)) (v := (.int (47 : Int32))) (by rw [hh772]; exact Ar790.1) (State.isArrayOf_alike hZ759.alike Ar790.2.1) Ar790.2.2 hin790 hat790 (g := (mkF m 323 #[vI p1, vI p2, vI p3, vI p4, vI p5, vI 3, vI c0, vI c1, vI c2, vI ce, vR b699, vR b723, vR b737, vR b742, vR b742, vR b742, vR y764, vI 21] [(.int (24 : Int32)), (.ref y764)])) rfl rfl (hb hby at_323) _ ?_
      refine XS.bipush Y772.here hx rfl (hb hby at_324) ?_
      refine XS.icmpNo Y772.here hx rfl (hb hby at_326) rfl (teq (by decide : (47 : Int32) = (47 : Int32))).2 ?_
      refine XS.aload Y772.here hx rfl (hb hby at_329) rfl rfl ?_
      refine XS.iload Y772.here hx rfl (hb hby at_331) rfl ?_
      refine XS.iconst Y772.here hx rfl (hb hby at_333) ?_
      show Steps p.tables e below (T772.setTop (mkF m 334 #[vI p1, vI p2, vI p3, vI p4, vI p5, vI 3, vI c0, vI c1, vI c2, vI ce, vR b699, vR b723, vR b737, vR b742, vR b742, vR b742, vR y764, vI 21] [(.int (4 : Int32)), (.int (21 : Int32)), (.ref y764)])) _
      refine XS.iadd Y772.here hx rfl (hb hby at_334) rfl ?_
      rw [(by decide : ((21 : Int32) + (4 : Int32)) = (25 : Int32))]
      exact h)
  obtain ⟨cl792, Ar792, q792, Sz792, Ng792, Hs792, G792⟩ := id Vz
  have hin792 : ¬ ((25 : Int32) < 0 ∨ cl792.slots.size ≤ ((25 : Int32)).toNatClampNeg) := inb_of Sz792 ⟨by decide, by decide⟩
  have hat792 : cl792.slots[((25 : Int32)).toNatClampNeg]? = some (.int ce) := Hs792.at hin792 (rfl)
  have k795 : Rch p e below S0 T772 (mkF m 347 #[vI p1, vI p2, vI p3, vI p4, vI p5, vI 3, vI c0, vI c1, vI c2, vI ce, vR b699, vR b723, vR b737, vR b742, vR b742, vR b742, vR y764, vI 21] [(.int (26 : Int32)), (.ref y764)]) := fun t h => k793 t (by
      show Steps p.tables e below (T772.setTop (mkF m 335 #[vI p1, vI p2, vI p3, vI p4, vI p5, vI 3, vI c0, vI c1, vI c2, vI ce, vR b699, vR b723, vR b737, vR b742, vR b742, vR b742, vR y764, vI 21] [(.int (25 : Int32)), (.ref y764)])) _
      refine Y772.baloadBytes hx (j := (25 : Int32)) (v := (.int ce)) (by rw [hh772]; exact Ar792.1) (State.isArrayOf_alike hZ759.alike Ar792.2.1) Ar792.2.2 hin792 hat792 (g := (mkF m 335 #[vI p1, vI p2, vI p3, vI p4, vI p5, vI 3, vI c0, vI c1, vI c2, vI ce, vR b699, vR b723, vR b737, vR b742, vR b742, vR b742, vR y764, vI 21] [(.int (25 : Int32)), (.ref y764)])) rfl rfl (hb hby at_335) _ ?_
      refine XS.iload Y772.here hx rfl (hb hby at_336) rfl ?_
      refine XS.icmpNo Y772.here hx rfl (hb hby at_338) rfl (teq (rfl : ce = ce)).2 ?_
      refine XS.aload Y772.here hx rfl (hb hby at_341) rfl rfl ?_
      refine XS.iload Y772.here hx rfl (hb hby at_343) rfl ?_
      refine XS.iconst Y772.here hx rfl (hb hby at_345) ?_
      show Steps p.tables e below (T772.setTop (mkF m 346 #[vI p1, vI p2, vI p3, vI p4, vI p5, vI 3, vI c0, vI c1, vI c2, vI ce, vR b699, vR b723, vR b737, vR b742, vR b742, vR b742, vR y764, vI 21] [(.int (5 : Int32)), (.int (21 : Int32)), (.ref y764)])) _
      refine XS.iadd Y772.here hx rfl (hb hby at_346) rfl ?_
      rw [(by decide : ((21 : Int32) + (5 : Int32)) = (26 : Int32))]
      exact h)
  obtain ⟨cl794, Ar794, q794, Sz794, Ng794, Hs794, G794⟩ := id Vz
  have hin794 : ¬ ((26 : Int32) < 0 ∨ cl794.slots.size ≤ ((26 : Int32)).toNatClampNeg) := inb_of Sz794 ⟨by decide, by decide⟩
  have hat794 : cl794.slots[((26 : Int32)).toNatClampNeg]? = some (.int (62 : Int32)) := Hs794.at hin794 (rfl)
  have k797 : Rch p e below S0 T772 (mkF m 360 #[vI p1, vI p2, vI p3, vI p4, vI p5, vI 3, vI c0, vI c1, vI c2, vI ce, vR b699, vR b723, vR b737, vR b742, vR b742, vR b742, vR y764, vI 21] [(.int (27 : Int32)), (.ref y764)]) := fun t h => k795 t (by
      show Steps p.tables e below (T772.setTop (mkF m 347 #[vI p1, vI p2, vI p3, vI p4, vI p5, vI 3, vI c0, vI c1, vI c2, vI ce, vR b699, vR b723, vR b737, vR b742, vR b742, vR b742, vR y764, vI 21] [(.int (26 : Int32)), (.ref y764)])) _
      refine Y772.baloadBytes hx (j := (26 : Int32)) (v := (.int (62 : Int32))) (by rw [hh772]; exact Ar794.1) (State.isArrayOf_alike hZ759.alike Ar794.2.1) Ar794.2.2 hin794 hat794 (g := (mkF m 347 #[vI p1, vI p2, vI p3, vI p4, vI p5, vI 3, vI c0, vI c1, vI c2, vI ce, vR b699, vR b723, vR b737, vR b742, vR b742, vR b742, vR y764, vI 21] [(.int (26 : Int32)), (.ref y764)])) rfl rfl (hb hby at_347) _ ?_
      refine XS.bipush Y772.here hx rfl (hb hby at_348) ?_
      refine XS.icmpNo Y772.here hx rfl (hb hby at_350) rfl (teq (by decide : (62 : Int32) = (62 : Int32))).2 ?_
      refine XS.aload Y772.here hx rfl (hb hby at_353) rfl rfl ?_
      refine XS.iload Y772.here hx rfl (hb hby at_355) rfl ?_
      refine XS.bipush Y772.here hx rfl (hb hby at_357) ?_
      show Steps p.tables e below (T772.setTop (mkF m 359 #[vI p1, vI p2, vI p3, vI p4, vI p5, vI 3, vI c0, vI c1, vI c2, vI ce, vR b699, vR b723, vR b737, vR b742, vR b742, vR b742, vR y764, vI 21] [(.int (6 : Int32)), (.int (21 : Int32)), (.ref y764)])) _
      refine XS.iadd Y772.here hx rfl (hb hby at_359) rfl ?_
      rw [(by decide : ((21 : Int32) + (6 : Int32)) = (27 : Int32))]
      exact h)
  obtain ⟨cl796, Ar796, q796, Sz796, Ng796, Hs796, G796⟩ := id Vz
  have hin796 : ¬ ((27 : Int32) < 0 ∨ cl796.slots.size ≤ ((27 : Int32)).toNatClampNeg) := inb_of Sz796 ⟨by decide, by decide⟩
  have hat796 : cl796.slots[((27 : Int32)).toNatClampNeg]? = some (.int (10 : Int32)) := Hs796.at hin796 (rfl)
  have k798 : Rch p e below S0 T772 (mkF m 371 #[vI p1, vI p2, vI p3, vI p4, vI p5, vI 3, vI c0, vI c1, vI c2, vI ce, vR b699, vR b723, vR b737, vR b742, vR b742, vR b742, vR y764, vI 21] [(.int (1 : Int32))]) := fun t h => k797 t (by
      show Steps p.tables e below (T772.setTop (mkF m 360 #[vI p1, vI p2, vI p3, vI p4, vI p5, vI 3, vI c0, vI c1, vI c2, vI ce, vR b699, vR b723, vR b737, vR b742, vR b742, vR b742, vR y764, vI 21] [(.int (27 : Int32)), (.ref y764)])) _
      refine Y772.baloadBytes hx (j := (27 : Int32)) (v := (.int (10 : Int32))) (by rw [hh772]; exact Ar796.1) (State.isArrayOf_alike hZ759.alike Ar796.2.1) Ar796.2.2 hin796 hat796 (g := (mkF m 360 #[vI p1, vI p2, vI p3, vI p4, vI p5, vI 3, vI c0, vI c1, vI c2, vI ce, vR b699, vR b723, vR b737, vR b742, vR b742, vR b742, vR y764, vI 21] [(.int (27 : Int32)), (.ref y764)])) rfl rfl (hb hby at_360) _ ?_
      refine XS.bipush Y772.here hx rfl (hb hby at_361) ?_
      refine XS.icmpNo Y772.here hx rfl (hb hby at_363) rfl (teq (by decide : (10 : Int32) = (10 : Int32))).2 ?_
      refine XS.iconst Y772.here hx rfl (hb hby at_366) ?_
      refine XS.goto Y772.here hx rfl (pc0 := 367) (pc' := 371) rfl (hb hby at_367) (by decide) (by decide) ?_
      exact h)
  obtain ⟨fs, hr, hrun, hended, hfin⟩ := Y772.leaveW hS759 (by rw [hh772]; exact hkk768) (v := (some (.int (1 : Int32)))) (fun h => by rw [Bd.returns] at h; cases h)
  refine ⟨_, _, ?_, hrun, hended, _, _, rfl, ?_, (by rw [hh]; have q := own_chr rC766 (CHv.at Y772 hZ759 hEL hC766) hh772; exact q), hfin.1, hfin.2.1, hfin.2.2.1, hfin.2.2.2.mono (by decide) (by decide)⟩
  · rw [← hS0]
    refine k798 _ ?_
    show Steps p.tables e below (T772.setTop (mkF m 371 #[vI p1, vI p2, vI p3, vI p4, vI p5, vI 3, vI c0, vI c1, vI c2, vI ce, vR b699, vR b723, vR b737, vR b742, vR b742, vR b742, vR y764, vI 21] [(.int (1 : Int32))])) _
    exact retN Y772 hx (t := .boolean) Bd.returns (by simp) (hb hby at_371) hr
  · show Q_rm0_3 Z  h0 n0 _ T772.heap _
    rw [hh772]
    exact ⟨rfl, M772⟩
theorem own_len4 (p1 : Int32) : p1 &&& 3 = (0 : Int32) ∨ p1 &&& 3 = (1 : Int32) ∨ p1 &&& 3 = (2 : Int32) ∨ p1 &&& 3 = (3 : Int32) := by
  have h := c_mask p1 3 2 (by decide) (by decide)
  have e : ∀ k : Int32, (p1 &&& 3).toInt = k.toInt → p1 &&& 3 = k := fun k q => Int32.toInt_inj.mp q
  have r : (p1 &&& 3).toInt = 0 ∨ (p1 &&& 3).toInt = 1 ∨ (p1 &&& 3).toInt = 2 ∨ (p1 &&& 3).toInt = 3 := by omega
  rcases r with r | r | r | r
  · exact Or.inl (e _ (r.trans (by decide)))
  · exact Or.inr (Or.inl (e _ (r.trans (by decide))))
  · exact Or.inr (Or.inr (Or.inl (e _ (r.trans (by decide)))))
  · exact Or.inr (Or.inr (Or.inr ((e _ (r.trans (by decide))))))
theorem own_all (l : Launch) (Z : State) (a0 : Array Value) (hw : ∀ d ∈ tables_1, d.before a0 Z = true) (ws : List Jvm.Cond) (p1 p2 p3 p4 p5 zC : Int32) (u8 : Addr) (h0 : Heap) (n0 : Nat) (O0 : Old Z n0 h0) (SC : Sta Z Z.heap "java/lang/String" "COMPACT_STRINGS" "Z" (.int zC)) (hzC : ¬ zC = 0) (SI : Sta Z Z.heap "sun/nio/cs/UTF_8" "INSTANCE" "Lsun/nio/cs/UTF_8;" (.ref u8)) (SU : Sta Z Z.heap "java/nio/charset/StandardCharsets" "UTF_8" "Ljava/nio/charset/Charset;" (.ref u8)) :
    MetFree l x (head1 (Jvm.Cond.code x code maxLocals ret :: ws) room_1) (fun a U => a = #[(.int p1), (.int p2), (.int p3), (.int p4), (.int p5)] ∧ Z.Warmed39 U.vm ∧ U.heap = h0 ∧ CHv Z consts_1 U.vm h0) (fun _ _ _ _ _ => True) (fun _ U o U' => ∃ v L, o = .returned v ∧ Q_rm0_0 Z h0 n0 v U'.heap L ∧ CHr Z consts_1 U.vm U.heap U'.vm U'.heap ∧ ReturnedEndW U o U' L room_1.cells room_1.slots) := by
  rcases own_len4 p1 with hq | hq | hq | hq
  · exact rm0_0 l Z a0 hw ws p1 p2 p3 p4 p5 zC u8 h0 n0 O0 SC hzC SI SU hq
  · exact rm0_1 l Z a0 hw ws p1 p2 p3 p4 p5 zC u8 h0 n0 O0 SC hzC SI SU hq
  · exact rm0_2 l Z a0 hw ws p1 p2 p3 p4 p5 zC u8 h0 n0 O0 SC hzC SI SU hq
  · exact rm0_3 l Z a0 hw ws p1 p2 p3 p4 p5 zC u8 h0 n0 O0 SC hzC SI SU hq
set_option maxRecDepth 65536 in
set_option maxHeartbeats 40000000 in
theorem comes_1 {Post : Tables → Env → Array Value → State → Outcome → State → Prop} (hpost : ∀ tb e args s v u, (limb_1_1.after args s (.returned v) u = true ∧ limb_1_2.after args s (.returned v) u = true ∧ True) → ReturnedEndW s (.returned v) u (Jvm.fieldLocs frame_1_writes args s ++ Jvm.arrayLocs frame_1_arrays args s ++ Jvm.staticLocs frame_1_statics s) 40 4416 → Post tb e args s (.returned v) u) :
    ArmFor flags0 classFile x code maxLocals ret World_1 tables_1 room_1 Calls_1 rest_1 Pre_1 Post := by
  intro l hfl _ _ p e ha hc hk s m args below hf hA hF happ hP
  obtain ⟨hcalls, hrest, hpre⟩ := hP
  obtain ⟨-, -, -, hnamed, -, -, -, hat⟩ := (Spec.applies_iff hf).mp happ
  obtain ⟨hg, hn⟩ := and_e (Cond.before_iff.mp (show (Jvm.Cond.and given_1 narrow_1).before args s = true from hpre))
  obtain ⟨g_0, g_1⟩ := and_e hg
  obtain ⟨gi_0, gr_0⟩ := and_e g_1
  obtain ⟨gi_1, gr_1⟩ := and_e gr_0
  obtain ⟨gi_2, gr_2⟩ := and_e gr_1
  obtain ⟨gi_3, gr_3⟩ := and_e gr_2
  obtain ⟨w0, w1, w2, w3, w4, rfl⟩ : ∃ w0 w1 w2 w3 w4 : Value, args = #[w0, w1, w2, w3, w4] := by
    have hs : args.size = 5 := by simpa [Cond.value, given_1] using g_0
    obtain ⟨L⟩ := args
    match L, hs with
    | [w0, w1, w2, w3, w4], _ => exact ⟨w0, w1, w2, w3, w4, rfl⟩
  have hw := fun d (hd : d ∈ tables_1) => atoms_spec (ws := Jvm.Cond.code x code maxLocals ret :: tables_1) hat d (List.mem_cons_of_mem _ hd)
  have hfit : Fit s := fun {y c} hc i hi => by
    obtain ⟨ha, rfl⟩ := Array.getElem?_eq_some_iff.mp hc
    have q := List.all_eq_true.mp ((Array.all_eq_true_iff_forall_mem.mp hF) _ (Array.getElem_mem ha)) i (List.mem_range.mpr hi)
    simpa [Array.getElem?_eq_getElem hi] using q
  obtain ⟨i0, ei0⟩ := is_v gi_0
  obtain rfl : w0 = (.int i0) := Option.some.inj ei0
  obtain ⟨i1, ei1⟩ := is_v gi_1
  obtain rfl : w1 = (.int i1) := Option.some.inj ei1
  obtain ⟨i2, ei2⟩ := is_v gi_2
  obtain rfl : w2 = (.int i2) := Option.some.inj ei2
  obtain ⟨i3, ei3⟩ := is_v gi_3
  obtain rfl : w3 = (.int i3) := Option.some.inj ei3
  obtain ⟨i4, ei4⟩ := is_v gr_3
  obtain rfl : w4 = (.int i4) := Option.some.inj ei4
  obtain ⟨hsets, hown0⟩ := atoms_of _ (rest_1_c_eq ▸ (show rest_1_c.before _ s = true from hrest))
  have hr0 := Cond.before_iff.mp hown0
  obtain ⟨zC, eC⟩ := is_v (Cond.before_iff.mp (hsets _ (gm 1 rfl)))
  have SC := Sta.start eC (Or.inl (hsets _ (gm 0 rfl)))
  have hzC : ¬ zC = 0 := fun q => by
    have u := not_v (Cond.before_iff.mp (hsets _ (gm 2 rfl)))
    simp only [Cond.value, eC, Term.int_eval, q] at u
    simp at u
  obtain ⟨u8, vI⟩ := exa_v (Cond.before_iff.mp (hsets _ (gm 17 rfl)))
  have SI := Sta.start vI (Or.inl (hsets _ (gm 12 rfl)))
  have SU := Sta.start (own_eqr vI (Cond.before_iff.mp (hsets _ (gm 13 rfl)))) (Or.inl (hsets _ (gm 10 rfl)))
  have hEL : EW s _ consts_1 := (EW.cons (hw _ (gm 47 rfl)) (by decide +kernel) (EW.cons (hw _ (gm 122 rfl)) (by decide +kernel) (EW.cons (hw _ (gm 124 rfl)) (by decide +kernel) (EW.cons (hw _ (gm 14 rfl)) (by decide +kernel) EW.nil))))
  have hCH : CHv s consts_1 s.vm s.heap := CHv.start hEL (fun p hp => hcalls.1 p hp) (hsets _ (gm 2 rfl)) (hw _ (gm 15 rfl)) (hw _ (gm 2 rfl))
  obtain ⟨n, o, h1, h2, h3, _, L, rfl, ⟨rfl, N⟩, -, hq⟩ := own_all l s _ hw tables_1 i0 i1 i2 i3 i4 zC u8 s.heap s.heap.size (Old.start s) SC hzC SI SU p e ha hc hk s m _ below hf ((Spec.applies_iff_loose hf).mp happ).1 ⟨rfl, State.Warmed39.refl s, rfl, hCH⟩ trivial
  refine ⟨n, _, h1, h2, h3, hpost _ _ _ _ _ _ ⟨Cond.after_iff.mpr rfl, Cond.after_iff.mpr (eq_i res_at (Term.int_eval (1)) rfl), trivial⟩ ⟨hq.1, hq.2.1, hq.2.2.1, (hq.2.2.2.sift fun y hy => Or.inr (N y hy)).mono (by decide) (by decide)⟩⟩
theorem main_1_1 : Claimed_1_1 := comes_1 fun _ _ _ _ _ _ h hF => ⟨h.1, hF⟩
theorem main_1_2 : Claimed_1_2 := comes_1 fun _ _ _ _ _ _ h hF => ⟨h.2.1, hF⟩
end Jvm.Pilot.@@N@@
namespace Jvm.Pilot.@@N@@
open Jvm Jvm.ClassFile Sem Op Lib Jvm.Free Jvm.Stand Jvm.Pilot.@@N@@.Jvm.D
/-! MADE BY PROGRAM (witnessworld.py) out of the Statement's table words and the real class files: 32 classes; the members and pool entries that the words name. The judged class is class 1, her method 1. -/
namespace start1
open Jvm.ClassFile
def u (s : String) : CpInfo := .utf8 (stringToUtf16 s)
/-- a pool by its gaps: so many unusable entries, then the entry; so many at the end -/
def gap : Nat → List CpInfo → List CpInfo
  | 0, r => r
  | n + 1, r => .unusable :: gap n r
def poolList (es : List (Nat × CpInfo)) (last : Nat) : List CpInfo := es.foldr (fun e r => gap e.1 (e.2 :: r)) (gap last [])
def pool (es : List (Nat × CpInfo)) (last : Nat) : Array CpInfo := ⟨poolList es last⟩
def fileOf (pool : Array CpInfo) (this : Nat) (attrs : Array Attribute := #[]) (ms : Array MethodInfo := #[]) (fl : Nat := 33) (sup : Nat := 0) (ifs : Array Nat := #[]) (fds : Array FieldInfo := #[]) : ClassFile where
  minorVersion := 0
  majorVersion := 65
  constantPool := pool
  accessFlags := fl
  thisClass := this
  superClass := sup
  interfaces := ifs
  fields := fds
  methods := ms
  attributes := attrs
def plain (name : String) (sup : Option ClassId) : Class where
  name := name
  kind := .ordinary
  loader := none
  accessFlags := 33
  super := sup
  interfaces := #[]
  cf := none
  fields := #[]
  methods := #[]
  instanceTypes := #[]
  staticTypes := #[]
  resolved := #[]
  callSites := []
  init := .initialized
  statics := none
  mirror := none

def pool0 : Array CpInfo := pool [(5, u "<init>"), (0, u "()V"), (1, .class_ 10), (1, u "java/lang/Object"), (85, u "clone"), (0, u "()Ljava/lang/Object;")] 26

def k0c0 : Code := { maxStack := 0, maxLocals := 1, code := object_method_1_code, exceptionTable := #[], attributes := #[] }
def k0m0 : Method := { name := "<init>", desc := "()V", sig := { parameters := [], returnType := none }, accessFlags := 1, code := some k0c0 }
def k0m1 : Method := { name := "clone", desc := "()Ljava/lang/Object;", sig := { parameters := [], returnType := some (.object "java/lang/Object") }, accessFlags := 260, code := none }
/-- java/lang/Object -/
def k0 : Class := { plain "java/lang/Object" none with
  accessFlags := 33
  interfaces := #[]
  cf := some (fileOf pool0 8 #[] #[{ accessFlags := 1, nameIndex := 5, descriptorIndex := 6, attributes := #[] }, { accessFlags := 260, nameIndex := 96, descriptorIndex := 97, attributes := #[] }] 33 0 #[] #[])
  fields := #[]
  methods := #[k0m0, k0m1]
  instanceTypes := #[]
  staticTypes := #[]
  resolved := Array.replicate 124 none
  statics := none }

def pool1 : Array CpInfo := pool [(2, .class_ 4), (0, .nameAndType 5 6), (0, u "java/lang/Object"), (0, u "<init>"), (0, u "()V"), (0, .class_ 8), (0, u "java/lang/String"), (0, .methodref 7 10), (0, .nameAndType 5 11), (0, u "([C)V"), (0, .methodref 7 13), (0, .nameAndType 14 15), (0, u "valueOf"), (0, u "(C)Ljava/lang/String;"), (0, .class_ 17), (0, u "com/example/usko/usko/server/Html"), (0, .methodref 16 3), (0, .methodref 16 20), (0, .nameAndType 21 22), (0, u "close"), (0, u "(Ljava/lang/String;)Lcom/example/usko/usko/server/Html;"), (0, .methodref 16 24), (0, .nameAndType 25 26), (0, u "toBytes"), (0, u "()[B"), (0, .methodref 28 29), (0, .class_ 30), (0, .nameAndType 31 32), (0, u "com/example/usko/usko/server/HtmlClosePinLaw"), (0, u "prefix"), (0, u "([B)Z"), (2, u "law"), (0, u "(IIIII)Z")] 7

def k1m0 : Method := { name := "<init>", desc := "()V", sig := { parameters := [], returnType := none }, accessFlags := 1, code := none }
def k1c1 : Code := { maxStack := 4, maxLocals := 18, code := code, exceptionTable := #[], attributes := #[] }
def k1m1 : Method := { name := "law", desc := "(IIIII)Z", sig := { parameters := [.int, .int, .int, .int, .int], returnType := some .boolean }, accessFlags := 9, code := some k1c1 }
def k1c2 : Code := { maxStack := 2, maxLocals := 1, code := method_3_code, exceptionTable := #[], attributes := #[] }
def k1m2 : Method := { name := "prefix", desc := "([B)Z", sig := { parameters := [(.array .byte)], returnType := some .boolean }, accessFlags := 10, code := some k1c2 }
/-- com/example/usko/usko/server/HtmlClosePinLaw -/
def k1 : Class := { plain "com/example/usko/usko/server/HtmlClosePinLaw" (some 0) with
  accessFlags := 49
  interfaces := #[]
  cf := some (fileOf pool1 28 #[] #[{ accessFlags := 1, nameIndex := 5, descriptorIndex := 6, attributes := #[] }, { accessFlags := 9, nameIndex := 35, descriptorIndex := 36, attributes := #[] }, { accessFlags := 10, nameIndex := 31, descriptorIndex := 32, attributes := #[] }] 49 2 #[] #[])
  fields := #[]
  methods := #[k1m0, k1m1, k1m2]
  instanceTypes := #[]
  staticTypes := #[]
  resolved := Array.replicate 44 none
  statics := none }

def pool2 : Array CpInfo := pool [(1, .class_ 2), (0, u "java/io/Serializable"), (0, .class_ 4), (0, u "java/lang/Object")] 2

/-- java/io/Serializable -/
def k2 : Class := { plain "java/io/Serializable" (some 0) with
  accessFlags := 1537
  interfaces := #[]
  cf := some (fileOf pool2 1 #[] #[] 1537 3 #[] #[])
  fields := #[]
  methods := #[]
  instanceTypes := #[]
  staticTypes := #[]
  resolved := Array.replicate 7 none
  statics := none }

def pool3 : Array CpInfo := pool [(1, .class_ 2), (0, u "java/lang/Comparable"), (0, .class_ 4), (0, u "java/lang/Object")] 7

/-- java/lang/Comparable -/
def k3 : Class := { plain "java/lang/Comparable" (some 0) with
  accessFlags := 1537
  interfaces := #[]
  cf := some (fileOf pool3 1 #[] #[] 1537 3 #[] #[])
  fields := #[]
  methods := #[]
  instanceTypes := #[]
  staticTypes := #[]
  resolved := Array.replicate 12 none
  statics := none }

def pool4 : Array CpInfo := pool [(2, .class_ 4), (1, u "java/lang/CharSequence"), (42, .class_ 48), (0, u "java/lang/CharSequence$1CodePointIterator"), (10, .class_ 60), (0, u "java/lang/CharSequence$1CharIterator"), (5, .class_ 67), (0, u "java/lang/Object")] 63

/-- java/lang/CharSequence -/
def k4 : Class := { plain "java/lang/CharSequence" (some 0) with
  accessFlags := 1537
  interfaces := #[]
  cf := some (fileOf pool4 2 #[.nestMembers #[47, 59]] #[] 1537 66 #[] #[])
  fields := #[]
  methods := #[]
  instanceTypes := #[]
  staticTypes := #[]
  resolved := Array.replicate 131 none
  statics := none }

def pool5 : Array CpInfo := pool [(1, .class_ 2), (0, u "java/lang/constant/Constable"), (0, .class_ 4), (0, u "java/lang/Object")] 6

/-- java/lang/constant/Constable -/
def k5 : Class := { plain "java/lang/constant/Constable" (some 0) with
  accessFlags := 1537
  interfaces := #[]
  cf := some (fileOf pool5 1 #[] #[] 1537 3 #[] #[])
  fields := #[]
  methods := #[]
  instanceTypes := #[]
  staticTypes := #[]
  resolved := Array.replicate 11 none
  statics := none }

def pool6 : Array CpInfo := pool [(1, .class_ 2), (0, u "java/lang/constant/ConstantDesc"), (0, .class_ 4), (0, u "java/lang/Object")] 32

/-- java/lang/constant/ConstantDesc -/
def k6 : Class := { plain "java/lang/constant/ConstantDesc" (some 0) with
  accessFlags := 1537
  interfaces := #[]
  cf := some (fileOf pool6 1 #[] #[] 1537 3 #[] #[])
  fields := #[]
  methods := #[]
  instanceTypes := #[]
  staticTypes := #[]
  resolved := Array.replicate 37 none
  statics := none }

def pool7 : Array CpInfo := pool [(1, .methodref 2 3), (0, .class_ 4), (0, .nameAndType 5 6), (0, u "java/lang/Object"), (0, u "<init>"), (0, u "()V"), (0, .string 8), (0, u ""), (0, .fieldref 10 11), (0, .class_ 12), (0, .nameAndType 13 14), (0, u "java/lang/String"), (0, u "value"), (0, u "[B"), (0, .fieldref 10 16), (0, .nameAndType 17 18), (0, u "coder"), (0, u "B"), (2, u "hash"), (0, u "I"), (2, u "hashIsZero"), (0, u "Z"), (0, .methodref 10 28), (0, .nameAndType 5 29), (0, u "([CIILjava/lang/Void;)V"), (8, .fieldref 10 39), (0, .nameAndType 40 26), (0, u "COMPACT_STRINGS"), (1, .class_ 44), (1, u "java/lang/StringUTF16"), (0, u "compress"), (1, .methodref 42 48), (0, .nameAndType 49 50), (0, u "coderFromArrayLen"), (0, u "([BI)B"), (2, u "toBytes"), (0, .methodref 55 56), (0, .class_ 57), (0, .nameAndType 58 59), (0, u "java/util/Arrays"), (0, u "copyOfRange"), (0, u "([BII)[B"), (26, .fieldref 87 88), (0, .class_ 89), (0, .nameAndType 90 91), (0, u "sun/nio/cs/UTF_8"), (0, u "INSTANCE"), (0, u "Lsun/nio/cs/UTF_8;"), (1, .class_ 95), (1, u "java/lang/StringCoding"), (11, .class_ 109), (1, u "java/lang/StringLatin1"), (18, .methodref 93 129), (0, .nameAndType 130 131), (0, u "hasNegatives"), (0, u "([BII)Z"), (10, u "()Z"), (34, .methodref 42 178), (0, .nameAndType 45 179), (0, u "([CII)[B"), (13, .class_ 195), (1, u "java/lang/System"), (13, .methodref 10 210), (0, .nameAndType 5 211), (0, u "([BB)V"), (0, .methodref 193 213), (0, .nameAndType 214 215), (0, u "arraycopy"), (0, u "(Ljava/lang/Object;ILjava/lang/Object;II)V"), (36, .methodref 10 253), (0, .nameAndType 254 255), (0, u "encodeUTF8"), (0, u "(B[BZ)[B"), (23, .methodref 280 281), (0, .class_ 14), (0, .nameAndType 282 283), (0, u "clone"), (0, u "()Ljava/lang/Object;"), (33, u "encode"), (16, u "()I"), (0, .methodref 10 336), (0, .nameAndType 17 337), (0, u "()B"), (2, u "()[B"), (28, u "(C)Z"), (119, .methodref 10 490), (0, .nameAndType 5 491), (0, u "(Ljava/lang/AbstractStringBuilder;Ljava/lang/Void;)V"), (1, .nameAndType 494 142), (0, u "isLatin1"), (11, .nameAndType 507 334), (0, u "length"), (24, u "getBytes"), (2, .methodref 10 536), (0, .nameAndType 317 537), (0, u "(Ljava/nio/charset/Charset;B[B)[B"), (11, .methodref 550 506), (0, .class_ 551), (0, u "java/lang/AbstractStringBuilder"), (0, .methodref 550 553), (0, .nameAndType 554 340), (0, u "getValue"), (20, .class_ 576), (0, u "java/lang/CharSequence"), (22, u "CASE_INSENSITIVE_ORDER"), (0, u "Ljava/util/Comparator;"), (181, u "valueOf"), (0, u "(C)Ljava/lang/String;"), (37, u "([BIB)V"), (188, u "([C)V"), (4, .methodref 107 1016), (0, .nameAndType 1017 369), (0, u "canEncode"), (0, .methodref 107 1019), (0, .nameAndType 53 1020), (0, u "(C)[B"), (26, .methodref 550 493), (53, u "serialPersistentFields"), (0, u "[Ljava/io/ObjectStreamField;"), (0, .class_ 1104), (0, u "java/lang/String$CaseInsensitiveComparator"), (1, .class_ 1107), (0, u "java/io/Serializable"), (0, .class_ 1109), (0, u "java/lang/Comparable"), (0, .class_ 1111), (0, u "java/lang/constant/Constable"), (0, .class_ 1113), (0, u "java/lang/constant/ConstantDesc"), (2, u "serialVersionUID"), (0, u "J"), (3, u "REPL"), (0, u "C"), (2, u "LATIN1"), (1, u "UTF16"), (105, u "(Ljava/lang/StringBuilder;)V"), (11, u "(Ljava/nio/charset/Charset;)[B")] 205

def k7m0 : Method := { name := "<init>", desc := "()V", sig := { parameters := [], returnType := none }, accessFlags := 1, code := none }
def k7c1 : Code := { maxStack := 5, maxLocals := 2, code := jdk_42_method_3_code, exceptionTable := #[], attributes := #[] }
def k7m1 : Method := { name := "<init>", desc := "([C)V", sig := { parameters := [(.array .char)], returnType := none }, accessFlags := 1, code := some k7c1 }
def k7c2 : Code := { maxStack := 4, maxLocals := 3, code := jdk_42_method_18_code, exceptionTable := #[], attributes := #[] }
def k7m2 : Method := { name := "encode", desc := "(Ljava/nio/charset/Charset;B[B)[B", sig := { parameters := [(.object "java/nio/charset/Charset"), .byte, (.array .byte)], returnType := some (.array .byte) }, accessFlags := 10, code := some k7c2 }
def k7c3 : Code := { maxStack := 5, maxLocals := 9, code := jdk_42_method_46_code, exceptionTable := #[], attributes := #[] }
def k7m3 : Method := { name := "encodeUTF8", desc := "(B[BZ)[B", sig := { parameters := [.byte, (.array .byte), .boolean], returnType := some (.array .byte) }, accessFlags := 10, code := some k7c3 }
def k7c4 : Code := { maxStack := 3, maxLocals := 2, code := jdk_42_method_53_code, exceptionTable := #[], attributes := #[] }
def k7m4 : Method := { name := "<init>", desc := "(Ljava/lang/StringBuilder;)V", sig := { parameters := [(.object "java/lang/StringBuilder")], returnType := none }, accessFlags := 1, code := some k7c4 }
def k7c5 : Code := { maxStack := 2, maxLocals := 1, code := jdk_42_method_54_code, exceptionTable := #[], attributes := #[] }
def k7m5 : Method := { name := "length", desc := "()I", sig := { parameters := [], returnType := some .int }, accessFlags := 1, code := some k7c5 }
def k7c6 : Code := { maxStack := 3, maxLocals := 2, code := jdk_42_method_64_code, exceptionTable := #[], attributes := #[] }
def k7m6 : Method := { name := "getBytes", desc := "(Ljava/nio/charset/Charset;)[B", sig := { parameters := [(.object "java/nio/charset/Charset")], returnType := some (.array .byte) }, accessFlags := 1, code := some k7c6 }
def k7c7 : Code := { maxStack := 4, maxLocals := 1, code := jdk_42_method_139_code, exceptionTable := #[], attributes := #[] }
def k7m7 : Method := { name := "valueOf", desc := "(C)Ljava/lang/String;", sig := { parameters := [.char], returnType := some (.object "java/lang/String") }, accessFlags := 9, code := some k7c7 }
def k7c8 : Code := { maxStack := 5, maxLocals := 4, code := jdk_42_method_147_code, exceptionTable := #[], attributes := #[] }
def k7m8 : Method := { name := "getBytes", desc := "([BIB)V", sig := { parameters := [(.array .byte), .int, .byte], returnType := none }, accessFlags := 0, code := some k7c8 }
def k7c9 : Code := { maxStack := 4, maxLocals := 6, code := jdk_42_method_149_code, exceptionTable := #[], attributes := #[] }
def k7m9 : Method := { name := "<init>", desc := "([CIILjava/lang/Void;)V", sig := { parameters := [(.array .char), .int, .int, (.object "java/lang/Void")], returnType := none }, accessFlags := 2, code := some k7c9 }
def k7c10 : Code := { maxStack := 5, maxLocals := 5, code := jdk_42_method_150_code, exceptionTable := #[], attributes := #[] }
def k7m10 : Method := { name := "<init>", desc := "(Ljava/lang/AbstractStringBuilder;Ljava/lang/Void;)V", sig := { parameters := [(.object "java/lang/AbstractStringBuilder"), (.object "java/lang/Void")], returnType := none }, accessFlags := 0, code := some k7c10 }
def k7c11 : Code := { maxStack := 2, maxLocals := 3, code := jdk_42_method_151_code, exceptionTable := #[], attributes := #[] }
def k7m11 : Method := { name := "<init>", desc := "([BB)V", sig := { parameters := [(.array .byte), .byte], returnType := none }, accessFlags := 0, code := some k7c11 }
def k7c12 : Code := { maxStack := 1, maxLocals := 1, code := jdk_42_method_152_code, exceptionTable := #[], attributes := #[] }
def k7m12 : Method := { name := "coder", desc := "()B", sig := { parameters := [], returnType := some .byte }, accessFlags := 0, code := some k7c12 }
/-- java/lang/String -/
def k7 : Class := { plain "java/lang/String" (some 0) with
  accessFlags := 49
  interfaces := #[2, 3, 4, 5, 6]
  cf := some (fileOf pool7 10 #[.nestMembers #[1103]] #[{ accessFlags := 1, nameIndex := 5, descriptorIndex := 6, attributes := #[] }, { accessFlags := 1, nameIndex := 5, descriptorIndex := 1010, attributes := #[] }, { accessFlags := 10, nameIndex := 317, descriptorIndex := 537, attributes := #[] }, { accessFlags := 10, nameIndex := 254, descriptorIndex := 255, attributes := #[] }, { accessFlags := 1, nameIndex := 5, descriptorIndex := 1233, attributes := #[] }, { accessFlags := 1, nameIndex := 507, descriptorIndex := 334, attributes := #[] }, { accessFlags := 1, nameIndex := 532, descriptorIndex := 1245, attributes := #[] }, { accessFlags := 9, nameIndex := 782, descriptorIndex := 783, attributes := #[] }, { accessFlags := 0, nameIndex := 532, descriptorIndex := 821, attributes := #[] }, { accessFlags := 2, nameIndex := 5, descriptorIndex := 29, attributes := #[] }, { accessFlags := 0, nameIndex := 5, descriptorIndex := 491, attributes := #[] }, { accessFlags := 0, nameIndex := 5, descriptorIndex := 211, attributes := #[] }, { accessFlags := 0, nameIndex := 17, descriptorIndex := 337, attributes := #[] }] 49 2 #[1106, 1108, 575, 1110, 1112] #[{ accessFlags := 18, nameIndex := 13, descriptorIndex := 14, attributes := #[] }, { accessFlags := 18, nameIndex := 17, descriptorIndex := 18, attributes := #[] }, { accessFlags := 2, nameIndex := 21, descriptorIndex := 22, attributes := #[] }, { accessFlags := 2, nameIndex := 25, descriptorIndex := 26, attributes := #[] }, { accessFlags := 26, nameIndex := 1116, descriptorIndex := 1117, attributes := #[] }, { accessFlags := 24, nameIndex := 40, descriptorIndex := 26, attributes := #[] }, { accessFlags := 26, nameIndex := 1101, descriptorIndex := 1102, attributes := #[] }, { accessFlags := 26, nameIndex := 1121, descriptorIndex := 1122, attributes := #[] }, { accessFlags := 25, nameIndex := 599, descriptorIndex := 600, attributes := #[] }, { accessFlags := 24, nameIndex := 1125, descriptorIndex := 18, attributes := #[] }, { accessFlags := 24, nameIndex := 1127, descriptorIndex := 18, attributes := #[] }])
  fields := #[{ name := "value", type := (.array .byte), accessFlags := 18, slot := 0, constantValue := 0 }, { name := "coder", type := .byte, accessFlags := 18, slot := 1, constantValue := 0 }, { name := "hash", type := .int, accessFlags := 2, slot := 2, constantValue := 0 }, { name := "hashIsZero", type := .boolean, accessFlags := 2, slot := 3, constantValue := 0 }, { name := "serialVersionUID", type := .long, accessFlags := 26, slot := 0, constantValue := 0 }, { name := "COMPACT_STRINGS", type := .boolean, accessFlags := 24, slot := 1, constantValue := 0 }, { name := "serialPersistentFields", type := (.array (.object "java/io/ObjectStreamField")), accessFlags := 26, slot := 2, constantValue := 0 }, { name := "REPL", type := .char, accessFlags := 26, slot := 3, constantValue := 0 }, { name := "CASE_INSENSITIVE_ORDER", type := (.object "java/util/Comparator"), accessFlags := 25, slot := 4, constantValue := 0 }, { name := "LATIN1", type := .byte, accessFlags := 24, slot := 5, constantValue := 0 }, { name := "UTF16", type := .byte, accessFlags := 24, slot := 6, constantValue := 0 }]
  methods := #[k7m0, k7m1, k7m2, k7m3, k7m4, k7m5, k7m6, k7m7, k7m8, k7m9, k7m10, k7m11, k7m12]
  instanceTypes := #[(.array .byte), .byte, .int, .boolean]
  staticTypes := #[.long, .boolean, (.array (.object "java/io/ObjectStreamField")), .char, (.object "java/util/Comparator"), .byte, .byte]
  resolved := Array.replicate 1451 none
  statics := some 0 }

def pool8 : Array CpInfo := pool [(4, .class_ 6), (1, u "java/lang/Object"), (0, u "<init>"), (0, u "()V"), (5, .class_ 16), (1, u "java/lang/StringLatin1"), (73, u "canEncode"), (14, u "(C)Z"), (15, u "$assertionsDisabled"), (0, u "Z"), (98, .class_ 223), (1, u "java/lang/StringLatin1$LinesSpliterator"), (156, u "toBytes"), (1, u "(C)[B"), (7, .class_ 391), (0, u "java/lang/StringLatin1$CharsSpliterator")] 3

def k8m0 : Method := { name := "<init>", desc := "()V", sig := { parameters := [], returnType := none }, accessFlags := 0, code := none }
def k8c1 : Code := { maxStack := 2, maxLocals := 1, code := jdk_43_method_3_code, exceptionTable := #[], attributes := #[] }
def k8m1 : Method := { name := "canEncode", desc := "(C)Z", sig := { parameters := [.char], returnType := some .boolean }, accessFlags := 9, code := some k8c1 }
def k8c2 : Code := { maxStack := 4, maxLocals := 1, code := jdk_43_method_46_code, exceptionTable := #[], attributes := #[] }
def k8m2 : Method := { name := "toBytes", desc := "(C)[B", sig := { parameters := [.char], returnType := some (.array .byte) }, accessFlags := 9, code := some k8c2 }
/-- java/lang/StringLatin1 -/
def k8 : Class := { plain "java/lang/StringLatin1" (some 0) with
  accessFlags := 48
  interfaces := #[]
  cf := some (fileOf pool8 14 #[.nestMembers #[390, 221]] #[{ accessFlags := 0, nameIndex := 7, descriptorIndex := 8, attributes := #[] }, { accessFlags := 9, nameIndex := 90, descriptorIndex := 105, attributes := #[] }, { accessFlags := 9, nameIndex := 380, descriptorIndex := 382, attributes := #[] }] 48 4 #[] #[{ accessFlags := 4120, nameIndex := 121, descriptorIndex := 122, attributes := #[] }])
  fields := #[{ name := "$assertionsDisabled", type := .boolean, accessFlags := 4120, slot := 0, constantValue := 0 }]
  methods := #[k8m0, k8m1, k8m2]
  instanceTypes := #[]
  staticTypes := #[.boolean]
  resolved := Array.replicate 395 none
  statics := none }

def pool9 : Array CpInfo := pool [(1, .methodref 2 3), (0, .class_ 4), (0, .nameAndType 5 6), (0, u "java/lang/Object"), (0, u "<init>"), (0, u "()V"), (0, .class_ 8), (0, u "java/lang/StringBuilder"), (0, .string 10), (0, u "<!DOCTYPE html>\n"), (0, .methodref 7 12), (0, .nameAndType 5 13), (0, u "(Ljava/lang/String;)V"), (0, .fieldref 15 16), (0, .class_ 17), (0, .nameAndType 18 19), (0, u "com/example/usko/usko/server/Html"), (0, u "out"), (0, u "Ljava/lang/StringBuilder;"), (9, u "append"), (1, .methodref 7 32), (0, .nameAndType 29 33), (0, u "(Ljava/lang/String;)Ljava/lang/StringBuilder;"), (5, .string 40), (0, u "</"), (0, .string 42), (0, u ">\n"), (7, u "(Ljava/lang/String;)Lcom/example/usko/usko/server/Html;"), (2, u "close"), (0, .methodref 7 55), (0, .nameAndType 56 57), (0, u "toString"), (0, u "()Ljava/lang/String;"), (0, .fieldref 59 60), (0, .class_ 61), (0, .nameAndType 62 63), (0, u "java/nio/charset/StandardCharsets"), (0, u "UTF_8"), (0, u "Ljava/nio/charset/Charset;"), (0, .methodref 65 66), (0, .class_ 67), (0, .nameAndType 68 69), (0, u "java/lang/String"), (0, u "getBytes"), (0, u "(Ljava/nio/charset/Charset;)[B"), (27, u "toBytes"), (0, u "()[B")] 17

def k9c0 : Code := { maxStack := 4, maxLocals := 1, code := prog_31_method_1_code, exceptionTable := #[], attributes := #[] }
def k9m0 : Method := { name := "<init>", desc := "()V", sig := { parameters := [], returnType := none }, accessFlags := 0, code := some k9c0 }
def k9c1 : Code := { maxStack := 2, maxLocals := 2, code := prog_31_method_3_code, exceptionTable := #[], attributes := #[] }
def k9m1 : Method := { name := "close", desc := "(Ljava/lang/String;)Lcom/example/usko/usko/server/Html;", sig := { parameters := [(.object "java/lang/String")], returnType := some (.object "com/example/usko/usko/server/Html") }, accessFlags := 0, code := some k9c1 }
def k9c2 : Code := { maxStack := 2, maxLocals := 1, code := prog_31_method_7_code, exceptionTable := #[], attributes := #[] }
def k9m2 : Method := { name := "toBytes", desc := "()[B", sig := { parameters := [], returnType := some (.array .byte) }, accessFlags := 0, code := some k9c2 }
/-- com/example/usko/usko/server/Html -/
def k9 : Class := { plain "com/example/usko/usko/server/Html" (some 0) with
  accessFlags := 48
  interfaces := #[]
  cf := some (fileOf pool9 15 #[] #[{ accessFlags := 0, nameIndex := 5, descriptorIndex := 6, attributes := #[] }, { accessFlags := 0, nameIndex := 53, descriptorIndex := 50, attributes := #[] }, { accessFlags := 0, nameIndex := 97, descriptorIndex := 98, attributes := #[] }] 48 2 #[] #[{ accessFlags := 18, nameIndex := 18, descriptorIndex := 19, attributes := #[] }])
  fields := #[{ name := "out", type := (.object "java/lang/StringBuilder"), accessFlags := 18, slot := 0, constantValue := 0 }]
  methods := #[k9m0, k9m1, k9m2]
  instanceTypes := #[(.object "java/lang/StringBuilder")]
  staticTypes := #[]
  resolved := Array.replicate 116 none
  statics := none }

def pool10 : Array CpInfo := pool [(1, .class_ 2), (0, u "java/lang/Appendable"), (0, .class_ 4), (0, u "java/lang/Object")] 9

/-- java/lang/Appendable -/
def k10 : Class := { plain "java/lang/Appendable" (some 0) with
  accessFlags := 1537
  interfaces := #[]
  cf := some (fileOf pool10 1 #[] #[] 1537 3 #[] #[])
  fields := #[]
  methods := #[]
  instanceTypes := #[]
  staticTypes := #[]
  resolved := Array.replicate 14 none
  statics := none }

def pool11 : Array CpInfo := pool [(1, .class_ 2), (0, u "java/lang/String"), (0, .methodref 4 5), (0, .class_ 6), (0, .nameAndType 7 8), (0, u "java/lang/Object"), (0, u "<init>"), (0, u "()V"), (1, .class_ 12), (1, u "java/lang/AbstractStringBuilder"), (0, u "EMPTYVALUE"), (0, u "[B"), (0, .fieldref 10 16), (0, .nameAndType 17 14), (0, u "value"), (0, .fieldref 1 19), (0, .nameAndType 20 21), (0, u "COMPACT_STRINGS"), (0, u "Z"), (0, .fieldref 10 23), (0, .nameAndType 24 25), (0, u "coder"), (0, u "B"), (6, .methodref 1 33), (0, .nameAndType 34 35), (0, u "length"), (0, u "()I"), (2, .integer 2147483631), (1, .methodref 1 41), (0, .nameAndType 24 42), (0, u "()B"), (0, .methodref 10 44), (0, .nameAndType 45 46), (0, u "append"), (0, u "(Ljava/lang/String;)Ljava/lang/AbstractStringBuilder;"), (1, .class_ 49), (0, u "java/lang/CharSequence"), (19, u "(Ljava/lang/String;)V"), (5, u "maybeLatin1"), (3, .fieldref 10 80), (0, .nameAndType 81 82), (0, u "count"), (0, u "I"), (2, u "isLatin1"), (0, u "()Z"), (13, .methodref 10 101), (0, .nameAndType 102 103), (0, u "ensureCapacityInternal"), (0, u "(I)V"), (104, .methodref 10 209), (0, .nameAndType 210 211), (0, u "putStringAt"), (0, u "(ILjava/lang/String;)V"), (5, u "inflateIfNeededFor"), (2, .nameAndType 221 222), (0, u "getBytes"), (0, u "([BIB)V"), (174, .methodref 10 398), (0, .nameAndType 217 69), (0, .methodref 1 220), (3, u "()[B"), (40, .class_ 445), (0, u "java/lang/Appendable"), (106, u "getValue")] 56

def k11m0 : Method := { name := "<init>", desc := "()V", sig := { parameters := [], returnType := none }, accessFlags := 0, code := none }
def k11c1 : Code := { maxStack := 2, maxLocals := 5, code := jdk_68_method_3_code, exceptionTable := #[], attributes := #[] }
def k11m1 : Method := { name := "<init>", desc := "(Ljava/lang/String;)V", sig := { parameters := [(.object "java/lang/String")], returnType := none }, accessFlags := 0, code := some k11c1 }
def k11c2 : Code := { maxStack := 1, maxLocals := 1, code := jdk_68_method_6_code, exceptionTable := #[], attributes := #[] }
def k11m2 : Method := { name := "length", desc := "()I", sig := { parameters := [], returnType := some .int }, accessFlags := 1, code := some k11c2 }
def k11c3 : Code := { maxStack := 4, maxLocals := 3, code := jdk_68_method_9_code, exceptionTable := #[], attributes := #[] }
def k11m3 : Method := { name := "ensureCapacityInternal", desc := "(I)V", sig := { parameters := [.int], returnType := none }, accessFlags := 2, code := some k11c3 }
def k11c4 : Code := { maxStack := 3, maxLocals := 3, code := jdk_68_method_22_code, exceptionTable := #[], attributes := #[] }
def k11m4 : Method := { name := "append", desc := "(Ljava/lang/String;)Ljava/lang/AbstractStringBuilder;", sig := { parameters := [(.object "java/lang/String")], returnType := some (.object "java/lang/AbstractStringBuilder") }, accessFlags := 1, code := some k11c4 }
def k11c5 : Code := { maxStack := 1, maxLocals := 1, code := jdk_68_method_64_code, exceptionTable := #[], attributes := #[] }
def k11m5 : Method := { name := "getValue", desc := "()[B", sig := { parameters := [], returnType := some (.array .byte) }, accessFlags := 16, code := some k11c5 }
def k11c6 : Code := { maxStack := 1, maxLocals := 1, code := jdk_68_method_68_code, exceptionTable := #[], attributes := #[] }
def k11m6 : Method := { name := "isLatin1", desc := "()Z", sig := { parameters := [], returnType := some .boolean }, accessFlags := 16, code := some k11c6 }
def k11c7 : Code := { maxStack := 2, maxLocals := 2, code := jdk_68_method_71_code, exceptionTable := #[], attributes := #[] }
def k11m7 : Method := { name := "inflateIfNeededFor", desc := "(Ljava/lang/String;)V", sig := { parameters := [(.object "java/lang/String")], returnType := none }, accessFlags := 2, code := some k11c7 }
def k11c8 : Code := { maxStack := 4, maxLocals := 3, code := jdk_68_method_73_code, exceptionTable := #[], attributes := #[] }
def k11m8 : Method := { name := "putStringAt", desc := "(ILjava/lang/String;)V", sig := { parameters := [.int, (.object "java/lang/String")], returnType := none }, accessFlags := 2, code := some k11c8 }
/-- java/lang/AbstractStringBuilder -/
def k11 : Class := { plain "java/lang/AbstractStringBuilder" (some 0) with
  accessFlags := 1056
  interfaces := #[10, 4]
  cf := some (fileOf pool11 10 #[] #[{ accessFlags := 0, nameIndex := 7, descriptorIndex := 8, attributes := #[] }, { accessFlags := 0, nameIndex := 7, descriptorIndex := 69, attributes := #[] }, { accessFlags := 1, nameIndex := 34, descriptorIndex := 35, attributes := #[] }, { accessFlags := 2, nameIndex := 102, descriptorIndex := 103, attributes := #[] }, { accessFlags := 1, nameIndex := 45, descriptorIndex := 46, attributes := #[] }, { accessFlags := 16, nameIndex := 552, descriptorIndex := 403, attributes := #[] }, { accessFlags := 16, nameIndex := 85, descriptorIndex := 86, attributes := #[] }, { accessFlags := 2, nameIndex := 217, descriptorIndex := 69, attributes := #[] }, { accessFlags := 2, nameIndex := 210, descriptorIndex := 211, attributes := #[] }] 1056 4 #[444, 48] #[{ accessFlags := 0, nameIndex := 17, descriptorIndex := 14, attributes := #[] }, { accessFlags := 0, nameIndex := 24, descriptorIndex := 25, attributes := #[] }, { accessFlags := 0, nameIndex := 75, descriptorIndex := 21, attributes := #[] }, { accessFlags := 0, nameIndex := 81, descriptorIndex := 82, attributes := #[] }, { accessFlags := 26, nameIndex := 13, descriptorIndex := 14, attributes := #[] }])
  fields := #[{ name := "value", type := (.array .byte), accessFlags := 0, slot := 0, constantValue := 0 }, { name := "coder", type := .byte, accessFlags := 0, slot := 1, constantValue := 0 }, { name := "maybeLatin1", type := .boolean, accessFlags := 0, slot := 2, constantValue := 0 }, { name := "count", type := .int, accessFlags := 0, slot := 3, constantValue := 0 }, { name := "EMPTYVALUE", type := (.array .byte), accessFlags := 26, slot := 0, constantValue := 0 }]
  methods := #[k11m0, k11m1, k11m2, k11m3, k11m4, k11m5, k11m6, k11m7, k11m8]
  instanceTypes := #[(.array .byte), .byte, .boolean, .int]
  staticTypes := #[(.array .byte)]
  resolved := Array.replicate 609 none
  statics := none }

def pool12 : Array CpInfo := pool [(2, .class_ 4), (1, u "java/lang/AbstractStringBuilder"), (0, u "<init>"), (1, .methodref 2 8), (0, .nameAndType 5 9), (0, u "(Ljava/lang/String;)V"), (8, .class_ 20), (1, u "java/lang/String"), (2, .methodref 24 25), (0, .class_ 26), (0, .nameAndType 27 28), (0, u "java/lang/StringBuilder"), (0, u "append"), (0, u "(Ljava/lang/String;)Ljava/lang/StringBuilder;"), (0, .methodref 2 30), (0, .nameAndType 27 31), (0, u "(Ljava/lang/String;)Ljava/lang/AbstractStringBuilder;"), (105, .methodref 18 138), (0, .nameAndType 5 139), (0, u "(Ljava/lang/StringBuilder;)V"), (5, u "()V"), (10, u "()I"), (186, .methodref 2 344), (0, .nameAndType 345 156), (0, u "length"), (3, .class_ 350), (0, u "java/lang/Appendable"), (0, .class_ 352), (0, u "java/io/Serializable"), (0, .class_ 354), (0, u "java/lang/Comparable"), (0, .class_ 356), (0, u "java/lang/CharSequence"), (0, u "serialVersionUID"), (0, u "J"), (40, u "toString"), (0, u "()Ljava/lang/String;")] 21

def k12m0 : Method := { name := "<init>", desc := "()V", sig := { parameters := [], returnType := none }, accessFlags := 1, code := none }
def k12c1 : Code := { maxStack := 2, maxLocals := 2, code := jdk_67_method_3_code, exceptionTable := #[], attributes := #[] }
def k12m1 : Method := { name := "<init>", desc := "(Ljava/lang/String;)V", sig := { parameters := [(.object "java/lang/String")], returnType := none }, accessFlags := 1, code := some k12c1 }
def k12c2 : Code := { maxStack := 2, maxLocals := 2, code := jdk_67_method_7_code, exceptionTable := #[], attributes := #[] }
def k12m2 : Method := { name := "append", desc := "(Ljava/lang/String;)Ljava/lang/StringBuilder;", sig := { parameters := [(.object "java/lang/String")], returnType := some (.object "java/lang/StringBuilder") }, accessFlags := 1, code := some k12c2 }
def k12c3 : Code := { maxStack := 3, maxLocals := 1, code := jdk_67_method_42_code, exceptionTable := #[], attributes := #[] }
def k12m3 : Method := { name := "toString", desc := "()Ljava/lang/String;", sig := { parameters := [], returnType := some (.object "java/lang/String") }, accessFlags := 1, code := some k12c3 }
def k12c4 : Code := { maxStack := 2, maxLocals := 2, code := jdk_67_method_80_code, exceptionTable := #[], attributes := #[] }
def k12m4 : Method := { name := "append", desc := "(Ljava/lang/String;)Ljava/lang/AbstractStringBuilder;", sig := { parameters := [(.object "java/lang/String")], returnType := some (.object "java/lang/AbstractStringBuilder") }, accessFlags := 4161, code := some k12c4 }
def k12c5 : Code := { maxStack := 1, maxLocals := 1, code := jdk_67_method_93_code, exceptionTable := #[], attributes := #[] }
def k12m5 : Method := { name := "length", desc := "()I", sig := { parameters := [], returnType := some .int }, accessFlags := 4161, code := some k12c5 }
/-- java/lang/StringBuilder -/
def k12 : Class := { plain "java/lang/StringBuilder" (some 11) with
  accessFlags := 49
  interfaces := #[10, 2, 3, 4]
  cf := some (fileOf pool12 24 #[] #[{ accessFlags := 1, nameIndex := 5, descriptorIndex := 145, attributes := #[] }, { accessFlags := 1, nameIndex := 5, descriptorIndex := 9, attributes := #[] }, { accessFlags := 1, nameIndex := 27, descriptorIndex := 28, attributes := #[] }, { accessFlags := 1, nameIndex := 399, descriptorIndex := 400, attributes := #[] }, { accessFlags := 4161, nameIndex := 27, descriptorIndex := 31, attributes := #[] }, { accessFlags := 4161, nameIndex := 345, descriptorIndex := 156, attributes := #[] }] 49 2 #[349, 351, 353, 355] #[{ accessFlags := 24, nameIndex := 357, descriptorIndex := 358, attributes := #[] }])
  fields := #[{ name := "serialVersionUID", type := .long, accessFlags := 24, slot := 0, constantValue := 0 }]
  methods := #[k12m0, k12m1, k12m2, k12m3, k12m4, k12m5]
  instanceTypes := #[(.array .byte), .byte, .boolean, .int]
  staticTypes := #[.long]
  resolved := Array.replicate 422 none
  statics := none }

def pool13 : Array CpInfo := pool [(2, .class_ 4), (1, u "java/lang/Object"), (0, u "<init>"), (0, u "()V"), (1, .class_ 10), (1, u "java/lang/System"), (0, u "allowSecurityManager"), (0, u "I"), (16, u "cons"), (0, u "Ljava/io/Console;"), (77, .class_ 110), (1, u "java/lang/System$CallersHolder"), (43, u "initialErrStream"), (0, u "Ljava/io/PrintStream;"), (19, u "security"), (0, u "Ljava/lang/SecurityManager;"), (31, .class_ 209), (0, u "java/lang/System$1"), (7, u "props"), (0, u "Ljava/util/Properties;"), (2, u "lineSeparator"), (0, u "Ljava/lang/String;"), (96, .class_ 321), (1, u "java/lang/System$LoggerFinder"), (5, .class_ 328), (0, u "java/lang/System$Logger"), (67, u "err"), (2, u "out"), (91, u "notSupportedJnuEncoding"), (15, u "in"), (17, u "initialIn"), (0, u "Ljava/io/InputStream;"), (35, u "bootLayer"), (0, u "Ljava/lang/ModuleLayer;"), (99, .class_ 664), (0, u "java/lang/System$2"), (9, u "NEVER"), (2, u "MAYBE"), (49, u "arraycopy"), (0, u "(Ljava/lang/Object;ILjava/lang/Object;II)V"), (72, .class_ 802), (0, u "java/lang/System$Logger$Level")] 31

def k13m0 : Method := { name := "<init>", desc := "()V", sig := { parameters := [], returnType := none }, accessFlags := 2, code := none }
def k13m1 : Method := { name := "arraycopy", desc := "(Ljava/lang/Object;ILjava/lang/Object;II)V", sig := { parameters := [(.object "java/lang/Object"), .int, (.object "java/lang/Object"), .int, .int], returnType := none }, accessFlags := 265, code := none }
/-- java/lang/System -/
def k13 : Class := { plain "java/lang/System" (some 0) with
  accessFlags := 49
  interfaces := #[]
  cf := some (fileOf pool13 8 #[.nestMembers #[319, 327, 801, 108, 663, 208]] #[{ accessFlags := 2, nameIndex := 5, descriptorIndex := 6, attributes := #[] }, { accessFlags := 265, nameIndex := 727, descriptorIndex := 728, attributes := #[] }] 49 2 #[] #[{ accessFlags := 25, nameIndex := 507, descriptorIndex := 526, attributes := #[] }, { accessFlags := 25, nameIndex := 399, descriptorIndex := 155, attributes := #[] }, { accessFlags := 25, nameIndex := 396, descriptorIndex := 155, attributes := #[] }, { accessFlags := 10, nameIndex := 525, descriptorIndex := 526, attributes := #[] }, { accessFlags := 26, nameIndex := 674, descriptorIndex := 12, attributes := #[] }, { accessFlags := 26, nameIndex := 677, descriptorIndex := 12, attributes := #[] }, { accessFlags := 10, nameIndex := 11, descriptorIndex := 12, attributes := #[] }, { accessFlags := 74, nameIndex := 175, descriptorIndex := 176, attributes := #[] }, { accessFlags := 10, nameIndex := 491, descriptorIndex := 222, attributes := #[] }, { accessFlags := 74, nameIndex := 29, descriptorIndex := 30, attributes := #[] }, { accessFlags := 74, nameIndex := 154, descriptorIndex := 155, attributes := #[] }, { accessFlags := 10, nameIndex := 217, descriptorIndex := 218, attributes := #[] }, { accessFlags := 10, nameIndex := 221, descriptorIndex := 222, attributes := #[] }, { accessFlags := 8, nameIndex := 562, descriptorIndex := 563, attributes := #[] }])
  fields := #[{ name := "in", type := (.object "java/io/InputStream"), accessFlags := 25, slot := 0, constantValue := 0 }, { name := "out", type := (.object "java/io/PrintStream"), accessFlags := 25, slot := 1, constantValue := 0 }, { name := "err", type := (.object "java/io/PrintStream"), accessFlags := 25, slot := 2, constantValue := 0 }, { name := "initialIn", type := (.object "java/io/InputStream"), accessFlags := 10, slot := 3, constantValue := 0 }, { name := "NEVER", type := .int, accessFlags := 26, slot := 4, constantValue := 0 }, { name := "MAYBE", type := .int, accessFlags := 26, slot := 5, constantValue := 0 }, { name := "allowSecurityManager", type := .int, accessFlags := 10, slot := 6, constantValue := 0 }, { name := "security", type := (.object "java/lang/SecurityManager"), accessFlags := 74, slot := 7, constantValue := 0 }, { name := "notSupportedJnuEncoding", type := (.object "java/lang/String"), accessFlags := 10, slot := 8, constantValue := 0 }, { name := "cons", type := (.object "java/io/Console"), accessFlags := 74, slot := 9, constantValue := 0 }, { name := "initialErrStream", type := (.object "java/io/PrintStream"), accessFlags := 74, slot := 10, constantValue := 0 }, { name := "props", type := (.object "java/util/Properties"), accessFlags := 10, slot := 11, constantValue := 0 }, { name := "lineSeparator", type := (.object "java/lang/String"), accessFlags := 10, slot := 12, constantValue := 0 }, { name := "bootLayer", type := (.object "java/lang/ModuleLayer"), accessFlags := 8, slot := 13, constantValue := 0 }]
  methods := #[k13m0, k13m1]
  instanceTypes := #[]
  staticTypes := #[(.object "java/io/InputStream"), (.object "java/io/PrintStream"), (.object "java/io/PrintStream"), (.object "java/io/InputStream"), .int, .int, .int, (.object "java/lang/SecurityManager"), (.object "java/lang/String"), (.object "java/io/Console"), (.object "java/io/PrintStream"), (.object "java/util/Properties"), (.object "java/lang/String"), (.object "java/lang/ModuleLayer")]
  resolved := Array.replicate 834 none
  statics := none }

def pool14 : Array CpInfo := pool [(2, .class_ 4), (1, u "java/lang/Object"), (0, u "<init>"), (0, u "()V"), (7, .class_ 16), (1, u "java/util/Arrays"), (57, .class_ 76), (1, u "java/util/Arrays$NaturalOrder"), (36, .class_ 115), (1, u "java/util/Arrays$LegacyMergeSort"), (1, u "Z"), (21, u "copyOfRange"), (10, .methodref 151 152), (0, .class_ 153), (0, .nameAndType 154 155), (0, u "java/lang/System"), (0, u "arraycopy"), (0, u "(Ljava/lang/Object;ILjava/lang/Object;II)V"), (148, .methodref 305 306), (0, .class_ 307), (0, .nameAndType 308 309), (0, u "java/lang/Math"), (0, u "min"), (0, u "(II)I"), (29, .methodref 14 340), (0, .nameAndType 341 342), (0, u "copyOfRangeByte"), (0, u "([BII)[B"), (0, .methodref 14 344), (0, .nameAndType 345 346), (0, u "checkLength"), (0, u "(II)V"), (28, .class_ 376), (0, u "java/util/Arrays$ArrayList"), (68, u "$assertionsDisabled"), (269, u "MIN_ARRAY_SORT_GRAN"), (0, u "I"), (2, u "INSERTIONSORT_THRESHOLD"), (255, .class_ 976), (0, u "java/util/Arrays$ArrayItr")] 52

def k14m0 : Method := { name := "<init>", desc := "()V", sig := { parameters := [], returnType := none }, accessFlags := 2, code := none }
def k14c1 : Code := { maxStack := 4, maxLocals := 2, code := jdk_65_method_131_code, exceptionTable := #[], attributes := #[] }
def k14m1 : Method := { name := "checkLength", desc := "(II)V", sig := { parameters := [.int, .int], returnType := none }, accessFlags := 10, code := some k14c1 }
def k14c2 : Code := { maxStack := 3, maxLocals := 3, code := jdk_65_method_132_code, exceptionTable := #[], attributes := #[] }
def k14m2 : Method := { name := "copyOfRange", desc := "([BII)[B", sig := { parameters := [(.array .byte), .int, .int], returnType := some (.array .byte) }, accessFlags := 9, code := some k14c2 }
def k14c3 : Code := { maxStack := 6, maxLocals := 5, code := jdk_65_method_133_code, exceptionTable := #[], attributes := #[] }
def k14m3 : Method := { name := "copyOfRangeByte", desc := "([BII)[B", sig := { parameters := [(.array .byte), .int, .int], returnType := some (.array .byte) }, accessFlags := 10, code := some k14c3 }
/-- java/util/Arrays -/
def k14 : Class := { plain "java/util/Arrays" (some 0) with
  accessFlags := 49
  interfaces := #[]
  cf := some (fileOf pool14 14 #[.nestMembers #[975, 375, 113, 74]] #[{ accessFlags := 2, nameIndex := 5, descriptorIndex := 6, attributes := #[] }, { accessFlags := 10, nameIndex := 345, descriptorIndex := 346, attributes := #[] }, { accessFlags := 9, nameIndex := 139, descriptorIndex := 342, attributes := #[] }, { accessFlags := 10, nameIndex := 341, descriptorIndex := 342, attributes := #[] }] 49 2 #[] #[{ accessFlags := 26, nameIndex := 715, descriptorIndex := 716, attributes := #[] }, { accessFlags := 26, nameIndex := 719, descriptorIndex := 716, attributes := #[] }, { accessFlags := 4120, nameIndex := 445, descriptorIndex := 117, attributes := #[] }])
  fields := #[{ name := "MIN_ARRAY_SORT_GRAN", type := .int, accessFlags := 26, slot := 0, constantValue := 0 }, { name := "INSERTIONSORT_THRESHOLD", type := .int, accessFlags := 26, slot := 1, constantValue := 0 }, { name := "$assertionsDisabled", type := .boolean, accessFlags := 4120, slot := 2, constantValue := 0 }]
  methods := #[k14m0, k14m1, k14m2, k14m3]
  instanceTypes := #[]
  staticTypes := #[.int, .int, .boolean]
  resolved := Array.replicate 1029 none
  statics := none }

def pool15 : Array CpInfo := pool [(1, .class_ 2), (0, u "java/lang/Math"), (1, .class_ 6), (1, u "java/lang/Object"), (0, u "<init>"), (0, u "()V"), (89, .class_ 100), (1, u "java/lang/Math$RandomNumberGeneratorHolder"), (71, u "negativeZeroFloatBits"), (0, u "J"), (2, u "negativeZeroDoubleBits"), (24, u "min"), (43, u "$assertionsDisabled"), (0, u "Z"), (88, u "(II)I"), (2, u "twoToTheDoubleScaleDown"), (0, u "D"), (4, u "twoToTheDoubleScaleUp"), (9, u "E"), (3, u "PI"), (2, u "TAU"), (2, u "DEGREES_TO_RADIANS"), (0, u "RADIANS_TO_DEGREES")] 94

def k15m0 : Method := { name := "<init>", desc := "()V", sig := { parameters := [], returnType := none }, accessFlags := 2, code := none }
def k15c1 : Code := { maxStack := 2, maxLocals := 2, code := jdk_29_method_69_code, exceptionTable := #[], attributes := #[] }
def k15m1 : Method := { name := "min", desc := "(II)I", sig := { parameters := [.int, .int], returnType := some .int }, accessFlags := 9, code := some k15c1 }
/-- java/lang/Math -/
def k15 : Class := { plain "java/lang/Math" (some 0) with
  accessFlags := 49
  interfaces := #[]
  cf := some (fileOf pool15 1 #[.nestMembers #[98]] #[{ accessFlags := 2, nameIndex := 7, descriptorIndex := 8, attributes := #[] }, { accessFlags := 9, nameIndex := 201, descriptorIndex := 335, attributes := #[] }] 49 4 #[] #[{ accessFlags := 25, nameIndex := 354, descriptorIndex := 339, attributes := #[] }, { accessFlags := 25, nameIndex := 358, descriptorIndex := 339, attributes := #[] }, { accessFlags := 25, nameIndex := 361, descriptorIndex := 339, attributes := #[] }, { accessFlags := 26, nameIndex := 364, descriptorIndex := 339, attributes := #[] }, { accessFlags := 26, nameIndex := 365, descriptorIndex := 339, attributes := #[] }, { accessFlags := 26, nameIndex := 172, descriptorIndex := 173, attributes := #[] }, { accessFlags := 26, nameIndex := 176, descriptorIndex := 173, attributes := #[] }, { accessFlags := 8, nameIndex := 344, descriptorIndex := 339, attributes := #[] }, { accessFlags := 8, nameIndex := 338, descriptorIndex := 339, attributes := #[] }, { accessFlags := 4120, nameIndex := 245, descriptorIndex := 246, attributes := #[] }])
  fields := #[{ name := "E", type := .double, accessFlags := 25, slot := 0, constantValue := 0 }, { name := "PI", type := .double, accessFlags := 25, slot := 1, constantValue := 0 }, { name := "TAU", type := .double, accessFlags := 25, slot := 2, constantValue := 0 }, { name := "DEGREES_TO_RADIANS", type := .double, accessFlags := 26, slot := 3, constantValue := 0 }, { name := "RADIANS_TO_DEGREES", type := .double, accessFlags := 26, slot := 4, constantValue := 0 }, { name := "negativeZeroFloatBits", type := .long, accessFlags := 26, slot := 5, constantValue := 0 }, { name := "negativeZeroDoubleBits", type := .long, accessFlags := 26, slot := 6, constantValue := 0 }, { name := "twoToTheDoubleScaleUp", type := .double, accessFlags := 8, slot := 7, constantValue := 0 }, { name := "twoToTheDoubleScaleDown", type := .double, accessFlags := 8, slot := 8, constantValue := 0 }, { name := "$assertionsDisabled", type := .boolean, accessFlags := 4120, slot := 9, constantValue := 0 }]
  methods := #[k15m0, k15m1]
  instanceTypes := #[]
  staticTypes := #[.double, .double, .double, .double, .double, .long, .long, .double, .double, .boolean]
  resolved := Array.replicate 460 none
  statics := none }

def pool16 : Array CpInfo := pool [(2, .class_ 4), (1, u "java/lang/Object"), (0, u "<init>"), (0, u "()V"), (14, .class_ 23), (1, u "java/nio/charset/StandardCharsets"), (0, u "US_ASCII"), (0, u "Ljava/nio/charset/Charset;"), (7, u "ISO_8859_1"), (7, u "UTF_8"), (5, u "UTF_16BE"), (5, u "UTF_16LE"), (5, u "UTF_16")] 8

def k16m0 : Method := { name := "<init>", desc := "()V", sig := { parameters := [], returnType := none }, accessFlags := 2, code := none }
/-- java/nio/charset/StandardCharsets -/
def k16 : Class := { plain "java/nio/charset/StandardCharsets" (some 0) with
  accessFlags := 49
  interfaces := #[]
  cf := some (fileOf pool16 21 #[] #[{ accessFlags := 2, nameIndex := 5, descriptorIndex := 6, attributes := #[] }] 49 2 #[] #[{ accessFlags := 25, nameIndex := 24, descriptorIndex := 25, attributes := #[] }, { accessFlags := 25, nameIndex := 33, descriptorIndex := 25, attributes := #[] }, { accessFlags := 25, nameIndex := 41, descriptorIndex := 25, attributes := #[] }, { accessFlags := 25, nameIndex := 47, descriptorIndex := 25, attributes := #[] }, { accessFlags := 25, nameIndex := 53, descriptorIndex := 25, attributes := #[] }, { accessFlags := 25, nameIndex := 59, descriptorIndex := 25, attributes := #[] }])
  fields := #[{ name := "US_ASCII", type := (.object "java/nio/charset/Charset"), accessFlags := 25, slot := 0, constantValue := 0 }, { name := "ISO_8859_1", type := (.object "java/nio/charset/Charset"), accessFlags := 25, slot := 1, constantValue := 0 }, { name := "UTF_8", type := (.object "java/nio/charset/Charset"), accessFlags := 25, slot := 2, constantValue := 0 }, { name := "UTF_16BE", type := (.object "java/nio/charset/Charset"), accessFlags := 25, slot := 3, constantValue := 0 }, { name := "UTF_16LE", type := (.object "java/nio/charset/Charset"), accessFlags := 25, slot := 4, constantValue := 0 }, { name := "UTF_16", type := (.object "java/nio/charset/Charset"), accessFlags := 25, slot := 5, constantValue := 0 }]
  methods := #[k16m0]
  instanceTypes := #[]
  staticTypes := #[(.object "java/nio/charset/Charset"), (.object "java/nio/charset/Charset"), (.object "java/nio/charset/Charset"), (.object "java/nio/charset/Charset"), (.object "java/nio/charset/Charset"), (.object "java/nio/charset/Charset")]
  resolved := Array.replicate 68 none
  statics := some 1 }

def pool17 : Array CpInfo := pool [(18, .class_ 20), (1, u "java/nio/charset/Charset"), (0, u "cache1"), (0, u "[Ljava/lang/Object;"), (2, u "cache2"), (0, .class_ 27), (0, u "java/lang/Object"), (0, .class_ 29), (0, u "java/nio/charset/Charset$1"), (4, .class_ 36), (1, u "java/nio/charset/Charset$ThreadTrackHolder"), (21, .class_ 59), (0, u "java/nio/charset/Charset$2"), (11, .class_ 73), (1, u "java/nio/charset/Charset$ExtendedProviderHolder"), (22, u "standardProvider"), (0, u "Ljava/nio/charset/spi/CharsetProvider;"), (29, u "name"), (7, .class_ 136), (0, u "java/nio/charset/Charset$3"), (5, u "defaultCharset"), (0, u "Ljava/nio/charset/Charset;"), (14, u "zeroAliases"), (0, u "[Ljava/lang/String;"), (29, u "Ljava/lang/String;"), (2, u "aliases"), (2, u "aliasSet"), (0, u "Ljava/util/Set;"), (82, .class_ 280), (0, u "java/lang/Comparable"), (84, .class_ 366), (0, u "java/nio/charset/Charset$ExtendedProviderHolder$1")] 3

/-- java/nio/charset/Charset -/
def k17 : Class := { plain "java/nio/charset/Charset" (some 0) with
  accessFlags := 1057
  interfaces := #[3]
  cf := some (fileOf pool17 18 #[.nestMembers #[71, 365, 34, 135, 58, 28]] #[] 1057 26 #[279] #[{ accessFlags := 26, nameIndex := 96, descriptorIndex := 97, attributes := #[] }, { accessFlags := 26, nameIndex := 158, descriptorIndex := 159, attributes := #[] }, { accessFlags := 74, nameIndex := 21, descriptorIndex := 22, attributes := #[] }, { accessFlags := 74, nameIndex := 25, descriptorIndex := 22, attributes := #[] }, { accessFlags := 10, nameIndex := 142, descriptorIndex := 143, attributes := #[] }, { accessFlags := 18, nameIndex := 127, descriptorIndex := 189, attributes := #[] }, { accessFlags := 18, nameIndex := 192, descriptorIndex := 159, attributes := #[] }, { accessFlags := 2, nameIndex := 195, descriptorIndex := 196, attributes := #[] }])
  fields := #[{ name := "standardProvider", type := (.object "java/nio/charset/spi/CharsetProvider"), accessFlags := 26, slot := 0, constantValue := 0 }, { name := "zeroAliases", type := (.array (.object "java/lang/String")), accessFlags := 26, slot := 1, constantValue := 0 }, { name := "cache1", type := (.array (.object "java/lang/Object")), accessFlags := 74, slot := 2, constantValue := 0 }, { name := "cache2", type := (.array (.object "java/lang/Object")), accessFlags := 74, slot := 3, constantValue := 0 }, { name := "defaultCharset", type := (.object "java/nio/charset/Charset"), accessFlags := 10, slot := 4, constantValue := 0 }, { name := "name", type := (.object "java/lang/String"), accessFlags := 18, slot := 0, constantValue := 0 }, { name := "aliases", type := (.array (.object "java/lang/String")), accessFlags := 18, slot := 1, constantValue := 0 }, { name := "aliasSet", type := (.object "java/util/Set"), accessFlags := 2, slot := 2, constantValue := 0 }]
  methods := #[]
  instanceTypes := #[(.object "java/lang/String"), (.array (.object "java/lang/String")), (.object "java/util/Set")]
  staticTypes := #[(.object "java/nio/charset/spi/CharsetProvider"), (.array (.object "java/lang/String")), (.array (.object "java/lang/Object")), (.array (.object "java/lang/Object")), (.object "java/nio/charset/Charset")]
  resolved := Array.replicate 370 none
  statics := none }

def pool18 : Array CpInfo := pool [(1, .class_ 2), (0, u "sun/nio/cs/HistoricallyNamedCharset"), (0, .class_ 4), (0, u "java/lang/Object")] 4

/-- sun/nio/cs/HistoricallyNamedCharset -/
def k18 : Class := { plain "sun/nio/cs/HistoricallyNamedCharset" (some 0) with
  accessFlags := 1537
  interfaces := #[]
  cf := some (fileOf pool18 1 #[] #[] 1537 3 #[] #[])
  fields := #[]
  methods := #[]
  instanceTypes := #[]
  staticTypes := #[]
  resolved := Array.replicate 9 none
  statics := none }

def pool19 : Array CpInfo := pool [(2, .class_ 4), (1, u "java/nio/charset/Charset"), (130, .class_ 136), (0, u "sun/nio/cs/Unicode"), (0, .class_ 138), (0, u "sun/nio/cs/HistoricallyNamedCharset")] 15

/-- sun/nio/cs/Unicode -/
def k19 : Class := { plain "sun/nio/cs/Unicode" (some 17) with
  accessFlags := 1056
  interfaces := #[18]
  cf := some (fileOf pool19 135 #[] #[] 1056 2 #[137] #[])
  fields := #[]
  methods := #[]
  instanceTypes := #[(.object "java/lang/String"), (.array (.object "java/lang/String")), (.object "java/util/Set")]
  staticTypes := #[]
  resolved := Array.replicate 154 none
  statics := none }

def pool20 : Array CpInfo := pool [(10, .class_ 12), (1, u "sun/nio/cs/Unicode"), (0, u "<init>"), (3, .class_ 18), (0, u "sun/nio/cs/UTF_8$Decoder"), (3, .class_ 23), (0, u "sun/nio/cs/UTF_8$Encoder"), (15, .class_ 40), (0, u "sun/nio/cs/UTF_8"), (2, u "()V"), (2, u "INSTANCE"), (0, u "Lsun/nio/cs/UTF_8;"), (8, u "JLA"), (0, u "Ljdk/internal/access/JavaLangAccess;")] 26

def k20m0 : Method := { name := "<init>", desc := "()V", sig := { parameters := [], returnType := none }, accessFlags := 1, code := none }
/-- sun/nio/cs/UTF_8 -/
def k20 : Class := { plain "sun/nio/cs/UTF_8" (some 19) with
  accessFlags := 49
  interfaces := #[]
  cf := some (fileOf pool20 39 #[.nestMembers #[22, 17]] #[{ accessFlags := 1, nameIndex := 13, descriptorIndex := 43, attributes := #[] }] 49 10 #[] #[{ accessFlags := 25, nameIndex := 46, descriptorIndex := 47, attributes := #[] }, { accessFlags := 26, nameIndex := 56, descriptorIndex := 57, attributes := #[] }])
  fields := #[{ name := "INSTANCE", type := (.object "sun/nio/cs/UTF_8"), accessFlags := 25, slot := 0, constantValue := 0 }, { name := "JLA", type := (.object "jdk/internal/access/JavaLangAccess"), accessFlags := 26, slot := 1, constantValue := 0 }]
  methods := #[k20m0]
  instanceTypes := #[(.object "java/lang/String"), (.array (.object "java/lang/String")), (.object "java/util/Set")]
  staticTypes := #[(.object "sun/nio/cs/UTF_8"), (.object "jdk/internal/access/JavaLangAccess")]
  resolved := Array.replicate 84 none
  statics := some 2 }

def pool21 : Array CpInfo := pool [(2, .class_ 4), (1, u "java/lang/Object"), (0, u "<init>"), (0, u "()V"), (0, .methodref 8 9), (0, .class_ 10), (0, .nameAndType 11 12), (0, u "java/lang/StringCoding"), (0, u "countPositives"), (0, u "([BII)I"), (11, u "hasNegatives"), (0, u "([BII)Z")] 23

def k21m0 : Method := { name := "<init>", desc := "()V", sig := { parameters := [], returnType := none }, accessFlags := 2, code := none }
def k21c1 : Code := { maxStack := 3, maxLocals := 3, code := jdk_123_method_2_code, exceptionTable := #[], attributes := #[] }
def k21m1 : Method := { name := "hasNegatives", desc := "([BII)Z", sig := { parameters := [(.array .byte), .int, .int], returnType := some .boolean }, accessFlags := 9, code := some k21c1 }
def k21c2 : Code := { maxStack := 2, maxLocals := 5, code := jdk_123_method_3_code, exceptionTable := #[], attributes := #[] }
def k21m2 : Method := { name := "countPositives", desc := "([BII)I", sig := { parameters := [(.array .byte), .int, .int], returnType := some .int }, accessFlags := 9, code := some k21c2 }
/-- java/lang/StringCoding -/
def k21 : Class := { plain "java/lang/StringCoding" (some 0) with
  accessFlags := 32
  interfaces := #[]
  cf := some (fileOf pool21 8 #[] #[{ accessFlags := 2, nameIndex := 5, descriptorIndex := 6, attributes := #[] }, { accessFlags := 9, nameIndex := 24, descriptorIndex := 25, attributes := #[] }, { accessFlags := 9, nameIndex := 11, descriptorIndex := 12, attributes := #[] }] 32 2 #[] #[])
  fields := #[]
  methods := #[k21m0, k21m1, k21m2]
  instanceTypes := #[]
  staticTypes := #[]
  resolved := Array.replicate 49 none
  statics := none }

def pool22 : Array CpInfo := pool [(1, .class_ 2), (0, u "java/lang/Cloneable"), (0, .class_ 4), (0, u "java/lang/Object")] 2

/-- java/lang/Cloneable -/
def k22 : Class := { plain "java/lang/Cloneable" (some 0) with
  accessFlags := 1537
  interfaces := #[]
  cf := some (fileOf pool22 1 #[] #[] 1537 3 #[] #[])
  fields := #[]
  methods := #[]
  instanceTypes := #[]
  staticTypes := #[]
  resolved := Array.replicate 7 none
  statics := none }

def pool23 : Array CpInfo := pool [(6, .class_ 8), (1, u "java/lang/Object"), (0, u "<init>"), (0, u "()V"), (1, .class_ 14), (1, u "java/lang/StringUTF16"), (31, u "$assertionsDisabled"), (0, u "Z"), (13, u "HI_BYTE_SHIFT"), (0, u "I"), (2, u "LO_BYTE_SHIFT"), (49, .methodref 12 116), (0, .nameAndType 117 118), (0, u "compress"), (0, u "([CI[BII)I"), (3, u "([CII)[B"), (138, u "coderFromArrayLen"), (0, u "([BI)B"), (106, .class_ 371), (1, u "java/lang/StringUTF16$LinesSpliterator"), (58, u "MAX_LENGTH"), (196, .class_ 628), (0, u "java/lang/StringUTF16$CodePointsSpliterator"), (0, .class_ 630), (0, u "java/lang/StringUTF16$CharsSpliterator")] 4

def k23m0 : Method := { name := "<init>", desc := "()V", sig := { parameters := [], returnType := none }, accessFlags := 0, code := none }
def k23c1 : Code := { maxStack := 2, maxLocals := 2, code := jdk_52_method_15_code, exceptionTable := #[], attributes := #[] }
def k23m1 : Method := { name := "coderFromArrayLen", desc := "([BI)B", sig := { parameters := [(.array .byte), .int], returnType := some .byte }, accessFlags := 8, code := some k23c1 }
def k23c2 : Code := { maxStack := 5, maxLocals := 6, code := jdk_52_method_16_code, exceptionTable := #[], attributes := #[] }
def k23m2 : Method := { name := "compress", desc := "([CII)[B", sig := { parameters := [(.array .char), .int, .int], returnType := some (.array .byte) }, accessFlags := 9, code := some k23c2 }
def k23c3 : Code := { maxStack := 3, maxLocals := 7, code := jdk_52_method_21_code, exceptionTable := #[], attributes := #[] }
def k23m3 : Method := { name := "compress", desc := "([CI[BII)I", sig := { parameters := [(.array .char), .int, (.array .byte), .int, .int], returnType := some .int }, accessFlags := 9, code := some k23c3 }
/-- java/lang/StringUTF16 -/
def k23 : Class := { plain "java/lang/StringUTF16" (some 0) with
  accessFlags := 48
  interfaces := #[]
  cf := some (fileOf pool23 12 #[.nestMembers #[627, 629, 369]] #[{ accessFlags := 0, nameIndex := 9, descriptorIndex := 10, attributes := #[] }, { accessFlags := 8, nameIndex := 261, descriptorIndex := 262, attributes := #[] }, { accessFlags := 9, nameIndex := 117, descriptorIndex := 122, attributes := #[] }, { accessFlags := 9, nameIndex := 117, descriptorIndex := 118, attributes := #[] }] 48 6 #[] #[{ accessFlags := 26, nameIndex := 61, descriptorIndex := 62, attributes := #[] }, { accessFlags := 26, nameIndex := 65, descriptorIndex := 62, attributes := #[] }, { accessFlags := 24, nameIndex := 430, descriptorIndex := 62, attributes := #[] }, { accessFlags := 4120, nameIndex := 46, descriptorIndex := 47, attributes := #[] }])
  fields := #[{ name := "HI_BYTE_SHIFT", type := .int, accessFlags := 26, slot := 0, constantValue := 0 }, { name := "LO_BYTE_SHIFT", type := .int, accessFlags := 26, slot := 1, constantValue := 0 }, { name := "MAX_LENGTH", type := .int, accessFlags := 24, slot := 2, constantValue := 0 }, { name := "$assertionsDisabled", type := .boolean, accessFlags := 4120, slot := 3, constantValue := 0 }]
  methods := #[k23m0, k23m1, k23m2, k23m3]
  instanceTypes := #[]
  staticTypes := #[.int, .int, .int, .boolean]
  resolved := Array.replicate 635 none
  statics := none }

def pool24 : Array CpInfo := pool [(2, .class_ 4), (1, u "java/lang/Object"), (0, u "<init>"), (0, u "()V"), (17, .class_ 26), (1, u "jdk/internal/util/Preconditions"), (28, .class_ 56), (0, u "jdk/internal/util/Preconditions$4"), (57, .class_ 115), (0, u "jdk/internal/util/Preconditions$1"), (7, u "SIOOBE_FORMATTER"), (0, u "Ljava/util/function/BiFunction;"), (0, .class_ 126), (0, u "jdk/internal/util/Preconditions$2"), (3, u "AIOOBE_FORMATTER"), (0, .class_ 132), (0, u "jdk/internal/util/Preconditions$3"), (3, u "IOOBE_FORMATTER")] 57

def k24m0 : Method := { name := "<init>", desc := "()V", sig := { parameters := [], returnType := none }, accessFlags := 1, code := none }
/-- jdk/internal/util/Preconditions -/
def k24 : Class := { plain "jdk/internal/util/Preconditions" (some 0) with
  accessFlags := 33
  interfaces := #[]
  cf := some (fileOf pool24 24 #[.nestMembers #[55, 131, 125, 114]] #[{ accessFlags := 1, nameIndex := 5, descriptorIndex := 6, attributes := #[] }] 33 2 #[] #[{ accessFlags := 25, nameIndex := 123, descriptorIndex := 124, attributes := #[] }, { accessFlags := 25, nameIndex := 130, descriptorIndex := 124, attributes := #[] }, { accessFlags := 25, nameIndex := 136, descriptorIndex := 124, attributes := #[] }])
  fields := #[{ name := "SIOOBE_FORMATTER", type := (.object "java/util/function/BiFunction"), accessFlags := 25, slot := 0, constantValue := 0 }, { name := "AIOOBE_FORMATTER", type := (.object "java/util/function/BiFunction"), accessFlags := 25, slot := 1, constantValue := 0 }, { name := "IOOBE_FORMATTER", type := (.object "java/util/function/BiFunction"), accessFlags := 25, slot := 2, constantValue := 0 }]
  methods := #[k24m0]
  instanceTypes := #[]
  staticTypes := #[(.object "java/util/function/BiFunction"), (.object "java/util/function/BiFunction"), (.object "java/util/function/BiFunction")]
  resolved := Array.replicate 194 none
  statics := some 3 }

def pool25 : Array CpInfo := pool [(9, u "<init>"), (6, .class_ 18), (1, u "java/lang/Object"), (0, u "()V"), (1, .class_ 23), (1, u "jdk/internal/util/ArraysSupport"), (0, u "LOG2_ARRAY_LONG_INDEX_SCALE"), (0, u "I"), (2, u "U"), (0, u "Ljdk/internal/misc/Unsafe;"), (8, u "BIG_ENDIAN"), (0, u "Z"), (8, u "LOG2_BYTE_BIT_SIZE"), (4, u "LOG2_ARRAY_INT_INDEX_SCALE"), (54, u "JLA"), (0, u "Ljdk/internal/access/JavaLangAccess;"), (11, u "LOG2_ARRAY_BOOLEAN_INDEX_SCALE"), (9, u "LOG2_ARRAY_BYTE_INDEX_SCALE"), (5, u "LOG2_ARRAY_CHAR_INDEX_SCALE"), (5, u "LOG2_ARRAY_SHORT_INDEX_SCALE"), (18, u "LOG2_ARRAY_FLOAT_INDEX_SCALE"), (24, u "LOG2_ARRAY_DOUBLE_INDEX_SCALE"), (89, u "T_BOOLEAN"), (2, u "T_CHAR"), (1, u "T_FLOAT"), (1, u "T_DOUBLE"), (1, u "T_BYTE"), (1, u "T_SHORT"), (1, u "T_INT"), (1, u "T_LONG"), (1, u "SOFT_MAX_ARRAY_LENGTH")] 83

def k25m0 : Method := { name := "<init>", desc := "()V", sig := { parameters := [], returnType := none }, accessFlags := 2, code := none }
/-- jdk/internal/util/ArraysSupport -/
def k25 : Class := { plain "jdk/internal/util/ArraysSupport" (some 0) with
  accessFlags := 33
  interfaces := #[]
  cf := some (fileOf pool25 21 #[] #[{ accessFlags := 2, nameIndex := 9, descriptorIndex := 19, attributes := #[] }] 33 16 #[] #[{ accessFlags := 24, nameIndex := 28, descriptorIndex := 29, attributes := #[] }, { accessFlags := 26, nameIndex := 38, descriptorIndex := 39, attributes := #[] }, { accessFlags := 25, nameIndex := 121, descriptorIndex := 25, attributes := #[] }, { accessFlags := 25, nameIndex := 131, descriptorIndex := 25, attributes := #[] }, { accessFlags := 25, nameIndex := 137, descriptorIndex := 25, attributes := #[] }, { accessFlags := 25, nameIndex := 143, descriptorIndex := 25, attributes := #[] }, { accessFlags := 25, nameIndex := 53, descriptorIndex := 25, attributes := #[] }, { accessFlags := 25, nameIndex := 24, descriptorIndex := 25, attributes := #[] }, { accessFlags := 25, nameIndex := 162, descriptorIndex := 25, attributes := #[] }, { accessFlags := 25, nameIndex := 187, descriptorIndex := 25, attributes := #[] }, { accessFlags := 26, nameIndex := 48, descriptorIndex := 25, attributes := #[] }, { accessFlags := 25, nameIndex := 277, descriptorIndex := 25, attributes := #[] }, { accessFlags := 25, nameIndex := 280, descriptorIndex := 25, attributes := #[] }, { accessFlags := 25, nameIndex := 282, descriptorIndex := 25, attributes := #[] }, { accessFlags := 25, nameIndex := 284, descriptorIndex := 25, attributes := #[] }, { accessFlags := 25, nameIndex := 286, descriptorIndex := 25, attributes := #[] }, { accessFlags := 25, nameIndex := 288, descriptorIndex := 25, attributes := #[] }, { accessFlags := 25, nameIndex := 290, descriptorIndex := 25, attributes := #[] }, { accessFlags := 25, nameIndex := 292, descriptorIndex := 25, attributes := #[] }, { accessFlags := 26, nameIndex := 108, descriptorIndex := 109, attributes := #[] }, { accessFlags := 25, nameIndex := 294, descriptorIndex := 25, attributes := #[] }])
  fields := #[{ name := "U", type := (.object "jdk/internal/misc/Unsafe"), accessFlags := 24, slot := 0, constantValue := 0 }, { name := "BIG_ENDIAN", type := .boolean, accessFlags := 26, slot := 1, constantValue := 0 }, { name := "LOG2_ARRAY_BOOLEAN_INDEX_SCALE", type := .int, accessFlags := 25, slot := 2, constantValue := 0 }, { name := "LOG2_ARRAY_BYTE_INDEX_SCALE", type := .int, accessFlags := 25, slot := 3, constantValue := 0 }, { name := "LOG2_ARRAY_CHAR_INDEX_SCALE", type := .int, accessFlags := 25, slot := 4, constantValue := 0 }, { name := "LOG2_ARRAY_SHORT_INDEX_SCALE", type := .int, accessFlags := 25, slot := 5, constantValue := 0 }, { name := "LOG2_ARRAY_INT_INDEX_SCALE", type := .int, accessFlags := 25, slot := 6, constantValue := 0 }, { name := "LOG2_ARRAY_LONG_INDEX_SCALE", type := .int, accessFlags := 25, slot := 7, constantValue := 0 }, { name := "LOG2_ARRAY_FLOAT_INDEX_SCALE", type := .int, accessFlags := 25, slot := 8, constantValue := 0 }, { name := "LOG2_ARRAY_DOUBLE_INDEX_SCALE", type := .int, accessFlags := 25, slot := 9, constantValue := 0 }, { name := "LOG2_BYTE_BIT_SIZE", type := .int, accessFlags := 26, slot := 10, constantValue := 0 }, { name := "T_BOOLEAN", type := .int, accessFlags := 25, slot := 11, constantValue := 0 }, { name := "T_CHAR", type := .int, accessFlags := 25, slot := 12, constantValue := 0 }, { name := "T_FLOAT", type := .int, accessFlags := 25, slot := 13, constantValue := 0 }, { name := "T_DOUBLE", type := .int, accessFlags := 25, slot := 14, constantValue := 0 }, { name := "T_BYTE", type := .int, accessFlags := 25, slot := 15, constantValue := 0 }, { name := "T_SHORT", type := .int, accessFlags := 25, slot := 16, constantValue := 0 }, { name := "T_INT", type := .int, accessFlags := 25, slot := 17, constantValue := 0 }, { name := "T_LONG", type := .int, accessFlags := 25, slot := 18, constantValue := 0 }, { name := "JLA", type := (.object "jdk/internal/access/JavaLangAccess"), accessFlags := 26, slot := 19, constantValue := 0 }, { name := "SOFT_MAX_ARRAY_LENGTH", type := .int, accessFlags := 25, slot := 20, constantValue := 0 }]
  methods := #[k25m0]
  instanceTypes := #[]
  staticTypes := #[(.object "jdk/internal/misc/Unsafe"), .boolean, .int, .int, .int, .int, .int, .int, .int, .int, .int, .int, .int, .int, .int, .int, .int, .int, .int, (.object "jdk/internal/access/JavaLangAccess"), .int]
  resolved := Array.replicate 378 none
  statics := none }

/-- the primitive byte -/
def k26 : Class := { plain "byte" none with kind := .primitive 'B', accessFlags := 0x411 }
/-- [B -/
def k27 : Class := { plain "[B" (some 0) with kind := .array 26 .byte, interfaces := #[22, 2], accessFlags := 1041 }

/-- the primitive char -/
def k28 : Class := { plain "char" none with kind := .primitive 'C', accessFlags := 0x411 }
/-- [C -/
def k29 : Class := { plain "[C" (some 0) with kind := .array 28 .char, interfaces := #[22, 2], accessFlags := 1041 }

/-- the primitive int -/
def k30 : Class := { plain "int" none with kind := .primitive 'I', accessFlags := 0x411 }
/-- [I -/
def k31 : Class := { plain "[I" (some 0) with kind := .array 30 .int, interfaces := #[22, 2], accessFlags := 1041 }

def heap : Heap := #[{ cls := 7, slots := #[.long 0, .int 1, .null, .int 0, .null, .int 0, .int 0], vm := .statics 7 },
  { cls := 16, slots := #[.null, .null, .ref 4, .null, .null, .null], vm := .statics 16 },
  { cls := 20, slots := #[.ref 4, .null], vm := .statics 20 },
  { cls := 24, slots := #[.null, .null, .null], vm := .statics 24 },
  { cls := 20, slots := #[.null, .null, .null], vm := .none }]
def classes : Array Class := #[k0, k1, k2, k3, k4, k5, k6, k7, k8, k9, k10, k11, k12, k13, k14, k15, k16, k17, k18, k19, k20, k21, k22, k23, k24, k25, k26, k27, k28, k29, k30, k31]
def interned : List (Array UInt16 × Addr) := []
def slotsUsed : Nat := 21
def theMethod : MethodId := ⟨1, 1⟩
def args0 : Array Value := #[.int 5, .int 3, .int 1, .int 2, .int 7]
def aboutOver (below : List Frame) : State where
  vm := { classes := classes, interned := interned.toArray }
  heap := heap
  slotsUsed := slotsUsed
  threads := #[{ frames := .invoking theMethod args0 :: below }]
def below0 : List Frame := [.native { method := ⟨0, 0⟩, args := #[] }]
def about1 : State := aboutOver below0
def p0 : Program := .bare "" "" ""
def e0 : Env := launch0.env 0 0 0
theorem w_frames : about1.frames = Frame.invoking theMethod args0 :: below0 := rfl
set_option maxRecDepth 65536 in
theorem w_args : argsFit about1.vm theMethod args0 = true := by decide +kernel
set_option maxRecDepth 65536 in
theorem w_heap : heapFits about1 = true := by decide +kernel
set_option maxRecDepth 65536 in
theorem w_runnable : about1.curStatus? = some .runnable := by decide +kernel
set_option maxRecDepth 65536 in
theorem w_alone : about1.alone = true := by decide +kernel
set_option maxRecDepth 65536 in
theorem w_named : about1.methodNamed? x = some theMethod := by decide +kernel
set_option maxRecDepth 65536 in
theorem w_hears : about1.hears theMethod below0 = true := by decide +kernel
set_option maxRecDepth 65536 in
theorem w_ripe : about1.ripe theMethod args0 below0 = true := by decide +kernel
theorem w_running : about1.status = .running := rfl
set_option maxRecDepth 65536 in
theorem w_room : about1.hasRoom e0.platform room_1 = true :=
  launch0.hasRoom_least _ room_1 (by decide +kernel) (by decide +kernel) (by decide +kernel) (by decide +kernel) (by decide +kernel) (by decide +kernel)
theorem allAtoms_all (ts : List Jvm.Cond) (a : Array Jvm.Value) (st : Jvm.State) : (allAtoms ts).before a st = ts.all (fun c => c.before a st) := by
  induction ts with
  | nil => rfl
  | cons c t ih =>
    show (Jvm.Cond.and c (allAtoms t)).before a st = _
    rw [Jvm.Cond.before_and, ih, List.all_cons]
def words1 : List Jvm.Cond := Jvm.Cond.code x code maxLocals ret :: tables_1
/-- a 'code' word, met by the world's own term for the bytes: nothing is compared byte by byte -/
theorem code_word {y : MethodName} {bytes : ByteArray} {mx : Nat} {rt : Option FieldType} {a : Array Value} {s : State} {m : MethodId} {meth : Method} {c : Code} (h1 : s.methodNamed? y = some m) (h2 : s.vm.method? m = some meth) (h3 : meth.code = some c) (h4 : c.code = bytes)
    (h5 : (c.maxLocals == mx && c.exceptionTable.isEmpty && decide (c.maxStack ≤ mostOperands) && decide (meth.sig.returnType = rt) && !meth.locks && decide (parseMethodDescriptor y.desc = some meth.sig)) = true) : (Jvm.Cond.code y bytes mx rt).before a s = true := by
  simp only [Bool.and_eq_true, beq_iff_eq, Bool.not_eq_true', decide_eq_true_eq] at h5
  obtain ⟨⟨⟨⟨⟨g1, g2⟩, g3⟩, g4⟩, g5⟩, g6⟩ := h5
  simp [Cond.before, Cond.holds, Cond.value, h1, h2, h3, h4, g1, g2, g3, g4, g5, g6]
def isCode : Jvm.Cond → Bool
  | .code _ _ _ _ => true
  | _ => false
theorem all_split {L : List Jvm.Cond} {P : Jvm.Cond → Bool} (h1 : L.all (fun c => isCode c || P c) = true) (h2 : ∀ c ∈ L.filter isCode, P c = true) : L.all P = true := by
  refine List.all_eq_true.mpr fun c hc => ?_
  have h := List.all_eq_true.mp h1 c hc
  rcases Bool.eq_false_or_eq_true (isCode c) with hi | hi
  · exact h2 c (List.mem_filter.mpr ⟨hc, hi⟩)
  · simpa [hi] using h
set_option maxRecDepth 65536 in
theorem w_c0 : (Jvm.Cond.code x code maxLocals ret).before args0 about1 = true := code_word (m := ⟨1, 1⟩) (meth := k1m1) (c := k1c1) (by decide +kernel) rfl rfl rfl (by decide +kernel)
set_option maxRecDepth 65536 in
theorem w_c1 : (Jvm.Cond.code ({ cls := "java/lang/String", name := "<init>", desc := "([C)V" } : Jvm.MethodName) jdk_42_method_3_code (2 : Nat) (Option.none : Option Jvm.ClassFile.FieldType)).before args0 about1 = true := code_word (m := ⟨7, 1⟩) (meth := k7m1) (c := k7c1) (by decide +kernel) rfl rfl rfl (by decide +kernel)
set_option maxRecDepth 65536 in
theorem w_c2 : (Jvm.Cond.code ({ cls := "java/lang/String", name := "<init>", desc := "([CIILjava/lang/Void;)V" } : Jvm.MethodName) jdk_42_method_149_code (6 : Nat) (Option.none : Option Jvm.ClassFile.FieldType)).before args0 about1 = true := code_word (m := ⟨7, 9⟩) (meth := k7m9) (c := k7c9) (by decide +kernel) rfl rfl rfl (by decide +kernel)
set_option maxRecDepth 65536 in
theorem w_c3 : (Jvm.Cond.code ({ cls := "java/lang/Object", name := "<init>", desc := "()V" } : Jvm.MethodName) object_method_1_code (1 : Nat) (Option.none : Option Jvm.ClassFile.FieldType)).before args0 about1 = true := code_word (m := ⟨0, 0⟩) (meth := k0m0) (c := k0c0) (by decide +kernel) rfl rfl rfl (by decide +kernel)
set_option maxRecDepth 65536 in
theorem w_c4 : (Jvm.Cond.code ({ cls := "java/lang/String", name := "valueOf", desc := "(C)Ljava/lang/String;" } : Jvm.MethodName) jdk_42_method_139_code (1 : Nat) (Option.some (Jvm.ClassFile.FieldType.object "java/lang/String"))).before args0 about1 = true := code_word (m := ⟨7, 7⟩) (meth := k7m7) (c := k7c7) (by decide +kernel) rfl rfl rfl (by decide +kernel)
set_option maxRecDepth 65536 in
theorem w_c5 : (Jvm.Cond.code ({ cls := "java/lang/StringLatin1", name := "canEncode", desc := "(C)Z" } : Jvm.MethodName) jdk_43_method_3_code (1 : Nat) (Option.some Jvm.ClassFile.FieldType.boolean)).before args0 about1 = true := code_word (m := ⟨8, 1⟩) (meth := k8m1) (c := k8c1) (by decide +kernel) rfl rfl rfl (by decide +kernel)
set_option maxRecDepth 65536 in
theorem w_c6 : (Jvm.Cond.code ({ cls := "java/lang/StringLatin1", name := "toBytes", desc := "(C)[B" } : Jvm.MethodName) jdk_43_method_46_code (1 : Nat) (Option.some (Jvm.ClassFile.FieldType.array Jvm.ClassFile.FieldType.byte))).before args0 about1 = true := code_word (m := ⟨8, 2⟩) (meth := k8m2) (c := k8c2) (by decide +kernel) rfl rfl rfl (by decide +kernel)
set_option maxRecDepth 65536 in
theorem w_c7 : (Jvm.Cond.code ({ cls := "java/lang/String", name := "<init>", desc := "([BB)V" } : Jvm.MethodName) jdk_42_method_151_code (3 : Nat) (Option.none : Option Jvm.ClassFile.FieldType)).before args0 about1 = true := code_word (m := ⟨7, 11⟩) (meth := k7m11) (c := k7c11) (by decide +kernel) rfl rfl rfl (by decide +kernel)
set_option maxRecDepth 65536 in
theorem w_c8 : (Jvm.Cond.code ({ cls := "com/example/usko/usko/server/Html", name := "<init>", desc := "()V" } : Jvm.MethodName) prog_31_method_1_code (1 : Nat) (Option.none : Option Jvm.ClassFile.FieldType)).before args0 about1 = true := code_word (m := ⟨9, 0⟩) (meth := k9m0) (c := k9c0) (by decide +kernel) rfl rfl rfl (by decide +kernel)
set_option maxRecDepth 65536 in
theorem w_c9 : (Jvm.Cond.code ({ cls := "java/lang/StringBuilder", name := "<init>", desc := "(Ljava/lang/String;)V" } : Jvm.MethodName) jdk_67_method_3_code (2 : Nat) (Option.none : Option Jvm.ClassFile.FieldType)).before args0 about1 = true := code_word (m := ⟨12, 1⟩) (meth := k12m1) (c := k12c1) (by decide +kernel) rfl rfl rfl (by decide +kernel)
set_option maxRecDepth 65536 in
theorem w_c10 : (Jvm.Cond.code ({ cls := "java/lang/AbstractStringBuilder", name := "<init>", desc := "(Ljava/lang/String;)V" } : Jvm.MethodName) jdk_68_method_3_code (5 : Nat) (Option.none : Option Jvm.ClassFile.FieldType)).before args0 about1 = true := code_word (m := ⟨11, 1⟩) (meth := k11m1) (c := k11c1) (by decide +kernel) rfl rfl rfl (by decide +kernel)
set_option maxRecDepth 65536 in
theorem w_c11 : (Jvm.Cond.code ({ cls := "java/lang/String", name := "length", desc := "()I" } : Jvm.MethodName) jdk_42_method_54_code (1 : Nat) (Option.some Jvm.ClassFile.FieldType.int)).before args0 about1 = true := code_word (m := ⟨7, 5⟩) (meth := k7m5) (c := k7c5) (by decide +kernel) rfl rfl rfl (by decide +kernel)
set_option maxRecDepth 65536 in
theorem w_c12 : (Jvm.Cond.code ({ cls := "java/lang/String", name := "coder", desc := "()B" } : Jvm.MethodName) jdk_42_method_152_code (1 : Nat) (Option.some Jvm.ClassFile.FieldType.byte)).before args0 about1 = true := code_word (m := ⟨7, 12⟩) (meth := k7m12) (c := k7c12) (by decide +kernel) rfl rfl rfl (by decide +kernel)
set_option maxRecDepth 65536 in
theorem w_c13 : (Jvm.Cond.code ({ cls := "java/lang/StringBuilder", name := "append", desc := "(Ljava/lang/String;)Ljava/lang/AbstractStringBuilder;" } : Jvm.MethodName) jdk_67_method_80_code (2 : Nat) (Option.some (Jvm.ClassFile.FieldType.object "java/lang/AbstractStringBuilder"))).before args0 about1 = true := code_word (m := ⟨12, 4⟩) (meth := k12m4) (c := k12c4) (by decide +kernel) rfl rfl rfl (by decide +kernel)
set_option maxRecDepth 65536 in
theorem w_c14 : (Jvm.Cond.code ({ cls := "java/lang/StringBuilder", name := "append", desc := "(Ljava/lang/String;)Ljava/lang/StringBuilder;" } : Jvm.MethodName) jdk_67_method_7_code (2 : Nat) (Option.some (Jvm.ClassFile.FieldType.object "java/lang/StringBuilder"))).before args0 about1 = true := code_word (m := ⟨12, 2⟩) (meth := k12m2) (c := k12c2) (by decide +kernel) rfl rfl rfl (by decide +kernel)
set_option maxRecDepth 65536 in
theorem w_c15 : (Jvm.Cond.code ({ cls := "java/lang/AbstractStringBuilder", name := "append", desc := "(Ljava/lang/String;)Ljava/lang/AbstractStringBuilder;" } : Jvm.MethodName) jdk_68_method_22_code (3 : Nat) (Option.some (Jvm.ClassFile.FieldType.object "java/lang/AbstractStringBuilder"))).before args0 about1 = true := code_word (m := ⟨11, 4⟩) (meth := k11m4) (c := k11c4) (by decide +kernel) rfl rfl rfl (by decide +kernel)
set_option maxRecDepth 65536 in
theorem w_c16 : (Jvm.Cond.code ({ cls := "java/lang/AbstractStringBuilder", name := "ensureCapacityInternal", desc := "(I)V" } : Jvm.MethodName) jdk_68_method_9_code (3 : Nat) (Option.none : Option Jvm.ClassFile.FieldType)).before args0 about1 = true := code_word (m := ⟨11, 3⟩) (meth := k11m3) (c := k11c3) (by decide +kernel) rfl rfl rfl (by decide +kernel)
set_option maxRecDepth 65536 in
theorem w_c17 : (Jvm.Cond.code ({ cls := "java/lang/AbstractStringBuilder", name := "putStringAt", desc := "(ILjava/lang/String;)V" } : Jvm.MethodName) jdk_68_method_73_code (3 : Nat) (Option.none : Option Jvm.ClassFile.FieldType)).before args0 about1 = true := code_word (m := ⟨11, 8⟩) (meth := k11m8) (c := k11c8) (by decide +kernel) rfl rfl rfl (by decide +kernel)
set_option maxRecDepth 65536 in
theorem w_c18 : (Jvm.Cond.code ({ cls := "java/lang/AbstractStringBuilder", name := "inflateIfNeededFor", desc := "(Ljava/lang/String;)V" } : Jvm.MethodName) jdk_68_method_71_code (2 : Nat) (Option.none : Option Jvm.ClassFile.FieldType)).before args0 about1 = true := code_word (m := ⟨11, 7⟩) (meth := k11m7) (c := k11c7) (by decide +kernel) rfl rfl rfl (by decide +kernel)
set_option maxRecDepth 65536 in
theorem w_c19 : (Jvm.Cond.code ({ cls := "java/lang/String", name := "getBytes", desc := "([BIB)V" } : Jvm.MethodName) jdk_42_method_147_code (4 : Nat) (Option.none : Option Jvm.ClassFile.FieldType)).before args0 about1 = true := code_word (m := ⟨7, 8⟩) (meth := k7m8) (c := k7c8) (by decide +kernel) rfl rfl rfl (by decide +kernel)
set_option maxRecDepth 65536 in
theorem w_c20 : (Jvm.Cond.code ({ cls := "com/example/usko/usko/server/Html", name := "close", desc := "(Ljava/lang/String;)Lcom/example/usko/usko/server/Html;" } : Jvm.MethodName) prog_31_method_3_code (2 : Nat) (Option.some (Jvm.ClassFile.FieldType.object "com/example/usko/usko/server/Html"))).before args0 about1 = true := code_word (m := ⟨9, 1⟩) (meth := k9m1) (c := k9c1) (by decide +kernel) rfl rfl rfl (by decide +kernel)
set_option maxRecDepth 65536 in
theorem w_c21 : (Jvm.Cond.code ({ cls := "com/example/usko/usko/server/Html", name := "toBytes", desc := "()[B" } : Jvm.MethodName) prog_31_method_7_code (1 : Nat) (Option.some (Jvm.ClassFile.FieldType.array Jvm.ClassFile.FieldType.byte))).before args0 about1 = true := code_word (m := ⟨9, 2⟩) (meth := k9m2) (c := k9c2) (by decide +kernel) rfl rfl rfl (by decide +kernel)
set_option maxRecDepth 65536 in
theorem w_c22 : (Jvm.Cond.code ({ cls := "java/lang/StringBuilder", name := "toString", desc := "()Ljava/lang/String;" } : Jvm.MethodName) jdk_67_method_42_code (1 : Nat) (Option.some (Jvm.ClassFile.FieldType.object "java/lang/String"))).before args0 about1 = true := code_word (m := ⟨12, 3⟩) (meth := k12m3) (c := k12c3) (by decide +kernel) rfl rfl rfl (by decide +kernel)
set_option maxRecDepth 65536 in
theorem w_c23 : (Jvm.Cond.code ({ cls := "java/lang/String", name := "<init>", desc := "(Ljava/lang/StringBuilder;)V" } : Jvm.MethodName) jdk_42_method_53_code (2 : Nat) (Option.none : Option Jvm.ClassFile.FieldType)).before args0 about1 = true := code_word (m := ⟨7, 4⟩) (meth := k7m4) (c := k7c4) (by decide +kernel) rfl rfl rfl (by decide +kernel)
set_option maxRecDepth 65536 in
theorem w_c24 : (Jvm.Cond.code ({ cls := "java/lang/String", name := "<init>", desc := "(Ljava/lang/AbstractStringBuilder;Ljava/lang/Void;)V" } : Jvm.MethodName) jdk_42_method_150_code (5 : Nat) (Option.none : Option Jvm.ClassFile.FieldType)).before args0 about1 = true := code_word (m := ⟨7, 10⟩) (meth := k7m10) (c := k7c10) (by decide +kernel) rfl rfl rfl (by decide +kernel)
set_option maxRecDepth 65536 in
theorem w_c25 : (Jvm.Cond.code ({ cls := "java/lang/AbstractStringBuilder", name := "getValue", desc := "()[B" } : Jvm.MethodName) jdk_68_method_64_code (1 : Nat) (Option.some (Jvm.ClassFile.FieldType.array Jvm.ClassFile.FieldType.byte))).before args0 about1 = true := code_word (m := ⟨11, 5⟩) (meth := k11m5) (c := k11c5) (by decide +kernel) rfl rfl rfl (by decide +kernel)
set_option maxRecDepth 65536 in
theorem w_c26 : (Jvm.Cond.code ({ cls := "java/lang/StringBuilder", name := "length", desc := "()I" } : Jvm.MethodName) jdk_67_method_93_code (1 : Nat) (Option.some Jvm.ClassFile.FieldType.int)).before args0 about1 = true := code_word (m := ⟨12, 5⟩) (meth := k12m5) (c := k12c5) (by decide +kernel) rfl rfl rfl (by decide +kernel)
set_option maxRecDepth 65536 in
theorem w_c27 : (Jvm.Cond.code ({ cls := "java/lang/AbstractStringBuilder", name := "length", desc := "()I" } : Jvm.MethodName) jdk_68_method_6_code (1 : Nat) (Option.some Jvm.ClassFile.FieldType.int)).before args0 about1 = true := code_word (m := ⟨11, 2⟩) (meth := k11m2) (c := k11c2) (by decide +kernel) rfl rfl rfl (by decide +kernel)
set_option maxRecDepth 65536 in
theorem w_c28 : (Jvm.Cond.code ({ cls := "java/lang/AbstractStringBuilder", name := "isLatin1", desc := "()Z" } : Jvm.MethodName) jdk_68_method_68_code (1 : Nat) (Option.some Jvm.ClassFile.FieldType.boolean)).before args0 about1 = true := code_word (m := ⟨11, 6⟩) (meth := k11m6) (c := k11c6) (by decide +kernel) rfl rfl rfl (by decide +kernel)
set_option maxRecDepth 65536 in
theorem w_c29 : (Jvm.Cond.code ({ cls := "java/util/Arrays", name := "copyOfRange", desc := "([BII)[B" } : Jvm.MethodName) jdk_65_method_132_code (3 : Nat) (Option.some (Jvm.ClassFile.FieldType.array Jvm.ClassFile.FieldType.byte))).before args0 about1 = true := code_word (m := ⟨14, 2⟩) (meth := k14m2) (c := k14c2) (by decide +kernel) rfl rfl rfl (by decide +kernel)
set_option maxRecDepth 65536 in
theorem w_c30 : (Jvm.Cond.code ({ cls := "java/util/Arrays", name := "copyOfRangeByte", desc := "([BII)[B" } : Jvm.MethodName) jdk_65_method_133_code (5 : Nat) (Option.some (Jvm.ClassFile.FieldType.array Jvm.ClassFile.FieldType.byte))).before args0 about1 = true := code_word (m := ⟨14, 3⟩) (meth := k14m3) (c := k14c3) (by decide +kernel) rfl rfl rfl (by decide +kernel)
set_option maxRecDepth 65536 in
theorem w_c31 : (Jvm.Cond.code ({ cls := "java/util/Arrays", name := "checkLength", desc := "(II)V" } : Jvm.MethodName) jdk_65_method_131_code (2 : Nat) (Option.none : Option Jvm.ClassFile.FieldType)).before args0 about1 = true := code_word (m := ⟨14, 1⟩) (meth := k14m1) (c := k14c1) (by decide +kernel) rfl rfl rfl (by decide +kernel)
set_option maxRecDepth 65536 in
theorem w_c32 : (Jvm.Cond.code ({ cls := "java/lang/Math", name := "min", desc := "(II)I" } : Jvm.MethodName) jdk_29_method_69_code (2 : Nat) (Option.some Jvm.ClassFile.FieldType.int)).before args0 about1 = true := code_word (m := ⟨15, 1⟩) (meth := k15m1) (c := k15c1) (by decide +kernel) rfl rfl rfl (by decide +kernel)
set_option maxRecDepth 65536 in
theorem w_c33 : (Jvm.Cond.code ({ cls := "java/lang/String", name := "getBytes", desc := "(Ljava/nio/charset/Charset;)[B" } : Jvm.MethodName) jdk_42_method_64_code (2 : Nat) (Option.some (Jvm.ClassFile.FieldType.array Jvm.ClassFile.FieldType.byte))).before args0 about1 = true := code_word (m := ⟨7, 6⟩) (meth := k7m6) (c := k7c6) (by decide +kernel) rfl rfl rfl (by decide +kernel)
set_option maxRecDepth 65536 in
theorem w_c34 : (Jvm.Cond.code ({ cls := "java/lang/String", name := "encode", desc := "(Ljava/nio/charset/Charset;B[B)[B" } : Jvm.MethodName) jdk_42_method_18_code (3 : Nat) (Option.some (Jvm.ClassFile.FieldType.array Jvm.ClassFile.FieldType.byte))).before args0 about1 = true := code_word (m := ⟨7, 2⟩) (meth := k7m2) (c := k7c2) (by decide +kernel) rfl rfl rfl (by decide +kernel)
set_option maxRecDepth 65536 in
theorem w_c35 : (Jvm.Cond.code ({ cls := "java/lang/String", name := "encodeUTF8", desc := "(B[BZ)[B" } : Jvm.MethodName) jdk_42_method_46_code (9 : Nat) (Option.some (Jvm.ClassFile.FieldType.array Jvm.ClassFile.FieldType.byte))).before args0 about1 = true := code_word (m := ⟨7, 3⟩) (meth := k7m3) (c := k7c3) (by decide +kernel) rfl rfl rfl (by decide +kernel)
set_option maxRecDepth 65536 in
theorem w_c36 : (Jvm.Cond.code ({ cls := "java/lang/StringCoding", name := "hasNegatives", desc := "([BII)Z" } : Jvm.MethodName) jdk_123_method_2_code (3 : Nat) (Option.some Jvm.ClassFile.FieldType.boolean)).before args0 about1 = true := code_word (m := ⟨21, 1⟩) (meth := k21m1) (c := k21c1) (by decide +kernel) rfl rfl rfl (by decide +kernel)
set_option maxRecDepth 65536 in
theorem w_c37 : (Jvm.Cond.code ({ cls := "java/lang/StringCoding", name := "countPositives", desc := "([BII)I" } : Jvm.MethodName) jdk_123_method_3_code (5 : Nat) (Option.some Jvm.ClassFile.FieldType.int)).before args0 about1 = true := code_word (m := ⟨21, 2⟩) (meth := k21m2) (c := k21c2) (by decide +kernel) rfl rfl rfl (by decide +kernel)
set_option maxRecDepth 65536 in
theorem w_c38 : (Jvm.Cond.code ({ cls := "com/example/usko/usko/server/HtmlClosePinLaw", name := "prefix", desc := "([B)Z" } : Jvm.MethodName) method_3_code (1 : Nat) (Option.some Jvm.ClassFile.FieldType.boolean)).before args0 about1 = true := code_word (m := ⟨1, 2⟩) (meth := k1m2) (c := k1c2) (by decide +kernel) rfl rfl rfl (by decide +kernel)
set_option maxRecDepth 65536 in
theorem w_c39 : (Jvm.Cond.code ({ cls := "java/lang/StringUTF16", name := "compress", desc := "([CII)[B" } : Jvm.MethodName) jdk_52_method_16_code (6 : Nat) (Option.some (Jvm.ClassFile.FieldType.array Jvm.ClassFile.FieldType.byte))).before args0 about1 = true := code_word (m := ⟨23, 2⟩) (meth := k23m2) (c := k23c2) (by decide +kernel) rfl rfl rfl (by decide +kernel)
set_option maxRecDepth 65536 in
theorem w_c40 : (Jvm.Cond.code ({ cls := "java/lang/StringUTF16", name := "compress", desc := "([CI[BII)I" } : Jvm.MethodName) jdk_52_method_21_code (7 : Nat) (Option.some Jvm.ClassFile.FieldType.int)).before args0 about1 = true := code_word (m := ⟨23, 3⟩) (meth := k23m3) (c := k23c3) (by decide +kernel) rfl rfl rfl (by decide +kernel)
set_option maxRecDepth 65536 in
theorem w_c41 : (Jvm.Cond.code ({ cls := "java/lang/StringUTF16", name := "coderFromArrayLen", desc := "([BI)B" } : Jvm.MethodName) jdk_52_method_15_code (2 : Nat) (Option.some Jvm.ClassFile.FieldType.byte)).before args0 about1 = true := code_word (m := ⟨23, 1⟩) (meth := k23m1) (c := k23c1) (by decide +kernel) rfl rfl rfl (by decide +kernel)
def codes1 : List Jvm.Cond := [Jvm.Cond.code x code maxLocals ret, Jvm.Cond.code ({ cls := "java/lang/String", name := "<init>", desc := "([C)V" } : Jvm.MethodName) jdk_42_method_3_code (2 : Nat) (Option.none : Option Jvm.ClassFile.FieldType), Jvm.Cond.code ({ cls := "java/lang/String", name := "<init>", desc := "([CIILjava/lang/Void;)V" } : Jvm.MethodName) jdk_42_method_149_code (6 : Nat) (Option.none : Option Jvm.ClassFile.FieldType), Jvm.Cond.code ({ cls := "java/lang/Object", name := "<init>", desc := "()V" } : Jvm.MethodName) object_method_1_code (1 : Nat) (Option.none : Option Jvm.ClassFile.FieldType), Jvm.Cond.code ({ cls := "java/lang/String", name := "valueOf", desc := "(C)Ljava/lang/String;" } : Jvm.MethodName) jdk_42_method_139_code (1 : Nat) (Option.some (Jvm.ClassFile.FieldType.object "java/lang/String")), Jvm.Cond.code ({ cls := "java/lang/StringLatin1", name := "canEncode", desc := "(C)Z" } : Jvm.MethodName) jdk_43_method_3_code (1 : Nat) (Option.some Jvm.ClassFile.FieldType.boolean), Jvm.Cond.code ({ cls := "java/lang/StringLatin1", name := "toBytes", desc := "(C)[B" } : Jvm.MethodName) jdk_43_method_46_code (1 : Nat) (Option.some (Jvm.ClassFile.FieldType.array Jvm.ClassFile.FieldType.byte)), Jvm.Cond.code ({ cls := "java/lang/String", name := "<init>", desc := "([BB)V" } : Jvm.MethodName) jdk_42_method_151_code (3 : Nat) (Option.none : Option Jvm.ClassFile.FieldType), Jvm.Cond.code ({ cls := "com/example/usko/usko/server/Html", name := "<init>", desc := "()V" } : Jvm.MethodName) prog_31_method_1_code (1 : Nat) (Option.none : Option Jvm.ClassFile.FieldType), Jvm.Cond.code ({ cls := "java/lang/StringBuilder", name := "<init>", desc := "(Ljava/lang/String;)V" } : Jvm.MethodName) jdk_67_method_3_code (2 : Nat) (Option.none : Option Jvm.ClassFile.FieldType), Jvm.Cond.code ({ cls := "java/lang/AbstractStringBuilder", name := "<init>", desc := "(Ljava/lang/String;)V" } : Jvm.MethodName) jdk_68_method_3_code (5 : Nat) (Option.none : Option Jvm.ClassFile.FieldType), Jvm.Cond.code ({ cls := "java/lang/String", name := "length", desc := "()I" } : Jvm.MethodName) jdk_42_method_54_code (1 : Nat) (Option.some Jvm.ClassFile.FieldType.int), Jvm.Cond.code ({ cls := "java/lang/String", name := "coder", desc := "()B" } : Jvm.MethodName) jdk_42_method_152_code (1 : Nat) (Option.some Jvm.ClassFile.FieldType.byte), Jvm.Cond.code ({ cls := "java/lang/StringBuilder", name := "append", desc := "(Ljava/lang/String;)Ljava/lang/AbstractStringBuilder;" } : Jvm.MethodName) jdk_67_method_80_code (2 : Nat) (Option.some (Jvm.ClassFile.FieldType.object "java/lang/AbstractStringBuilder")), Jvm.Cond.code ({ cls := "java/lang/StringBuilder", name := "append", desc := "(Ljava/lang/String;)Ljava/lang/StringBuilder;" } : Jvm.MethodName) jdk_67_method_7_code (2 : Nat) (Option.some (Jvm.ClassFile.FieldType.object "java/lang/StringBuilder")), Jvm.Cond.code ({ cls := "java/lang/AbstractStringBuilder", name := "append", desc := "(Ljava/lang/String;)Ljava/lang/AbstractStringBuilder;" } : Jvm.MethodName) jdk_68_method_22_code (3 : Nat) (Option.some (Jvm.ClassFile.FieldType.object "java/lang/AbstractStringBuilder")), Jvm.Cond.code ({ cls := "java/lang/AbstractStringBuilder", name := "ensureCapacityInternal", desc := "(I)V" } : Jvm.MethodName) jdk_68_method_9_code (3 : Nat) (Option.none : Option Jvm.ClassFile.FieldType), Jvm.Cond.code ({ cls := "java/lang/AbstractStringBuilder", name := "putStringAt", desc := "(ILjava/lang/String;)V" } : Jvm.MethodName) jdk_68_method_73_code (3 : Nat) (Option.none : Option Jvm.ClassFile.FieldType), Jvm.Cond.code ({ cls := "java/lang/AbstractStringBuilder", name := "inflateIfNeededFor", desc := "(Ljava/lang/String;)V" } : Jvm.MethodName) jdk_68_method_71_code (2 : Nat) (Option.none : Option Jvm.ClassFile.FieldType), Jvm.Cond.code ({ cls := "java/lang/String", name := "getBytes", desc := "([BIB)V" } : Jvm.MethodName) jdk_42_method_147_code (4 : Nat) (Option.none : Option Jvm.ClassFile.FieldType), Jvm.Cond.code ({ cls := "com/example/usko/usko/server/Html", name := "close", desc := "(Ljava/lang/String;)Lcom/example/usko/usko/server/Html;" } : Jvm.MethodName) prog_31_method_3_code (2 : Nat) (Option.some (Jvm.ClassFile.FieldType.object "com/example/usko/usko/server/Html")), Jvm.Cond.code ({ cls := "com/example/usko/usko/server/Html", name := "toBytes", desc := "()[B" } : Jvm.MethodName) prog_31_method_7_code (1 : Nat) (Option.some (Jvm.ClassFile.FieldType.array Jvm.ClassFile.FieldType.byte)), Jvm.Cond.code ({ cls := "java/lang/StringBuilder", name := "toString", desc := "()Ljava/lang/String;" } : Jvm.MethodName) jdk_67_method_42_code (1 : Nat) (Option.some (Jvm.ClassFile.FieldType.object "java/lang/String")), Jvm.Cond.code ({ cls := "java/lang/String", name := "<init>", desc := "(Ljava/lang/StringBuilder;)V" } : Jvm.MethodName) jdk_42_method_53_code (2 : Nat) (Option.none : Option Jvm.ClassFile.FieldType), Jvm.Cond.code ({ cls := "java/lang/String", name := "<init>", desc := "(Ljava/lang/AbstractStringBuilder;Ljava/lang/Void;)V" } : Jvm.MethodName) jdk_42_method_150_code (5 : Nat) (Option.none : Option Jvm.ClassFile.FieldType), Jvm.Cond.code ({ cls := "java/lang/AbstractStringBuilder", name := "getValue", desc := "()[B" } : Jvm.MethodName) jdk_68_method_64_code (1 : Nat) (Option.some (Jvm.ClassFile.FieldType.array Jvm.ClassFile.FieldType.byte)), Jvm.Cond.code ({ cls := "java/lang/StringBuilder", name := "length", desc := "()I" } : Jvm.MethodName) jdk_67_method_93_code (1 : Nat) (Option.some Jvm.ClassFile.FieldType.int), Jvm.Cond.code ({ cls := "java/lang/AbstractStringBuilder", name := "length", desc := "()I" } : Jvm.MethodName) jdk_68_method_6_code (1 : Nat) (Option.some Jvm.ClassFile.FieldType.int), Jvm.Cond.code ({ cls := "java/lang/AbstractStringBuilder", name := "isLatin1", desc := "()Z" } : Jvm.MethodName) jdk_68_method_68_code (1 : Nat) (Option.some Jvm.ClassFile.FieldType.boolean), Jvm.Cond.code ({ cls := "java/util/Arrays", name := "copyOfRange", desc := "([BII)[B" } : Jvm.MethodName) jdk_65_method_132_code (3 : Nat) (Option.some (Jvm.ClassFile.FieldType.array Jvm.ClassFile.FieldType.byte)), Jvm.Cond.code ({ cls := "java/util/Arrays", name := "copyOfRangeByte", desc := "([BII)[B" } : Jvm.MethodName) jdk_65_method_133_code (5 : Nat) (Option.some (Jvm.ClassFile.FieldType.array Jvm.ClassFile.FieldType.byte)), Jvm.Cond.code ({ cls := "java/util/Arrays", name := "checkLength", desc := "(II)V" } : Jvm.MethodName) jdk_65_method_131_code (2 : Nat) (Option.none : Option Jvm.ClassFile.FieldType), Jvm.Cond.code ({ cls := "java/lang/Math", name := "min", desc := "(II)I" } : Jvm.MethodName) jdk_29_method_69_code (2 : Nat) (Option.some Jvm.ClassFile.FieldType.int), Jvm.Cond.code ({ cls := "java/lang/String", name := "getBytes", desc := "(Ljava/nio/charset/Charset;)[B" } : Jvm.MethodName) jdk_42_method_64_code (2 : Nat) (Option.some (Jvm.ClassFile.FieldType.array Jvm.ClassFile.FieldType.byte)), Jvm.Cond.code ({ cls := "java/lang/String", name := "encode", desc := "(Ljava/nio/charset/Charset;B[B)[B" } : Jvm.MethodName) jdk_42_method_18_code (3 : Nat) (Option.some (Jvm.ClassFile.FieldType.array Jvm.ClassFile.FieldType.byte)), Jvm.Cond.code ({ cls := "java/lang/String", name := "encodeUTF8", desc := "(B[BZ)[B" } : Jvm.MethodName) jdk_42_method_46_code (9 : Nat) (Option.some (Jvm.ClassFile.FieldType.array Jvm.ClassFile.FieldType.byte)), Jvm.Cond.code ({ cls := "java/lang/StringCoding", name := "hasNegatives", desc := "([BII)Z" } : Jvm.MethodName) jdk_123_method_2_code (3 : Nat) (Option.some Jvm.ClassFile.FieldType.boolean), Jvm.Cond.code ({ cls := "java/lang/StringCoding", name := "countPositives", desc := "([BII)I" } : Jvm.MethodName) jdk_123_method_3_code (5 : Nat) (Option.some Jvm.ClassFile.FieldType.int), Jvm.Cond.code ({ cls := "com/example/usko/usko/server/HtmlClosePinLaw", name := "prefix", desc := "([B)Z" } : Jvm.MethodName) method_3_code (1 : Nat) (Option.some Jvm.ClassFile.FieldType.boolean), Jvm.Cond.code ({ cls := "java/lang/StringUTF16", name := "compress", desc := "([CII)[B" } : Jvm.MethodName) jdk_52_method_16_code (6 : Nat) (Option.some (Jvm.ClassFile.FieldType.array Jvm.ClassFile.FieldType.byte)), Jvm.Cond.code ({ cls := "java/lang/StringUTF16", name := "compress", desc := "([CI[BII)I" } : Jvm.MethodName) jdk_52_method_21_code (7 : Nat) (Option.some Jvm.ClassFile.FieldType.int), Jvm.Cond.code ({ cls := "java/lang/StringUTF16", name := "coderFromArrayLen", desc := "([BI)B" } : Jvm.MethodName) jdk_52_method_15_code (2 : Nat) (Option.some Jvm.ClassFile.FieldType.byte)]
set_option maxRecDepth 65536 in
theorem codes_eq : words1.filter isCode = codes1 := rfl
theorem w_codes : ∀ c ∈ words1.filter isCode, c.before args0 about1 = true := by
  rw [codes_eq]
  intro c hc
  simp only [codes1, List.mem_cons, List.not_mem_nil, or_false] at hc
  rcases hc with rfl | rfl | rfl | rfl | rfl | rfl | rfl | rfl | rfl | rfl | rfl | rfl | rfl | rfl | rfl | rfl | rfl | rfl | rfl | rfl | rfl | rfl | rfl | rfl | rfl | rfl | rfl | rfl | rfl | rfl | rfl | rfl | rfl | rfl | rfl | rfl | rfl | rfl | rfl | rfl | rfl | rfl
  · exact w_c0
  · exact w_c1
  · exact w_c2
  · exact w_c3
  · exact w_c4
  · exact w_c5
  · exact w_c6
  · exact w_c7
  · exact w_c8
  · exact w_c9
  · exact w_c10
  · exact w_c11
  · exact w_c12
  · exact w_c13
  · exact w_c14
  · exact w_c15
  · exact w_c16
  · exact w_c17
  · exact w_c18
  · exact w_c19
  · exact w_c20
  · exact w_c21
  · exact w_c22
  · exact w_c23
  · exact w_c24
  · exact w_c25
  · exact w_c26
  · exact w_c27
  · exact w_c28
  · exact w_c29
  · exact w_c30
  · exact w_c31
  · exact w_c32
  · exact w_c33
  · exact w_c34
  · exact w_c35
  · exact w_c36
  · exact w_c37
  · exact w_c38
  · exact w_c39
  · exact w_c40
  · exact w_c41
set_option maxRecDepth 65536 in
theorem w_t1 : (words1.take 24).all (fun c => isCode c || c.before args0 about1) = true := by decide +kernel
set_option maxRecDepth 65536 in
theorem w_t2 : ((words1.drop 24).take 24).all (fun c => isCode c || c.before args0 about1) = true := by decide +kernel
set_option maxRecDepth 65536 in
theorem w_t3 : (((words1.drop 24).drop 24).take 24).all (fun c => isCode c || c.before args0 about1) = true := by decide +kernel
set_option maxRecDepth 65536 in
theorem w_t4 : ((((words1.drop 24).drop 24).drop 24).take 24).all (fun c => isCode c || c.before args0 about1) = true := by decide +kernel
set_option maxRecDepth 65536 in
theorem w_t5 : (((((words1.drop 24).drop 24).drop 24).drop 24).take 24).all (fun c => isCode c || c.before args0 about1) = true := by decide +kernel
set_option maxRecDepth 65536 in
theorem w_t6 : ((((((words1.drop 24).drop 24).drop 24).drop 24).drop 24).take 24).all (fun c => isCode c || c.before args0 about1) = true := by decide +kernel
set_option maxRecDepth 65536 in
theorem w_t7 : (((((((words1.drop 24).drop 24).drop 24).drop 24).drop 24).drop 24).take 24).all (fun c => isCode c || c.before args0 about1) = true := by decide +kernel
set_option maxRecDepth 65536 in
theorem w_t8 : ((((((((words1.drop 24).drop 24).drop 24).drop 24).drop 24).drop 24).drop 24).take 24).all (fun c => isCode c || c.before args0 about1) = true := by decide +kernel
set_option maxRecDepth 65536 in
theorem w_t9 : (((((((((words1.drop 24).drop 24).drop 24).drop 24).drop 24).drop 24).drop 24).drop 24).take 24).all (fun c => isCode c || c.before args0 about1) = true := by decide +kernel
set_option maxRecDepth 65536 in
theorem w_t10 : (((((((((words1.drop 24).drop 24).drop 24).drop 24).drop 24).drop 24).drop 24).drop 24).drop 24).all (fun c => isCode c || c.before args0 about1) = true := by decide +kernel
theorem w_tables : (allAtoms (Jvm.Cond.code x code maxLocals ret :: tables_1)).before args0 about1 = true := by
  rw [allAtoms_all]
  show words1.all (fun c => c.before args0 about1) = true
  refine all_split ?_ w_codes
  rw [← List.take_append_drop 24 words1, List.all_append, w_t1, ← List.take_append_drop 24 (words1.drop 24), List.all_append, w_t2, ← List.take_append_drop 24 ((words1.drop 24).drop 24), List.all_append, w_t3, ← List.take_append_drop 24 (((words1.drop 24).drop 24).drop 24), List.all_append, w_t4, ← List.take_append_drop 24 ((((words1.drop 24).drop 24).drop 24).drop 24), List.all_append, w_t5, ← List.take_append_drop 24 (((((words1.drop 24).drop 24).drop 24).drop 24).drop 24), List.all_append, w_t6, ← List.take_append_drop 24 ((((((words1.drop 24).drop 24).drop 24).drop 24).drop 24).drop 24), List.all_append, w_t7, ← List.take_append_drop 24 (((((((words1.drop 24).drop 24).drop 24).drop 24).drop 24).drop 24).drop 24), List.all_append, w_t8, ← List.take_append_drop 24 ((((((((words1.drop 24).drop 24).drop 24).drop 24).drop 24).drop 24).drop 24).drop 24), List.all_append, w_t9, w_t10]
  rfl
set_option maxRecDepth 65536 in
theorem w_rest : rest_1_c.before args0 about1 = true := by decide +kernel
set_option maxRecDepth 65536 in
theorem w_case : (Jvm.Cond.and given_1 narrow_1).before args0 about1 = true := by decide +kernel
set_option maxRecDepth 65536 in
theorem w_consts : constsHeld consts_1 about1 := Jvm.Lit.constsHeldB_iff.mp (by decide +kernel)
theorem w_applies : (headSpec (Jvm.Cond.code x code maxLocals ret :: tables_1) room_1).applies x e0.platform about1 = true :=
  (Spec.applies_iff w_frames).mpr ⟨w_running, w_runnable, w_alone, w_named, w_hears, w_ripe, w_room, w_tables⟩
theorem atStart : AtStart classFile x code maxLocals ret World_1 tables_1 room_1 Calls_1 rest_1 Pre_1 launch0 p0 e0 about1 theMethod args0 below0 :=
  ⟨lists_1, trivial, launch0.admits_env _ _ _, launch0.least_env, fairChoices_fair.cas, fairChoices_fair.clock, w_frames, w_args, w_heap, w_applies, ⟨w_consts, trivial⟩, w_rest, w_case⟩
end start1
theorem witness_1 : WitnessClaimed_1 := ⟨start1.p0, start1.e0, start1.about1, start1.theMethod, start1.args0, start1.below0, start1.atStart⟩
end Jvm.Pilot.@@N@@
